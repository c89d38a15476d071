/- FnCookieSays: the law's function, called with any arguments, returns true and leaves its arguments as they were: every input, no condition. Part 11 of 12. -/
import Derived.Test.YtfbllodbcmcndaaZFnCookieSays1
import Derived.Test.YtfbllodbcmcndaaZFnCookieSays4
import Derived.Test.YtfbllodbcmcndaaZFnCookieSays9
import Derived.Deep.Slices
import Derived.Test.YtfbllodbcmcndaaZFnCookieSays0
import Derived.ChangeSame
import Derived.Test.YtfbllodbcmcndaaZFnCookieSays7
import Derived.Test.YtfbllodbcmcndaaZFnCookieSays8
import Derived.Test.YtfbllodbcmcndaaZFnCookieSays2
import Derived.OpenShut
import Derived.Test.YtfbllodbcmcndaaZFnCookieSays5
import Derived.Test.YtfbllodbcmcndaaZFnCookieSays6
section
namespace Go.Proofs.Ytfbllodbcmcndaa.Q
open Go.RowKit Go.Proofs.YtfbllodbcmcndaaW.PrintWords Go.Proofs.YtfbllodbcmcndaaW.PrintLast Go.Proofs.YtfbllodbcmcndaaW.PrintMore
attribute [local go_sem] max2_int min2_int max_two min_two max_three min_three max_four min_four
set_option linter.unusedVariables false
set_option linter.unusedSimpArgs false
def laws_FnCookieSays.f (k : Nat) (a0_0 : ByteArray) (a0_1 : ByteArray) (a0_2 : ByteArray) (a0_3 : ByteArray) (a0_4 : Int) (a0_5 : Int) (a0_6 : Bool) (a0_7 : Bool) (a0_8 : Bool) : Option (Bool) := (laws_zzFits11.f a0_0 a0_1 a0_2 a0_3 a0_4 a0_5 a0_6 a0_7 a0_8).bind fun t285 => (if t285 = true then ((impl_CookieText.f (⟨#[97]⟩ : ByteArray) (⟨#[98]⟩ : ByteArray) (⟨#[]⟩ : ByteArray) (⟨#[]⟩ : ByteArray) 0 0 false false false).bind fun t286 => (if t286.toList = ([97, 61, 98] : List UInt8) then ((laws_short.f k (([a0_0, a0_1, a0_2, a0_3] : List ByteArray))).bind fun t290 => (if t290 = true then ((spec_CookieText.f k a0_0 a0_1 a0_2 a0_3 a0_4 a0_5 a0_6 a0_7 a0_8).bind fun bt291 => (if bt291.2 = 1 then ((impl_CookieText.f a0_0 a0_1 a0_2 a0_3 a0_4 a0_5 a0_6 a0_7 a0_8).bind fun t293 => (some (t293.toList == bt291.1.toList))) else (some true))) else (some true))) else (some false))) else (some true))
set_option maxHeartbeats 8000000 in
set_option maxRecDepth 100000 in
theorem laws_FnCookieSays.calls (k : Nat) (a0_0 : ByteArray) (a0_1 : ByteArray) (a0_2 : ByteArray) (a0_3 : ByteArray) (a0_4 : Int) (a0_5 : Int) (a0_6 : Bool) (a0_7 : Bool) (a0_8 : Bool) (r : Bool) (w : World) (h : laws_FnCookieSays.f k a0_0 a0_1 a0_2 a0_3 a0_4 a0_5 a0_6 a0_7 a0_8 = some r) :
    Calls Try.prog 7 #[.agg #[.string a0_0, .string a0_1, .string a0_2, .string a0_3, .int .i64 a0_4, .int .i64 a0_5, .bool a0_6, .bool a0_7, .bool a0_8]] w fun e w' => e = .returned (.bool r) ∧ Below w.heap.size w w' := by
  have hu53 := Try.underlying53
  have HB := Aside0.mk (Below.refl w.heap.size w)
  have H : ((laws_zzFits11.f a0_0 a0_1 a0_2 a0_3 a0_4 a0_5 a0_6 a0_7 a0_8).bind fun t285 => (if t285 = true then ((impl_CookieText.f (⟨#[97]⟩ : ByteArray) (⟨#[98]⟩ : ByteArray) (⟨#[]⟩ : ByteArray) (⟨#[]⟩ : ByteArray) 0 0 false false false).bind fun t286 => (if t286.toList = ([97, 61, 98] : List UInt8) then ((laws_short.f k (([a0_0, a0_1, a0_2, a0_3] : List ByteArray))).bind fun t290 => (if t290 = true then ((spec_CookieText.f k a0_0 a0_1 a0_2 a0_3 a0_4 a0_5 a0_6 a0_7 a0_8).bind fun bt291 => (if bt291.2 = 1 then ((impl_CookieText.f a0_0 a0_1 a0_2 a0_3 a0_4 a0_5 a0_6 a0_7 a0_8).bind fun t293 => (some (t293.toList == bt291.1.toList))) else (some true))) else (some true))) else (some false))) else (some true))) = some r := h
  clear h
  replace H := Option.bind_eq_some_iff.mp H
  obtain ⟨t285, A20, H⟩ := H
  replace H : (if t285 = true then ((impl_CookieText.f (⟨#[97]⟩ : ByteArray) (⟨#[98]⟩ : ByteArray) (⟨#[]⟩ : ByteArray) (⟨#[]⟩ : ByteArray) 0 0 false false false).bind fun t286 => (if t286.toList = ([97, 61, 98] : List UInt8) then ((laws_short.f k (([a0_0, a0_1, a0_2, a0_3] : List ByteArray))).bind fun t290 => (if t290 = true then ((spec_CookieText.f k a0_0 a0_1 a0_2 a0_3 a0_4 a0_5 a0_6 a0_7 a0_8).bind fun bt291 => (if bt291.2 = 1 then ((impl_CookieText.f a0_0 a0_1 a0_2 a0_3 a0_4 a0_5 a0_6 a0_7 a0_8).bind fun t293 => (some (t293.toList == bt291.1.toList))) else (some true))) else (some true))) else (some false))) else (some true)) = some r := H
  have A2 := Aside0.mk A20
  clear A20
  by_cases c3 : t285 = true
  · subst c3
    have H1 : ((impl_CookieText.f (⟨#[97]⟩ : ByteArray) (⟨#[98]⟩ : ByteArray) (⟨#[]⟩ : ByteArray) (⟨#[]⟩ : ByteArray) 0 0 false false false).bind fun t286 => (if t286.toList = ([97, 61, 98] : List UInt8) then ((laws_short.f k (([a0_0, a0_1, a0_2, a0_3] : List ByteArray))).bind fun t290 => (if t290 = true then ((spec_CookieText.f k a0_0 a0_1 a0_2 a0_3 a0_4 a0_5 a0_6 a0_7 a0_8).bind fun bt291 => (if bt291.2 = 1 then ((impl_CookieText.f a0_0 a0_1 a0_2 a0_3 a0_4 a0_5 a0_6 a0_7 a0_8).bind fun t293 => (some (t293.toList == bt291.1.toList))) else (some true))) else (some true))) else (some false))) = some r := by rw [if_pos rfl] at H; exact H
    clear H
    have H := H1
    clear H1
    replace H := Option.bind_eq_some_iff.mp H
    obtain ⟨t286, A40, H⟩ := H
    replace H : (if t286.toList = ([97, 61, 98] : List UInt8) then ((laws_short.f k (([a0_0, a0_1, a0_2, a0_3] : List ByteArray))).bind fun t290 => (if t290 = true then ((spec_CookieText.f k a0_0 a0_1 a0_2 a0_3 a0_4 a0_5 a0_6 a0_7 a0_8).bind fun bt291 => (if bt291.2 = 1 then ((impl_CookieText.f a0_0 a0_1 a0_2 a0_3 a0_4 a0_5 a0_6 a0_7 a0_8).bind fun t293 => (some (t293.toList == bt291.1.toList))) else (some true))) else (some true))) else (some false)) = some r := H
    have A4 := Aside0.mk A40
    clear A40
    by_cases c5 : t286.toList = ([97, 61, 98] : List UInt8)
    · rw [if_pos c5] at H
      have c5b0 : (t286.toList == ([97, 61, 98] : List UInt8)) = true := beq_iff_eq.mpr c5
      have c5b1 : (t286.toList != ([97, 61, 98] : List UInt8)) = false := bne_eq_false_iff_eq.mpr c5
      clear c5
      obtain ⟨y287, hy287⟩ : ∃ y_ : List ByteArray, y_ = (([a0_0, a0_1, a0_2, a0_3] : List ByteArray)) := ⟨_, rfl⟩
      replace H : ((laws_short.f k y287).bind fun t290 => (if t290 = true then ((spec_CookieText.f k a0_0 a0_1 a0_2 a0_3 a0_4 a0_5 a0_6 a0_7 a0_8).bind fun bt291 => (if bt291.2 = 1 then ((impl_CookieText.f a0_0 a0_1 a0_2 a0_3 a0_4 a0_5 a0_6 a0_7 a0_8).bind fun t293 => (some (t293.toList == bt291.1.toList))) else (some true))) else (some true))) = some r := by first | (rw [hy287]; with_reducible exact H) | (have H2_ := (Option.bind_some _ _).symm.trans H; rw [hy287]; with_reducible exact H2_) | (have H2_ := (Option.bind_some _ _).symm.trans H; with_reducible exact H2_) | with_reducible exact H | (rw [hy287]; exact H) | exact H
      have Ny287 := Aside0.mk hy287
      clear hy287
      replace H := Option.bind_eq_some_iff.mp H
      obtain ⟨t290, A60, H⟩ := H
      replace H : (if t290 = true then ((spec_CookieText.f k a0_0 a0_1 a0_2 a0_3 a0_4 a0_5 a0_6 a0_7 a0_8).bind fun bt291 => (if bt291.2 = 1 then ((impl_CookieText.f a0_0 a0_1 a0_2 a0_3 a0_4 a0_5 a0_6 a0_7 a0_8).bind fun t293 => (some (t293.toList == bt291.1.toList))) else (some true))) else (some true)) = some r := H
      have A6 := Aside0.mk A60
      clear A60
      by_cases c7 : t290 = true
      · subst c7
        have H1 : ((spec_CookieText.f k a0_0 a0_1 a0_2 a0_3 a0_4 a0_5 a0_6 a0_7 a0_8).bind fun bt291 => (if bt291.2 = 1 then ((impl_CookieText.f a0_0 a0_1 a0_2 a0_3 a0_4 a0_5 a0_6 a0_7 a0_8).bind fun t293 => (some (t293.toList == bt291.1.toList))) else (some true))) = some r := by rw [if_pos rfl] at H; exact H
        clear H
        have H := H1
        clear H1
        replace H := Option.bind_eq_some_iff.mp H
        obtain ⟨⟨t291, t292⟩, A80, H⟩ := H
        replace H : (if t292 = 1 then ((impl_CookieText.f a0_0 a0_1 a0_2 a0_3 a0_4 a0_5 a0_6 a0_7 a0_8).bind fun t293 => (some (t293.toList == t291.toList))) else (some true)) = some r := H
        have A8 := Aside0.mk A80
        clear A80
        by_cases c9 : t292 = 1
        · rw [if_pos c9] at H
          have c9b0 : (t292 == 1) = true := beq_iff_eq.mpr c9
          have c9b1 : (t292 != 1) = false := bne_eq_false_iff_eq.mpr c9
          clear c9
          replace H := Option.bind_eq_some_iff.mp H
          obtain ⟨t293, A100, H⟩ := H
          replace H : (some (t293.toList == t291.toList)) = some r := H
          have A10 := Aside0.mk A100
          clear A100
          obtain rfl := Option.some.inj H
          go_enter Try.func7, Try.ntmps7
          go_wp2_with (first | ((with_reducible refine gate_dst (N := 1) rfl ?_); refine box_event ?hg (N := 1) ?hd (cs := #[.string a0_0, .string a0_1, .string a0_2, .string a0_3, .int .i64 a0_4, .int .i64 a0_5, .bool a0_6, .bool a0_7, .bool a0_8]) (t := 53) ?hr ?_; (case hd => rfl); (case hg => rfl); (case hr => first | (go_simp; done) | (go_simp; rfl)); intro gb284 hg w11 hbox hb; have n0_ := Aside0.mk (below_step (by repeat (first | (with_reducible first | exact HB.out | apply below_alloc | apply pw_below_drewN | apply below_drew1) | exact HB.out)) hb); have n1_ := Aside0.mk (hbox); have n2_ := Aside0.mk ((by rw [hg]; exact (below_size (by repeat (first | (with_reducible first | exact HB.out | apply below_alloc | apply pw_below_drewN | apply below_drew1) | exact HB.out))) : w.heap.size ≤ gb284)); have n3_ := Aside0.mk ((by rw [hg]; exact (below_size (by repeat (first | (with_reducible first | exact HB.out | apply below_alloc | apply pw_below_drewN | apply below_drew1) | exact HB.out))) : w.heap.size ≤ gb284)); clear HB; have HB := n0_; have BK284 := n1_; have GW284 := n2_; have GE284 := n3_; clear n0_ n1_ n2_ n3_; clear hb hbox hg; have hcz12_0 : w11.cell? ⟨gb284, 0, none⟩ = some (.string a0_0) := (blk_cell BK284.out 0).trans rfl; have hcz12_1 : w11.cell? ⟨gb284, 1, none⟩ = some (.string a0_1) := (blk_cell BK284.out 1).trans rfl; have hcz12_2 : w11.cell? ⟨gb284, 2, none⟩ = some (.string a0_2) := (blk_cell BK284.out 2).trans rfl; have hcz12_3 : w11.cell? ⟨gb284, 3, none⟩ = some (.string a0_3) := (blk_cell BK284.out 3).trans rfl; have hcz12_4 : w11.cell? ⟨gb284, 4, none⟩ = some (.int .i64 a0_4) := (blk_cell BK284.out 4).trans rfl; have hcz12_5 : w11.cell? ⟨gb284, 5, none⟩ = some (.int .i64 a0_5) := (blk_cell BK284.out 5).trans rfl; have hcz12_6 : w11.cell? ⟨gb284, 6, none⟩ = some (.bool a0_6) := (blk_cell BK284.out 6).trans rfl; have hcz12_7 : w11.cell? ⟨gb284, 7, none⟩ = some (.bool a0_7) := (blk_cell BK284.out 7).trans rfl; have hcz12_8 : w11.cell? ⟨gb284, 8, none⟩ = some (.bool a0_8) := (blk_cell BK284.out 8).trans rfl; have hfz12_0 := blk_frozen BK284.out 0; have hfz12_1 := blk_frozen BK284.out 1; have hfz12_2 := blk_frozen BK284.out 2; have hfz12_3 := blk_frozen BK284.out 3; have hfz12_4 := blk_frozen BK284.out 4; have hfz12_5 := blk_frozen BK284.out 5; have hfz12_6 := blk_frozen BK284.out 6; have hfz12_7 := blk_frozen BK284.out 7; have hfz12_8 := blk_frozen BK284.out 8) | ((with_reducible refine gate_callee (f := 20) rfl ?_); refine goesL_ (some 6) rfl rfl Try.func20 (by kernel_rfl) rfl #[.agg #[.string a0_0, .string a0_1, .string a0_2, .string a0_3, .int .i64 a0_4, .int .i64 a0_5, .bool a0_6, .bool a0_7, .bool a0_8]] rfl (by (try simp only [List.map_toArray, List.map_cons, List.map_nil]); first | done | rfl | (simp only [List.length_drop, List.length_take]; rfl)) ?_; (with_reducible refine (laws_zzFits11.calls a0_0 a0_1 a0_2 a0_3 a0_4 a0_5 a0_6 a0_7 a0_8 true _ A2.out).mono ?_); rintro e w13 ⟨rfl, hb⟩; refine ⟨_, rfl, ?_⟩; have n0_ := Aside0.mk (blk_below (g := gb284) (o := .cells #[.string a0_0, .string a0_1, .string a0_2, .string a0_3, .int .i64 a0_4, .int .i64 a0_5, .bool a0_6, .bool a0_7, .bool a0_8] 53 (0, 0)) (by (with_reducible repeat (first | refine blk_drewN ?_ _ | refine blk_drew ?_ | refine blk_alloc ?_ _)); exact BK284.out) hb); have n1_ := Aside0.mk (below_step (by repeat (first | (with_reducible first | exact HB.out | apply below_alloc | apply pw_below_drewN | apply below_drew1 | refine below_set ?_ GE284.out) | exact HB.out)) hb); clear BK284; clear HB; have BK284 := n0_; have HB := n1_; clear n0_ n1_; (try clear hb); (try clear hb2); (try clear hk); (try clear hi)) | ((with_reducible refine gate_callee (f := 21) rfl ?_); refine goesL_ (some 9) rfl rfl Try.func21 (by kernel_rfl) rfl #[.agg #[.string (⟨#[97]⟩ : ByteArray), .string (⟨#[98]⟩ : ByteArray), .string (⟨#[]⟩ : ByteArray), .string (⟨#[]⟩ : ByteArray), .int .i64 0, .int .i64 0, .bool false, .bool false, .bool false]] rfl (by (try simp only [List.map_toArray, List.map_cons, List.map_nil]); first | done | rfl | (simp only [List.length_drop, List.length_take]; rfl)) ?_; (with_reducible refine (impl_CookieText.calls (⟨#[97]⟩ : ByteArray) (⟨#[98]⟩ : ByteArray) (⟨#[]⟩ : ByteArray) (⟨#[]⟩ : ByteArray) 0 0 false false false t286 _ A4.out).mono ?_); rintro e w14 ⟨rfl, hb⟩; refine ⟨_, rfl, ?_⟩; have n0_ := Aside0.mk (blk_below (g := gb284) (o := .cells #[.string a0_0, .string a0_1, .string a0_2, .string a0_3, .int .i64 a0_4, .int .i64 a0_5, .bool a0_6, .bool a0_7, .bool a0_8] 53 (0, 0)) (by (with_reducible repeat (first | refine blk_drewN ?_ _ | refine blk_drew ?_ | refine blk_alloc ?_ _)); exact BK284.out) hb); have n1_ := Aside0.mk (below_step (by repeat (first | (with_reducible first | exact HB.out | apply below_alloc | apply pw_below_drewN | apply below_drew1 | refine below_set ?_ GE284.out) | exact HB.out)) hb); clear BK284; clear HB; have BK284 := n0_; have HB := n1_; clear n0_ n1_; (try clear hb); (try clear hb2); (try clear hk); (try clear hi); have hcz15_0 : w14.cell? ⟨gb284, 0, none⟩ = some (.string a0_0) := (blk_cell BK284.out 0).trans rfl; have hcz15_1 : w14.cell? ⟨gb284, 1, none⟩ = some (.string a0_1) := (blk_cell BK284.out 1).trans rfl; have hcz15_2 : w14.cell? ⟨gb284, 2, none⟩ = some (.string a0_2) := (blk_cell BK284.out 2).trans rfl; have hcz15_3 : w14.cell? ⟨gb284, 3, none⟩ = some (.string a0_3) := (blk_cell BK284.out 3).trans rfl; have hcz15_4 : w14.cell? ⟨gb284, 4, none⟩ = some (.int .i64 a0_4) := (blk_cell BK284.out 4).trans rfl; have hcz15_5 : w14.cell? ⟨gb284, 5, none⟩ = some (.int .i64 a0_5) := (blk_cell BK284.out 5).trans rfl; have hcz15_6 : w14.cell? ⟨gb284, 6, none⟩ = some (.bool a0_6) := (blk_cell BK284.out 6).trans rfl; have hcz15_7 : w14.cell? ⟨gb284, 7, none⟩ = some (.bool a0_7) := (blk_cell BK284.out 7).trans rfl; have hcz15_8 : w14.cell? ⟨gb284, 8, none⟩ = some (.bool a0_8) := (blk_cell BK284.out 8).trans rfl; have hfz15_0 := blk_frozen BK284.out 0; have hfz15_1 := blk_frozen BK284.out 1; have hfz15_2 := blk_frozen BK284.out 2; have hfz15_3 := blk_frozen BK284.out 3; have hfz15_4 := blk_frozen BK284.out 4; have hfz15_5 := blk_frozen BK284.out 5; have hfz15_6 := blk_frozen BK284.out 6; have hfz15_7 := blk_frozen BK284.out 7; have hfz15_8 := blk_frozen BK284.out 8) | ((with_reducible refine gate_dst (N := 19) rfl ?_); refine Kd.R_lit Kd.string _ 9 ?hg (N := 19) ?hd (xs := ([a0_0, a0_1, a0_2, a0_3] : List ByteArray)) (inner := [.string a0_0, .string a0_1, .string a0_2, .string a0_3]) (ok := fun _ => True) (okp := fun _ => True) ?hr ?hp (fun _ hk => hk) trivial (Below.refl _ _) (Nat.le_refl _) (by simp) ?_; (case hd => rfl); (case hg => rfl); (case hr => first | (go_simp; done) | (go_simp; rfl)); (case hp => exact (Reps.one (show Kd.M Kd.string _ _ _ a0_0 [.string a0_0] from rfl) (Reps.one (show Kd.M Kd.string _ _ _ a0_1 [.string a0_1] from rfl) (Reps.one (show Kd.M Kd.string _ _ _ a0_2 [.string a0_2] from rfl) (Reps.one (show Kd.M Kd.string _ _ _ a0_3 [.string a0_3] from rfl) (Reps.none _ _)))))); intro v288 w16 ho17 hb hg_ hnew_; clear hg_ hnew_; (first | rw [← Ny287.out] at ho17 | (simp only [Int.reduceToNat] at ho17; rw [← Ny287.out] at ho17)); have n0_ := Aside0.mk (Kd.R_lower ho17 (below_size (by repeat (first | (with_reducible first | exact HB.out | apply below_alloc | apply pw_below_drewN | apply below_drew1 | refine below_set ?_ GE284.out) | exact HB.out)))); have n1_ := Aside0.mk (blk_below (g := gb284) (o := .cells #[.string a0_0, .string a0_1, .string a0_2, .string a0_3, .int .i64 a0_4, .int .i64 a0_5, .bool a0_6, .bool a0_7, .bool a0_8] 53 (0, 0)) (by (with_reducible repeat (first | refine blk_drewN ?_ _ | refine blk_drew ?_ | refine blk_alloc ?_ _)); exact BK284.out) hb); have n2_ := Aside0.mk (below_step (by repeat (first | (with_reducible first | exact HB.out | apply below_alloc | apply pw_below_drewN | apply below_drew1 | refine below_set ?_ GE284.out) | exact HB.out)) hb); clear BK284; clear HB; have HO289 := n0_; have BK284 := n1_; have HB := n2_; clear n0_ n1_ n2_; clear hb ho17; obtain ⟨Ao18, co18, eo18⟩ := Kd.R_slice HO289.out; subst eo18) | ((with_reducible refine gate_callee (f := 9) rfl ?_); refine goesL_ (some 20) rfl rfl Try.func9 (by kernel_rfl) rfl #[.slice Ao18 y287.length co18] rfl (by (try simp only [List.map_toArray, List.map_cons, List.map_nil]); first | done | rfl | (simp only [List.length_drop, List.length_take]; rfl)) ?_; (with_reducible refine (laws_short.calls k _ _ y287 true _ ?side1 ?side2 A6.out).mono ?_); (case side1 => repeat (first | exact (Kd.R_reads' HO289.out).2.2 | (with_reducible refine Kd.C_alloc ?_ _) | (with_reducible refine Kd.C_drewN ?_ _) | (with_reducible refine Kd.C_drew ?_))); (case side2 => exact (Kd.R_reads' HO289.out).2.1); rintro e w' ⟨rfl, ⟨nd, rfl⟩⟩; refine ⟨_, rfl, ?_⟩; have hcz19_0 : w16.cell? ⟨gb284, 0, none⟩ = some (.string a0_0) := (blk_cell BK284.out 0).trans rfl; have hcz19_1 : w16.cell? ⟨gb284, 1, none⟩ = some (.string a0_1) := (blk_cell BK284.out 1).trans rfl; have hcz19_2 : w16.cell? ⟨gb284, 2, none⟩ = some (.string a0_2) := (blk_cell BK284.out 2).trans rfl; have hcz19_3 : w16.cell? ⟨gb284, 3, none⟩ = some (.string a0_3) := (blk_cell BK284.out 3).trans rfl; have hcz19_4 : w16.cell? ⟨gb284, 4, none⟩ = some (.int .i64 a0_4) := (blk_cell BK284.out 4).trans rfl; have hcz19_5 : w16.cell? ⟨gb284, 5, none⟩ = some (.int .i64 a0_5) := (blk_cell BK284.out 5).trans rfl; have hcz19_6 : w16.cell? ⟨gb284, 6, none⟩ = some (.bool a0_6) := (blk_cell BK284.out 6).trans rfl; have hcz19_7 : w16.cell? ⟨gb284, 7, none⟩ = some (.bool a0_7) := (blk_cell BK284.out 7).trans rfl; have hcz19_8 : w16.cell? ⟨gb284, 8, none⟩ = some (.bool a0_8) := (blk_cell BK284.out 8).trans rfl; have hfz19_0 := blk_frozen BK284.out 0; have hfz19_1 := blk_frozen BK284.out 1; have hfz19_2 := blk_frozen BK284.out 2; have hfz19_3 := blk_frozen BK284.out 3; have hfz19_4 := blk_frozen BK284.out 4; have hfz19_5 := blk_frozen BK284.out 5; have hfz19_6 := blk_frozen BK284.out 6; have hfz19_7 := blk_frozen BK284.out 7; have hfz19_8 := blk_frozen BK284.out 8) | ((with_reducible refine gate_callee (f := 27) rfl ?_); refine goesL_ (some 24) rfl rfl Try.func27 (by kernel_rfl) rfl #[.agg #[.string a0_0, .string a0_1, .string a0_2, .string a0_3, .int .i64 a0_4, .int .i64 a0_5, .bool a0_6, .bool a0_7, .bool a0_8]] rfl (by (try simp only [List.map_toArray, List.map_cons, List.map_nil]); first | done | rfl | (simp only [List.length_drop, List.length_take]; rfl)) ?_; (with_reducible refine (spec_CookieText.calls k a0_0 a0_1 a0_2 a0_3 a0_4 a0_5 a0_6 a0_7 a0_8 t291 t292 _ A8.out).mono ?_); rintro e w20 ⟨rfl, hb⟩; refine ⟨_, rfl, ?_⟩; have n0_ := Aside0.mk (Kd.R_below (by (with_reducible repeat (first | apply Kd.R_alloc | apply Kd.R_drewN | apply Kd.R_drew)); exact HO289.out) hb); have n1_ := Aside0.mk (blk_below (g := gb284) (o := .cells #[.string a0_0, .string a0_1, .string a0_2, .string a0_3, .int .i64 a0_4, .int .i64 a0_5, .bool a0_6, .bool a0_7, .bool a0_8] 53 (0, 0)) (by (with_reducible repeat (first | refine blk_drewN ?_ _ | refine blk_drew ?_ | refine blk_alloc ?_ _)); exact BK284.out) hb); have n2_ := Aside0.mk (below_step (by repeat (first | (with_reducible first | exact HB.out | apply below_alloc | apply pw_below_drewN | apply below_drew1 | refine below_set ?_ GE284.out) | exact HB.out)) hb); clear HO289; clear BK284; clear HB; have HO289 := n0_; have BK284 := n1_; have HB := n2_; clear n0_ n1_ n2_; (try clear hb); (try clear hb2); (try clear hk); (try clear hi); have hcz21_0 : w20.cell? ⟨gb284, 0, none⟩ = some (.string a0_0) := (blk_cell BK284.out 0).trans rfl; have hcz21_1 : w20.cell? ⟨gb284, 1, none⟩ = some (.string a0_1) := (blk_cell BK284.out 1).trans rfl; have hcz21_2 : w20.cell? ⟨gb284, 2, none⟩ = some (.string a0_2) := (blk_cell BK284.out 2).trans rfl; have hcz21_3 : w20.cell? ⟨gb284, 3, none⟩ = some (.string a0_3) := (blk_cell BK284.out 3).trans rfl; have hcz21_4 : w20.cell? ⟨gb284, 4, none⟩ = some (.int .i64 a0_4) := (blk_cell BK284.out 4).trans rfl; have hcz21_5 : w20.cell? ⟨gb284, 5, none⟩ = some (.int .i64 a0_5) := (blk_cell BK284.out 5).trans rfl; have hcz21_6 : w20.cell? ⟨gb284, 6, none⟩ = some (.bool a0_6) := (blk_cell BK284.out 6).trans rfl; have hcz21_7 : w20.cell? ⟨gb284, 7, none⟩ = some (.bool a0_7) := (blk_cell BK284.out 7).trans rfl; have hcz21_8 : w20.cell? ⟨gb284, 8, none⟩ = some (.bool a0_8) := (blk_cell BK284.out 8).trans rfl; have hfz21_0 := blk_frozen BK284.out 0; have hfz21_1 := blk_frozen BK284.out 1; have hfz21_2 := blk_frozen BK284.out 2; have hfz21_3 := blk_frozen BK284.out 3; have hfz21_4 := blk_frozen BK284.out 4; have hfz21_5 := blk_frozen BK284.out 5; have hfz21_6 := blk_frozen BK284.out 6; have hfz21_7 := blk_frozen BK284.out 7; have hfz21_8 := blk_frozen BK284.out 8) | (go_at_call 21; (with_reducible refine (impl_CookieText.calls a0_0 a0_1 a0_2 a0_3 a0_4 a0_5 a0_6 a0_7 a0_8 t293 _ A10.out).mono ?_); rintro e w22 ⟨rfl, hb⟩; have n0_ := Aside0.mk (Kd.R_below (by (with_reducible repeat (first | apply Kd.R_alloc | apply Kd.R_drewN | apply Kd.R_drew)); exact HO289.out) hb); have n1_ := Aside0.mk (blk_below (g := gb284) (o := .cells #[.string a0_0, .string a0_1, .string a0_2, .string a0_3, .int .i64 a0_4, .int .i64 a0_5, .bool a0_6, .bool a0_7, .bool a0_8] 53 (0, 0)) (by (with_reducible repeat (first | refine blk_drewN ?_ _ | refine blk_drew ?_ | refine blk_alloc ?_ _)); exact BK284.out) hb); have n2_ := Aside0.mk (below_step (by repeat (first | (with_reducible first | exact HB.out | apply below_alloc | apply pw_below_drewN | apply below_drew1 | refine below_set ?_ GE284.out) | exact HB.out)) hb); clear HO289; clear BK284; clear HB; have HO289 := n0_; have BK284 := n1_; have HB := n2_; clear n0_ n1_ n2_; (try clear hb); (try clear hb2); (try clear hk); (try clear hi)))
          go_ret
          exact ⟨by first | rfl | (simp [errW_none, errW_some] <;> rfl) | (simp [*, errW_none, errW_some] <;> rfl), by repeat (first | (with_reducible first | exact HB.out | apply below_alloc | apply pw_below_drewN | apply below_drew1 | refine below_set ?_ GE284.out) | exact HB.out)⟩
        · rw [if_neg c9] at H
          have c9b0 : (t292 == 1) = false := beq_eq_false_iff_ne.mpr c9
          have c9b1 : (t292 != 1) = true := bne_iff_ne.mpr c9
          obtain rfl := Option.some.inj H
          go_enter Try.func7, Try.ntmps7
          go_wp2_with (first | ((with_reducible refine gate_dst (N := 1) rfl ?_); refine box_event ?hg (N := 1) ?hd (cs := #[.string a0_0, .string a0_1, .string a0_2, .string a0_3, .int .i64 a0_4, .int .i64 a0_5, .bool a0_6, .bool a0_7, .bool a0_8]) (t := 53) ?hr ?_; (case hd => rfl); (case hg => rfl); (case hr => first | (go_simp; done) | (go_simp; rfl)); intro gb284 hg w23 hbox hb; have n0_ := Aside0.mk (below_step (by repeat (first | (with_reducible first | exact HB.out | apply below_alloc | apply pw_below_drewN | apply below_drew1) | exact HB.out)) hb); have n1_ := Aside0.mk (hbox); have n2_ := Aside0.mk ((by rw [hg]; exact (below_size (by repeat (first | (with_reducible first | exact HB.out | apply below_alloc | apply pw_below_drewN | apply below_drew1) | exact HB.out))) : w.heap.size ≤ gb284)); have n3_ := Aside0.mk ((by rw [hg]; exact (below_size (by repeat (first | (with_reducible first | exact HB.out | apply below_alloc | apply pw_below_drewN | apply below_drew1) | exact HB.out))) : w.heap.size ≤ gb284)); clear HB; have HB := n0_; have BK284 := n1_; have GW284 := n2_; have GE284 := n3_; clear n0_ n1_ n2_ n3_; clear hb hbox hg; have hcz24_0 : w23.cell? ⟨gb284, 0, none⟩ = some (.string a0_0) := (blk_cell BK284.out 0).trans rfl; have hcz24_1 : w23.cell? ⟨gb284, 1, none⟩ = some (.string a0_1) := (blk_cell BK284.out 1).trans rfl; have hcz24_2 : w23.cell? ⟨gb284, 2, none⟩ = some (.string a0_2) := (blk_cell BK284.out 2).trans rfl; have hcz24_3 : w23.cell? ⟨gb284, 3, none⟩ = some (.string a0_3) := (blk_cell BK284.out 3).trans rfl; have hcz24_4 : w23.cell? ⟨gb284, 4, none⟩ = some (.int .i64 a0_4) := (blk_cell BK284.out 4).trans rfl; have hcz24_5 : w23.cell? ⟨gb284, 5, none⟩ = some (.int .i64 a0_5) := (blk_cell BK284.out 5).trans rfl; have hcz24_6 : w23.cell? ⟨gb284, 6, none⟩ = some (.bool a0_6) := (blk_cell BK284.out 6).trans rfl; have hcz24_7 : w23.cell? ⟨gb284, 7, none⟩ = some (.bool a0_7) := (blk_cell BK284.out 7).trans rfl; have hcz24_8 : w23.cell? ⟨gb284, 8, none⟩ = some (.bool a0_8) := (blk_cell BK284.out 8).trans rfl; have hfz24_0 := blk_frozen BK284.out 0; have hfz24_1 := blk_frozen BK284.out 1; have hfz24_2 := blk_frozen BK284.out 2; have hfz24_3 := blk_frozen BK284.out 3; have hfz24_4 := blk_frozen BK284.out 4; have hfz24_5 := blk_frozen BK284.out 5; have hfz24_6 := blk_frozen BK284.out 6; have hfz24_7 := blk_frozen BK284.out 7; have hfz24_8 := blk_frozen BK284.out 8) | ((with_reducible refine gate_callee (f := 20) rfl ?_); refine goesL_ (some 6) rfl rfl Try.func20 (by kernel_rfl) rfl #[.agg #[.string a0_0, .string a0_1, .string a0_2, .string a0_3, .int .i64 a0_4, .int .i64 a0_5, .bool a0_6, .bool a0_7, .bool a0_8]] rfl (by (try simp only [List.map_toArray, List.map_cons, List.map_nil]); first | done | rfl | (simp only [List.length_drop, List.length_take]; rfl)) ?_; (with_reducible refine (laws_zzFits11.calls a0_0 a0_1 a0_2 a0_3 a0_4 a0_5 a0_6 a0_7 a0_8 true _ A2.out).mono ?_); rintro e w25 ⟨rfl, hb⟩; refine ⟨_, rfl, ?_⟩; have n0_ := Aside0.mk (blk_below (g := gb284) (o := .cells #[.string a0_0, .string a0_1, .string a0_2, .string a0_3, .int .i64 a0_4, .int .i64 a0_5, .bool a0_6, .bool a0_7, .bool a0_8] 53 (0, 0)) (by (with_reducible repeat (first | refine blk_drewN ?_ _ | refine blk_drew ?_ | refine blk_alloc ?_ _)); exact BK284.out) hb); have n1_ := Aside0.mk (below_step (by repeat (first | (with_reducible first | exact HB.out | apply below_alloc | apply pw_below_drewN | apply below_drew1 | refine below_set ?_ GE284.out) | exact HB.out)) hb); clear BK284; clear HB; have BK284 := n0_; have HB := n1_; clear n0_ n1_; (try clear hb); (try clear hb2); (try clear hk); (try clear hi)) | ((with_reducible refine gate_callee (f := 21) rfl ?_); refine goesL_ (some 9) rfl rfl Try.func21 (by kernel_rfl) rfl #[.agg #[.string (⟨#[97]⟩ : ByteArray), .string (⟨#[98]⟩ : ByteArray), .string (⟨#[]⟩ : ByteArray), .string (⟨#[]⟩ : ByteArray), .int .i64 0, .int .i64 0, .bool false, .bool false, .bool false]] rfl (by (try simp only [List.map_toArray, List.map_cons, List.map_nil]); first | done | rfl | (simp only [List.length_drop, List.length_take]; rfl)) ?_; (with_reducible refine (impl_CookieText.calls (⟨#[97]⟩ : ByteArray) (⟨#[98]⟩ : ByteArray) (⟨#[]⟩ : ByteArray) (⟨#[]⟩ : ByteArray) 0 0 false false false t286 _ A4.out).mono ?_); rintro e w26 ⟨rfl, hb⟩; refine ⟨_, rfl, ?_⟩; have n0_ := Aside0.mk (blk_below (g := gb284) (o := .cells #[.string a0_0, .string a0_1, .string a0_2, .string a0_3, .int .i64 a0_4, .int .i64 a0_5, .bool a0_6, .bool a0_7, .bool a0_8] 53 (0, 0)) (by (with_reducible repeat (first | refine blk_drewN ?_ _ | refine blk_drew ?_ | refine blk_alloc ?_ _)); exact BK284.out) hb); have n1_ := Aside0.mk (below_step (by repeat (first | (with_reducible first | exact HB.out | apply below_alloc | apply pw_below_drewN | apply below_drew1 | refine below_set ?_ GE284.out) | exact HB.out)) hb); clear BK284; clear HB; have BK284 := n0_; have HB := n1_; clear n0_ n1_; (try clear hb); (try clear hb2); (try clear hk); (try clear hi); have hcz27_0 : w26.cell? ⟨gb284, 0, none⟩ = some (.string a0_0) := (blk_cell BK284.out 0).trans rfl; have hcz27_1 : w26.cell? ⟨gb284, 1, none⟩ = some (.string a0_1) := (blk_cell BK284.out 1).trans rfl; have hcz27_2 : w26.cell? ⟨gb284, 2, none⟩ = some (.string a0_2) := (blk_cell BK284.out 2).trans rfl; have hcz27_3 : w26.cell? ⟨gb284, 3, none⟩ = some (.string a0_3) := (blk_cell BK284.out 3).trans rfl; have hcz27_4 : w26.cell? ⟨gb284, 4, none⟩ = some (.int .i64 a0_4) := (blk_cell BK284.out 4).trans rfl; have hcz27_5 : w26.cell? ⟨gb284, 5, none⟩ = some (.int .i64 a0_5) := (blk_cell BK284.out 5).trans rfl; have hcz27_6 : w26.cell? ⟨gb284, 6, none⟩ = some (.bool a0_6) := (blk_cell BK284.out 6).trans rfl; have hcz27_7 : w26.cell? ⟨gb284, 7, none⟩ = some (.bool a0_7) := (blk_cell BK284.out 7).trans rfl; have hcz27_8 : w26.cell? ⟨gb284, 8, none⟩ = some (.bool a0_8) := (blk_cell BK284.out 8).trans rfl; have hfz27_0 := blk_frozen BK284.out 0; have hfz27_1 := blk_frozen BK284.out 1; have hfz27_2 := blk_frozen BK284.out 2; have hfz27_3 := blk_frozen BK284.out 3; have hfz27_4 := blk_frozen BK284.out 4; have hfz27_5 := blk_frozen BK284.out 5; have hfz27_6 := blk_frozen BK284.out 6; have hfz27_7 := blk_frozen BK284.out 7; have hfz27_8 := blk_frozen BK284.out 8) | ((with_reducible refine gate_dst (N := 19) rfl ?_); refine Kd.R_lit Kd.string _ 9 ?hg (N := 19) ?hd (xs := ([a0_0, a0_1, a0_2, a0_3] : List ByteArray)) (inner := [.string a0_0, .string a0_1, .string a0_2, .string a0_3]) (ok := fun _ => True) (okp := fun _ => True) ?hr ?hp (fun _ hk => hk) trivial (Below.refl _ _) (Nat.le_refl _) (by simp) ?_; (case hd => rfl); (case hg => rfl); (case hr => first | (go_simp; done) | (go_simp; rfl)); (case hp => exact (Reps.one (show Kd.M Kd.string _ _ _ a0_0 [.string a0_0] from rfl) (Reps.one (show Kd.M Kd.string _ _ _ a0_1 [.string a0_1] from rfl) (Reps.one (show Kd.M Kd.string _ _ _ a0_2 [.string a0_2] from rfl) (Reps.one (show Kd.M Kd.string _ _ _ a0_3 [.string a0_3] from rfl) (Reps.none _ _)))))); intro v288 w28 ho29 hb hg_ hnew_; clear hg_ hnew_; (first | rw [← Ny287.out] at ho29 | (simp only [Int.reduceToNat] at ho29; rw [← Ny287.out] at ho29)); have n0_ := Aside0.mk (Kd.R_lower ho29 (below_size (by repeat (first | (with_reducible first | exact HB.out | apply below_alloc | apply pw_below_drewN | apply below_drew1 | refine below_set ?_ GE284.out) | exact HB.out)))); have n1_ := Aside0.mk (blk_below (g := gb284) (o := .cells #[.string a0_0, .string a0_1, .string a0_2, .string a0_3, .int .i64 a0_4, .int .i64 a0_5, .bool a0_6, .bool a0_7, .bool a0_8] 53 (0, 0)) (by (with_reducible repeat (first | refine blk_drewN ?_ _ | refine blk_drew ?_ | refine blk_alloc ?_ _)); exact BK284.out) hb); have n2_ := Aside0.mk (below_step (by repeat (first | (with_reducible first | exact HB.out | apply below_alloc | apply pw_below_drewN | apply below_drew1 | refine below_set ?_ GE284.out) | exact HB.out)) hb); clear BK284; clear HB; have HO289 := n0_; have BK284 := n1_; have HB := n2_; clear n0_ n1_ n2_; clear hb ho29; obtain ⟨Ao30, co30, eo30⟩ := Kd.R_slice HO289.out; subst eo30) | ((with_reducible refine gate_callee (f := 9) rfl ?_); refine goesL_ (some 20) rfl rfl Try.func9 (by kernel_rfl) rfl #[.slice Ao30 y287.length co30] rfl (by (try simp only [List.map_toArray, List.map_cons, List.map_nil]); first | done | rfl | (simp only [List.length_drop, List.length_take]; rfl)) ?_; (with_reducible refine (laws_short.calls k _ _ y287 true _ ?side1 ?side2 A6.out).mono ?_); (case side1 => repeat (first | exact (Kd.R_reads' HO289.out).2.2 | (with_reducible refine Kd.C_alloc ?_ _) | (with_reducible refine Kd.C_drewN ?_ _) | (with_reducible refine Kd.C_drew ?_))); (case side2 => exact (Kd.R_reads' HO289.out).2.1); rintro e w' ⟨rfl, ⟨nd, rfl⟩⟩; refine ⟨_, rfl, ?_⟩; have hcz31_0 : w28.cell? ⟨gb284, 0, none⟩ = some (.string a0_0) := (blk_cell BK284.out 0).trans rfl; have hcz31_1 : w28.cell? ⟨gb284, 1, none⟩ = some (.string a0_1) := (blk_cell BK284.out 1).trans rfl; have hcz31_2 : w28.cell? ⟨gb284, 2, none⟩ = some (.string a0_2) := (blk_cell BK284.out 2).trans rfl; have hcz31_3 : w28.cell? ⟨gb284, 3, none⟩ = some (.string a0_3) := (blk_cell BK284.out 3).trans rfl; have hcz31_4 : w28.cell? ⟨gb284, 4, none⟩ = some (.int .i64 a0_4) := (blk_cell BK284.out 4).trans rfl; have hcz31_5 : w28.cell? ⟨gb284, 5, none⟩ = some (.int .i64 a0_5) := (blk_cell BK284.out 5).trans rfl; have hcz31_6 : w28.cell? ⟨gb284, 6, none⟩ = some (.bool a0_6) := (blk_cell BK284.out 6).trans rfl; have hcz31_7 : w28.cell? ⟨gb284, 7, none⟩ = some (.bool a0_7) := (blk_cell BK284.out 7).trans rfl; have hcz31_8 : w28.cell? ⟨gb284, 8, none⟩ = some (.bool a0_8) := (blk_cell BK284.out 8).trans rfl; have hfz31_0 := blk_frozen BK284.out 0; have hfz31_1 := blk_frozen BK284.out 1; have hfz31_2 := blk_frozen BK284.out 2; have hfz31_3 := blk_frozen BK284.out 3; have hfz31_4 := blk_frozen BK284.out 4; have hfz31_5 := blk_frozen BK284.out 5; have hfz31_6 := blk_frozen BK284.out 6; have hfz31_7 := blk_frozen BK284.out 7; have hfz31_8 := blk_frozen BK284.out 8) | ((with_reducible refine gate_callee (f := 27) rfl ?_); refine goesL_ (some 24) rfl rfl Try.func27 (by kernel_rfl) rfl #[.agg #[.string a0_0, .string a0_1, .string a0_2, .string a0_3, .int .i64 a0_4, .int .i64 a0_5, .bool a0_6, .bool a0_7, .bool a0_8]] rfl (by (try simp only [List.map_toArray, List.map_cons, List.map_nil]); first | done | rfl | (simp only [List.length_drop, List.length_take]; rfl)) ?_; (with_reducible refine (spec_CookieText.calls k a0_0 a0_1 a0_2 a0_3 a0_4 a0_5 a0_6 a0_7 a0_8 t291 t292 _ A8.out).mono ?_); rintro e w32 ⟨rfl, hb⟩; refine ⟨_, rfl, ?_⟩; have n0_ := Aside0.mk (Kd.R_below (by (with_reducible repeat (first | apply Kd.R_alloc | apply Kd.R_drewN | apply Kd.R_drew)); exact HO289.out) hb); have n1_ := Aside0.mk (blk_below (g := gb284) (o := .cells #[.string a0_0, .string a0_1, .string a0_2, .string a0_3, .int .i64 a0_4, .int .i64 a0_5, .bool a0_6, .bool a0_7, .bool a0_8] 53 (0, 0)) (by (with_reducible repeat (first | refine blk_drewN ?_ _ | refine blk_drew ?_ | refine blk_alloc ?_ _)); exact BK284.out) hb); have n2_ := Aside0.mk (below_step (by repeat (first | (with_reducible first | exact HB.out | apply below_alloc | apply pw_below_drewN | apply below_drew1 | refine below_set ?_ GE284.out) | exact HB.out)) hb); clear HO289; clear BK284; clear HB; have HO289 := n0_; have BK284 := n1_; have HB := n2_; clear n0_ n1_ n2_; (try clear hb); (try clear hb2); (try clear hk); (try clear hi)))
          go_ret
          exact ⟨by first | rfl | (simp [errW_none, errW_some] <;> rfl) | (simp [*, errW_none, errW_some] <;> rfl), by repeat (first | (with_reducible first | exact HB.out | apply below_alloc | apply pw_below_drewN | apply below_drew1 | refine below_set ?_ GE284.out) | exact HB.out)⟩
      · replace c7 := Bool.eq_false_iff.mpr c7
        subst c7
        have H1 : (some true) = some r := by rw [if_neg (show ¬ (false = true) by decide)] at H; exact H
        clear H
        have H := H1
        clear H1
        obtain rfl := Option.some.inj H
        go_enter Try.func7, Try.ntmps7
        go_wp2_with (first | ((with_reducible refine gate_dst (N := 1) rfl ?_); refine box_event ?hg (N := 1) ?hd (cs := #[.string a0_0, .string a0_1, .string a0_2, .string a0_3, .int .i64 a0_4, .int .i64 a0_5, .bool a0_6, .bool a0_7, .bool a0_8]) (t := 53) ?hr ?_; (case hd => rfl); (case hg => rfl); (case hr => first | (go_simp; done) | (go_simp; rfl)); intro gb284 hg w33 hbox hb; have n0_ := Aside0.mk (below_step (by repeat (first | (with_reducible first | exact HB.out | apply below_alloc | apply pw_below_drewN | apply below_drew1) | exact HB.out)) hb); have n1_ := Aside0.mk (hbox); have n2_ := Aside0.mk ((by rw [hg]; exact (below_size (by repeat (first | (with_reducible first | exact HB.out | apply below_alloc | apply pw_below_drewN | apply below_drew1) | exact HB.out))) : w.heap.size ≤ gb284)); have n3_ := Aside0.mk ((by rw [hg]; exact (below_size (by repeat (first | (with_reducible first | exact HB.out | apply below_alloc | apply pw_below_drewN | apply below_drew1) | exact HB.out))) : w.heap.size ≤ gb284)); clear HB; have HB := n0_; have BK284 := n1_; have GW284 := n2_; have GE284 := n3_; clear n0_ n1_ n2_ n3_; clear hb hbox hg; have hcz34_0 : w33.cell? ⟨gb284, 0, none⟩ = some (.string a0_0) := (blk_cell BK284.out 0).trans rfl; have hcz34_1 : w33.cell? ⟨gb284, 1, none⟩ = some (.string a0_1) := (blk_cell BK284.out 1).trans rfl; have hcz34_2 : w33.cell? ⟨gb284, 2, none⟩ = some (.string a0_2) := (blk_cell BK284.out 2).trans rfl; have hcz34_3 : w33.cell? ⟨gb284, 3, none⟩ = some (.string a0_3) := (blk_cell BK284.out 3).trans rfl; have hcz34_4 : w33.cell? ⟨gb284, 4, none⟩ = some (.int .i64 a0_4) := (blk_cell BK284.out 4).trans rfl; have hcz34_5 : w33.cell? ⟨gb284, 5, none⟩ = some (.int .i64 a0_5) := (blk_cell BK284.out 5).trans rfl; have hcz34_6 : w33.cell? ⟨gb284, 6, none⟩ = some (.bool a0_6) := (blk_cell BK284.out 6).trans rfl; have hcz34_7 : w33.cell? ⟨gb284, 7, none⟩ = some (.bool a0_7) := (blk_cell BK284.out 7).trans rfl; have hcz34_8 : w33.cell? ⟨gb284, 8, none⟩ = some (.bool a0_8) := (blk_cell BK284.out 8).trans rfl; have hfz34_0 := blk_frozen BK284.out 0; have hfz34_1 := blk_frozen BK284.out 1; have hfz34_2 := blk_frozen BK284.out 2; have hfz34_3 := blk_frozen BK284.out 3; have hfz34_4 := blk_frozen BK284.out 4; have hfz34_5 := blk_frozen BK284.out 5; have hfz34_6 := blk_frozen BK284.out 6; have hfz34_7 := blk_frozen BK284.out 7; have hfz34_8 := blk_frozen BK284.out 8) | ((with_reducible refine gate_callee (f := 20) rfl ?_); refine goesL_ (some 6) rfl rfl Try.func20 (by kernel_rfl) rfl #[.agg #[.string a0_0, .string a0_1, .string a0_2, .string a0_3, .int .i64 a0_4, .int .i64 a0_5, .bool a0_6, .bool a0_7, .bool a0_8]] rfl (by (try simp only [List.map_toArray, List.map_cons, List.map_nil]); first | done | rfl | (simp only [List.length_drop, List.length_take]; rfl)) ?_; (with_reducible refine (laws_zzFits11.calls a0_0 a0_1 a0_2 a0_3 a0_4 a0_5 a0_6 a0_7 a0_8 true _ A2.out).mono ?_); rintro e w35 ⟨rfl, hb⟩; refine ⟨_, rfl, ?_⟩; have n0_ := Aside0.mk (blk_below (g := gb284) (o := .cells #[.string a0_0, .string a0_1, .string a0_2, .string a0_3, .int .i64 a0_4, .int .i64 a0_5, .bool a0_6, .bool a0_7, .bool a0_8] 53 (0, 0)) (by (with_reducible repeat (first | refine blk_drewN ?_ _ | refine blk_drew ?_ | refine blk_alloc ?_ _)); exact BK284.out) hb); have n1_ := Aside0.mk (below_step (by repeat (first | (with_reducible first | exact HB.out | apply below_alloc | apply pw_below_drewN | apply below_drew1 | refine below_set ?_ GE284.out) | exact HB.out)) hb); clear BK284; clear HB; have BK284 := n0_; have HB := n1_; clear n0_ n1_; (try clear hb); (try clear hb2); (try clear hk); (try clear hi)) | ((with_reducible refine gate_callee (f := 21) rfl ?_); refine goesL_ (some 9) rfl rfl Try.func21 (by kernel_rfl) rfl #[.agg #[.string (⟨#[97]⟩ : ByteArray), .string (⟨#[98]⟩ : ByteArray), .string (⟨#[]⟩ : ByteArray), .string (⟨#[]⟩ : ByteArray), .int .i64 0, .int .i64 0, .bool false, .bool false, .bool false]] rfl (by (try simp only [List.map_toArray, List.map_cons, List.map_nil]); first | done | rfl | (simp only [List.length_drop, List.length_take]; rfl)) ?_; (with_reducible refine (impl_CookieText.calls (⟨#[97]⟩ : ByteArray) (⟨#[98]⟩ : ByteArray) (⟨#[]⟩ : ByteArray) (⟨#[]⟩ : ByteArray) 0 0 false false false t286 _ A4.out).mono ?_); rintro e w36 ⟨rfl, hb⟩; refine ⟨_, rfl, ?_⟩; have n0_ := Aside0.mk (blk_below (g := gb284) (o := .cells #[.string a0_0, .string a0_1, .string a0_2, .string a0_3, .int .i64 a0_4, .int .i64 a0_5, .bool a0_6, .bool a0_7, .bool a0_8] 53 (0, 0)) (by (with_reducible repeat (first | refine blk_drewN ?_ _ | refine blk_drew ?_ | refine blk_alloc ?_ _)); exact BK284.out) hb); have n1_ := Aside0.mk (below_step (by repeat (first | (with_reducible first | exact HB.out | apply below_alloc | apply pw_below_drewN | apply below_drew1 | refine below_set ?_ GE284.out) | exact HB.out)) hb); clear BK284; clear HB; have BK284 := n0_; have HB := n1_; clear n0_ n1_; (try clear hb); (try clear hb2); (try clear hk); (try clear hi); have hcz37_0 : w36.cell? ⟨gb284, 0, none⟩ = some (.string a0_0) := (blk_cell BK284.out 0).trans rfl; have hcz37_1 : w36.cell? ⟨gb284, 1, none⟩ = some (.string a0_1) := (blk_cell BK284.out 1).trans rfl; have hcz37_2 : w36.cell? ⟨gb284, 2, none⟩ = some (.string a0_2) := (blk_cell BK284.out 2).trans rfl; have hcz37_3 : w36.cell? ⟨gb284, 3, none⟩ = some (.string a0_3) := (blk_cell BK284.out 3).trans rfl; have hcz37_4 : w36.cell? ⟨gb284, 4, none⟩ = some (.int .i64 a0_4) := (blk_cell BK284.out 4).trans rfl; have hcz37_5 : w36.cell? ⟨gb284, 5, none⟩ = some (.int .i64 a0_5) := (blk_cell BK284.out 5).trans rfl; have hcz37_6 : w36.cell? ⟨gb284, 6, none⟩ = some (.bool a0_6) := (blk_cell BK284.out 6).trans rfl; have hcz37_7 : w36.cell? ⟨gb284, 7, none⟩ = some (.bool a0_7) := (blk_cell BK284.out 7).trans rfl; have hcz37_8 : w36.cell? ⟨gb284, 8, none⟩ = some (.bool a0_8) := (blk_cell BK284.out 8).trans rfl; have hfz37_0 := blk_frozen BK284.out 0; have hfz37_1 := blk_frozen BK284.out 1; have hfz37_2 := blk_frozen BK284.out 2; have hfz37_3 := blk_frozen BK284.out 3; have hfz37_4 := blk_frozen BK284.out 4; have hfz37_5 := blk_frozen BK284.out 5; have hfz37_6 := blk_frozen BK284.out 6; have hfz37_7 := blk_frozen BK284.out 7; have hfz37_8 := blk_frozen BK284.out 8) | ((with_reducible refine gate_dst (N := 19) rfl ?_); refine Kd.R_lit Kd.string _ 9 ?hg (N := 19) ?hd (xs := ([a0_0, a0_1, a0_2, a0_3] : List ByteArray)) (inner := [.string a0_0, .string a0_1, .string a0_2, .string a0_3]) (ok := fun _ => True) (okp := fun _ => True) ?hr ?hp (fun _ hk => hk) trivial (Below.refl _ _) (Nat.le_refl _) (by simp) ?_; (case hd => rfl); (case hg => rfl); (case hr => first | (go_simp; done) | (go_simp; rfl)); (case hp => exact (Reps.one (show Kd.M Kd.string _ _ _ a0_0 [.string a0_0] from rfl) (Reps.one (show Kd.M Kd.string _ _ _ a0_1 [.string a0_1] from rfl) (Reps.one (show Kd.M Kd.string _ _ _ a0_2 [.string a0_2] from rfl) (Reps.one (show Kd.M Kd.string _ _ _ a0_3 [.string a0_3] from rfl) (Reps.none _ _)))))); intro v288 w38 ho39 hb hg_ hnew_; clear hg_ hnew_; (first | rw [← Ny287.out] at ho39 | (simp only [Int.reduceToNat] at ho39; rw [← Ny287.out] at ho39)); have n0_ := Aside0.mk (Kd.R_lower ho39 (below_size (by repeat (first | (with_reducible first | exact HB.out | apply below_alloc | apply pw_below_drewN | apply below_drew1 | refine below_set ?_ GE284.out) | exact HB.out)))); have n1_ := Aside0.mk (blk_below (g := gb284) (o := .cells #[.string a0_0, .string a0_1, .string a0_2, .string a0_3, .int .i64 a0_4, .int .i64 a0_5, .bool a0_6, .bool a0_7, .bool a0_8] 53 (0, 0)) (by (with_reducible repeat (first | refine blk_drewN ?_ _ | refine blk_drew ?_ | refine blk_alloc ?_ _)); exact BK284.out) hb); have n2_ := Aside0.mk (below_step (by repeat (first | (with_reducible first | exact HB.out | apply below_alloc | apply pw_below_drewN | apply below_drew1 | refine below_set ?_ GE284.out) | exact HB.out)) hb); clear BK284; clear HB; have HO289 := n0_; have BK284 := n1_; have HB := n2_; clear n0_ n1_ n2_; clear hb ho39; obtain ⟨Ao40, co40, eo40⟩ := Kd.R_slice HO289.out; subst eo40) | ((with_reducible refine gate_callee (f := 9) rfl ?_); refine goesL_ (some 20) rfl rfl Try.func9 (by kernel_rfl) rfl #[.slice Ao40 y287.length co40] rfl (by (try simp only [List.map_toArray, List.map_cons, List.map_nil]); first | done | rfl | (simp only [List.length_drop, List.length_take]; rfl)) ?_; (with_reducible refine (laws_short.calls k _ _ y287 false _ ?side1 ?side2 A6.out).mono ?_); (case side1 => repeat (first | exact (Kd.R_reads' HO289.out).2.2 | (with_reducible refine Kd.C_alloc ?_ _) | (with_reducible refine Kd.C_drewN ?_ _) | (with_reducible refine Kd.C_drew ?_))); (case side2 => exact (Kd.R_reads' HO289.out).2.1); rintro e w' ⟨rfl, ⟨nd, rfl⟩⟩; refine ⟨_, rfl, ?_⟩))
        go_ret
        exact ⟨by first | rfl | (simp [errW_none, errW_some] <;> rfl) | (simp [*, errW_none, errW_some] <;> rfl), by repeat (first | (with_reducible first | exact HB.out | apply below_alloc | apply pw_below_drewN | apply below_drew1 | refine below_set ?_ GE284.out) | exact HB.out)⟩
    · rw [if_neg c5] at H
      have c5b0 : (t286.toList == ([97, 61, 98] : List UInt8)) = false := beq_eq_false_iff_ne.mpr c5
      have c5b1 : (t286.toList != ([97, 61, 98] : List UInt8)) = true := bne_iff_ne.mpr c5
      obtain rfl := Option.some.inj H
      go_enter Try.func7, Try.ntmps7
      go_wp2_with (first | ((with_reducible refine gate_dst (N := 1) rfl ?_); refine box_event ?hg (N := 1) ?hd (cs := #[.string a0_0, .string a0_1, .string a0_2, .string a0_3, .int .i64 a0_4, .int .i64 a0_5, .bool a0_6, .bool a0_7, .bool a0_8]) (t := 53) ?hr ?_; (case hd => rfl); (case hg => rfl); (case hr => first | (go_simp; done) | (go_simp; rfl)); intro gb284 hg w41 hbox hb; have n0_ := Aside0.mk (below_step (by repeat (first | (with_reducible first | exact HB.out | apply below_alloc | apply pw_below_drewN | apply below_drew1) | exact HB.out)) hb); have n1_ := Aside0.mk (hbox); have n2_ := Aside0.mk ((by rw [hg]; exact (below_size (by repeat (first | (with_reducible first | exact HB.out | apply below_alloc | apply pw_below_drewN | apply below_drew1) | exact HB.out))) : w.heap.size ≤ gb284)); have n3_ := Aside0.mk ((by rw [hg]; exact (below_size (by repeat (first | (with_reducible first | exact HB.out | apply below_alloc | apply pw_below_drewN | apply below_drew1) | exact HB.out))) : w.heap.size ≤ gb284)); clear HB; have HB := n0_; have BK284 := n1_; have GW284 := n2_; have GE284 := n3_; clear n0_ n1_ n2_ n3_; clear hb hbox hg; have hcz42_0 : w41.cell? ⟨gb284, 0, none⟩ = some (.string a0_0) := (blk_cell BK284.out 0).trans rfl; have hcz42_1 : w41.cell? ⟨gb284, 1, none⟩ = some (.string a0_1) := (blk_cell BK284.out 1).trans rfl; have hcz42_2 : w41.cell? ⟨gb284, 2, none⟩ = some (.string a0_2) := (blk_cell BK284.out 2).trans rfl; have hcz42_3 : w41.cell? ⟨gb284, 3, none⟩ = some (.string a0_3) := (blk_cell BK284.out 3).trans rfl; have hcz42_4 : w41.cell? ⟨gb284, 4, none⟩ = some (.int .i64 a0_4) := (blk_cell BK284.out 4).trans rfl; have hcz42_5 : w41.cell? ⟨gb284, 5, none⟩ = some (.int .i64 a0_5) := (blk_cell BK284.out 5).trans rfl; have hcz42_6 : w41.cell? ⟨gb284, 6, none⟩ = some (.bool a0_6) := (blk_cell BK284.out 6).trans rfl; have hcz42_7 : w41.cell? ⟨gb284, 7, none⟩ = some (.bool a0_7) := (blk_cell BK284.out 7).trans rfl; have hcz42_8 : w41.cell? ⟨gb284, 8, none⟩ = some (.bool a0_8) := (blk_cell BK284.out 8).trans rfl; have hfz42_0 := blk_frozen BK284.out 0; have hfz42_1 := blk_frozen BK284.out 1; have hfz42_2 := blk_frozen BK284.out 2; have hfz42_3 := blk_frozen BK284.out 3; have hfz42_4 := blk_frozen BK284.out 4; have hfz42_5 := blk_frozen BK284.out 5; have hfz42_6 := blk_frozen BK284.out 6; have hfz42_7 := blk_frozen BK284.out 7; have hfz42_8 := blk_frozen BK284.out 8) | ((with_reducible refine gate_callee (f := 20) rfl ?_); refine goesL_ (some 6) rfl rfl Try.func20 (by kernel_rfl) rfl #[.agg #[.string a0_0, .string a0_1, .string a0_2, .string a0_3, .int .i64 a0_4, .int .i64 a0_5, .bool a0_6, .bool a0_7, .bool a0_8]] rfl (by (try simp only [List.map_toArray, List.map_cons, List.map_nil]); first | done | rfl | (simp only [List.length_drop, List.length_take]; rfl)) ?_; (with_reducible refine (laws_zzFits11.calls a0_0 a0_1 a0_2 a0_3 a0_4 a0_5 a0_6 a0_7 a0_8 true _ A2.out).mono ?_); rintro e w43 ⟨rfl, hb⟩; refine ⟨_, rfl, ?_⟩; have n0_ := Aside0.mk (blk_below (g := gb284) (o := .cells #[.string a0_0, .string a0_1, .string a0_2, .string a0_3, .int .i64 a0_4, .int .i64 a0_5, .bool a0_6, .bool a0_7, .bool a0_8] 53 (0, 0)) (by (with_reducible repeat (first | refine blk_drewN ?_ _ | refine blk_drew ?_ | refine blk_alloc ?_ _)); exact BK284.out) hb); have n1_ := Aside0.mk (below_step (by repeat (first | (with_reducible first | exact HB.out | apply below_alloc | apply pw_below_drewN | apply below_drew1 | refine below_set ?_ GE284.out) | exact HB.out)) hb); clear BK284; clear HB; have BK284 := n0_; have HB := n1_; clear n0_ n1_; (try clear hb); (try clear hb2); (try clear hk); (try clear hi)) | ((with_reducible refine gate_callee (f := 21) rfl ?_); refine goesL_ (some 9) rfl rfl Try.func21 (by kernel_rfl) rfl #[.agg #[.string (⟨#[97]⟩ : ByteArray), .string (⟨#[98]⟩ : ByteArray), .string (⟨#[]⟩ : ByteArray), .string (⟨#[]⟩ : ByteArray), .int .i64 0, .int .i64 0, .bool false, .bool false, .bool false]] rfl (by (try simp only [List.map_toArray, List.map_cons, List.map_nil]); first | done | rfl | (simp only [List.length_drop, List.length_take]; rfl)) ?_; (with_reducible refine (impl_CookieText.calls (⟨#[97]⟩ : ByteArray) (⟨#[98]⟩ : ByteArray) (⟨#[]⟩ : ByteArray) (⟨#[]⟩ : ByteArray) 0 0 false false false t286 _ A4.out).mono ?_); rintro e w44 ⟨rfl, hb⟩; refine ⟨_, rfl, ?_⟩; have n0_ := Aside0.mk (blk_below (g := gb284) (o := .cells #[.string a0_0, .string a0_1, .string a0_2, .string a0_3, .int .i64 a0_4, .int .i64 a0_5, .bool a0_6, .bool a0_7, .bool a0_8] 53 (0, 0)) (by (with_reducible repeat (first | refine blk_drewN ?_ _ | refine blk_drew ?_ | refine blk_alloc ?_ _)); exact BK284.out) hb); have n1_ := Aside0.mk (below_step (by repeat (first | (with_reducible first | exact HB.out | apply below_alloc | apply pw_below_drewN | apply below_drew1 | refine below_set ?_ GE284.out) | exact HB.out)) hb); clear BK284; clear HB; have BK284 := n0_; have HB := n1_; clear n0_ n1_; (try clear hb); (try clear hb2); (try clear hk); (try clear hi)))
      go_ret
      exact ⟨by first | rfl | (simp [errW_none, errW_some] <;> rfl) | (simp [*, errW_none, errW_some] <;> rfl), by repeat (first | (with_reducible first | exact HB.out | apply below_alloc | apply pw_below_drewN | apply below_drew1 | refine below_set ?_ GE284.out) | exact HB.out)⟩
  · replace c3 := Bool.eq_false_iff.mpr c3
    subst c3
    have H1 : (some true) = some r := by rw [if_neg (show ¬ (false = true) by decide)] at H; exact H
    clear H
    have H := H1
    clear H1
    obtain rfl := Option.some.inj H
    go_enter Try.func7, Try.ntmps7
    go_wp2_with (first | ((with_reducible refine gate_dst (N := 1) rfl ?_); refine box_event ?hg (N := 1) ?hd (cs := #[.string a0_0, .string a0_1, .string a0_2, .string a0_3, .int .i64 a0_4, .int .i64 a0_5, .bool a0_6, .bool a0_7, .bool a0_8]) (t := 53) ?hr ?_; (case hd => rfl); (case hg => rfl); (case hr => first | (go_simp; done) | (go_simp; rfl)); intro gb284 hg w45 hbox hb; have n0_ := Aside0.mk (below_step (by repeat (first | (with_reducible first | exact HB.out | apply below_alloc | apply pw_below_drewN | apply below_drew1) | exact HB.out)) hb); have n1_ := Aside0.mk (hbox); have n2_ := Aside0.mk ((by rw [hg]; exact (below_size (by repeat (first | (with_reducible first | exact HB.out | apply below_alloc | apply pw_below_drewN | apply below_drew1) | exact HB.out))) : w.heap.size ≤ gb284)); have n3_ := Aside0.mk ((by rw [hg]; exact (below_size (by repeat (first | (with_reducible first | exact HB.out | apply below_alloc | apply pw_below_drewN | apply below_drew1) | exact HB.out))) : w.heap.size ≤ gb284)); clear HB; have HB := n0_; have BK284 := n1_; have GW284 := n2_; have GE284 := n3_; clear n0_ n1_ n2_ n3_; clear hb hbox hg; have hcz46_0 : w45.cell? ⟨gb284, 0, none⟩ = some (.string a0_0) := (blk_cell BK284.out 0).trans rfl; have hcz46_1 : w45.cell? ⟨gb284, 1, none⟩ = some (.string a0_1) := (blk_cell BK284.out 1).trans rfl; have hcz46_2 : w45.cell? ⟨gb284, 2, none⟩ = some (.string a0_2) := (blk_cell BK284.out 2).trans rfl; have hcz46_3 : w45.cell? ⟨gb284, 3, none⟩ = some (.string a0_3) := (blk_cell BK284.out 3).trans rfl; have hcz46_4 : w45.cell? ⟨gb284, 4, none⟩ = some (.int .i64 a0_4) := (blk_cell BK284.out 4).trans rfl; have hcz46_5 : w45.cell? ⟨gb284, 5, none⟩ = some (.int .i64 a0_5) := (blk_cell BK284.out 5).trans rfl; have hcz46_6 : w45.cell? ⟨gb284, 6, none⟩ = some (.bool a0_6) := (blk_cell BK284.out 6).trans rfl; have hcz46_7 : w45.cell? ⟨gb284, 7, none⟩ = some (.bool a0_7) := (blk_cell BK284.out 7).trans rfl; have hcz46_8 : w45.cell? ⟨gb284, 8, none⟩ = some (.bool a0_8) := (blk_cell BK284.out 8).trans rfl; have hfz46_0 := blk_frozen BK284.out 0; have hfz46_1 := blk_frozen BK284.out 1; have hfz46_2 := blk_frozen BK284.out 2; have hfz46_3 := blk_frozen BK284.out 3; have hfz46_4 := blk_frozen BK284.out 4; have hfz46_5 := blk_frozen BK284.out 5; have hfz46_6 := blk_frozen BK284.out 6; have hfz46_7 := blk_frozen BK284.out 7; have hfz46_8 := blk_frozen BK284.out 8) | ((with_reducible refine gate_callee (f := 20) rfl ?_); refine goesL_ (some 6) rfl rfl Try.func20 (by kernel_rfl) rfl #[.agg #[.string a0_0, .string a0_1, .string a0_2, .string a0_3, .int .i64 a0_4, .int .i64 a0_5, .bool a0_6, .bool a0_7, .bool a0_8]] rfl (by (try simp only [List.map_toArray, List.map_cons, List.map_nil]); first | done | rfl | (simp only [List.length_drop, List.length_take]; rfl)) ?_; (with_reducible refine (laws_zzFits11.calls a0_0 a0_1 a0_2 a0_3 a0_4 a0_5 a0_6 a0_7 a0_8 false _ A2.out).mono ?_); rintro e w47 ⟨rfl, hb⟩; refine ⟨_, rfl, ?_⟩; have n0_ := Aside0.mk (blk_below (g := gb284) (o := .cells #[.string a0_0, .string a0_1, .string a0_2, .string a0_3, .int .i64 a0_4, .int .i64 a0_5, .bool a0_6, .bool a0_7, .bool a0_8] 53 (0, 0)) (by (with_reducible repeat (first | refine blk_drewN ?_ _ | refine blk_drew ?_ | refine blk_alloc ?_ _)); exact BK284.out) hb); have n1_ := Aside0.mk (below_step (by repeat (first | (with_reducible first | exact HB.out | apply below_alloc | apply pw_below_drewN | apply below_drew1 | refine below_set ?_ GE284.out) | exact HB.out)) hb); clear BK284; clear HB; have BK284 := n0_; have HB := n1_; clear n0_ n1_; (try clear hb); (try clear hb2); (try clear hk); (try clear hi)))
    go_ret
    exact ⟨by first | rfl | (simp [errW_none, errW_some] <;> rfl) | (simp [*, errW_none, errW_some] <;> rfl), by repeat (first | (with_reducible first | exact HB.out | apply below_alloc | apply pw_below_drewN | apply below_drew1 | refine below_set ?_ GE284.out) | exact HB.out)⟩
end Go.Proofs.Ytfbllodbcmcndaa.Q
end
section
namespace Go.Proofs.Ytfbllodbcmcndaa.StFnCookieSays
open Go.RowKit Go.ChangeShapes Go.WideShapes Go.Proofs.Ytfbllodbcmcndaa.Q Go.Proofs.YtfbllodbcmcndaaW.PrintWords Go.Proofs.YtfbllodbcmcndaaW.PrintLast
set_option linter.unusedVariables false
set_option linter.unusedSimpArgs false
set_option maxRecDepth 100000
theorem agg53 {H : Type} {enc : TypeId × Value → H} {w : World} {base : Nat} {spare : Nat → Bool} {held : Bool} (n : Nat) (cs : List Value) (y : DataW H × List MemPlace)
    (h : DataW.trod enc Try.prog w base spare held n 53 cs = some y) : ∃ (x0 : ByteArray) (x1 : ByteArray) (x2 : ByteArray) (x3 : ByteArray) (x4 : Int) (x5 : Int) (x6 : Bool) (x7 : Bool) (x8 : Bool), cs = [.string x0, .string x1, .string x2, .string x3, .int .i64 x4, .int .i64 x5, .bool x6, .bool x7, .bool x8] ∧ (x0.size ≤ maxLen) ∧ (x1.size ≤ maxLen) ∧ (x2.size ≤ maxLen) ∧ (x3.size ≤ maxLen) ∧ ((Lit.int .i64 x4).wf = true) ∧ ((Lit.int .i64 x5).wf = true) := by
  obtain ⟨xs, m, _, _, hl, hlen, hf⟩ := DataW.trod_struct Try.underlying53 h
  have hc : Try.prog.cellsOf 53 = 9 := by kernel_rfl
  rw [hc] at hl
  have c_3 : Try.prog.cellsOf 3 = 1 := by kernel_rfl
  have c_4 : Try.prog.cellsOf 4 = 1 := by kernel_rfl
  have c_9 : Try.prog.cellsOf 9 = 1 := by kernel_rfl
  match cs, hl with
  | [c0, c1, c2, c3, c4, c5, c6, c7, c8], _ =>
    match xs, hlen with
    | [y0, y1, y2, y3, y4, y5, y6, y7, y8], _ =>
      have g0 : DataW.trod enc Try.prog w base spare held m 9 (List.take (Try.prog.cellsOf 9) (List.drop 0 [c0, c1, c2, c3, c4, c5, c6, c7, c8])) = some y0 := hf 0 _ rfl
      rw [c_9] at g0
      have h0 : DataW.trod enc Try.prog w base spare held m 9 [c0] = some y0 := g0
      clear g0
      have g1 : DataW.trod enc Try.prog w base spare held m 9 (List.take (Try.prog.cellsOf 9) (List.drop 1 [c0, c1, c2, c3, c4, c5, c6, c7, c8])) = some y1 := hf 1 _ rfl
      rw [c_9] at g1
      have h1 : DataW.trod enc Try.prog w base spare held m 9 [c1] = some y1 := g1
      clear g1
      have g2 : DataW.trod enc Try.prog w base spare held m 9 (List.take (Try.prog.cellsOf 9) (List.drop 2 [c0, c1, c2, c3, c4, c5, c6, c7, c8])) = some y2 := hf 2 _ rfl
      rw [c_9] at g2
      have h2 : DataW.trod enc Try.prog w base spare held m 9 [c2] = some y2 := g2
      clear g2
      have g3 : DataW.trod enc Try.prog w base spare held m 9 (List.take (Try.prog.cellsOf 9) (List.drop 3 [c0, c1, c2, c3, c4, c5, c6, c7, c8])) = some y3 := hf 3 _ rfl
      rw [c_9] at g3
      have h3 : DataW.trod enc Try.prog w base spare held m 9 [c3] = some y3 := g3
      clear g3
      have g4 : DataW.trod enc Try.prog w base spare held m 3 (List.take (Try.prog.cellsOf 3) (List.drop 4 [c0, c1, c2, c3, c4, c5, c6, c7, c8])) = some y4 := hf 4 _ rfl
      rw [c_3] at g4
      have h4 : DataW.trod enc Try.prog w base spare held m 3 [c4] = some y4 := g4
      clear g4
      have g5 : DataW.trod enc Try.prog w base spare held m 3 (List.take (Try.prog.cellsOf 3) (List.drop 5 [c0, c1, c2, c3, c4, c5, c6, c7, c8])) = some y5 := hf 5 _ rfl
      rw [c_3] at g5
      have h5 : DataW.trod enc Try.prog w base spare held m 3 [c5] = some y5 := g5
      clear g5
      have g6 : DataW.trod enc Try.prog w base spare held m 4 (List.take (Try.prog.cellsOf 4) (List.drop 6 [c0, c1, c2, c3, c4, c5, c6, c7, c8])) = some y6 := hf 6 _ rfl
      rw [c_4] at g6
      have h6 : DataW.trod enc Try.prog w base spare held m 4 [c6] = some y6 := g6
      clear g6
      have g7 : DataW.trod enc Try.prog w base spare held m 4 (List.take (Try.prog.cellsOf 4) (List.drop 7 [c0, c1, c2, c3, c4, c5, c6, c7, c8])) = some y7 := hf 7 _ rfl
      rw [c_4] at g7
      have h7 : DataW.trod enc Try.prog w base spare held m 4 [c7] = some y7 := g7
      clear g7
      have g8 : DataW.trod enc Try.prog w base spare held m 4 (List.take (Try.prog.cellsOf 4) (List.drop 8 [c0, c1, c2, c3, c4, c5, c6, c7, c8])) = some y8 := hf 8 _ rfl
      rw [c_4] at g8
      have h8 : DataW.trod enc Try.prog w base spare held m 4 [c8] = some y8 := g8
      clear g8
      obtain ⟨x0, e0, _, z0⟩ := DataW.trod_string Try.underlying9 h0
      obtain rfl : c0 = .string x0 := by simpa using e0
      obtain ⟨x1, e1, _, z1⟩ := DataW.trod_string Try.underlying9 h1
      obtain rfl : c1 = .string x1 := by simpa using e1
      obtain ⟨x2, e2, _, z2⟩ := DataW.trod_string Try.underlying9 h2
      obtain rfl : c2 = .string x2 := by simpa using e2
      obtain ⟨x3, e3, _, z3⟩ := DataW.trod_string Try.underlying9 h3
      obtain rfl : c3 = .string x3 := by simpa using e3
      obtain ⟨x4, e4, _, z4⟩ := DataW.trod_int Try.underlying3 h4
      obtain rfl : c4 = .int .i64 x4 := by simpa using e4
      obtain ⟨x5, e5, _, z5⟩ := DataW.trod_int Try.underlying3 h5
      obtain rfl : c5 = .int .i64 x5 := by simpa using e5
      obtain ⟨x6, e6, _⟩ := DataW.trod_bool Try.underlying4 h6
      obtain rfl : c6 = .bool x6 := by simpa using e6
      obtain ⟨x7, e7, _⟩ := DataW.trod_bool Try.underlying4 h7
      obtain rfl : c7 = .bool x7 := by simpa using e7
      obtain ⟨x8, e8, _⟩ := DataW.trod_bool Try.underlying4 h8
      obtain rfl : c8 = .bool x8 := by simpa using e8
      exact ⟨x0, x1, x2, x3, x4, x5, x6, x7, x8, rfl, z0, z1, z2, z3, z4, z5⟩
def Pure : Prop := ∀ (a0_0 : ByteArray) (a0_1 : ByteArray) (a0_2 : ByteArray) (a0_3 : ByteArray) (a0_4 : Int) (a0_5 : Int) (a0_6 : Bool) (a0_7 : Bool) (a0_8 : Bool), a0_0.size ≤ maxLen → a0_1.size ≤ maxLen → a0_2.size ≤ maxLen → a0_3.size ≤ maxLen → (Lit.int .i64 a0_4).wf = true → (Lit.int .i64 a0_5).wf = true → ∃ k, laws_FnCookieSays.f k a0_0 a0_1 a0_2 a0_3 a0_4 a0_5 a0_6 a0_7 a0_8 = some true
end Go.Proofs.Ytfbllodbcmcndaa.StFnCookieSays
end
section
namespace Go.Proofs.Ytfbllodbcmcndaa.Q
open Go.RowKit Go.Proofs.YtfbllodbcmcndaaW.PrintWords Go.Proofs.YtfbllodbcmcndaaW.PrintLast Go.Proofs.YtfbllodbcmcndaaW.PrintMore
attribute [local go_sem] max2_int min2_int max_two min_two max_three min_three max_four min_four
set_option linter.unusedVariables false
set_option linter.unusedSimpArgs false
def laws_holds.l0 : Nat → ByteArray → Int → Int → Int → Option (Bool)
  | 0, _, _, _, _ => none
  | k + 1, x0, x1, x7, x8 => if x8 < x7 then (if 0 ≤ x8 then (if x8 < (x0.size : Int) then (if (bt x0 x8) = x1 then (some true) else (laws_holds.l0 k x0 x1 x7 (wrap64 (x8 + 1)))) else (none)) else (none)) else (some false)
def laws_holds.f (k : Nat) (a0 : ByteArray) (a1 : Int) : Option (Bool) := laws_holds.l0 k a0 a1 (a0.size : Int) 0
end Go.Proofs.Ytfbllodbcmcndaa.Q
end
section
namespace Go.Proofs.Ytfbllodbcmcndaa.SpA
open Go.RowKit Go.Proofs.Ytfbllodbcmcndaa.Q Go.Proofs.YtfbllodbcmcndaaW.PrintWords Go.Proofs.YtfbllodbcmcndaaW.PrintLast Go.Proofs.YtfbllodbcmcndaaKit
set_option linter.unusedVariables false
set_option linter.unusedSimpArgs false
theorem holds_l (s : ByteArray) (x : Int) (hs : s.size ≤ 140737488351232) : ∀ (suf pre : List UInt8), L s = pre ++ suf → Ev (fun k => laws_holds.l0 k s x s.size pre.length) (suf.any (fun c => decide ((c.toNat : Int) = x)))
  | [], pre, h => Ev.step (f := fun _ => some false) (fun k => by simp only [laws_holds.l0]; rw [if_neg (sz_not h)]) (Ev.now _)
  | c :: t, pre, h => by
    rw [List.any_cons]
    by_cases c1 : (c.toNat : Int) = x
    · rw [decide_eq_true c1, Bool.true_or]
      refine Ev.step (f := fun _ => some true) (fun k => ?_) (Ev.now _)
      simp only [laws_holds.l0]
      rw [if_pos (sz_mid h), if_pos (by omega), if_pos (sz_mid h), bt_mid h, if_pos c1]
    · rw [decide_eq_false c1, Bool.false_or]
      refine Ev.step (fun k => ?_) (holds_l s x hs t (pre ++ [c]) (mid_next h))
      simp only [laws_holds.l0]
      rw [if_pos (sz_mid h), if_pos (by omega), if_pos (sz_mid h), bt_mid h, if_neg c1, wrap_mid h hs]
theorem holds (s : ByteArray) (x : Int) (hs : s.size ≤ 140737488351232) : Ev (fun k => laws_holds.f k s x) ((L s).any (fun c => decide ((c.toNat : Int) = x))) := holds_l s x hs (L s) [] rfl
end Go.Proofs.Ytfbllodbcmcndaa.SpA
end
section
namespace Go.Proofs.Ytfbllodbcmcndaa.SpA
open Go.RowKit Go.Proofs.Ytfbllodbcmcndaa.Q Go.Proofs.YtfbllodbcmcndaaW.PrintWords Go.Proofs.YtfbllodbcmcndaaW.PrintLast Go.Proofs.YtfbllodbcmcndaaKit
set_option linter.unusedVariables false
set_option linter.unusedSimpArgs false
abbrev HX : ByteArray := ⟨#[48, 49, 50, 51, 52, 53, 54, 55, 56, 57, 65, 66, 67, 68, 69, 70]⟩
def hexU (n : Nat) : UInt8 := (L HX).getD n 0
theorem and15 : ∀ c : Fin 256, Go.bits .and .u8 ((c : Nat) : Int) 15 = (((c : Nat) % 16 : Nat) : Int) := by decide +kernel
theorem and15' (c : UInt8) : Go.bits .and .u8 (c.toNat : Int) 15 = ((c.toNat % 16 : Nat) : Int) := and15 ⟨c.toNat, c.toNat_lt⟩
theorem hi_nib (c : UInt8) : (c.toNat : Int) / 16 = ((c.toNat / 16 : Nat) : Int) := by omega
def unr (c : UInt8) : Bool := (spec_unreserved.f (c.toNat : Int)).getD false
theorem unres : ∀ c : Fin 256, spec_unreserved.f ((c : Nat) : Int) = some (unr (UInt8.ofNat c)) := by decide +kernel
theorem hx_cut : ∀ d : Fin 16, ((L HX).drop d).take (((d : Nat) + 1) - d) = [hexU d] := by decide +kernel
theorem hexcut (n : Nat) (h : n < 16) : L (HX.extract n (n + 1)) = [hexU n] := by rw [L_extract]; exact hx_cut ⟨n, h⟩
structure Asked (lst : ByteArray) (keep : UInt8 → Bool) : Prop where
  ev : ∀ c : UInt8, ∃ i : Int, Ev (fun k => spec_indexOf.f k lst (c.toNat : Int)) i ∧ (unr c || decide (i ≥ 0)) = keep c
theorem asked_one (x : UInt8) : Asked ⟨#[x]⟩ fun c => unr c || decide (x = c) := by
  refine ⟨fun c => ?_⟩
  by_cases h : x = c
  · subst h
    refine ⟨0, ?_, by simp⟩
    unfold spec_indexOf.f
    refine Ev.step (f := fun _ => some 0) (fun k => ?_) (Ev.now _)
    simp only [spec_indexOf.l0]
    rw [if_pos (show (0 : Int) < ((⟨#[x]⟩ : ByteArray).size : Int) from (by decide : (0 : Int) < ((1 : Nat) : Int))), if_pos (by decide), if_pos]
    exact bt_nat ⟨#[x]⟩ 0 (Nat.one_pos)
  · refine ⟨-1, ?_, by simp [h]⟩
    unfold spec_indexOf.f
    refine Ev.step (f := fun k => spec_indexOf.l0 k ⟨#[x]⟩ (c.toNat : Int) 1) (fun k => ?_) (Ev.step (f := fun _ => some (-1)) (fun k => ?_) (Ev.now _))
    · simp only [spec_indexOf.l0]
      rw [if_pos (show (0 : Int) < ((⟨#[x]⟩ : ByteArray).size : Int) from (by decide : (0 : Int) < ((1 : Nat) : Int))), if_pos (by decide), if_neg, wrap_id (by decide) (by decide)]
      · rfl
      · rw [show bt ⟨#[x]⟩ 0 = (x.toNat : Int) from bt_nat ⟨#[x]⟩ 0 (Nat.one_pos)]
        exact fun e => h (UInt8.toNat_inj.1 (by omega))
    · simp only [spec_indexOf.l0]
      rw [if_neg (show ¬ (1 : Int) < ((⟨#[x]⟩ : ByteArray).size : Int) from (by decide : ¬ (1 : Int) < ((1 : Nat) : Int)))]
def escB (keep : UInt8 → Bool) (blank : List UInt8) (c : UInt8) : List UInt8 :=
  if keep c then [c] else if c = 32 ∧ blank ≠ [] then blank else [37, hexU (c.toNat / 16), hexU (c.toNat % 16)]
theorem pct (c : UInt8) : L ((((⟨#[37]⟩ : ByteArray) ++ (HX.extract ((c.toNat : Int) / 16 : Int).toNat ((((c.toNat : Int) / 16) + 1) % 256 : Int).toNat)) ++ (HX.extract (Go.bits .and .u8 (c.toNat : Int) 15 : Int).toNat (((Go.bits .and .u8 (c.toNat : Int) 15) + 1) % 256 : Int).toNat))) = [37, hexU (c.toNat / 16), hexU (c.toNat % 16)] := by
  have hc := c.toNat_lt
  rw [and15', hi_nib]
  rw [show (((c.toNat / 16 : Nat) : Int)).toNat = c.toNat / 16 by omega, show ((((c.toNat / 16 : Nat) : Int) + 1) % 256).toNat = c.toNat / 16 + 1 by omega, show (((c.toNat % 16 : Nat) : Int)).toNat = c.toNat % 16 by omega, show ((((c.toNat % 16 : Nat) : Int) + 1) % 256).toNat = c.toNat % 16 + 1 by omega]
  rw [L_append, L_append, hexcut _ (by omega), hexcut _ (by omega)]
  rfl
theorem quoted_l (s lst blank : ByteArray) (keep : UInt8 → Bool) (hk : Asked lst keep) (hs : s.size ≤ 1000000) (hb : blank.size ≤ 3) : ∀ (suf pre : List UInt8) (acc : ByteArray), L s = pre ++ suf → acc.size + 3 * suf.length ≤ 100000000 →
    ∃ r, Ev (fun k => spec_quoted.l0 k s lst blank acc (pre.length : Int)) r ∧ L r = L acc ++ suf.flatMap (escB keep (L blank))
  | [], pre, acc, h, hl => ⟨acc, Ev.step (f := fun _ => some acc) (fun k => by simp only [spec_quoted.l0]; rw [if_neg (sz_not h)]) (Ev.now _), by simp⟩
  | c :: t, pre, acc, h, hl => by
    have hc := c.toNat_lt
    simp only [List.length_cons] at hl
    have hw := wrap_mid h (by omega)
    have hsz : s.size = pre.length + t.length + 1 := by rw [size_L, h]; simp; omega
    obtain ⟨i, hi, hik⟩ := hk.ev c
    have hgo : ∀ b : ByteArray, b.size ≤ 3 → L b = escB keep (L blank) c → ∃ r, Ev (fun k => spec_quoted.l0 k s lst blank (acc ++ b) ((pre ++ [c]).length : Int)) r ∧ L r = L acc ++ (c :: t).flatMap (escB keep (L blank)) := by
      intro b hb3 hbe
      obtain ⟨r, hr, he⟩ := quoted_l s lst blank keep hk hs hb t (pre ++ [c]) (acc ++ b) (mid_next h) (by rw [size_append]; omega)
      exact ⟨r, hr, by rw [he, L_append, hbe]; simp⟩
    have hj : ∃ r, Ev (fun k => spec_quoted.j1 k s lst blank acc (pre.length : Int) (c.toNat : Int) (keep c)) r ∧ L r = L acc ++ (c :: t).flatMap (escB keep (L blank)) := by
      by_cases hkc : keep c = true
      · have hx : L (s.extract pre.length (pre.length + 1)) = [c] := by rw [L_extract, h]; simp
        obtain ⟨r, hr, he⟩ := hgo (s.extract pre.length (pre.length + 1)) (by rw [size_L, hx]; simp) (by rw [hx, escB, if_pos hkc])
        refine ⟨r, Ev.step (fun k => ?_) hr, he⟩
        simp only [spec_quoted.j1]
        rw [if_pos hkc, if_pos (by omega), hw, if_pos (by simp; omega), if_pos (by simp; omega), if_pos (by simp; omega)]
        simp
      · have h37 : ∀ (hne : ¬ (c = 32 ∧ L blank ≠ [])), ∃ r, Ev (fun k => spec_quoted.l0 k s lst blank (acc ++ (((⟨#[37]⟩ : ByteArray) ++ (HX.extract ((c.toNat : Int) / 16 : Int).toNat ((((c.toNat : Int) / 16) + 1) % 256 : Int).toNat)) ++ (HX.extract (Go.bits .and .u8 (c.toNat : Int) 15 : Int).toNat (((Go.bits .and .u8 (c.toNat : Int) 15) + 1) % 256 : Int).toNat))) ((pre ++ [c]).length : Int)) r ∧ L r = L acc ++ (c :: t).flatMap (escB keep (L blank)) := by
          intro hne
          exact hgo _ (by rw [size_L, pct]; simp) (by rw [pct, escB, if_neg hkc, if_neg hne])
        have e15 := and15' c
        have hsml : (Go.bits .and .u8 (c.toNat : Int) 15) ≤ 15 ∧ 0 ≤ (Go.bits .and .u8 (c.toNat : Int) 15) := by rw [e15]; omega
        by_cases h32 : c = 32
        · by_cases hbl : L blank = []
          · obtain ⟨r, hr, he⟩ := h37 (fun e => e.2 hbl)
            refine ⟨r, Ev.step (fun k => ?_) hr, he⟩
            simp only [spec_quoted.j1]
            rw [if_neg hkc, if_pos (by rw [h32]; rfl), if_pos (by rw [tl]; exact hbl), if_pos (by omega), if_pos (by omega), if_pos (by omega), if_pos (by omega), if_pos (by omega), if_pos (by omega), if_pos (by omega), if_pos (by omega), if_pos (by omega), hw]
          · obtain ⟨r, hr, he⟩ := hgo blank hb (by rw [escB, if_neg hkc, if_pos ⟨h32, hbl⟩])
            refine ⟨r, Ev.step (fun k => ?_) hr, he⟩
            simp only [spec_quoted.j1]
            rw [if_neg hkc, if_pos (by rw [h32]; rfl), if_neg (by rw [tl]; exact hbl), if_pos (by omega), hw]
        · obtain ⟨r, hr, he⟩ := h37 (fun e => h32 e.1)
          refine ⟨r, Ev.step (fun k => ?_) hr, he⟩
          simp only [spec_quoted.j1]
          rw [if_neg hkc, if_neg (fun e => h32 (UInt8.toNat_inj.1 (show c.toNat = (32 : UInt8).toNat from by show c.toNat = 32; omega))), if_pos (by omega), if_pos (by omega), if_pos (by omega), if_pos (by omega), if_pos (by omega), if_pos (by omega), if_pos (by omega), if_pos (by omega), if_pos (by omega), hw]
    obtain ⟨r, hr, he⟩ := hj
    refine ⟨r, ?_, he⟩
    refine Ev.step (fun k => by simp only [spec_quoted.l0]; rw [if_pos (sz_mid h), if_pos (by omega), bt_mid h, unres ⟨c.toNat, c.toNat_lt⟩, Option.bind_some, show UInt8.ofNat ((⟨c.toNat, c.toNat_lt⟩ : Fin 256) : Nat) = c by simp]) ?_
    by_cases hu : unr c = true
    · rw [hu, Bool.true_or] at hik
      refine Ev.pos hu ?_
      rw [hik]; exact hr
    · rw [Bool.eq_false_iff.2 hu, Bool.false_or] at hik
      refine Ev.neg hu (Ev.call hi ?_)
      rw [hik]; exact hr
def good (c : UInt8) : Prop := c ≠ 59 ∧ c ≠ 61 ∧ c ≠ 32 ∧ c ≠ 34
def gtok (l : List UInt8) : Prop := l ≠ [] ∧ ∀ c ∈ l, good c
theorem good_of {c : UInt8} (h : (c.toNat : Int) ≠ 59 ∧ (c.toNat : Int) ≠ 61 ∧ (c.toNat : Int) ≠ 32 ∧ (c.toNat : Int) ≠ 34) : good c :=
  ⟨fun e => h.1 (by rw [e]; rfl), fun e => h.2.1 (by rw [e]; rfl), fun e => h.2.2.1 (by rw [e]; rfl), fun e => h.2.2.2 (by rw [e]; rfl)⟩
set_option maxRecDepth 100000 in
set_option maxHeartbeats 4000000 in
theorem stok_l (s : ByteArray) (hs : s.size ≤ 140737488351232) : ∀ (suf pre : List UInt8), L s = pre ++ suf → ∃ b, Ev (fun k => spec_token.l0 k s pre.length) b ∧ (b = true → L s ≠ [] ∧ ∀ c ∈ suf, good c)
  | [], pre, h => ⟨_, Ev.step (f := fun _ => some (s.toList != [])) (fun k => by simp only [spec_token.l0]; rw [if_neg (sz_not h)]) (Ev.now _), fun e => ⟨by rw [← tl]; exact bne_iff_ne.1 e, by simp⟩⟩
  | c :: t, pre, h => by
    obtain ⟨b, hb, hg⟩ := stok_l s hs t (pre ++ [c]) (mid_next h)
    have two : ((∀ k, spec_token.l0 (k + 1) s pre.length = spec_token.l0 k s (pre ++ [c]).length) ∧ good c) ∨ ∀ k, spec_token.l0 (k + 1) s pre.length = some false := by
      have key : ∀ (z : Int), ((∀ k, spec_token.l0 (k + 1) s pre.length = spec_token.l0 k s (pre ++ [c]).length) ∧ (z ≠ 59 ∧ z ≠ 61 ∧ z ≠ 32 ∧ z ≠ 34)) ∨ (∀ k, spec_token.l0 (k + 1) s pre.length = some false) ∨ z ≠ (c.toNat : Int) := by
        intro z
        by_cases hz : z = (c.toNat : Int)
        · simp only [spec_token.l0]
          have e1 : ((pre.length : Int) < (s.size : Int)) = True := eq_true (sz_mid h)
          have e2 : (0 ≤ (pre.length : Int)) = True := eq_true (by omega)
          simp only [e1, e2, if_true, bt_mid h, wrap_mid h hs, ← hz]
          clear hb hg hz
          by_cases c1 : z < 97 <;> by_cases c2 : z < 65 <;> by_cases c3 : z < 48 <;> by_cases c4 : z > 57 <;> by_cases c5 : z > 90 <;> by_cases c6 : z > 122 <;> simp only [c1, c2, c3, c4, c5, c6, if_true, if_false] <;> first
            | (exact .inl ⟨fun _ => rfl, by omega⟩)
            | (exact .inl ⟨fun _ => trivial, by omega⟩)
            | (exact .inr (.inl fun _ => trivial))
            | (exact .inr (.inl fun _ => rfl))
            | (by_cases d1 : z = 45
               · exact .inl ⟨fun k => by simp [d1], by omega⟩
               · by_cases d2 : z = 46
                 · exact .inl ⟨fun k => by simp [d2], by omega⟩
                 · by_cases d3 : z = 95
                   · exact .inl ⟨fun k => by simp [d3], by omega⟩
                   · by_cases d4 : z = 126
                     · exact .inl ⟨fun k => by simp [d4], by omega⟩
                     · exact .inr (.inl fun k => by simp [d1, d2, d3, d4]))
        · exact .inr (.inr hz)
      rcases key (c.toNat : Int) with ⟨h1, h2⟩ | h1 | h1
      · exact .inl ⟨h1, good_of h2⟩
      · exact .inr h1
      · exact absurd rfl h1
    rcases two with ⟨h1, h2⟩ | h1
    · exact ⟨b, Ev.step h1 hb, fun e => ⟨(hg e).1, fun x hx => (List.mem_cons.1 hx).elim (fun e2 => by rw [e2]; exact h2) (fun e2 => (hg e).2 x e2)⟩⟩
    · exact ⟨false, Ev.step (f := fun _ => some false) h1 (Ev.now _), fun e => by cases e⟩
theorem stok (s : ByteArray) (hs : s.size ≤ 140737488351232) : ∃ b, Ev (fun k => spec_token.f k s) b ∧ (b = true → gtok (L s)) := stok_l s hs (L s) [] rfl
theorem quoted_any (s : ByteArray) (h : s.size ≤ 1000000) : ∃ r, Ev (fun k => spec_quoted.f k s (⟨#[47]⟩ : ByteArray) (⟨#[]⟩ : ByteArray)) r := by
  obtain ⟨r, hr, _⟩ := quoted_l s ⟨#[47]⟩ ⟨#[]⟩ _ (asked_one 47) h (by decide) (L s) [] ⟨#[]⟩ rfl (by rw [← size_L, show (⟨#[]⟩ : ByteArray).size = 0 from rfl]; omega)
  exact ⟨r, hr⟩
end Go.Proofs.Ytfbllodbcmcndaa.SpA
end
section
namespace Go.Proofs.Ytfbllodbcmcndaa.SpA
open Go.RowKit Go.Proofs.Ytfbllodbcmcndaa.Q Go.Proofs.YtfbllodbcmcndaaW.PrintWords Go.Proofs.YtfbllodbcmcndaaW.PrintLast Go.Proofs.YtfbllodbcmcndaaKit
set_option linter.unusedVariables false
set_option linter.unusedSimpArgs false
theorem short_l (ys xs : List ByteArray) (hx : xs.length ≤ 9223372036854775807) : ∀ (suf pre : List ByteArray), xs = pre ++ suf → Ev (fun k => laws_short.l0 k ys xs xs.length pre.length) (suf.all (fun s => decide (s.size ≤ 2000)) && decide (ys.length ≤ 60))
  | [], pre, h => by
    refine Ev.step (f := fun _ => some (decide ((ys.length : Int) ≤ 60))) (fun k => by simp only [laws_short.l0]; rw [if_neg (ln_not h)]) (Ev.same (Ev.now _) ?_)
    rw [List.all_nil, Bool.true_and]
    exact decide_eq_decide.2 (by omega)
  | p :: t, pre, h => by
    have e : rdOf ByteArray.empty xs pre.length = p := get_mid h _
    rw [List.all_cons]
    by_cases c : p.size ≤ 2000
    · rw [decide_eq_true c, Bool.true_and]
      refine Ev.step (fun k => ?_) (short_l ys xs hx t (pre ++ [p]) (lmid_next h))
      simp only [laws_short.l0]
      rw [if_pos (ln_mid h), if_pos (by omega), if_pos (ln_mid h), e, if_neg (by omega), wrap_lmid h hx]
    · rw [decide_eq_false c, Bool.false_and, Bool.false_and]
      refine Ev.step (f := fun _ => some false) (fun k => ?_) (Ev.now _)
      simp only [laws_short.l0]
      rw [if_pos (ln_mid h), if_pos (by omega), if_pos (ln_mid h), e, if_pos (by omega)]
end Go.Proofs.Ytfbllodbcmcndaa.SpA
end
section
namespace Go.Proofs.Ytfbllodbcmcndaa.SpA
open Go.RowKit Go.Proofs.Ytfbllodbcmcndaa.Q Go.Proofs.YtfbllodbcmcndaaW.PrintWords Go.Proofs.YtfbllodbcmcndaaW.PrintLast Go.Proofs.YtfbllodbcmcndaaKit
set_option linter.unusedVariables false
set_option linter.unusedSimpArgs false
theorem fits11 (a0 a1 a2 a3 : ByteArray) (a4 a5 : Int) (a6 a7 a8 : Bool) : ∃ b, laws_zzFits11.f a0 a1 a2 a3 a4 a5 a6 a7 a8 = some b ∧ (b = true → a0.size ≤ 2147483647 ∧ a1.size ≤ 2147483647 ∧ a2.size ≤ 2147483647 ∧ a3.size ≤ 2147483647) := by
  unfold laws_zzFits11.f
  split
  · exact ⟨false, rfl, fun e => by cases e⟩
  split
  · exact ⟨false, rfl, fun e => by cases e⟩
  split
  · exact ⟨false, rfl, fun e => by cases e⟩
  split
  · exact ⟨false, rfl, fun e => by cases e⟩
  exact ⟨true, rfl, fun _ => by omega⟩
theorem ck_ab : impl_CookieText.f (⟨#[97]⟩ : ByteArray) (⟨#[98]⟩ : ByteArray) (⟨#[]⟩ : ByteArray) (⟨#[]⟩ : ByteArray) 0 0 false false false = some ⟨#[97, 61, 98]⟩ := by
  unfold impl_CookieText.f
  rw [if_pos (by decide)]
  rfl
theorem short4 (a b c d : ByteArray) : Ev (fun k => laws_short.f k [a, b, c, d]) (decide (a.size ≤ 2000 ∧ b.size ≤ 2000 ∧ c.size ≤ 2000 ∧ d.size ≤ 2000)) :=
  Ev.same (short_l [a, b, c, d] [a, b, c, d] (by simp) [a, b, c, d] [] rfl) (by
    simp only [List.all_cons, List.all_nil, Bool.and_true, List.length_cons, List.length_nil]
    rw [show decide (0 + 1 + 1 + 1 + 1 ≤ 60) = true by decide, Bool.and_true]
    simp only [Bool.decide_and])
end Go.Proofs.Ytfbllodbcmcndaa.SpA
end
section
namespace Go.Proofs.Ytfbllodbcmcndaa.SpA
open Go.RowKit Go.Proofs.Ytfbllodbcmcndaa.Q Go.Proofs.YtfbllodbcmcndaaW.PrintWords Go.Proofs.YtfbllodbcmcndaaW.PrintLast Go.Proofs.YtfbllodbcmcndaaKit
set_option linter.unusedVariables false
set_option linter.unusedSimpArgs false
theorem one_dig (d : Nat) (h : d < 10) : strOfNums ([(wrap64 (48 + (d : Int))) % 256] : List Int) = ⟨#[UInt8.ofNat (48 + d)]⟩ := by
  have : ([(wrap64 (48 + (d : Int))) % 256] : List Int) = toI [UInt8.ofNat (48 + d)] := by
    simp only [toI, List.map_cons, List.map_nil, (isD_dig d h).2]
    congr 1
    rw [wrap_id (by omega) (by omega)]
    omega
  rw [this]
  exact ext (by rw [L_strOf])
theorem decimal_ev : ∀ (m n : Nat), n < 10 ^ (m + 1) → m ≤ 18 → n ≤ 9223372036854775807 → ∃ s, Ev (fun k => spec_decimal.f k (n : Int)) s ∧ L s = decU n := by
  intro m
  induction m with
  | zero =>
    intro n h _ hn
    have h10 : n < 10 := by omega
    have hr : Int.tmod (n : Int) 10 = (n : Int) := by rw [Int.tmod_eq_emod_of_nonneg (by omega)]; omega
    refine ⟨_, Ev.step (f := fun _ => some (strOfNums ([(wrap64 (48 + (n : Int))) % 256] : List Int))) (fun k => ?_) (Ev.now _), ?_⟩
    · simp only [spec_decimal.f]
      rw [if_pos (by omega), hr]
    · rw [one_dig n h10, decU, dif_pos h10]
  | succ m ih =>
    intro n h hm hn
    have hr : Int.tmod (n : Int) 10 = ((n % 10 : Nat) : Int) := by rw [Int.tmod_eq_emod_of_nonneg (by omega)]; omega
    by_cases c : n < 10
    · have hr2 : n % 10 = n := by omega
      refine ⟨_, Ev.step (f := fun _ => some (strOfNums ([(wrap64 (48 + (n : Int))) % 256] : List Int))) (fun k => ?_) (Ev.now _), ?_⟩
      · simp only [spec_decimal.f]
        rw [if_pos (by omega), hr, hr2]
      · rw [one_dig n c, decU, dif_pos c]
    · obtain ⟨s, hs, he⟩ := ih (n / 10) (by rw [Nat.pow_succ] at h; omega) (by omega) (by omega)
      have hsz : s.size ≤ 19 := by
        rw [size_L, he]
        exact Nat.le_trans (decU_len m (n / 10) (by rw [Nat.pow_succ] at h; omega)) (by omega)
      have hq : Int.tdiv (n : Int) 10 = ((n / 10 : Nat) : Int) := by rw [Int.tdiv_eq_ediv_of_nonneg (by omega)]; omega
      have hd := one_dig (n % 10) (by omega)
      have hdiv : ((n / 10 : Nat) : Int) ≤ 9223372036854775807 := by omega
      refine ⟨s ++ ⟨#[UInt8.ofNat (48 + n % 10)]⟩, ?_, ?_⟩
      · refine Ev.step (fun k => ?_) (Ev.call (f := fun _ t => if t.size + (⟨#[UInt8.ofNat (48 + n % 10)]⟩ : ByteArray).size ≤ 9223372036854775807 then some (t ++ ⟨#[UInt8.ofNat (48 + n % 10)]⟩) else none) hs (Ev.pos (show s.size + 1 ≤ 9223372036854775807 by omega) (Ev.now _)))
        simp only [spec_decimal.f]
        rw [if_neg (by omega), hr, hq, wrap_id (x := ((n / 10 : Nat) : Int)) (by omega) (by omega)]
        simp only [Option.bind_some, hd]
      · rw [L_append, he]
        conv => rhs; rw [decU, dif_neg c]
end Go.Proofs.Ytfbllodbcmcndaa.SpA
end
section
namespace Go.Proofs.Ytfbllodbcmcndaa.SpA
open Go.RowKit Go.Proofs.Ytfbllodbcmcndaa.Q Go.Proofs.YtfbllodbcmcndaaW.PrintWords Go.Proofs.YtfbllodbcmcndaaW.PrintLast Go.Proofs.YtfbllodbcmcndaaKit
set_option linter.unusedVariables false
set_option linter.unusedSimpArgs false
abbrev bl (l : List UInt8) : ByteArray := ⟨l.toArray⟩
theorem L_bl (l : List UInt8) : L (bl l) = l := by simp [L, bl]
theorem ev_le' {α : Type} {f : Nat → Option α} {r : α} (h : ∀ k, LeO (f k) (f (k + 1))) (k0 : Nat) (e : f k0 = some r) : Ev f r :=
  ⟨k0, fun k hk => by
    obtain ⟨d, rfl⟩ := Nat.exists_eq_add_of_le hk
    clear hk
    induction d with
    | zero => exact e
    | succ d ih => exact h _ r ih⟩
def hv (c : UInt8) : Int := if hx c = 16 then -1 else hx c
theorem hex_all : ∀ c : Fin 256, spec_hexOf.f 4 ((c : Nat) : Int) = some (if bt tab1 ((c : Nat) : Int) = 16 then -1 else bt tab1 ((c : Nat) : Int)) := by decide +kernel
theorem hex_ev (c : UInt8) : Ev (fun k => spec_hexOf.f k (c.toNat : Int)) (hv c) := ev_le' (fun k => spec_hexOf.mono _ k) 4 (hex_all ⟨c.toNat, c.toNat_lt⟩)
theorem hv_neg (c : UInt8) : hv c < 0 ↔ hx c = 16 := by
  have := hx_range c
  unfold hv
  split <;> omega
theorem bt_two {s : ByteArray} {pre t : List UInt8} {c d : UInt8} (h : L s = pre ++ c :: d :: t) (x : Int) (hx : x = (pre.length : Int) + 1) : bt s x = (d.toNat : Int) := by
  have := bt_mid (s := s) (pre := pre ++ [c]) (c := d) (t := t) (by rw [h]; simp)
  rw [← this]
  congr 1
  rw [hx]; simp
theorem bt_three {s : ByteArray} {pre t : List UInt8} {c d e : UInt8} (h : L s = pre ++ c :: d :: e :: t) (x : Int) (hx : x = (pre.length : Int) + 2) : bt s x = (e.toNat : Int) := by
  have := bt_mid (s := s) (pre := pre ++ [c, d]) (c := e) (t := t) (by rw [h]; simp)
  rw [← this]
  congr 1
  rw [hx]; simp
theorem sound_l (s : ByteArray) (hs : s.size ≤ 2147483647) : ∀ (suf pre : List UInt8), L s = pre ++ suf → ∃ b, Ev (fun k => spec_Sound.l0 k s (pre.length : Int)) b
  | [], pre, h => ⟨true, Ev.step (f := fun _ => some true) (fun k => by simp only [spec_Sound.l0]; rw [if_neg (sz_not h)]) (Ev.now _)⟩
  | c :: t, pre, h => by
    obtain ⟨b, ih⟩ := sound_l s hs t (pre ++ [c]) (mid_next h)
    have hsz : s.size = pre.length + (t.length + 1) := by rw [size_L, h]; simp
    have w1 : wrap64 ((pre.length : Int) + 1) = ((pre ++ [c]).length : Int) := wrap_mid h (by omega)
    have hl1 : ((pre ++ [c]).length : Int) = (pre.length : Int) + 1 := by simp
    have w2 : wrap64 ((pre.length : Int) + 2) = (pre.length : Int) + 2 := wrap_id (by omega) (by omega)
    by_cases hc : (c.toNat : Int) = 37
    · by_cases h2 : (pre.length : Int) + 2 ≥ (s.size : Int)
      · refine ⟨false, Ev.step (f := fun _ => some false) (fun k => ?_) (Ev.now _)⟩
        simp only [spec_Sound.l0]
        rw [if_pos (sz_mid h), if_pos (by omega), bt_mid h, if_pos hc, w2, if_pos h2]
      · match t, h, hsz, ih with
        | [], h, hsz, ih => simp at hsz; omega
        | [d], h, hsz, ih => simp at hsz; omega
        | x :: y :: r, h, hsz, ih =>
          have hbx : bt s ((pre ++ [c]).length : Int) = (x.toNat : Int) := bt_two h _ hl1
          have hby : bt s ((pre.length : Int) + 2) = (y.toNat : Int) := bt_three h _ rfl
          have base : ∀ k, spec_Sound.l0 (k + 1) s (pre.length : Int) = (spec_hexOf.f k (x.toNat : Int)).bind fun t173 => if t173 < 0 then some false else (spec_hexOf.f k (y.toNat : Int)).bind fun t174 => if t174 < 0 then some false else spec_Sound.l0 k s ((pre ++ [c]).length : Int) := fun k => by
            simp only [spec_Sound.l0]
            rw [if_pos (sz_mid h), if_pos (by omega), bt_mid h, if_pos hc, w2, if_neg h2, w1, if_pos (by omega), if_pos (by omega), hbx, hby]
            simp only [if_pos (show (0 : Int) ≤ (pre.length : Int) + 2 by omega), if_pos (show (pre.length : Int) + 2 < (s.size : Int) by omega)]
          by_cases a1 : hv x < 0
          · exact ⟨false, Ev.step base (Ev.call (hex_ev x) (Ev.pos a1 (Ev.now _)))⟩
          · by_cases a2 : hv y < 0
            · exact ⟨false, Ev.step base (Ev.call (hex_ev x) (Ev.neg a1 (Ev.call (hex_ev y) (Ev.pos a2 (Ev.now _)))))⟩
            · exact ⟨b, Ev.step base (Ev.call (hex_ev x) (Ev.neg a1 (Ev.call (hex_ev y) (Ev.neg a2 ih))))⟩
    · refine ⟨b, Ev.step (fun k => ?_) ih⟩
      simp only [spec_Sound.l0]
      rw [if_pos (sz_mid h), if_pos (by omega), bt_mid h, if_neg hc, w1]
theorem sound (s : ByteArray) (hs : s.size ≤ 2147483647) : ∃ b, Ev (fun k => spec_Sound.f k s) b := sound_l s hs (L s) [] rfl
theorem two_all : ∀ a b : Fin 16, Go.bits .or .u8 (((a.val : Int) * 16) % 256) (b.val : Int) = (16 * (a.val : Int) + (b.val : Int)) % 256 := by decide +kernel
theorem two_eq (x y : UInt8) (hx1 : hx x ≠ 16) (hy1 : hx y ≠ 16) : (wrap64 ((wrap64 (16 * hv x)) + hv y)) % 256 = ((hx2 x y).toNat : Int) := by
  have r1 := hx_range x
  have r2 := hx_range y
  have e1 : hv x = hx x := if_neg hx1
  have e2 : hv y = hx y := if_neg hy1
  have w0 : wrap64 (16 * hx x) = 16 * hx x := wrap_id (by omega) (by omega)
  rw [e1, e2, hx2_toI, w0, wrap_id (by omega) (by omega)]
  have h := two_all ⟨(hx x).toNat, by omega⟩ ⟨(hx y).toNat, by omega⟩
  simp only [show (((hx x).toNat : Nat) : Int) = hx x by omega, show (((hx y).toNat : Nat) : Int) = hx y by omega] at h
  exact h.symm
theorem str_bl (l : List UInt8) : strOfNums (toI l) = bl l := ext (by rw [L_strOf, L_bl])
theorem decoded_l (s : ByteArray) (hs : s.size ≤ 2147483647) : ∀ (n : Nat) (suf pre acc : List UInt8), suf.length ≤ n → L s = pre ++ suf → acc.length ≤ pre.length → Ev (fun k => spec_Decoded.l0 k s false (toI acc) (pre.length : Int)) (bl (acc ++ dec suf)) := by
  intro n
  induction n with
  | zero =>
    intro suf pre acc hn h ha
    have : suf = [] := List.length_eq_zero_iff.1 (by omega)
    subst this
    refine Ev.step (f := fun _ => some (strOfNums (toI acc))) (fun k => by simp only [spec_Decoded.l0]; rw [if_neg (sz_not h)]) (Ev.same (Ev.now _) (by rw [str_bl]; simp [dec]))
  | succ n ih =>
    intro suf pre acc hn h ha
    cases suf with
    | nil => exact Ev.step (f := fun _ => some (strOfNums (toI acc))) (fun k => by simp only [spec_Decoded.l0]; rw [if_neg (sz_not h)]) (Ev.same (Ev.now _) (by rw [str_bl]; simp [dec]))
    | cons c t =>
      have hsz : s.size = pre.length + (t.length + 1) := by rw [size_L, h]; simp
      simp only [List.length_cons] at hn
      have w1 : wrap64 ((pre.length : Int) + 1) = ((pre ++ [c]).length : Int) := wrap_mid h (by omega)
      have hl1 : ((pre ++ [c]).length : Int) = (pre.length : Int) + 1 := by simp
      have w2 : wrap64 ((pre.length : Int) + 2) = (pre.length : Int) + 2 := wrap_id (by omega) (by omega)
      have hal : (toI acc).length < 140737488355328 := by rw [toI_length]; omega
      have push : ∀ r : List UInt8, dec (c :: t) = c :: r → r = dec t → Ev (fun k => spec_Decoded.j1 k s false (toI acc) (pre.length : Int) false) (bl (acc ++ dec (c :: t))) := fun r hr hr2 => by
        have i1 := ih t (pre ++ [c]) (acc ++ [c]) (by omega) (mid_next h) (by simp; omega)
        rw [hr, hr2, show acc ++ c :: dec t = acc ++ [c] ++ dec t by simp]
        refine Ev.step (fun k => ?_) i1
        simp only [spec_Decoded.j1]
        rw [if_neg (by decide), if_pos (by omega), if_pos (sz_mid h), bt_mid h, w1, toI_snoc]
        by_cases h43 : (c.toNat : Int) = 43
        · rw [if_pos h43, if_neg (by decide), if_pos hal]
        · rw [if_neg h43, if_pos hal]
      by_cases hc : (c.toNat : Int) = 37
      · have hc' : c = 37 := UInt8.toNat_inj.1 (by have : (37 : UInt8).toNat = 37 := rfl; omega)
        by_cases h2 : (pre.length : Int) + 2 < (s.size : Int)
        · match t, h, hsz, hn, push with
          | [], h, hsz, hn, push => simp at hsz; omega
          | [d], h, hsz, hn, push => simp at hsz; omega
          | x :: y :: r, h, hsz, hn, push =>
            simp only [List.length_cons] at hsz hn
            have hbx : bt s ((pre ++ [c]).length : Int) = (x.toNat : Int) := bt_two h _ hl1
            have hby : bt s ((pre.length : Int) + 2) = (y.toNat : Int) := bt_three h _ rfl
            have hd : dec (c :: x :: y :: r) = if hx x = 16 ∨ hx y = 16 then 37 :: dec (x :: y :: r) else hx2 x y :: dec r := by rw [dec, if_pos hc']
            have base : ∀ k, spec_Decoded.l0 (k + 1) s false (toI acc) (pre.length : Int) = (spec_hexOf.f k (x.toNat : Int)).bind fun t197 => if t197 ≥ 0 then (spec_hexOf.f k (y.toNat : Int)).bind fun t198 => spec_Decoded.j1 k s false (toI acc) (pre.length : Int) (decide (t198 ≥ 0)) else spec_Decoded.j1 k s false (toI acc) (pre.length : Int) false := fun k => by
              simp only [spec_Decoded.l0]
              rw [if_pos (sz_mid h), if_pos (by omega), bt_mid h, if_pos hc, w2, if_pos h2, w1, if_pos (by omega), if_pos (by omega), hbx, hby]
              simp only [if_pos (show (0 : Int) ≤ (pre.length : Int) + 2 by omega)]
            by_cases a1 : hx x = 16
            · have n1 : hv x < 0 := (hv_neg x).2 a1
              exact Ev.step base (Ev.call (hex_ev x) (Ev.neg (by omega) (push _ (by rw [hd, if_pos (.inl a1), hc']) rfl)))
            · have n1 : ¬ hv x < 0 := fun e => a1 ((hv_neg x).1 e)
              by_cases a2 : hx y = 16
              · have n2 : hv y < 0 := (hv_neg y).2 a2
                refine Ev.step base (Ev.call (hex_ev x) (Ev.pos (by omega) (Ev.call (hex_ev y) ?_)))
                rw [decide_eq_false (by omega)]
                exact push _ (by rw [hd, if_pos (.inr a2), hc']) rfl
              · have n2 : ¬ hv y < 0 := fun e => a2 ((hv_neg y).1 e)
                refine Ev.step base (Ev.call (hex_ev x) (Ev.pos (by omega) (Ev.call (hex_ev y) ?_)))
                rw [decide_eq_true (by omega)]
                have i2 := ih r (pre ++ [c, x, y]) (acc ++ [hx2 x y]) (by omega) (by rw [h]; simp) (by simp; omega)
                have w3 : wrap64 ((pre.length : Int) + 2 + 1) = ((pre ++ [c, x, y]).length : Int) := by rw [wrap_id (by omega) (by omega)]; simp; omega
                rw [hd, if_neg (by simp [a1, a2]), show acc ++ hx2 x y :: dec r = acc ++ [hx2 x y] ++ dec r by simp]
                have b2 : ∀ k, spec_Decoded.j1 (k + 1) s false (toI acc) (pre.length : Int) true = (spec_hexOf.f k (x.toNat : Int)).bind fun t199 => (spec_hexOf.f k (y.toNat : Int)).bind fun t200 => spec_Decoded.l0 k s false (toI acc ++ [(wrap64 ((wrap64 (16 * t199)) + t200)) % 256]) ((pre ++ [c, x, y]).length : Int) := fun k => by
                  simp only [spec_Decoded.j1]
                  rw [if_pos trivial, w1, if_pos (by omega), if_pos (by omega), hbx, w2, w3]
                  simp only [if_pos (show (0 : Int) ≤ (pre.length : Int) + 2 by omega), if_pos (show (pre.length : Int) + 2 < (s.size : Int) by omega), hby, if_pos hal]
                refine Ev.step b2 (Ev.call (hex_ev x) (Ev.call (hex_ev y) ?_))
                rw [two_eq x y a1 a2, toI_snoc]
                exact i2
        · have hshort : dec (c :: t) = c :: dec t := by
            rw [dec_short (c :: t) (by simp; omega), dec_short t (by omega)]
          refine Ev.step (fun k => ?_) (push _ hshort rfl)
          simp only [spec_Decoded.l0]
          rw [if_pos (sz_mid h), if_pos (by omega), bt_mid h, if_pos hc, w2, if_neg h2]
      · have hc' : c ≠ 37 := fun e => hc (by rw [e]; rfl)
        refine Ev.step (fun k => ?_) (push _ (dec_plain c hc' t) rfl)
        simp only [spec_Decoded.l0]
        rw [if_pos (sz_mid h), if_pos (by omega), bt_mid h, if_neg hc]
theorem decoded (s : ByteArray) (hs : s.size ≤ 2147483647) : Ev (fun k => spec_Decoded.f k s false) (bl (dec (L s))) := decoded_l s hs (L s).length (L s) [] [] (Nat.le_refl _) rfl (Nat.le_refl _)
end Go.Proofs.Ytfbllodbcmcndaa.SpA
end
section
namespace Go.Proofs.Ytfbllodbcmcndaa.SpA
open Go.RowKit Go.Proofs.Ytfbllodbcmcndaa.Q Go.Proofs.YtfbllodbcmcndaaW.PrintWords Go.Proofs.YtfbllodbcmcndaaW.PrintLast Go.Proofs.YtfbllodbcmcndaaKit
set_option linter.unusedVariables false
set_option linter.unusedSimpArgs false
theorem clean_lead (d : List UInt8) : Cl.cleanK (47 :: d) = Cl.cleanK d := by
  have := Cl.clean_app [] d
  rw [List.nil_append] at this
  rw [this, Cl.cleanK, show Cl.keepK [] = [] from by simp [Cl.keepK, Cl.splitS, Cl.stepK]]
theorem norm_dec (l : List UInt8) : norm l = Cl.cleanK (dec l) := by
  unfold norm
  cases l with
  | nil => exact clean_lead _
  | cons c t =>
    by_cases hc : c = 47
    · rw [lead, if_pos hc]; rfl
    · rw [lead, if_neg hc]; exact clean_lead _
theorem split_l (s : ByteArray) (hs : s.size ≤ 2147483647) : ∀ (suf dn cur : List UInt8) (acc : List ByteArray), L s = (dn ++ cur) ++ suf → (47 : UInt8) ∉ cur → acc.length ≤ dn.length →
    Ev (fun k => spec_split.l0 k s 47 acc (dn.length : Int) ((dn ++ cur).length : Int)) (acc ++ (Cl.splitS (cur ++ suf)).map bl)
  | [], dn, cur, acc, h, hc, ha => by
    have hsz : s.size = dn.length + cur.length := by rw [size_L, h]; simp
    have hlen : ((dn ++ cur).length : Int) = (dn.length : Int) + cur.length := by simp
    have hex : s.extract (dn.length : Int).toNat ((dn ++ cur).length : Int).toNat = bl cur := by
      refine ext ?_
      rw [L_extract, Int.toNat_natCast, Int.toNat_natCast, h, L_bl]
      simp
    have w1 : wrap64 (((dn ++ cur).length : Int) + 1) = ((dn ++ cur).length : Int) + 1 := wrap_id (by omega) (by omega)
    rw [List.append_nil, Cl.splitS_word cur hc]
    refine Ev.step (f := fun k => spec_split.l0 k s 47 (acc ++ [bl cur]) (((dn ++ cur).length : Int) + 1) (((dn ++ cur).length : Int) + 1)) (fun k => ?_) (Ev.step (f := fun _ => some (acc ++ [bl cur])) (fun k => ?_) (Ev.now _))
    · simp only [spec_split.l0]
      rw [if_pos (by omega), if_pos (by omega), if_pos (by omega), if_pos (by omega), if_pos (by omega), hex, w1]
    · simp only [spec_split.l0]
      rw [if_neg (by omega)]
  | c :: t, dn, cur, acc, h, hc, ha => by
    have hsz : s.size = dn.length + cur.length + (t.length + 1) := by rw [size_L, h]; simp; omega
    have hlen : ((dn ++ cur).length : Int) = (dn.length : Int) + cur.length := by simp
    have hex : s.extract (dn.length : Int).toNat ((dn ++ cur).length : Int).toNat = bl cur := by
      refine ext ?_
      rw [L_extract, Int.toNat_natCast, Int.toNat_natCast, h, L_bl]
      simp
    by_cases h47 : c = 47
    · have ih := split_l s hs t (dn ++ cur ++ [c]) [] (acc ++ [bl cur]) (by rw [h]; simp) (by simp) (by simp; omega)
      rw [List.append_nil] at ih
      have w1 : wrap64 (((dn ++ cur).length : Int) + 1) = ((dn ++ cur ++ [c]).length : Int) := wrap_mid h (by omega)
      rw [h47, Cl.splitS_app, Cl.splitS_word cur hc]
      refine Ev.step (fun k => ?_) (Ev.same ih (by simp))
      simp only [spec_split.l0]
      rw [if_pos (by omega), if_neg (by omega), if_pos (by omega), if_pos (sz_mid h), bt_mid h, if_pos (by rw [h47]; rfl), if_pos (by omega), if_pos (by omega), if_pos (by omega), hex, w1]
    · have ih := split_l s hs t dn (cur ++ [c]) acc (by rw [h]; simp) (by simp only [List.mem_append, List.mem_singleton, not_or]; exact ⟨hc, fun e => h47 e.symm⟩) ha
      have w1 : wrap64 (((dn ++ cur).length : Int) + 1) = ((dn ++ (cur ++ [c])).length : Int) := by rw [wrap_mid h (by omega), List.append_assoc]
      rw [show cur ++ c :: t = (cur ++ [c]) ++ t by simp]
      refine Ev.step (fun k => ?_) ih
      simp only [spec_split.l0]
      rw [if_pos (by omega), if_neg (by omega), if_pos (by omega), if_pos (sz_mid h), bt_mid h, if_neg (fun e => h47 (UInt8.toNat_inj.1 (by have : (47 : UInt8).toNat = 47 := rfl; omega))), w1]
theorem split (s : ByteArray) (hs : s.size ≤ 2147483647) : Ev (fun k => spec_split.f k s 47) ((Cl.splitS (L s)).map bl) := split_l s hs (L s) [] [] [] rfl (by simp) (Nat.le_refl _)
theorem split_len : ∀ l, (Cl.splitS l).length ≤ l.length + 1
  | [] => by simp [Cl.splitS]
  | c :: t => by
    have := split_len t
    unfold Cl.splitS
    split
    · simp; exact this
    · split
      · simp
      · rename_i h; rw [h] at this; simp at this ⊢; omega
theorem step_len (k : List (List UInt8)) (p : List UInt8) : (Cl.stepK k p).length ≤ k.length + 1 := by
  unfold Cl.stepK
  split
  · omega
  · split <;> simp
    omega
theorem fold_len : ∀ (S k : List (List UInt8)), (S.foldl Cl.stepK k).length ≤ k.length + S.length
  | [], k => by simp
  | p :: S, k => by
    have := fold_len S (Cl.stepK k p)
    have := step_len k p
    simp only [List.foldl_cons, List.length_cons]
    omega
theorem join_l (last : ByteArray) (hl : last.size ≤ 100000) (K : List (List UInt8)) (hK : (K.map List.length).sum ≤ 100000) (hKl : K.length ≤ 100000) : ∀ (suf pre : List (List UInt8)) (x9 : ByteArray), K = pre ++ suf → x9.size + ((suf.map List.length).sum + suf.length) ≤ 400000 →
    Ev (fun k => spec_Cleaned.l1 k last x9 (K.map bl) ((K.map bl).length : Int) (pre.length : Int)) (⟨(L x9 ++ (suf.flatMap (fun q => q ++ [47]) ++ L last)).toArray⟩, 1)
  | [], pre, x9, h, hz => by
    refine Ev.step (f := fun _ => some (x9 ++ last, 1)) (fun k => ?_) (Ev.same (Ev.now _) ?_)
    · simp only [spec_Cleaned.l1]
      rw [if_neg (by rw [h]; simp), if_pos (by simp at hz; omega)]
    · congr 1
  | p :: t, pre, x9, h, hz => by
    simp only [List.map_cons, List.sum_cons, List.length_cons] at hz
    have hm : K.map bl = pre.map bl ++ bl p :: t.map bl := by rw [h]; simp
    have hln : ((pre.map bl).length : Int) = (pre.length : Int) := by simp
    have hrd : rdOf ByteArray.empty (K.map bl) (pre.length : Int) = bl p := by rw [← hln]; exact get_mid hm _
    have hpl : (bl p).size = p.length := by rw [size_L, L_bl]
    have hlk : K.length = pre.length + (t.length + 1) := by rw [h]; simp
    have w1 : wrap64 ((pre.length : Int) + 1) = ((pre ++ [p]).length : Int) := by rw [wrap_id (by omega) (by omega)]; simp
    have hsz : (bl p ++ (⟨#[47]⟩ : ByteArray)).size = p.length + 1 := by rw [size_append, hpl]; rfl
    have ih := join_l last hl K hK hKl t (pre ++ [p]) (x9 ++ (bl p ++ ⟨#[47]⟩)) (by rw [h]; simp) (by rw [size_append, hsz]; omega)
    refine Ev.step (fun k => ?_) (Ev.same ih ?_)
    · simp only [spec_Cleaned.l1]
      rw [if_pos (by simp; omega), if_pos (by omega), if_pos (by simp; omega), hrd, if_pos (by omega), if_pos (by omega), w1]
    · rw [L_append, L_append, L_bl]
      simp [L]
theorem join_eq (K : List (List UInt8)) (last : List UInt8) : 47 :: (K.flatMap (fun q => q ++ [47]) ++ last) = Cl.joinS (K ++ [last]) := by
  induction K with
  | nil => simp [Cl.joinS]
  | cons q K ih =>
    rw [List.cons_append, Cl.joinS_cons, ← ih]
    simp
theorem drop_sum : ∀ k : List (List UInt8), (k.dropLast.map List.length).sum ≤ (k.map List.length).sum
  | [] => by simp
  | [x] => by simp
  | x :: y :: t => by
    have := drop_sum (y :: t)
    simp only [List.dropLast_cons_cons, List.map_cons, List.sum_cons] at this ⊢
    omega
theorem len_step (k : List (List UInt8)) (p : List UInt8) : ((Cl.stepK k p).map List.length).sum ≤ (k.map List.length).sum + p.length := by
  unfold Cl.stepK
  split
  · omega
  · split
    · have : (k.dropLast.map List.length).sum ≤ (k.map List.length).sum := by
        exact drop_sum k
      omega
    · simp
theorem len_fold : ∀ (S k : List (List UInt8)), ((S.foldl Cl.stepK k).map List.length).sum ≤ (k.map List.length).sum + (S.map List.length).sum
  | [], k => by simp
  | p :: S, k => by
    have := len_fold S (Cl.stepK k p)
    have := len_step k p
    simp only [List.foldl_cons, List.map_cons, List.sum_cons]
    omega
theorem split_sum : ∀ l, ((Cl.splitS l).map List.length).sum ≤ l.length
  | [] => by simp [Cl.splitS]
  | c :: t => by
    have := split_sum t
    unfold Cl.splitS
    split
    · simp; omega
    · split
      · simp
      · rename_i h; rw [h] at this; simp at this ⊢; omega
theorem keep_l (last : ByteArray) (hl : last.size ≤ 100000) (S : List (List UInt8)) (hS : (S.map List.length).sum ≤ 100000) (hSl : S.length ≤ 100000) : ∀ (suf pre K : List (List UInt8)), S = pre ++ suf → K = pre.foldl Cl.stepK [] →
    Ev (fun k => spec_Cleaned.l0 k last (K.map bl) (S.map bl) ((S.map bl).length : Int) (pre.length : Int)) (⟨(Cl.joinS (S.foldl Cl.stepK [] ++ [L last])).toArray⟩, 1)
  | [], pre, K, h, hK => by
    have hKS : K = S.foldl Cl.stepK [] := by rw [hK, h]; simp
    have b1 := fold_len S []
    have b2 := len_fold S []
    rw [← hKS] at b1 b2 ⊢
    simp at b1 b2
    have := join_l last hl K (by omega) (by omega) K [] ⟨#[47]⟩ rfl (by show (1 : Nat) + _ ≤ _; omega)
    refine Ev.step (fun k => ?_) (Ev.same this ?_)
    · simp only [spec_Cleaned.l0]
      rw [if_neg (by rw [h]; simp)]
      rfl
    · congr 2
      rw [← join_eq]
      rfl
  | p :: t, pre, K, h, hK => by
    have hm : S.map bl = pre.map bl ++ bl p :: t.map bl := by rw [h]; simp
    have hln : ((pre.map bl).length : Int) = (pre.length : Int) := by simp
    have hrd : rdOf ByteArray.empty (S.map bl) (pre.length : Int) = bl p := by rw [← hln]; exact get_mid hm _
    have hlk : S.length = pre.length + (t.length + 1) := by rw [h]; simp
    have w1 : wrap64 ((pre.length : Int) + 1) = ((pre ++ [p]).length : Int) := by rw [wrap_id (by omega) (by omega)]; simp
    have ih := keep_l last hl S hS hSl t (pre ++ [p]) (Cl.stepK K p) (by rw [h]; simp) (by rw [hK]; simp)
    have b1 := fold_len pre []
    rw [← hK] at b1
    simp at b1
    have hj : Ev (fun k => spec_Cleaned.j2 k last (K.map bl) (bl p) (S.map bl) ((S.map bl).length : Int) (pre.length : Int) (bl p) (decide (p = [] ∨ p = [46]))) (⟨(Cl.joinS (S.foldl Cl.stepK [] ++ [L last])).toArray⟩, 1) := by
      refine Ev.step (fun k => ?_) ih
      simp only [spec_Cleaned.j2]
      rw [w1]
      by_cases hp : p = [] ∨ p = [46]
      · rw [if_pos (decide_eq_true hp), show Cl.stepK K p = K from if_pos hp]
      · rw [if_neg (by simpa using hp)]
        rw [tl, L_bl]
        by_cases hd : p = [46, 46]
        · rw [if_pos hd, show Cl.stepK K p = K.dropLast by unfold Cl.stepK; rw [if_neg hp, if_pos hd]]
          have hmx : mx (wrap64 (((K.map bl).length : Int) - 1)) 0 = ((K.length - 1 : Nat) : Int) := by
            rw [List.length_map, wrap_id (by omega) (by omega)]
            unfold mx
            split <;> omega
          rw [hmx, if_pos (by omega), if_pos (by rw [List.length_map]; omega), Int.toNat_natCast, List.dropLast_eq_take, List.map_take]
        · rw [if_neg hd, show Cl.stepK K p = K ++ [p] by unfold Cl.stepK; rw [if_neg hp, if_neg hd], if_pos (by simp; omega)]
          simp
    refine Ev.step (fun k => ?_) hj
    simp only [spec_Cleaned.l0]
    rw [if_pos (by simp; omega), if_pos (by omega), if_pos (by simp; omega), hrd]
    simp only [tl, L_bl]
    by_cases h0 : p = []
    · rw [if_pos h0, h0]
      rfl
    · rw [if_neg h0]
      congr 1
      by_cases h1 : p = [46]
      · rw [h1]; rfl
      · rw [decide_eq_false (by simp [h0, h1]), beq_eq_false_iff_ne.2 h1]
theorem cleaned (s : ByteArray) (hs : s.size ≤ 50000) : ∃ r, Ev (fun k => spec_Cleaned.f k s) r ∧ (r.2 = 1 → L r.1 = Cl.cleanK (L s)) := by
  obtain ⟨S, last, hSl⟩ : ∃ S last, Cl.splitS (L s) = S ++ [last] := by
    have hne := Cl.splitS_ne (L s)
    exact ⟨_, _, (List.dropLast_concat_getLast hne).symm⟩
  have hspl := split s (by omega)
  have b1 := split_len (L s)
  have b2 := split_sum (L s)
  rw [hSl] at hspl b1 b2
  rw [← size_L] at b1 b2
  simp at b1 b2
  have hcl : Cl.cleanK (L s) = Cl.finK (S.foldl Cl.stepK []) last := by
    unfold Cl.cleanK
    rw [hSl]
    simp
  have hm : (S ++ [last]).map bl = S.map bl ++ bl last :: [] := by simp
  have hln : ((S.map bl).length : Int) = (S.length : Int) := by simp
  have hrd : rdOf ByteArray.empty ((S ++ [last]).map bl) (S.length : Int) = bl last := by rw [← hln]; exact get_mid hm _
  have w1 : wrap64 ((((S ++ [last]).map bl).length : Int) - 1) = (S.length : Int) := by rw [List.length_map, List.length_append, wrap_id (by omega) (by simp only [List.length_singleton]; omega)]; simp
  have hls : (bl last).size = last.length := by rw [size_L, L_bl]
  have hk := keep_l (bl last) (by omega) S (by omega) (by omega) S [] [] rfl rfl
  rw [L_bl] at hk
  have hj : Ev (fun k => spec_Cleaned.j0 k ((S ++ [last]).map bl) (bl last) false) (⟨(Cl.joinS (S.foldl Cl.stepK [] ++ [last])).toArray⟩, 1) := by
    refine Ev.step (fun k => ?_) hk
    simp only [spec_Cleaned.j0]
    rw [if_neg (by decide), w1, if_pos (by omega), if_pos (by simp; omega), Int.toNat_natCast]
    simp only [Option.bind_some]
    rw [show ((S ++ [last]).map bl).take S.length = S.map bl by rw [hm, ← show (S.map bl).length = S.length by simp, List.take_left]]
    rfl
  have hjt : Ev (fun k => spec_Cleaned.j0 k ((S ++ [last]).map bl) (bl last) true) (⟨#[]⟩, 2) := Ev.step (f := fun _ => some (⟨#[]⟩, 2)) (fun k => by simp only [spec_Cleaned.j0]; rw [if_pos trivial]) (Ev.now _)
  have base : ∀ r, Ev (fun k => if last = [46] then spec_Cleaned.j0 k ((S ++ [last]).map bl) (bl last) true else spec_Cleaned.j0 k ((S ++ [last]).map bl) (bl last) (last == [46, 46])) r → Ev (fun k => spec_Cleaned.f k s) r := fun r hr => by
    refine Ev.call hspl ?_
    have e : ∀ k, (if 0 ≤ (wrap64 ((((S ++ [last]).map bl).length : Int) - 1)) then (if (wrap64 ((((S ++ [last]).map bl).length : Int) - 1)) < (((S ++ [last]).map bl).length : Int) then (if (rdOf ByteArray.empty ((S ++ [last]).map bl) (wrap64 ((((S ++ [last]).map bl).length : Int) - 1))).toList = ([46] : List UInt8) then (spec_Cleaned.j0 k ((S ++ [last]).map bl) (rdOf ByteArray.empty ((S ++ [last]).map bl) (wrap64 ((((S ++ [last]).map bl).length : Int) - 1))) true) else (spec_Cleaned.j0 k ((S ++ [last]).map bl) (rdOf ByteArray.empty ((S ++ [last]).map bl) (wrap64 ((((S ++ [last]).map bl).length : Int) - 1))) ((rdOf ByteArray.empty ((S ++ [last]).map bl) (wrap64 ((((S ++ [last]).map bl).length : Int) - 1))).toList == ([46, 46] : List UInt8)))) else (none)) else (none)) = if last = [46] then spec_Cleaned.j0 k ((S ++ [last]).map bl) (bl last) true else spec_Cleaned.j0 k ((S ++ [last]).map bl) (bl last) (last == [46, 46]) := fun k => by
      rw [w1, if_pos (by omega), if_pos (by simp; omega), hrd, tl, L_bl]
    rw [← funext e] at hr; exact hr
  by_cases h1 : last = [46]
  · exact ⟨_, base _ (Ev.pos h1 hjt), fun e => absurd e (by decide)⟩
  · by_cases h2 : last = [46, 46]
    · exact ⟨_, base _ (Ev.neg h1 (by rw [h2] at hjt ⊢; exact hjt)), fun e => absurd e (by decide)⟩
    · refine ⟨_, base _ (Ev.neg h1 (by rw [beq_eq_false_iff_ne.2 h2]; exact hj)), fun _ => ?_⟩
      rw [hcl, Cl.finK, if_neg h2]
end Go.Proofs.Ytfbllodbcmcndaa.SpA
end
