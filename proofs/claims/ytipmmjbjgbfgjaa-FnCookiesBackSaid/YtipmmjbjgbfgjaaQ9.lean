import Derived.Test.YtipmmjbjgbfgjaaQ0
import Derived.Test.YtipmmjbjgbfgjaaQ1
import Derived.Test.YtipmmjbjgbfgjaaQ5
import Derived.Test.YtipmmjbjgbfgjaaQ8
-- Written by a program of this session out of the translation, with the kit's printer. Not trusted: Lean checks it.
namespace Go.Proofs.Ytipmmjbjgbfgjaa.Q
open Go.RowKit Go.Proofs.YtipmmjbjgbfgjaaW.PrintWords Go.Proofs.YtipmmjbjgbfgjaaW.PrintLast Go.Proofs.YtipmmjbjgbfgjaaW.PrintMore
attribute [local go_sem] max2_int min2_int max_two min_two max_three min_three max_four min_four   -- for this text's walks alone
set_option linter.unusedVariables false
set_option linter.unusedSimpArgs false

/-! ### laws_FnCookiesBack: function 7 -/
mutual
def laws_FnCookiesBack.j0 : Nat → List (S40) → Bool → Option (Bool)
  | 0, _, _ => none
  | k + 1, x0, x29 => if x29 = true then (some false) else ((laws_few.f k x0).bind fun t185 => (if t185 = true then (laws_FnCookiesBack.l0 k x0 x0 (x0.length : Int) 0) else (some true)))
def laws_FnCookiesBack.l0 : Nat → List (S40) → List (S40) → Int → Int → Option (Bool)
  | 0, _, _, _, _ => none
  | k + 1, x0, x33, x34, x35 => if x35 < x34 then (if 0 ≤ x35 then (if x35 < (x33.length : Int) then ((laws_token.f k ((rd_T40 x33 x35).f0)).bind fun t188 => (if t188 = true then ((laws_token.f k ((rd_T40 x33 x35).f1)).bind fun t189 => (if t189 = true then (laws_FnCookiesBack.j2 k x0 x35 x33 x34 x35 ((rd_T40 x33 x35).f2) ((rd_T40 x33 x35).f0) ((rd_T40 x33 x35).f1) ((rd_T40 x33 x35).f2)) else (laws_FnCookiesBack.j2 k x0 x35 x33 x34 x35 true ((rd_T40 x33 x35).f0) ((rd_T40 x33 x35).f1) ((rd_T40 x33 x35).f2)))) else (laws_FnCookiesBack.j2 k x0 x35 x33 x34 x35 true ((rd_T40 x33 x35).f0) ((rd_T40 x33 x35).f1) ((rd_T40 x33 x35).f2)))) else (none)) else (none)) else ((impl_CookiesText.f x0).bind fun t191 => ((impl_RequestCookies.f t191).bind fun t192 => (if (t192.length : Int) = (x0.length : Int) then (laws_FnCookiesBack.l2 k x0 t192 (t192.length : Int) 0) else (some false))))
def laws_FnCookiesBack.j2 : Nat → List (S40) → Int → List (S40) → Int → Int → Bool → ByteArray → ByteArray → Bool → Option (Bool)
  | 0, _, _, _, _, _, _, _, _, _ => none
  | k + 1, x0, x4, x33, x34, x35, x53, x188000, x188001, x188002 => if x53 = true then (some true) else (laws_FnCookiesBack.l1 k x0 x33 x34 x35 x4 0 x188000 x188001 x188002)
def laws_FnCookiesBack.l1 : Nat → List (S40) → List (S40) → Int → Int → Int → Int → ByteArray → ByteArray → Bool → Option (Bool)
  | 0, _, _, _, _, _, _, _, _, _ => none
  | k + 1, x0, x33, x34, x35, x54, x55, x188000, x188001, x188002 => if x55 < x54 then (if 0 ≤ x55 then (if x55 < (x0.length : Int) then (if ((rd_T40 x0 x55).f0).toList = x188000.toList then (some true) else (laws_FnCookiesBack.l1 k x0 x33 x34 x35 x54 (wrap64 (x55 + 1)) x188000 x188001 x188002)) else (none)) else (none)) else (laws_FnCookiesBack.l0 k x0 x33 x34 (wrap64 (x35 + 1)))
def laws_FnCookiesBack.l2 : Nat → List (S40) → List (S40) → Int → Int → Option (Bool)
  | 0, _, _, _, _ => none
  | k + 1, x0, x7, x77, x78 => if x78 < x77 then (if 0 ≤ x78 then (if x78 < (x7.length : Int) then (if x78 < (x0.length : Int) then (if ((rd_T40 x7 x78).f0).toList = ((rd_T40 x0 x78).f0).toList then (if ((rd_T40 x7 x78).f1).toList = ((rd_T40 x0 x78).f1).toList then (laws_FnCookiesBack.l2 k x0 x7 x77 (wrap64 (x78 + 1))) else (some false)) else (some false)) else (none)) else (none)) else (none)) else (some true)
end
def laws_FnCookiesBack.f (k : Nat) (l0 : List (S40)) : Option (Bool) := (laws_zzFits7.f k l0).bind fun t179 => (if t179 = true then ((impl_RequestCookies.f (⟨#[97, 61, 98]⟩ : ByteArray)).bind fun t180 => (if (t180.length : Int) = 1 then (if 0 < (t180.length : Int) then (if ((rd_T40 t180 0).f0).toList = ([97] : List UInt8) then (laws_FnCookiesBack.j0 k l0 (((rd_T40 t180 0).f1).toList != ([98] : List UInt8))) else (laws_FnCookiesBack.j0 k l0 true)) else (none)) else (laws_FnCookiesBack.j0 k l0 true))) else (some true))
theorem laws_FnCookiesBack.mono_l : ∀ k, (∀ y0 y1, LeO (laws_FnCookiesBack.j0 k y0 y1) (laws_FnCookiesBack.j0 (k + 1) y0 y1)) ∧ (∀ y0 y1 y2 y3, LeO (laws_FnCookiesBack.l0 k y0 y1 y2 y3) (laws_FnCookiesBack.l0 (k + 1) y0 y1 y2 y3)) ∧ (∀ y0 y1 y2 y3 y4 y5 y6 y7 y8, LeO (laws_FnCookiesBack.j2 k y0 y1 y2 y3 y4 y5 y6 y7 y8) (laws_FnCookiesBack.j2 (k + 1) y0 y1 y2 y3 y4 y5 y6 y7 y8)) ∧ (∀ y0 y1 y2 y3 y4 y5 y6 y7 y8, LeO (laws_FnCookiesBack.l1 k y0 y1 y2 y3 y4 y5 y6 y7 y8) (laws_FnCookiesBack.l1 (k + 1) y0 y1 y2 y3 y4 y5 y6 y7 y8)) ∧ (∀ y0 y1 y2 y3, LeO (laws_FnCookiesBack.l2 k y0 y1 y2 y3) (laws_FnCookiesBack.l2 (k + 1) y0 y1 y2 y3))
  | 0 => ⟨fun _ _ r h => by simp [laws_FnCookiesBack.j0] at h, fun _ _ _ _ r h => by simp [laws_FnCookiesBack.l0] at h, fun _ _ _ _ _ _ _ _ _ r h => by simp [laws_FnCookiesBack.j2] at h, fun _ _ _ _ _ _ _ _ _ r h => by simp [laws_FnCookiesBack.l1] at h, fun _ _ _ _ r h => by simp [laws_FnCookiesBack.l2] at h⟩
  | k + 1 => by
    obtain ⟨ih0, ih1, ih2, ih3, ih4⟩ := laws_FnCookiesBack.mono_l k
    refine ⟨?_, ?_, ?_, ?_, ?_⟩
    · intro y0 y1
      unfold laws_FnCookiesBack.j0
      repeat' first
      | (with_reducible exact ih0 _ _)
      | (with_reducible exact ih1 _ _ _ _)
      | (with_reducible exact ih2 _ _ _ _ _ _ _ _ _)
      | (with_reducible exact ih3 _ _ _ _ _ _ _ _ _)
      | (with_reducible exact ih4 _ _ _ _)
      | (with_reducible exact laws_few.mono _ _)
      | (with_reducible exact laws_token.mono _ _)
      | (with_reducible exact laws_zzFits7.mono _ _)
      | (with_reducible exact LeO.refl _)
      | (with_reducible exact LeO.none _)
      | (with_reducible refine LeO.ite ?_ ?_)
      | (with_reducible refine LeO.bind ?_ (fun _ => ?_))
      | exact ih0 _ _
      | exact ih1 _ _ _ _
      | exact ih2 _ _ _ _ _ _ _ _ _
      | exact ih3 _ _ _ _ _ _ _ _ _
      | exact ih4 _ _ _ _
      | exact laws_few.mono _ _
      | exact laws_token.mono _ _
      | exact laws_zzFits7.mono _ _
      | exact LeO.none _
      | refine LeO.ite ?_ ?_
      | refine LeO.bind ?_ (fun _ => ?_)
    · intro y0 y1 y2 y3
      unfold laws_FnCookiesBack.l0
      repeat' first
      | (with_reducible exact ih0 _ _)
      | (with_reducible exact ih1 _ _ _ _)
      | (with_reducible exact ih2 _ _ _ _ _ _ _ _ _)
      | (with_reducible exact ih3 _ _ _ _ _ _ _ _ _)
      | (with_reducible exact ih4 _ _ _ _)
      | (with_reducible exact laws_few.mono _ _)
      | (with_reducible exact laws_token.mono _ _)
      | (with_reducible exact laws_zzFits7.mono _ _)
      | (with_reducible exact LeO.refl _)
      | (with_reducible exact LeO.none _)
      | (with_reducible refine LeO.ite ?_ ?_)
      | (with_reducible refine LeO.bind ?_ (fun _ => ?_))
      | exact ih0 _ _
      | exact ih1 _ _ _ _
      | exact ih2 _ _ _ _ _ _ _ _ _
      | exact ih3 _ _ _ _ _ _ _ _ _
      | exact ih4 _ _ _ _
      | exact laws_few.mono _ _
      | exact laws_token.mono _ _
      | exact laws_zzFits7.mono _ _
      | exact LeO.none _
      | refine LeO.ite ?_ ?_
      | refine LeO.bind ?_ (fun _ => ?_)
    · intro y0 y1 y2 y3 y4 y5 y6 y7 y8
      unfold laws_FnCookiesBack.j2
      repeat' first
      | (with_reducible exact ih0 _ _)
      | (with_reducible exact ih1 _ _ _ _)
      | (with_reducible exact ih2 _ _ _ _ _ _ _ _ _)
      | (with_reducible exact ih3 _ _ _ _ _ _ _ _ _)
      | (with_reducible exact ih4 _ _ _ _)
      | (with_reducible exact laws_few.mono _ _)
      | (with_reducible exact laws_token.mono _ _)
      | (with_reducible exact laws_zzFits7.mono _ _)
      | (with_reducible exact LeO.refl _)
      | (with_reducible exact LeO.none _)
      | (with_reducible refine LeO.ite ?_ ?_)
      | (with_reducible refine LeO.bind ?_ (fun _ => ?_))
      | exact ih0 _ _
      | exact ih1 _ _ _ _
      | exact ih2 _ _ _ _ _ _ _ _ _
      | exact ih3 _ _ _ _ _ _ _ _ _
      | exact ih4 _ _ _ _
      | exact laws_few.mono _ _
      | exact laws_token.mono _ _
      | exact laws_zzFits7.mono _ _
      | exact LeO.none _
      | refine LeO.ite ?_ ?_
      | refine LeO.bind ?_ (fun _ => ?_)
    · intro y0 y1 y2 y3 y4 y5 y6 y7 y8
      unfold laws_FnCookiesBack.l1
      repeat' first
      | (with_reducible exact ih0 _ _)
      | (with_reducible exact ih1 _ _ _ _)
      | (with_reducible exact ih2 _ _ _ _ _ _ _ _ _)
      | (with_reducible exact ih3 _ _ _ _ _ _ _ _ _)
      | (with_reducible exact ih4 _ _ _ _)
      | (with_reducible exact laws_few.mono _ _)
      | (with_reducible exact laws_token.mono _ _)
      | (with_reducible exact laws_zzFits7.mono _ _)
      | (with_reducible exact LeO.refl _)
      | (with_reducible exact LeO.none _)
      | (with_reducible refine LeO.ite ?_ ?_)
      | (with_reducible refine LeO.bind ?_ (fun _ => ?_))
      | exact ih0 _ _
      | exact ih1 _ _ _ _
      | exact ih2 _ _ _ _ _ _ _ _ _
      | exact ih3 _ _ _ _ _ _ _ _ _
      | exact ih4 _ _ _ _
      | exact laws_few.mono _ _
      | exact laws_token.mono _ _
      | exact laws_zzFits7.mono _ _
      | exact LeO.none _
      | refine LeO.ite ?_ ?_
      | refine LeO.bind ?_ (fun _ => ?_)
    · intro y0 y1 y2 y3
      unfold laws_FnCookiesBack.l2
      repeat' first
      | (with_reducible exact ih0 _ _)
      | (with_reducible exact ih1 _ _ _ _)
      | (with_reducible exact ih2 _ _ _ _ _ _ _ _ _)
      | (with_reducible exact ih3 _ _ _ _ _ _ _ _ _)
      | (with_reducible exact ih4 _ _ _ _)
      | (with_reducible exact laws_few.mono _ _)
      | (with_reducible exact laws_token.mono _ _)
      | (with_reducible exact laws_zzFits7.mono _ _)
      | (with_reducible exact LeO.refl _)
      | (with_reducible exact LeO.none _)
      | (with_reducible refine LeO.ite ?_ ?_)
      | (with_reducible refine LeO.bind ?_ (fun _ => ?_))
      | exact ih0 _ _
      | exact ih1 _ _ _ _
      | exact ih2 _ _ _ _ _ _ _ _ _
      | exact ih3 _ _ _ _ _ _ _ _ _
      | exact ih4 _ _ _ _
      | exact laws_few.mono _ _
      | exact laws_token.mono _ _
      | exact laws_zzFits7.mono _ _
      | exact LeO.none _
      | refine LeO.ite ?_ ?_
      | refine LeO.bind ?_ (fun _ => ?_)
theorem laws_FnCookiesBack.mono : ∀ a0 k, LeO (laws_FnCookiesBack.f k a0) (laws_FnCookiesBack.f (k + 1) a0) := by
  intro a0 k
  obtain ⟨ih0, ih1, ih2, ih3, ih4⟩ := laws_FnCookiesBack.mono_l k
  unfold laws_FnCookiesBack.f
  repeat' first
      | (with_reducible exact ih0 _ _)
      | (with_reducible exact ih1 _ _ _ _)
      | (with_reducible exact ih2 _ _ _ _ _ _ _ _ _)
      | (with_reducible exact ih3 _ _ _ _ _ _ _ _ _)
      | (with_reducible exact ih4 _ _ _ _)
      | (with_reducible exact laws_few.mono _ _)
      | (with_reducible exact laws_token.mono _ _)
      | (with_reducible exact laws_zzFits7.mono _ _)
      | (with_reducible exact LeO.refl _)
      | (with_reducible exact LeO.none _)
      | (with_reducible refine LeO.ite ?_ ?_)
      | (with_reducible refine LeO.bind ?_ (fun _ => ?_))
      | exact ih0 _ _
      | exact ih1 _ _ _ _
      | exact ih2 _ _ _ _ _ _ _ _ _
      | exact ih3 _ _ _ _ _ _ _ _ _
      | exact ih4 _ _ _ _
      | exact laws_few.mono _ _
      | exact laws_token.mono _ _
      | exact laws_zzFits7.mono _ _
      | exact LeO.none _
      | refine LeO.ite ?_ ?_
      | refine LeO.bind ?_ (fun _ => ?_)
set_option maxHeartbeats 8000000 in
set_option maxRecDepth 100000 in
theorem laws_FnCookiesBack.calls (k : Nat) (A0 : Option Addr) (c0 : Nat) (l0 : List (S40)) (r : Bool) (w : World) (hr0 : Kd.C k40 w A0 l0.length l0) (hc0 : l0.length ≤ c0) (h : laws_FnCookiesBack.f k l0 = some r) :
    Calls Try.prog 7 #[.slice A0 l0.length c0] w fun e w' => e = .returned (.bool r) ∧ Below w.heap.size w w' := by
  have hu40 := Try.underlying40
  have HR0 := Aside0.mk hr0
  have HC0 := Aside0.mk hc0
  clear hr0 hc0
  have HB := Aside0.mk (Below.refl w.heap.size w)
  have H : ((laws_zzFits7.f k l0).bind fun t179 => (if t179 = true then ((impl_RequestCookies.f (⟨#[97, 61, 98]⟩ : ByteArray)).bind fun t180 => (if (t180.length : Int) = 1 then (if 0 < (t180.length : Int) then (if ((rd_T40 t180 0).f0).toList = ([97] : List UInt8) then (laws_FnCookiesBack.j0 k l0 (((rd_T40 t180 0).f1).toList != ([98] : List UInt8))) else (laws_FnCookiesBack.j0 k l0 true)) else (none)) else (laws_FnCookiesBack.j0 k l0 true))) else (some true))) = some r := h
  clear h
  replace H := Option.bind_eq_some_iff.mp H
  obtain ⟨t179, A20, H⟩ := H
  replace H : (if t179 = true then ((impl_RequestCookies.f (⟨#[97, 61, 98]⟩ : ByteArray)).bind fun t180 => (if (t180.length : Int) = 1 then (if 0 < (t180.length : Int) then (if ((rd_T40 t180 0).f0).toList = ([97] : List UInt8) then (laws_FnCookiesBack.j0 k l0 (((rd_T40 t180 0).f1).toList != ([98] : List UInt8))) else (laws_FnCookiesBack.j0 k l0 true)) else (none)) else (laws_FnCookiesBack.j0 k l0 true))) else (some true)) = some r := H
  have A2 := Aside0.mk A20
  clear A20
  by_cases c3 : t179 = true
  · subst c3
    have H1 : ((impl_RequestCookies.f (⟨#[97, 61, 98]⟩ : ByteArray)).bind fun t180 => (if (t180.length : Int) = 1 then (if 0 < (t180.length : Int) then (if ((rd_T40 t180 0).f0).toList = ([97] : List UInt8) then (laws_FnCookiesBack.j0 k l0 (((rd_T40 t180 0).f1).toList != ([98] : List UInt8))) else (laws_FnCookiesBack.j0 k l0 true)) else (none)) else (laws_FnCookiesBack.j0 k l0 true))) = some r := by rw [if_pos rfl] at H; exact H
    clear H
    have H := H1
    clear H1
    replace H := Option.bind_eq_some_iff.mp H
    obtain ⟨t180, A40, H⟩ := H
    replace H : (if (t180.length : Int) = 1 then (if 0 < (t180.length : Int) then (if ((rd_T40 t180 0).f0).toList = ([97] : List UInt8) then (laws_FnCookiesBack.j0 k l0 (((rd_T40 t180 0).f1).toList != ([98] : List UInt8))) else (laws_FnCookiesBack.j0 k l0 true)) else (none)) else (laws_FnCookiesBack.j0 k l0 true)) = some r := H
    have A4 := Aside0.mk A40
    clear A40
    have HC5 := Aside0.mk H
    clear H
    go_enter Try.func7, Try.ntmps7
    go_upto_region 4 with (first | (go_at_call 27; (with_reducible refine (laws_zzFits7.calls k _ _ l0 true _ ?side1 ?side2 A2.out).mono ?_); (case side1 => repeat (first | exact HR0.out | (with_reducible refine Kd.C_alloc ?_ _) | (with_reducible refine Kd.C_drewN ?_ _) | (with_reducible refine Kd.C_drew ?_))); (case side2 => exact HC0.out); rintro e w6 ⟨rfl, hb⟩; have n0_ := Aside0.mk (below_step (by repeat (first | (with_reducible first | exact HB.out | apply below_alloc | apply pw_below_drewN | apply below_drew1) | exact HB.out)) hb); clear HB; have HB := n0_; clear n0_; (try clear hb); (try clear hb2); (try clear hk); (try clear hi)) | (go_at_call 28; (with_reducible refine (impl_RequestCookies.calls (⟨#[97, 61, 98]⟩ : ByteArray) t180 _ A4.out).mono ?_); rintro e w7 ⟨v181, rfl, ho0, hb⟩; have n0_ := Aside0.mk (Kd.R_lower ho0 (below_size (by repeat (first | (with_reducible first | exact HB.out | apply below_alloc | apply pw_below_drewN | apply below_drew1) | exact HB.out)))); have n1_ := Aside0.mk (below_step (by repeat (first | (with_reducible first | exact HB.out | apply below_alloc | apply pw_below_drewN | apply below_drew1) | exact HB.out)) hb); clear HB; have HO182 := n0_; have HB := n1_; clear n0_ n1_; (try clear hb); (try clear hb2); (try clear hk); (try clear hi); (try clear ho0)))
    repeat (go_quiet (first | (go_at_call 27; (with_reducible refine (laws_zzFits7.calls k _ _ l0 true _ ?side1 ?side2 A2.out).mono ?_); (case side1 => repeat (first | exact HR0.out | (with_reducible refine Kd.C_alloc ?_ _) | (with_reducible refine Kd.C_drewN ?_ _) | (with_reducible refine Kd.C_drew ?_))); (case side2 => exact HC0.out); rintro e w6 ⟨rfl, hb⟩; have n0_ := Aside0.mk (below_step (by repeat (first | (with_reducible first | exact HB.out | apply below_alloc | apply pw_below_drewN | apply below_drew1) | exact HB.out)) hb); clear HB; have HB := n0_; clear n0_; (try clear hb); (try clear hb2); (try clear hk); (try clear hi)) | (go_at_call 28; (with_reducible refine (impl_RequestCookies.calls (⟨#[97, 61, 98]⟩ : ByteArray) t180 _ A4.out).mono ?_); rintro e w7 ⟨v181, rfl, ho0, hb⟩; have n0_ := Aside0.mk (Kd.R_lower ho0 (below_size (by repeat (first | (with_reducible first | exact HB.out | apply below_alloc | apply pw_below_drewN | apply below_drew1) | exact HB.out)))); have n1_ := Aside0.mk (below_step (by repeat (first | (with_reducible first | exact HB.out | apply below_alloc | apply pw_below_drewN | apply below_drew1) | exact HB.out)) hb); clear HB; have HO182 := n0_; have HB := n1_; clear n0_ n1_; (try clear hb); (try clear hb2); (try clear hk); (try clear hi); (try clear ho0))); go_upto_region 4 with (first | (go_at_call 27; (with_reducible refine (laws_zzFits7.calls k _ _ l0 true _ ?side1 ?side2 A2.out).mono ?_); (case side1 => repeat (first | exact HR0.out | (with_reducible refine Kd.C_alloc ?_ _) | (with_reducible refine Kd.C_drewN ?_ _) | (with_reducible refine Kd.C_drew ?_))); (case side2 => exact HC0.out); rintro e w6 ⟨rfl, hb⟩; have n0_ := Aside0.mk (below_step (by repeat (first | (with_reducible first | exact HB.out | apply below_alloc | apply pw_below_drewN | apply below_drew1) | exact HB.out)) hb); clear HB; have HB := n0_; clear n0_; (try clear hb); (try clear hb2); (try clear hk); (try clear hi)) | (go_at_call 28; (with_reducible refine (impl_RequestCookies.calls (⟨#[97, 61, 98]⟩ : ByteArray) t180 _ A4.out).mono ?_); rintro e w7 ⟨v181, rfl, ho0, hb⟩; have n0_ := Aside0.mk (Kd.R_lower ho0 (below_size (by repeat (first | (with_reducible first | exact HB.out | apply below_alloc | apply pw_below_drewN | apply below_drew1) | exact HB.out)))); have n1_ := Aside0.mk (below_step (by repeat (first | (with_reducible first | exact HB.out | apply below_alloc | apply pw_below_drewN | apply below_drew1) | exact HB.out)) hb); clear HB; have HO182 := n0_; have HB := n1_; clear n0_ n1_; (try clear hb); (try clear hb2); (try clear hk); (try clear hi); (try clear ho0))))
    (try simp only [Act.put, List.setIfInBounds_toArray, List.set_cons_zero, List.set_cons_succ])
    go_cut [29] (fun v29 wc => ∃ (kq : Nat) (x29_4 : Bool), v29 = .bool x29_4 ∧ Aside0 (laws_FnCookiesBack.j0 kq l0 x29_4 = some r) ∧ Aside0 (kq ≤ k) ∧ Aside0 (Below w.heap.size w wc))
    case first =>
      have H := HC5.out
      clear HC5
      by_cases c8 : (t180.length : Int) = 1
      · rw [if_pos c8] at H
        have c8b0 : ((t180.length : Int) == 1) = true := beq_iff_eq.mpr c8
        have c8b1 : ((t180.length : Int) != 1) = false := bne_eq_false_iff_eq.mpr c8
        clear c8
        (first | rw [c8b0] | (simp only [i64_w, i32_w]; rw [c8b0]) | (rw [Go.Proofs.YtipmmjbjgbfgjaaX.isEmpty_eq]; rw [c8b0]) | skip)
        by_cases c9 : 0 < (t180.length : Int)
        · rw [if_pos c9] at H
          have c9b0 : decide (0 < (t180.length : Int)) = true := decide_eq_true c9
          have c9b1 : decide (0 < t180.length) = true := decide_eq_true (by omega)
          clear c9
          by_cases c10 : ((rd_T40 t180 0).f0).toList = ([97] : List UInt8)
          · rw [if_pos c10] at H
            have c10b0 : (((rd_T40 t180 0).f0).toList == ([97] : List UInt8)) = true := beq_iff_eq.mpr c10
            have c10b1 : (((rd_T40 t180 0).f0).toList != ([97] : List UInt8)) = false := bne_eq_false_iff_eq.mpr c10
            clear c10
            have H' := Aside0.mk H
            clear H
            obtain ⟨Ao11, co11, eo11⟩ := Kd.R_slice HO182.out
            subst eo11
            have p183 : 0 ≤ (0 : Int) := (by omega)
            have q183 : 0 < (t180.length : Int) := of_decide_eq_true (by first | (with_reducible assumption) | assumption)
            obtain ⟨ad183, e183, hx183_0, hx183_1, hx183_2⟩ := at_T40 (Kd.R_reads' HO182.out).2.2 0 p183 q183
            cases e183
            have qi183 : (0 < t180.length) = True := eq_true (by omega)
            (try rw [show ((0 : Int)).toNat = 0 from rfl] at hx183_0)
            (try rw [show 0 * 3 = 0 from rfl] at hx183_0)
            (try rw [Addr.add_zero'] at hx183_0)
            (try rw [show ((0 : Int)).toNat = 0 from rfl] at hx183_1)
            (try rw [show 0 * 3 = 0 from rfl] at hx183_1)
            (try rw [Addr.add_zero'] at hx183_1)
            (try rw [show ((0 : Int)).toNat = 0 from rfl] at hx183_2)
            (try rw [show 0 * 3 = 0 from rfl] at hx183_2)
            (try rw [Addr.add_zero'] at hx183_2)
            replace p183 := eq_true p183
            replace q183 := eq_true q183
            have p184 : 0 ≤ (0 : Int) := (by omega)
            have q184 : 0 < (t180.length : Int) := of_decide_eq_true (by first | (with_reducible assumption) | assumption)
            obtain ⟨ad184, e184, hx184_0, hx184_1, hx184_2⟩ := at_T40 (Kd.R_reads' HO182.out).2.2 0 p184 q184
            obtain rfl : ad183 = ad184 := (by injection e184)
            have qi184 : (0 < t180.length) = True := eq_true (by omega)
            (try rw [show ((0 : Int)).toNat = 0 from rfl] at hx184_0)
            (try rw [show 0 * 3 = 0 from rfl] at hx184_0)
            (try rw [Addr.add_zero'] at hx184_0)
            (try rw [show ((0 : Int)).toNat = 0 from rfl] at hx184_1)
            (try rw [show 0 * 3 = 0 from rfl] at hx184_1)
            (try rw [Addr.add_zero'] at hx184_1)
            (try rw [show ((0 : Int)).toNat = 0 from rfl] at hx184_2)
            (try rw [show 0 * 3 = 0 from rfl] at hx184_2)
            (try rw [Addr.add_zero'] at hx184_2)
            replace p184 := eq_true p184
            replace q184 := eq_true q184
            go_wp2
            have hw8_ := Go.Proofs.YtipmmjbjgbfgjaaX.wrap_u8; have hw64_ := Go.Proofs.YtipmmjbjgbfgjaaX.wrap_i64; repeat (go_quiet (fail); try go_wp2)
            go_meet
            case rel => exact ⟨_, ((((rd_T40 t180 0).f1).toList != ([98] : List UInt8))), (by first | rfl | (simp; done) | (simp [*]; done) | (simp [Go.Proofs.YtipmmjbjgbfgjaaX.isEmpty_ne]; done)), H', ⟨by first | omega | exact Nat.le_refl _⟩, ⟨by repeat (first | (with_reducible first | exact HB.out | apply below_alloc | apply pw_below_drewN | apply below_drew1) | exact HB.out)⟩⟩
          · rw [if_neg c10] at H
            have c10b0 : (((rd_T40 t180 0).f0).toList == ([97] : List UInt8)) = false := beq_eq_false_iff_ne.mpr c10
            have c10b1 : (((rd_T40 t180 0).f0).toList != ([97] : List UInt8)) = true := bne_iff_ne.mpr c10
            have H' := Aside0.mk H
            clear H
            obtain ⟨Ao12, co12, eo12⟩ := Kd.R_slice HO182.out
            subst eo12
            have p183 : 0 ≤ (0 : Int) := (by omega)
            have q183 : 0 < (t180.length : Int) := of_decide_eq_true (by first | (with_reducible assumption) | assumption)
            obtain ⟨ad183, e183, hx183_0, hx183_1, hx183_2⟩ := at_T40 (Kd.R_reads' HO182.out).2.2 0 p183 q183
            cases e183
            have qi183 : (0 < t180.length) = True := eq_true (by omega)
            (try rw [show ((0 : Int)).toNat = 0 from rfl] at hx183_0)
            (try rw [show 0 * 3 = 0 from rfl] at hx183_0)
            (try rw [Addr.add_zero'] at hx183_0)
            (try rw [show ((0 : Int)).toNat = 0 from rfl] at hx183_1)
            (try rw [show 0 * 3 = 0 from rfl] at hx183_1)
            (try rw [Addr.add_zero'] at hx183_1)
            (try rw [show ((0 : Int)).toNat = 0 from rfl] at hx183_2)
            (try rw [show 0 * 3 = 0 from rfl] at hx183_2)
            (try rw [Addr.add_zero'] at hx183_2)
            replace p183 := eq_true p183
            replace q183 := eq_true q183
            go_wp2
            have hw8_ := Go.Proofs.YtipmmjbjgbfgjaaX.wrap_u8; have hw64_ := Go.Proofs.YtipmmjbjgbfgjaaX.wrap_i64; repeat (go_quiet (fail); try go_wp2)
            go_meet
            case rel => exact ⟨_, (true), (by first | rfl | (simp; done) | (simp [*]; done) | (simp [Go.Proofs.YtipmmjbjgbfgjaaX.isEmpty_ne]; done)), H', ⟨by first | omega | exact Nat.le_refl _⟩, ⟨by repeat (first | (with_reducible first | exact HB.out | apply below_alloc | apply pw_below_drewN | apply below_drew1) | exact HB.out)⟩⟩
        · rw [if_neg c9] at H
          exact absurd H (by simp)
      · rw [if_neg c8] at H
        have c8b0 : ((t180.length : Int) == 1) = false := beq_eq_false_iff_ne.mpr c8
        have c8b1 : ((t180.length : Int) != 1) = true := bne_iff_ne.mpr c8
        (first | rw [c8b0] | (simp only [i64_w, i32_w]; rw [c8b0]) | (rw [Go.Proofs.YtipmmjbjgbfgjaaX.isEmpty_eq]; rw [c8b0]) | skip)
        have H' := Aside0.mk H
        clear H
        obtain ⟨Ao13, co13, eo13⟩ := Kd.R_slice HO182.out
        subst eo13
        go_wp2
        have hw8_ := Go.Proofs.YtipmmjbjgbfgjaaX.wrap_u8; have hw64_ := Go.Proofs.YtipmmjbjgbfgjaaX.wrap_i64; repeat (go_quiet (fail); try go_wp2)
        go_meet
        case rel => exact ⟨_, (true), (by first | rfl | (simp; done) | (simp [*]; done) | (simp [Go.Proofs.YtipmmjbjgbfgjaaX.isEmpty_ne]; done)), H', ⟨by first | omega | exact Nat.le_refl _⟩, ⟨by repeat (first | (with_reducible first | exact HB.out | apply below_alloc | apply pw_below_drewN | apply below_drew1) | exact HB.out)⟩⟩
    case rest =>
      clear HC5
      try clear c1
      try clear p1
      try clear q1
      try clear hx1
      try clear qi1
      try clear p2
      try clear c3
      try clear c7
      try clear c8
      try clear c8b0
      try clear c8b1
      try clear c9
      try clear c9b0
      try clear c9b1
      try clear c10
      try clear c10b0
      try clear c10b1
      try clear hx183_0
      try clear hx183_1
      try clear hx183_2
      try clear hx184_0
      try clear hx184_1
      try clear hx184_2
      try clear p183
      try clear p184
      try clear q183
      try clear q184
      obtain ⟨kq, x29_4, rfl, HA, HJ4, HB⟩ := hcut
      cases kq with
      | zero => exact absurd HA.out (by simp [laws_FnCookiesBack.j0])
      | succ kj4 =>
        have H := HA.out
        clear HA
        simp only [laws_FnCookiesBack.j0] at H
        by_cases c14 : x29_4 = true
        · subst c14
          have H1 : (some false) = some r := by rw [if_pos rfl] at H; exact H
          clear H
          have H := H1
          clear H1
          obtain rfl := Option.some.inj H
          go_wp2
          have hw8_ := Go.Proofs.YtipmmjbjgbfgjaaX.wrap_u8; have hw64_ := Go.Proofs.YtipmmjbjgbfgjaaX.wrap_i64; repeat (go_quiet (fail); try go_wp2)
          go_ret
          exact ⟨by first | rfl | (simp [errW_none, errW_some] <;> rfl) | (simp [*, errW_none, errW_some] <;> rfl), by repeat (first | (with_reducible first | exact HB.out | apply below_alloc | apply pw_below_drewN | apply below_drew1) | exact HB.out)⟩
        · replace c14 := Bool.eq_false_iff.mpr c14
          subst c14
          have H1 : ((laws_few.f kj4 l0).bind fun t185 => (if t185 = true then (laws_FnCookiesBack.l0 kj4 l0 l0 (l0.length : Int) 0) else (some true))) = some r := by rw [if_neg (show ¬ (false = true) by decide)] at H; exact H
          clear H
          have H := H1
          clear H1
          replace H := Option.bind_eq_some_iff.mp H
          obtain ⟨t185, A150, H⟩ := H
          replace H : (if t185 = true then (laws_FnCookiesBack.l0 kj4 l0 l0 (l0.length : Int) 0) else (some true)) = some r := H
          have A15 := Aside0.mk A150
          clear A150
          by_cases c16 : t185 = true
          · subst c16
            have H1 : (laws_FnCookiesBack.l0 kj4 l0 l0 (l0.length : Int) 0) = some r := by rw [if_pos rfl] at H; exact H
            clear H
            have H := H1
            clear H1
            have H' := Aside0.mk H
            clear H
            go_wp2_with (first | (go_at_call 29; (with_reducible refine (laws_few.calls kj4 _ _ l0 true _ ?side1 ?side2 A15.out).mono ?_); (case side1 => repeat (first | exact (Kd.C_below HR0.out HB.out) | (with_reducible refine Kd.C_alloc ?_ _) | (with_reducible refine Kd.C_drewN ?_ _) | (with_reducible refine Kd.C_drew ?_))); (case side2 => exact HC0.out); rintro e w17 ⟨rfl, hb⟩; have n0_ := Aside0.mk (below_step (by repeat (first | (with_reducible first | exact HB.out | apply below_alloc | apply pw_below_drewN | apply below_drew1) | exact HB.out)) hb); clear HB; have HB := n0_; clear n0_; (try clear hb); (try clear hb2); (try clear hk); (try clear hi)))
            repeat (go_quiet (first | (go_at_call 29; (with_reducible refine (laws_few.calls kj4 _ _ l0 true _ ?side1 ?side2 A15.out).mono ?_); (case side1 => repeat (first | exact (Kd.C_below HR0.out HB.out) | (with_reducible refine Kd.C_alloc ?_ _) | (with_reducible refine Kd.C_drewN ?_ _) | (with_reducible refine Kd.C_drew ?_))); (case side2 => exact HC0.out); rintro e w17 ⟨rfl, hb⟩; have n0_ := Aside0.mk (below_step (by repeat (first | (with_reducible first | exact HB.out | apply below_alloc | apply pw_below_drewN | apply below_drew1) | exact HB.out)) hb); clear HB; have HB := n0_; clear n0_; (try clear hb); (try clear hb2); (try clear hk); (try clear hi))); try go_wp2_with (first | (go_at_call 29; (with_reducible refine (laws_few.calls kj4 _ _ l0 true _ ?side1 ?side2 A15.out).mono ?_); (case side1 => repeat (first | exact (Kd.C_below HR0.out HB.out) | (with_reducible refine Kd.C_alloc ?_ _) | (with_reducible refine Kd.C_drewN ?_ _) | (with_reducible refine Kd.C_drew ?_))); (case side2 => exact HC0.out); rintro e w17 ⟨rfl, hb⟩; have n0_ := Aside0.mk (below_step (by repeat (first | (with_reducible first | exact HB.out | apply below_alloc | apply pw_below_drewN | apply below_drew1) | exact HB.out)) hb); clear HB; have HB := n0_; clear n0_; (try clear hb); (try clear hb2); (try clear hk); (try clear hi))))
            go_loopg [35] kj4 (fun kq v35 w' => ∃ (x35_2 : Int), v35 = .int .i64 x35_2 ∧ Aside0 (laws_FnCookiesBack.l0 kq l0 l0 (l0.length : Int) x35_2 = some r) ∧ Aside0 (kq ≤ kj4) ∧ Aside0 (Below w.heap.size w w'))
            case atStart => exact ⟨(0), (by first | rfl | (simp; done) | (simp [*]; done) | (simp [Go.Proofs.YtipmmjbjgbfgjaaX.isEmpty_ne]; done)), H', ⟨Nat.le_refl _⟩, ⟨by repeat (first | (with_reducible first | exact HB.out | apply below_alloc | apply pw_below_drewN | apply below_drew1) | exact HB.out)⟩⟩
            case round =>
              clear H'
              try clear c1
              try clear p1
              try clear q1
              try clear hx1
              try clear qi1
              try clear p2
              try clear c3
              try clear c7
              try clear c8
              try clear c8b0
              try clear c8b1
              try clear c9
              try clear c9b0
              try clear c9b1
              try clear c10
              try clear c10b0
              try clear c10b1
              try clear c14
              try clear c16
              try clear hx183_0
              try clear hx183_1
              try clear hx183_2
              try clear hx184_0
              try clear hx184_1
              try clear hx184_2
              try clear p1
              try clear p183
              try clear p184
              try clear p2
              try clear q1
              try clear q183
              try clear q184
              obtain ⟨x35_2, rfl, HA, HK2, HB⟩ := hrel
              cases gk with
              | zero => exact absurd HA.out (by simp [laws_FnCookiesBack.l0])
              | succ k2 =>
                have H := HA.out
                clear HA
                simp only [laws_FnCookiesBack.l0] at H
                by_cases c18 : x35_2 < (l0.length : Int)
                · rw [if_pos c18] at H
                  have c18b0 : decide (x35_2 < (l0.length : Int)) = true := decide_eq_true c18
                  clear c18
                  by_cases c19 : 0 ≤ x35_2
                  · rw [if_pos c19] at H
                    have c19b0 : decide (0 ≤ x35_2) = true := decide_eq_true c19
                    clear c19
                    by_cases c20 : x35_2 < (l0.length : Int)
                    · rw [if_pos c20] at H
                      have c20b0 : decide (x35_2 < (l0.length : Int)) = true := decide_eq_true c20
                      clear c20
                      have HC21 := Aside0.mk H
                      clear H
                      have p186 : 0 ≤ (x35_2 : Int) := of_decide_eq_true (by first | (with_reducible assumption) | assumption)
                      have q186 : x35_2 < (l0.length : Int) := of_decide_eq_true (by first | (with_reducible assumption) | assumption)
                      obtain ⟨ad186, e186, hx186_0, hx186_1, hx186_2⟩ := at_T40 HR0.out x35_2 p186 q186
                      cases e186
                      replace hx186_0 := (HB.out.cell (World.block_lt_of_cell? w _ hx186_0)).trans hx186_0
                      replace hx186_1 := (HB.out.cell (World.block_lt_of_cell? w _ hx186_1)).trans hx186_1
                      replace hx186_2 := (HB.out.cell (World.block_lt_of_cell? w _ hx186_2)).trans hx186_2
                      replace p186 := eq_true p186
                      replace q186 := eq_true q186
                      go_upto_region 11 with (first | ((with_reducible refine gate_dst (N := 5) rfl ?_); refine box_event ?hg (N := 5) ?hd (cs := #[.string (⟨#[]⟩ : ByteArray), .string (⟨#[]⟩ : ByteArray), .bool false]) (t := 40) ?hr ?_; (case hd => rfl); (case hg => rfl); (case hr => first | (go_simp; done) | (go_simp; rfl)); intro gb187 hg w22 hbox hb; have n0_ := Aside0.mk (below_step (by repeat (first | (with_reducible first | exact HB.out | apply below_alloc | apply pw_below_drewN | apply below_drew1) | exact HB.out)) hb); have n1_ := Aside0.mk (hbox); have n2_ := Aside0.mk ((by rw [hg]; exact (below_size (by repeat (first | (with_reducible first | exact HB.out | apply below_alloc | apply pw_below_drewN | apply below_drew1) | exact HB.out))) : w.heap.size ≤ gb187)); have n3_ := Aside0.mk ((by rw [hg]; exact (below_size (by repeat (first | (with_reducible first | exact HB.out | apply below_alloc | apply pw_below_drewN | apply below_drew1) | exact HB.out))) : w.heap.size ≤ gb187)); clear HB; have HB := n0_; have BK187 := n1_; have GW187 := n2_; have GE187 := n3_; clear n0_ n1_ n2_ n3_; clear hb hbox hg; have hcz23_0 : w22.cell? ⟨gb187, 0, none⟩ = some (.string (⟨#[]⟩ : ByteArray)) := (blk_cell BK187.out 0).trans rfl; have hcz23_1 : w22.cell? ⟨gb187, 1, none⟩ = some (.string (⟨#[]⟩ : ByteArray)) := (blk_cell BK187.out 1).trans rfl; have hcz23_2 : w22.cell? ⟨gb187, 2, none⟩ = some (.bool false) := (blk_cell BK187.out 2).trans rfl; have hfz23_0 := blk_frozen BK187.out 0; have hfz23_1 := blk_frozen BK187.out 1; have hfz23_2 := blk_frozen BK187.out 2))
                      repeat (go_quiet (first | ((with_reducible refine gate_dst (N := 5) rfl ?_); refine box_event ?hg (N := 5) ?hd (cs := #[.string (⟨#[]⟩ : ByteArray), .string (⟨#[]⟩ : ByteArray), .bool false]) (t := 40) ?hr ?_; (case hd => rfl); (case hg => rfl); (case hr => first | (go_simp; done) | (go_simp; rfl)); intro gb187 hg w22 hbox hb; have n0_ := Aside0.mk (below_step (by repeat (first | (with_reducible first | exact HB.out | apply below_alloc | apply pw_below_drewN | apply below_drew1) | exact HB.out)) hb); have n1_ := Aside0.mk (hbox); have n2_ := Aside0.mk ((by rw [hg]; exact (below_size (by repeat (first | (with_reducible first | exact HB.out | apply below_alloc | apply pw_below_drewN | apply below_drew1) | exact HB.out))) : w.heap.size ≤ gb187)); have n3_ := Aside0.mk ((by rw [hg]; exact (below_size (by repeat (first | (with_reducible first | exact HB.out | apply below_alloc | apply pw_below_drewN | apply below_drew1) | exact HB.out))) : w.heap.size ≤ gb187)); clear HB; have HB := n0_; have BK187 := n1_; have GW187 := n2_; have GE187 := n3_; clear n0_ n1_ n2_ n3_; clear hb hbox hg; have hcz23_0 : w22.cell? ⟨gb187, 0, none⟩ = some (.string (⟨#[]⟩ : ByteArray)) := (blk_cell BK187.out 0).trans rfl; have hcz23_1 : w22.cell? ⟨gb187, 1, none⟩ = some (.string (⟨#[]⟩ : ByteArray)) := (blk_cell BK187.out 1).trans rfl; have hcz23_2 : w22.cell? ⟨gb187, 2, none⟩ = some (.bool false) := (blk_cell BK187.out 2).trans rfl; have hfz23_0 := blk_frozen BK187.out 0; have hfz23_1 := blk_frozen BK187.out 1; have hfz23_2 := blk_frozen BK187.out 2)); go_upto_region 11 with (first | ((with_reducible refine gate_dst (N := 5) rfl ?_); refine box_event ?hg (N := 5) ?hd (cs := #[.string (⟨#[]⟩ : ByteArray), .string (⟨#[]⟩ : ByteArray), .bool false]) (t := 40) ?hr ?_; (case hd => rfl); (case hg => rfl); (case hr => first | (go_simp; done) | (go_simp; rfl)); intro gb187 hg w22 hbox hb; have n0_ := Aside0.mk (below_step (by repeat (first | (with_reducible first | exact HB.out | apply below_alloc | apply pw_below_drewN | apply below_drew1) | exact HB.out)) hb); have n1_ := Aside0.mk (hbox); have n2_ := Aside0.mk ((by rw [hg]; exact (below_size (by repeat (first | (with_reducible first | exact HB.out | apply below_alloc | apply pw_below_drewN | apply below_drew1) | exact HB.out))) : w.heap.size ≤ gb187)); have n3_ := Aside0.mk ((by rw [hg]; exact (below_size (by repeat (first | (with_reducible first | exact HB.out | apply below_alloc | apply pw_below_drewN | apply below_drew1) | exact HB.out))) : w.heap.size ≤ gb187)); clear HB; have HB := n0_; have BK187 := n1_; have GW187 := n2_; have GE187 := n3_; clear n0_ n1_ n2_ n3_; clear hb hbox hg; have hcz23_0 : w22.cell? ⟨gb187, 0, none⟩ = some (.string (⟨#[]⟩ : ByteArray)) := (blk_cell BK187.out 0).trans rfl; have hcz23_1 : w22.cell? ⟨gb187, 1, none⟩ = some (.string (⟨#[]⟩ : ByteArray)) := (blk_cell BK187.out 1).trans rfl; have hcz23_2 : w22.cell? ⟨gb187, 2, none⟩ = some (.bool false) := (blk_cell BK187.out 2).trans rfl; have hfz23_0 := blk_frozen BK187.out 0; have hfz23_1 := blk_frozen BK187.out 1; have hfz23_2 := blk_frozen BK187.out 2)))
                      (try simp only [Act.put, List.setIfInBounds_toArray, List.set_cons_zero, List.set_cons_succ])
                      go_cut [53] (fun v53 wc => ∃ (kq : Nat) (x53_20 : Bool), v53 = .bool x53_20 ∧ Aside0 (laws_FnCookiesBack.j2 kq l0 x35_2 l0 (l0.length : Int) x35_2 x53_20 ((rd_T40 l0 x35_2).f0) ((rd_T40 l0 x35_2).f1) ((rd_T40 l0 x35_2).f2) = some r) ∧ Aside0 (kq ≤ k2) ∧ Aside0 (wc.heap[gb187]? = some (.cells #[.string ((rd_T40 l0 x35_2).f0), .string ((rd_T40 l0 x35_2).f1), .bool ((rd_T40 l0 x35_2).f2)] 40 (0, 0))) ∧ Aside0 (Below w.heap.size w wc))
                      case first =>
                        have H := HC21.out
                        clear HC21
                        replace H := Option.bind_eq_some_iff.mp H
                        obtain ⟨t188, A240, H⟩ := H
                        replace H : (if t188 = true then ((laws_token.f k2 ((rd_T40 l0 x35_2).f1)).bind fun t189 => (if t189 = true then (laws_FnCookiesBack.j2 k2 l0 x35_2 l0 (l0.length : Int) x35_2 ((rd_T40 l0 x35_2).f2) ((rd_T40 l0 x35_2).f0) ((rd_T40 l0 x35_2).f1) ((rd_T40 l0 x35_2).f2)) else (laws_FnCookiesBack.j2 k2 l0 x35_2 l0 (l0.length : Int) x35_2 true ((rd_T40 l0 x35_2).f0) ((rd_T40 l0 x35_2).f1) ((rd_T40 l0 x35_2).f2)))) else (laws_FnCookiesBack.j2 k2 l0 x35_2 l0 (l0.length : Int) x35_2 true ((rd_T40 l0 x35_2).f0) ((rd_T40 l0 x35_2).f1) ((rd_T40 l0 x35_2).f2))) = some r := H
                        have A24 := Aside0.mk A240
                        clear A240
                        by_cases c25 : t188 = true
                        · subst c25
                          have H1 : ((laws_token.f k2 ((rd_T40 l0 x35_2).f1)).bind fun t189 => (if t189 = true then (laws_FnCookiesBack.j2 k2 l0 x35_2 l0 (l0.length : Int) x35_2 ((rd_T40 l0 x35_2).f2) ((rd_T40 l0 x35_2).f0) ((rd_T40 l0 x35_2).f1) ((rd_T40 l0 x35_2).f2)) else (laws_FnCookiesBack.j2 k2 l0 x35_2 l0 (l0.length : Int) x35_2 true ((rd_T40 l0 x35_2).f0) ((rd_T40 l0 x35_2).f1) ((rd_T40 l0 x35_2).f2)))) = some r := by rw [if_pos rfl] at H; exact H
                          clear H
                          have H := H1
                          clear H1
                          replace H := Option.bind_eq_some_iff.mp H
                          obtain ⟨t189, A260, H⟩ := H
                          replace H : (if t189 = true then (laws_FnCookiesBack.j2 k2 l0 x35_2 l0 (l0.length : Int) x35_2 ((rd_T40 l0 x35_2).f2) ((rd_T40 l0 x35_2).f0) ((rd_T40 l0 x35_2).f1) ((rd_T40 l0 x35_2).f2)) else (laws_FnCookiesBack.j2 k2 l0 x35_2 l0 (l0.length : Int) x35_2 true ((rd_T40 l0 x35_2).f0) ((rd_T40 l0 x35_2).f1) ((rd_T40 l0 x35_2).f2))) = some r := H
                          have A26 := Aside0.mk A260
                          clear A260
                          by_cases c27 : t189 = true
                          · subst c27
                            have H1 : (laws_FnCookiesBack.j2 k2 l0 x35_2 l0 (l0.length : Int) x35_2 ((rd_T40 l0 x35_2).f2) ((rd_T40 l0 x35_2).f0) ((rd_T40 l0 x35_2).f1) ((rd_T40 l0 x35_2).f2)) = some r := by rw [if_pos rfl] at H; exact H
                            clear H
                            have H := H1
                            clear H1
                            have H' := Aside0.mk H
                            clear H
                            have hcz28_0 : w22.cell? ⟨gb187, 0, none⟩ = some (.string (⟨#[]⟩ : ByteArray)) := (blk_cell BK187.out 0).trans rfl
                            have hcz28_1 : w22.cell? ⟨gb187, 1, none⟩ = some (.string (⟨#[]⟩ : ByteArray)) := (blk_cell BK187.out 1).trans rfl
                            have hcz28_2 : w22.cell? ⟨gb187, 2, none⟩ = some (.bool false) := (blk_cell BK187.out 2).trans rfl
                            have hfz28_0 := blk_frozen BK187.out 0
                            have hfz28_1 := blk_frozen BK187.out 1
                            have hfz28_2 := blk_frozen BK187.out 2
                            go_wp2_with (first | (go_at_call 30; (with_reducible refine (laws_token.calls k2 ((rd_T40 l0 x35_2).f0) true _ A24.out).mono ?_); rintro e w' ⟨rfl, ⟨nd, rfl⟩⟩; (try first | exact ⟨rfl, _, World.drewN_drewN _ _ _⟩ | exact ⟨rfl, _, Eq.trans (World.drewN_drewN _ _ _) (congrArg (World.drewN _) (Nat.add_assoc _ _ _))⟩)) | (go_at_call 30; (with_reducible refine (laws_token.calls k2 ((rd_T40 l0 x35_2).f1) true _ A26.out).mono ?_); rintro e w' ⟨rfl, ⟨nd, rfl⟩⟩; (try first | exact ⟨rfl, _, World.drewN_drewN _ _ _⟩ | exact ⟨rfl, _, Eq.trans (World.drewN_drewN _ _ _) (congrArg (World.drewN _) (Nat.add_assoc _ _ _))⟩)))
                            repeat (go_quiet (first | (go_at_call 30; (with_reducible refine (laws_token.calls k2 ((rd_T40 l0 x35_2).f0) true _ A24.out).mono ?_); rintro e w' ⟨rfl, ⟨nd, rfl⟩⟩; (try first | exact ⟨rfl, _, World.drewN_drewN _ _ _⟩ | exact ⟨rfl, _, Eq.trans (World.drewN_drewN _ _ _) (congrArg (World.drewN _) (Nat.add_assoc _ _ _))⟩)) | (go_at_call 30; (with_reducible refine (laws_token.calls k2 ((rd_T40 l0 x35_2).f1) true _ A26.out).mono ?_); rintro e w' ⟨rfl, ⟨nd, rfl⟩⟩; (try first | exact ⟨rfl, _, World.drewN_drewN _ _ _⟩ | exact ⟨rfl, _, Eq.trans (World.drewN_drewN _ _ _) (congrArg (World.drewN _) (Nat.add_assoc _ _ _))⟩))); try go_wp2_with (first | (go_at_call 30; (with_reducible refine (laws_token.calls k2 ((rd_T40 l0 x35_2).f0) true _ A24.out).mono ?_); rintro e w' ⟨rfl, ⟨nd, rfl⟩⟩; (try first | exact ⟨rfl, _, World.drewN_drewN _ _ _⟩ | exact ⟨rfl, _, Eq.trans (World.drewN_drewN _ _ _) (congrArg (World.drewN _) (Nat.add_assoc _ _ _))⟩)) | (go_at_call 30; (with_reducible refine (laws_token.calls k2 ((rd_T40 l0 x35_2).f1) true _ A26.out).mono ?_); rintro e w' ⟨rfl, ⟨nd, rfl⟩⟩; (try first | exact ⟨rfl, _, World.drewN_drewN _ _ _⟩ | exact ⟨rfl, _, Eq.trans (World.drewN_drewN _ _ _) (congrArg (World.drewN _) (Nat.add_assoc _ _ _))⟩))))
                            go_meet
                            case rel => exact ⟨_, ((rd_T40 l0 x35_2).f2), (by first | rfl | (simp; done) | (simp [*]; done) | (simp [Go.Proofs.YtipmmjbjgbfgjaaX.isEmpty_ne]; done)), H', ⟨by have := HJ4.out; have := HK2.out; first | omega | exact Nat.le_refl _⟩, ⟨by (with_reducible repeat (first | refine blk_drewN ?_ _ | refine blk_drew ?_ | refine blk_alloc ?_ _)); refine blk_put (cs := #[.string ((rd_T40 l0 x35_2).f0), .string ((rd_T40 l0 x35_2).f1), .bool false]) ?_ 2 _ rfl; (with_reducible repeat (first | refine blk_drewN ?_ _ | refine blk_drew ?_ | refine blk_alloc ?_ _)); refine blk_put (cs := #[.string ((rd_T40 l0 x35_2).f0), .string (⟨#[]⟩ : ByteArray), .bool false]) ?_ 1 _ rfl; (with_reducible repeat (first | refine blk_drewN ?_ _ | refine blk_drew ?_ | refine blk_alloc ?_ _)); refine blk_put (cs := #[.string (⟨#[]⟩ : ByteArray), .string (⟨#[]⟩ : ByteArray), .bool false]) ?_ 0 _ rfl; (with_reducible repeat (first | refine blk_drewN ?_ _ | refine blk_drew ?_ | refine blk_alloc ?_ _)); exact BK187.out⟩, ⟨by repeat (first | (with_reducible first | exact HB.out | apply below_alloc | apply pw_below_drewN | apply below_drew1 | refine below_set ?_ GE187.out) | exact HB.out)⟩⟩
                          · replace c27 := Bool.eq_false_iff.mpr c27
                            subst c27
                            have H1 : (laws_FnCookiesBack.j2 k2 l0 x35_2 l0 (l0.length : Int) x35_2 true ((rd_T40 l0 x35_2).f0) ((rd_T40 l0 x35_2).f1) ((rd_T40 l0 x35_2).f2)) = some r := by rw [if_neg (show ¬ (false = true) by decide)] at H; exact H
                            clear H
                            have H := H1
                            clear H1
                            have H' := Aside0.mk H
                            clear H
                            have hcz29_0 : w22.cell? ⟨gb187, 0, none⟩ = some (.string (⟨#[]⟩ : ByteArray)) := (blk_cell BK187.out 0).trans rfl
                            have hcz29_1 : w22.cell? ⟨gb187, 1, none⟩ = some (.string (⟨#[]⟩ : ByteArray)) := (blk_cell BK187.out 1).trans rfl
                            have hcz29_2 : w22.cell? ⟨gb187, 2, none⟩ = some (.bool false) := (blk_cell BK187.out 2).trans rfl
                            have hfz29_0 := blk_frozen BK187.out 0
                            have hfz29_1 := blk_frozen BK187.out 1
                            have hfz29_2 := blk_frozen BK187.out 2
                            go_wp2_with (first | (go_at_call 30; (with_reducible refine (laws_token.calls k2 ((rd_T40 l0 x35_2).f0) true _ A24.out).mono ?_); rintro e w' ⟨rfl, ⟨nd, rfl⟩⟩; (try first | exact ⟨rfl, _, World.drewN_drewN _ _ _⟩ | exact ⟨rfl, _, Eq.trans (World.drewN_drewN _ _ _) (congrArg (World.drewN _) (Nat.add_assoc _ _ _))⟩)) | (go_at_call 30; (with_reducible refine (laws_token.calls k2 ((rd_T40 l0 x35_2).f1) false _ A26.out).mono ?_); rintro e w' ⟨rfl, ⟨nd, rfl⟩⟩; (try first | exact ⟨rfl, _, World.drewN_drewN _ _ _⟩ | exact ⟨rfl, _, Eq.trans (World.drewN_drewN _ _ _) (congrArg (World.drewN _) (Nat.add_assoc _ _ _))⟩)))
                            repeat (go_quiet (first | (go_at_call 30; (with_reducible refine (laws_token.calls k2 ((rd_T40 l0 x35_2).f0) true _ A24.out).mono ?_); rintro e w' ⟨rfl, ⟨nd, rfl⟩⟩; (try first | exact ⟨rfl, _, World.drewN_drewN _ _ _⟩ | exact ⟨rfl, _, Eq.trans (World.drewN_drewN _ _ _) (congrArg (World.drewN _) (Nat.add_assoc _ _ _))⟩)) | (go_at_call 30; (with_reducible refine (laws_token.calls k2 ((rd_T40 l0 x35_2).f1) false _ A26.out).mono ?_); rintro e w' ⟨rfl, ⟨nd, rfl⟩⟩; (try first | exact ⟨rfl, _, World.drewN_drewN _ _ _⟩ | exact ⟨rfl, _, Eq.trans (World.drewN_drewN _ _ _) (congrArg (World.drewN _) (Nat.add_assoc _ _ _))⟩))); try go_wp2_with (first | (go_at_call 30; (with_reducible refine (laws_token.calls k2 ((rd_T40 l0 x35_2).f0) true _ A24.out).mono ?_); rintro e w' ⟨rfl, ⟨nd, rfl⟩⟩; (try first | exact ⟨rfl, _, World.drewN_drewN _ _ _⟩ | exact ⟨rfl, _, Eq.trans (World.drewN_drewN _ _ _) (congrArg (World.drewN _) (Nat.add_assoc _ _ _))⟩)) | (go_at_call 30; (with_reducible refine (laws_token.calls k2 ((rd_T40 l0 x35_2).f1) false _ A26.out).mono ?_); rintro e w' ⟨rfl, ⟨nd, rfl⟩⟩; (try first | exact ⟨rfl, _, World.drewN_drewN _ _ _⟩ | exact ⟨rfl, _, Eq.trans (World.drewN_drewN _ _ _) (congrArg (World.drewN _) (Nat.add_assoc _ _ _))⟩))))
                            go_meet
                            case rel => exact ⟨_, (true), (by first | rfl | (simp; done) | (simp [*]; done) | (simp [Go.Proofs.YtipmmjbjgbfgjaaX.isEmpty_ne]; done)), H', ⟨by have := HJ4.out; have := HK2.out; first | omega | exact Nat.le_refl _⟩, ⟨by (with_reducible repeat (first | refine blk_drewN ?_ _ | refine blk_drew ?_ | refine blk_alloc ?_ _)); refine blk_put (cs := #[.string ((rd_T40 l0 x35_2).f0), .string ((rd_T40 l0 x35_2).f1), .bool false]) ?_ 2 _ rfl; (with_reducible repeat (first | refine blk_drewN ?_ _ | refine blk_drew ?_ | refine blk_alloc ?_ _)); refine blk_put (cs := #[.string ((rd_T40 l0 x35_2).f0), .string (⟨#[]⟩ : ByteArray), .bool false]) ?_ 1 _ rfl; (with_reducible repeat (first | refine blk_drewN ?_ _ | refine blk_drew ?_ | refine blk_alloc ?_ _)); refine blk_put (cs := #[.string (⟨#[]⟩ : ByteArray), .string (⟨#[]⟩ : ByteArray), .bool false]) ?_ 0 _ rfl; (with_reducible repeat (first | refine blk_drewN ?_ _ | refine blk_drew ?_ | refine blk_alloc ?_ _)); exact BK187.out⟩, ⟨by repeat (first | (with_reducible first | exact HB.out | apply below_alloc | apply pw_below_drewN | apply below_drew1 | refine below_set ?_ GE187.out) | exact HB.out)⟩⟩
                        · replace c25 := Bool.eq_false_iff.mpr c25
                          subst c25
                          have H1 : (laws_FnCookiesBack.j2 k2 l0 x35_2 l0 (l0.length : Int) x35_2 true ((rd_T40 l0 x35_2).f0) ((rd_T40 l0 x35_2).f1) ((rd_T40 l0 x35_2).f2)) = some r := by rw [if_neg (show ¬ (false = true) by decide)] at H; exact H
                          clear H
                          have H := H1
                          clear H1
                          have H' := Aside0.mk H
                          clear H
                          have hcz30_0 : w22.cell? ⟨gb187, 0, none⟩ = some (.string (⟨#[]⟩ : ByteArray)) := (blk_cell BK187.out 0).trans rfl
                          have hcz30_1 : w22.cell? ⟨gb187, 1, none⟩ = some (.string (⟨#[]⟩ : ByteArray)) := (blk_cell BK187.out 1).trans rfl
                          have hcz30_2 : w22.cell? ⟨gb187, 2, none⟩ = some (.bool false) := (blk_cell BK187.out 2).trans rfl
                          have hfz30_0 := blk_frozen BK187.out 0
                          have hfz30_1 := blk_frozen BK187.out 1
                          have hfz30_2 := blk_frozen BK187.out 2
                          go_wp2_with (first | (go_at_call 30; (with_reducible refine (laws_token.calls k2 ((rd_T40 l0 x35_2).f0) false _ A24.out).mono ?_); rintro e w' ⟨rfl, ⟨nd, rfl⟩⟩; (try first | exact ⟨rfl, _, World.drewN_drewN _ _ _⟩ | exact ⟨rfl, _, Eq.trans (World.drewN_drewN _ _ _) (congrArg (World.drewN _) (Nat.add_assoc _ _ _))⟩)))
                          repeat (go_quiet (first | (go_at_call 30; (with_reducible refine (laws_token.calls k2 ((rd_T40 l0 x35_2).f0) false _ A24.out).mono ?_); rintro e w' ⟨rfl, ⟨nd, rfl⟩⟩; (try first | exact ⟨rfl, _, World.drewN_drewN _ _ _⟩ | exact ⟨rfl, _, Eq.trans (World.drewN_drewN _ _ _) (congrArg (World.drewN _) (Nat.add_assoc _ _ _))⟩))); try go_wp2_with (first | (go_at_call 30; (with_reducible refine (laws_token.calls k2 ((rd_T40 l0 x35_2).f0) false _ A24.out).mono ?_); rintro e w' ⟨rfl, ⟨nd, rfl⟩⟩; (try first | exact ⟨rfl, _, World.drewN_drewN _ _ _⟩ | exact ⟨rfl, _, Eq.trans (World.drewN_drewN _ _ _) (congrArg (World.drewN _) (Nat.add_assoc _ _ _))⟩))))
                          go_meet
                          case rel => exact ⟨_, (true), (by first | rfl | (simp; done) | (simp [*]; done) | (simp [Go.Proofs.YtipmmjbjgbfgjaaX.isEmpty_ne]; done)), H', ⟨by have := HJ4.out; have := HK2.out; first | omega | exact Nat.le_refl _⟩, ⟨by (with_reducible repeat (first | refine blk_drewN ?_ _ | refine blk_drew ?_ | refine blk_alloc ?_ _)); refine blk_put (cs := #[.string ((rd_T40 l0 x35_2).f0), .string ((rd_T40 l0 x35_2).f1), .bool false]) ?_ 2 _ rfl; (with_reducible repeat (first | refine blk_drewN ?_ _ | refine blk_drew ?_ | refine blk_alloc ?_ _)); refine blk_put (cs := #[.string ((rd_T40 l0 x35_2).f0), .string (⟨#[]⟩ : ByteArray), .bool false]) ?_ 1 _ rfl; (with_reducible repeat (first | refine blk_drewN ?_ _ | refine blk_drew ?_ | refine blk_alloc ?_ _)); refine blk_put (cs := #[.string (⟨#[]⟩ : ByteArray), .string (⟨#[]⟩ : ByteArray), .bool false]) ?_ 0 _ rfl; (with_reducible repeat (first | refine blk_drewN ?_ _ | refine blk_drew ?_ | refine blk_alloc ?_ _)); exact BK187.out⟩, ⟨by repeat (first | (with_reducible first | exact HB.out | apply below_alloc | apply pw_below_drewN | apply below_drew1 | refine below_set ?_ GE187.out) | exact HB.out)⟩⟩
                      case rest =>
                        clear HC21
                        try clear c1
                        try clear p1
                        try clear q1
                        try clear hx1
                        try clear qi1
                        try clear c2
                        try clear p2
                        try clear c3
                        try clear c7
                        try clear c8
                        try clear c8b0
                        try clear c8b1
                        try clear c9
                        try clear c9b0
                        try clear c9b1
                        try clear c10
                        try clear c10b0
                        try clear c10b1
                        try clear c14
                        try clear c16
                        try clear c18
                        try clear c18b0
                        try clear p18
                        try clear q18
                        try clear hx18
                        try clear qi18
                        try clear c19
                        try clear c19b0
                        try clear c20
                        try clear c20b0
                        try clear c25
                        try clear c27
                        try clear hcz23_0
                        try clear hcz23_1
                        try clear hcz23_2
                        try clear hcz28_0
                        try clear hcz28_1
                        try clear hcz28_2
                        try clear hcz29_0
                        try clear hcz29_1
                        try clear hcz29_2
                        try clear hcz30_0
                        try clear hcz30_1
                        try clear hcz30_2
                        try clear hfz23_0
                        try clear hfz23_1
                        try clear hfz23_2
                        try clear hfz28_0
                        try clear hfz28_1
                        try clear hfz28_2
                        try clear hfz29_0
                        try clear hfz29_1
                        try clear hfz29_2
                        try clear hfz30_0
                        try clear hfz30_1
                        try clear hfz30_2
                        try clear hx183_0
                        try clear hx183_1
                        try clear hx183_2
                        try clear hx184_0
                        try clear hx184_1
                        try clear hx184_2
                        try clear hx186_0
                        try clear hx186_1
                        try clear hx186_2
                        try clear p1
                        try clear p183
                        try clear p184
                        try clear p186
                        try clear p2
                        try clear q1
                        try clear q183
                        try clear q184
                        try clear q186
                        obtain ⟨kq, x53_20, rfl, HA, HJ20, BK187, HB⟩ := hcut
                        cases kq with
                        | zero => exact absurd HA.out (by simp [laws_FnCookiesBack.j2])
                        | succ kj20 =>
                          have H := HA.out
                          clear HA
                          simp only [laws_FnCookiesBack.j2] at H
                          by_cases c31 : x53_20 = true
                          · subst c31
                            have H1 : (some true) = some r := by rw [if_pos rfl] at H; exact H
                            clear H
                            have H := H1
                            clear H1
                            obtain rfl := Option.some.inj H
                            go_wp2
                            have hw8_ := Go.Proofs.YtipmmjbjgbfgjaaX.wrap_u8; have hw64_ := Go.Proofs.YtipmmjbjgbfgjaaX.wrap_i64; repeat (go_quiet (fail); try go_wp2)
                            go_ret
                            exact ⟨by first | rfl | (simp [errW_none, errW_some] <;> rfl) | (simp [*, errW_none, errW_some] <;> rfl), by repeat (first | (with_reducible first | exact HB.out | apply below_alloc | apply pw_below_drewN | apply below_drew1 | refine below_set ?_ GE187.out) | exact HB.out)⟩
                          · replace c31 := Bool.eq_false_iff.mpr c31
                            subst c31
                            have H1 : (laws_FnCookiesBack.l1 kj20 l0 l0 (l0.length : Int) x35_2 x35_2 0 ((rd_T40 l0 x35_2).f0) ((rd_T40 l0 x35_2).f1) ((rd_T40 l0 x35_2).f2)) = some r := by rw [if_neg (show ¬ (false = true) by decide)] at H; exact H
                            clear H
                            have H := H1
                            clear H1
                            have H' := Aside0.mk H
                            clear H
                            go_wp2
                            have hw8_ := Go.Proofs.YtipmmjbjgbfgjaaX.wrap_u8; have hw64_ := Go.Proofs.YtipmmjbjgbfgjaaX.wrap_i64; repeat (go_quiet (fail); try go_wp2)
                            go_loopg [55] kj20 (fun kq v55 w' => ∃ (x55_4 : Int), v55 = .int .i64 x55_4 ∧ Aside0 (laws_FnCookiesBack.l1 kq l0 l0 (l0.length : Int) x35_2 x35_2 x55_4 ((rd_T40 l0 x35_2).f0) ((rd_T40 l0 x35_2).f1) ((rd_T40 l0 x35_2).f2) = some r) ∧ Aside0 (kq ≤ kj20) ∧ Aside0 (w'.heap[gb187]? = some (.cells #[.string ((rd_T40 l0 x35_2).f0), .string ((rd_T40 l0 x35_2).f1), .bool ((rd_T40 l0 x35_2).f2)] 40 (0, 0))) ∧ Aside0 (Below w.heap.size w w'))
                            case atStart => exact ⟨(0), (by first | rfl | (simp; done) | (simp [*]; done) | (simp [Go.Proofs.YtipmmjbjgbfgjaaX.isEmpty_ne]; done)), H', ⟨Nat.le_refl _⟩, ⟨by (with_reducible repeat (first | refine blk_drewN ?_ _ | refine blk_drew ?_ | refine blk_alloc ?_ _)); exact BK187.out⟩, ⟨by repeat (first | (with_reducible first | exact HB.out | apply below_alloc | apply pw_below_drewN | apply below_drew1 | refine below_set ?_ GE187.out) | exact HB.out)⟩⟩
                            case round =>
                              clear H'
                              try clear c1
                              try clear p1
                              try clear q1
                              try clear hx1
                              try clear qi1
                              try clear c2
                              try clear p2
                              try clear c3
                              try clear c7
                              try clear c8
                              try clear c8b0
                              try clear c8b1
                              try clear c9
                              try clear c9b0
                              try clear c9b1
                              try clear c10
                              try clear c10b0
                              try clear c10b1
                              try clear c14
                              try clear c16
                              try clear c18
                              try clear c18b0
                              try clear p18
                              try clear q18
                              try clear hx18
                              try clear qi18
                              try clear c19
                              try clear c19b0
                              try clear c20
                              try clear c20b0
                              try clear c25
                              try clear c27
                              try clear c31
                              try clear hcz23_0
                              try clear hcz23_1
                              try clear hcz23_2
                              try clear hcz28_0
                              try clear hcz28_1
                              try clear hcz28_2
                              try clear hcz29_0
                              try clear hcz29_1
                              try clear hcz29_2
                              try clear hcz30_0
                              try clear hcz30_1
                              try clear hcz30_2
                              try clear hfz23_0
                              try clear hfz23_1
                              try clear hfz23_2
                              try clear hfz28_0
                              try clear hfz28_1
                              try clear hfz28_2
                              try clear hfz29_0
                              try clear hfz29_1
                              try clear hfz29_2
                              try clear hfz30_0
                              try clear hfz30_1
                              try clear hfz30_2
                              try clear hx183_0
                              try clear hx183_1
                              try clear hx183_2
                              try clear hx184_0
                              try clear hx184_1
                              try clear hx184_2
                              try clear hx186_0
                              try clear hx186_1
                              try clear hx186_2
                              try clear p1
                              try clear p18
                              try clear p183
                              try clear p184
                              try clear p186
                              try clear p2
                              try clear q1
                              try clear q18
                              try clear q183
                              try clear q184
                              try clear q186
                              obtain ⟨x55_4, rfl, HA, HK4, BK187, HB⟩ := hrel
                              cases gk with
                              | zero => exact absurd HA.out (by simp [laws_FnCookiesBack.l1])
                              | succ k4 =>
                                have H := HA.out
                                clear HA
                                simp only [laws_FnCookiesBack.l1] at H
                                by_cases c32 : x55_4 < x35_2
                                · rw [if_pos c32] at H
                                  have c32b0 : decide (x55_4 < x35_2) = true := decide_eq_true c32
                                  clear c32
                                  by_cases c33 : 0 ≤ x55_4
                                  · rw [if_pos c33] at H
                                    have c33b0 : decide (0 ≤ x55_4) = true := decide_eq_true c33
                                    clear c33
                                    by_cases c34 : x55_4 < (l0.length : Int)
                                    · rw [if_pos c34] at H
                                      have c34b0 : decide (x55_4 < (l0.length : Int)) = true := decide_eq_true c34
                                      clear c34
                                      by_cases c35 : ((rd_T40 l0 x55_4).f0).toList = ((rd_T40 l0 x35_2).f0).toList
                                      · rw [if_pos c35] at H
                                        have c35b0 : (((rd_T40 l0 x55_4).f0).toList == ((rd_T40 l0 x35_2).f0).toList) = true := beq_iff_eq.mpr c35
                                        have c35b1 : (((rd_T40 l0 x55_4).f0).toList != ((rd_T40 l0 x35_2).f0).toList) = false := bne_eq_false_iff_eq.mpr c35
                                        clear c35
                                        obtain rfl := Option.some.inj H
                                        have p190 : 0 ≤ (x55_4 : Int) := of_decide_eq_true (by first | (with_reducible assumption) | assumption)
                                        have q190 : x55_4 < (l0.length : Int) := of_decide_eq_true (by first | (with_reducible assumption) | assumption)
                                        obtain ⟨ad190, e190, hx190_0, hx190_1, hx190_2⟩ := at_T40 HR0.out x55_4 p190 q190
                                        obtain rfl : ad186 = ad190 := (by injection e190)
                                        replace hx190_0 := (HB.out.cell (World.block_lt_of_cell? w _ hx190_0)).trans hx190_0
                                        replace hx190_1 := (HB.out.cell (World.block_lt_of_cell? w _ hx190_1)).trans hx190_1
                                        replace hx190_2 := (HB.out.cell (World.block_lt_of_cell? w _ hx190_2)).trans hx190_2
                                        replace p190 := eq_true p190
                                        replace q190 := eq_true q190
                                        have hcz36_0 : wr.cell? ⟨gb187, 0, none⟩ = some (.string ((rd_T40 l0 x35_2).f0)) := (blk_cell BK187.out 0).trans rfl
                                        have hcz36_1 : wr.cell? ⟨gb187, 1, none⟩ = some (.string ((rd_T40 l0 x35_2).f1)) := (blk_cell BK187.out 1).trans rfl
                                        have hcz36_2 : wr.cell? ⟨gb187, 2, none⟩ = some (.bool ((rd_T40 l0 x35_2).f2)) := (blk_cell BK187.out 2).trans rfl
                                        have hfz36_0 := blk_frozen BK187.out 0
                                        have hfz36_1 := blk_frozen BK187.out 1
                                        have hfz36_2 := blk_frozen BK187.out 2
                                        go_wp2
                                        have hw8_ := Go.Proofs.YtipmmjbjgbfgjaaX.wrap_u8; have hw64_ := Go.Proofs.YtipmmjbjgbfgjaaX.wrap_i64; repeat (go_quiet (fail); try go_wp2)
                                        go_ret
                                        exact ⟨by first | rfl | (simp [errW_none, errW_some] <;> rfl) | (simp [*, errW_none, errW_some] <;> rfl), by repeat (first | (with_reducible first | exact HB.out | apply below_alloc | apply pw_below_drewN | apply below_drew1 | refine below_set ?_ GE187.out) | exact HB.out)⟩
                                      · rw [if_neg c35] at H
                                        have c35b0 : (((rd_T40 l0 x55_4).f0).toList == ((rd_T40 l0 x35_2).f0).toList) = false := beq_eq_false_iff_ne.mpr c35
                                        have c35b1 : (((rd_T40 l0 x55_4).f0).toList != ((rd_T40 l0 x35_2).f0).toList) = true := bne_iff_ne.mpr c35
                                        have H' := Aside0.mk H
                                        clear H
                                        have p190 : 0 ≤ (x55_4 : Int) := of_decide_eq_true (by first | (with_reducible assumption) | assumption)
                                        have q190 : x55_4 < (l0.length : Int) := of_decide_eq_true (by first | (with_reducible assumption) | assumption)
                                        obtain ⟨ad190, e190, hx190_0, hx190_1, hx190_2⟩ := at_T40 HR0.out x55_4 p190 q190
                                        obtain rfl : ad186 = ad190 := (by injection e190)
                                        replace hx190_0 := (HB.out.cell (World.block_lt_of_cell? w _ hx190_0)).trans hx190_0
                                        replace hx190_1 := (HB.out.cell (World.block_lt_of_cell? w _ hx190_1)).trans hx190_1
                                        replace hx190_2 := (HB.out.cell (World.block_lt_of_cell? w _ hx190_2)).trans hx190_2
                                        replace p190 := eq_true p190
                                        replace q190 := eq_true q190
                                        have hcz37_0 : wr.cell? ⟨gb187, 0, none⟩ = some (.string ((rd_T40 l0 x35_2).f0)) := (blk_cell BK187.out 0).trans rfl
                                        have hcz37_1 : wr.cell? ⟨gb187, 1, none⟩ = some (.string ((rd_T40 l0 x35_2).f1)) := (blk_cell BK187.out 1).trans rfl
                                        have hcz37_2 : wr.cell? ⟨gb187, 2, none⟩ = some (.bool ((rd_T40 l0 x35_2).f2)) := (blk_cell BK187.out 2).trans rfl
                                        have hfz37_0 := blk_frozen BK187.out 0
                                        have hfz37_1 := blk_frozen BK187.out 1
                                        have hfz37_2 := blk_frozen BK187.out 2
                                        go_wp2
                                        have hw8_ := Go.Proofs.YtipmmjbjgbfgjaaX.wrap_u8; have hw64_ := Go.Proofs.YtipmmjbjgbfgjaaX.wrap_i64; repeat (go_quiet (fail); try go_wp2)
                                        go_roundg k4
                                        case measure => have := HJ4.out; have := HK2.out; have := HJ20.out; have := HK4.out; omega
                                        case rel => exact ⟨(wrap64 (x55_4 + 1)), (by first | rfl | (simp; done) | (simp [*]; done) | (simp [Go.Proofs.YtipmmjbjgbfgjaaX.isEmpty_ne]; done)), H', ⟨by have := HJ4.out; have := HK2.out; have := HJ20.out; have := HK4.out; omega⟩, ⟨by (with_reducible repeat (first | refine blk_drewN ?_ _ | refine blk_drew ?_ | refine blk_alloc ?_ _)); exact BK187.out⟩, ⟨by repeat (first | (with_reducible first | exact HB.out | apply below_alloc | apply pw_below_drewN | apply below_drew1 | refine below_set ?_ GE187.out) | exact HB.out)⟩⟩
                                    · rw [if_neg c34] at H
                                      exact absurd H (by simp)
                                  · rw [if_neg c33] at H
                                    exact absurd H (by simp)
                                · rw [if_neg c32] at H
                                  have c32b0 : decide (x55_4 < x35_2) = false := decide_eq_false c32
                                  clear c32
                                  have H' := Aside0.mk H
                                  clear H
                                  go_wp2
                                  have hw8_ := Go.Proofs.YtipmmjbjgbfgjaaX.wrap_u8; have hw64_ := Go.Proofs.YtipmmjbjgbfgjaaX.wrap_i64; repeat (go_quiet (fail); try go_wp2)
                                  go_roundg k4
                                  case measure => have := HJ4.out; have := HK2.out; have := HJ20.out; have := HK4.out; omega
                                  case rel => exact ⟨(wrap64 (x35_2 + 1)), (by first | rfl | (simp; done) | (simp [*]; done) | (simp [Go.Proofs.YtipmmjbjgbfgjaaX.isEmpty_ne]; done)), H', ⟨by have := HJ4.out; have := HK2.out; have := HJ20.out; have := HK4.out; omega⟩, ⟨by repeat (first | (with_reducible first | exact HB.out | apply below_alloc | apply pw_below_drewN | apply below_drew1 | refine below_set ?_ GE187.out) | exact HB.out)⟩⟩
                    · rw [if_neg c20] at H
                      exact absurd H (by simp)
                  · rw [if_neg c19] at H
                    exact absurd H (by simp)
                · rw [if_neg c18] at H
                  have c18b0 : decide (x35_2 < (l0.length : Int)) = false := decide_eq_false c18
                  clear c18
                  replace H := Option.bind_eq_some_iff.mp H
                  obtain ⟨t191, A380, H⟩ := H
                  replace H : ((impl_RequestCookies.f t191).bind fun t192 => (if (t192.length : Int) = (l0.length : Int) then (laws_FnCookiesBack.l2 k2 l0 t192 (t192.length : Int) 0) else (some false))) = some r := H
                  have A38 := Aside0.mk A380
                  clear A380
                  replace H := Option.bind_eq_some_iff.mp H
                  obtain ⟨t192, A390, H⟩ := H
                  replace H : (if (t192.length : Int) = (l0.length : Int) then (laws_FnCookiesBack.l2 k2 l0 t192 (t192.length : Int) 0) else (some false)) = some r := H
                  have A39 := Aside0.mk A390
                  clear A390
                  by_cases c40 : (t192.length : Int) = (l0.length : Int)
                  · rw [if_pos c40] at H
                    have c40b0 : ((t192.length : Int) == (l0.length : Int)) = true := beq_iff_eq.mpr c40
                    have c40b1 : ((t192.length : Int) != (l0.length : Int)) = false := bne_eq_false_iff_eq.mpr c40
                    have c40b2 : (t192.length == l0.length) = true := by first | simpa using c40 | (simp at c40 ⊢; omega)
                    clear c40
                    have H' := Aside0.mk H
                    clear H
                    go_wp2_with (first | (go_at_call 31; (with_reducible refine (impl_CookiesText.calls _ _ l0 t191 _ ?side1 ?side2 A38.out).mono ?_); (case side1 => repeat (first | exact (Kd.C_below HR0.out HB.out) | (with_reducible refine Kd.C_alloc ?_ _) | (with_reducible refine Kd.C_drewN ?_ _) | (with_reducible refine Kd.C_drew ?_))); (case side2 => exact HC0.out); rintro e w41 ⟨rfl, hb⟩; have n0_ := Aside0.mk (below_step (by repeat (first | (with_reducible first | exact HB.out | apply below_alloc | apply pw_below_drewN | apply below_drew1) | exact HB.out)) hb); clear HB; have HB := n0_; clear n0_; (try clear hb); (try clear hb2); (try clear hk); (try clear hi)) | (go_at_call 28; (with_reducible refine (impl_RequestCookies.calls t191 t192 _ A39.out).mono ?_); rintro e w42 ⟨v193, rfl, ho0, hb⟩; have n0_ := Aside0.mk (Kd.R_lower ho0 (below_size (by repeat (first | (with_reducible first | exact HB.out | apply below_alloc | apply pw_below_drewN | apply below_drew1) | exact HB.out)))); have n1_ := Aside0.mk (below_step (by repeat (first | (with_reducible first | exact HB.out | apply below_alloc | apply pw_below_drewN | apply below_drew1) | exact HB.out)) hb); clear HB; have HO194 := n0_; have HB := n1_; clear n0_ n1_; (try clear hb); (try clear hb2); (try clear hk); (try clear hi); (try clear ho0); obtain ⟨Ao43, co43, eo43⟩ := Kd.R_slice HO194.out; subst eo43))
                    repeat (go_quiet (first | (go_at_call 31; (with_reducible refine (impl_CookiesText.calls _ _ l0 t191 _ ?side1 ?side2 A38.out).mono ?_); (case side1 => repeat (first | exact (Kd.C_below HR0.out HB.out) | (with_reducible refine Kd.C_alloc ?_ _) | (with_reducible refine Kd.C_drewN ?_ _) | (with_reducible refine Kd.C_drew ?_))); (case side2 => exact HC0.out); rintro e w41 ⟨rfl, hb⟩; have n0_ := Aside0.mk (below_step (by repeat (first | (with_reducible first | exact HB.out | apply below_alloc | apply pw_below_drewN | apply below_drew1) | exact HB.out)) hb); clear HB; have HB := n0_; clear n0_; (try clear hb); (try clear hb2); (try clear hk); (try clear hi)) | (go_at_call 28; (with_reducible refine (impl_RequestCookies.calls t191 t192 _ A39.out).mono ?_); rintro e w42 ⟨v193, rfl, ho0, hb⟩; have n0_ := Aside0.mk (Kd.R_lower ho0 (below_size (by repeat (first | (with_reducible first | exact HB.out | apply below_alloc | apply pw_below_drewN | apply below_drew1) | exact HB.out)))); have n1_ := Aside0.mk (below_step (by repeat (first | (with_reducible first | exact HB.out | apply below_alloc | apply pw_below_drewN | apply below_drew1) | exact HB.out)) hb); clear HB; have HO194 := n0_; have HB := n1_; clear n0_ n1_; (try clear hb); (try clear hb2); (try clear hk); (try clear hi); (try clear ho0); obtain ⟨Ao43, co43, eo43⟩ := Kd.R_slice HO194.out; subst eo43)); try go_wp2_with (first | (go_at_call 31; (with_reducible refine (impl_CookiesText.calls _ _ l0 t191 _ ?side1 ?side2 A38.out).mono ?_); (case side1 => repeat (first | exact (Kd.C_below HR0.out HB.out) | (with_reducible refine Kd.C_alloc ?_ _) | (with_reducible refine Kd.C_drewN ?_ _) | (with_reducible refine Kd.C_drew ?_))); (case side2 => exact HC0.out); rintro e w41 ⟨rfl, hb⟩; have n0_ := Aside0.mk (below_step (by repeat (first | (with_reducible first | exact HB.out | apply below_alloc | apply pw_below_drewN | apply below_drew1) | exact HB.out)) hb); clear HB; have HB := n0_; clear n0_; (try clear hb); (try clear hb2); (try clear hk); (try clear hi)) | (go_at_call 28; (with_reducible refine (impl_RequestCookies.calls t191 t192 _ A39.out).mono ?_); rintro e w42 ⟨v193, rfl, ho0, hb⟩; have n0_ := Aside0.mk (Kd.R_lower ho0 (below_size (by repeat (first | (with_reducible first | exact HB.out | apply below_alloc | apply pw_below_drewN | apply below_drew1) | exact HB.out)))); have n1_ := Aside0.mk (below_step (by repeat (first | (with_reducible first | exact HB.out | apply below_alloc | apply pw_below_drewN | apply below_drew1) | exact HB.out)) hb); clear HB; have HO194 := n0_; have HB := n1_; clear n0_ n1_; (try clear hb); (try clear hb2); (try clear hk); (try clear hi); (try clear ho0); obtain ⟨Ao43, co43, eo43⟩ := Kd.R_slice HO194.out; subst eo43)))
                    go_loopg [78] k2 (fun kq v78 w' => ∃ (x78_3 : Int), v78 = .int .i64 x78_3 ∧ Aside0 (laws_FnCookiesBack.l2 kq l0 t192 (t192.length : Int) x78_3 = some r) ∧ Aside0 (kq ≤ k2) ∧ Aside0 (Kd.R k40 40 w' w.heap.size (fun _ => True) (.slice Ao43 t192.length co43) t192) ∧ Aside0 (Below w.heap.size w w'))
                    case atStart => exact ⟨(0), (by first | rfl | (simp; done) | (simp [*]; done) | (simp [Go.Proofs.YtipmmjbjgbfgjaaX.isEmpty_ne]; done)), H', ⟨Nat.le_refl _⟩, ⟨by (with_reducible repeat (first | apply Kd.R_alloc | apply Kd.R_drewN | apply Kd.R_drew)); exact HO194.out⟩, ⟨by repeat (first | (with_reducible first | exact HB.out | apply below_alloc | apply pw_below_drewN | apply below_drew1) | exact HB.out)⟩⟩
                    case round =>
                      clear H'
                      try clear c1
                      try clear p1
                      try clear q1
                      try clear hx1
                      try clear qi1
                      try clear c2
                      try clear p2
                      try clear c3
                      try clear c4
                      try clear p6
                      try clear c7
                      try clear c8
                      try clear c8b0
                      try clear c8b1
                      try clear c9
                      try clear c9b0
                      try clear c9b1
                      try clear c10
                      try clear c10b0
                      try clear c10b1
                      try clear c14
                      try clear c16
                      try clear c18
                      try clear c18b0
                      try clear p18
                      try clear q18
                      try clear hx18
                      try clear qi18
                      try clear c19
                      try clear c19b0
                      try clear p19
                      try clear q19
                      try clear hx19
                      try clear c20
                      try clear c20b0
                      try clear c25
                      try clear c27
                      try clear c31
                      try clear c32
                      try clear c32b0
                      try clear c33
                      try clear c33b0
                      try clear c34
                      try clear c34b0
                      try clear c35
                      try clear c35b0
                      try clear c35b1
                      try clear c40
                      try clear c40b0
                      try clear c40b1
                      try clear c40b2
                      try clear hcz23_0
                      try clear hcz23_1
                      try clear hcz23_2
                      try clear hcz28_0
                      try clear hcz28_1
                      try clear hcz28_2
                      try clear hcz29_0
                      try clear hcz29_1
                      try clear hcz29_2
                      try clear hcz30_0
                      try clear hcz30_1
                      try clear hcz30_2
                      try clear hcz36_0
                      try clear hcz36_1
                      try clear hcz36_2
                      try clear hcz37_0
                      try clear hcz37_1
                      try clear hcz37_2
                      try clear hfz23_0
                      try clear hfz23_1
                      try clear hfz23_2
                      try clear hfz28_0
                      try clear hfz28_1
                      try clear hfz28_2
                      try clear hfz29_0
                      try clear hfz29_1
                      try clear hfz29_2
                      try clear hfz30_0
                      try clear hfz30_1
                      try clear hfz30_2
                      try clear hfz36_0
                      try clear hfz36_1
                      try clear hfz36_2
                      try clear hfz37_0
                      try clear hfz37_1
                      try clear hfz37_2
                      try clear hx183_0
                      try clear hx183_1
                      try clear hx183_2
                      try clear hx184_0
                      try clear hx184_1
                      try clear hx184_2
                      try clear hx186_0
                      try clear hx186_1
                      try clear hx186_2
                      try clear hx190_0
                      try clear hx190_1
                      try clear hx190_2
                      try clear p1
                      try clear p18
                      try clear p183
                      try clear p184
                      try clear p186
                      try clear p190
                      try clear p2
                      try clear q1
                      try clear q18
                      try clear q183
                      try clear q184
                      try clear q186
                      try clear q190
                      obtain ⟨x78_3, rfl, HA, HK3, HO_7, HB⟩ := hrel
                      cases gk with
                      | zero => exact absurd HA.out (by simp [laws_FnCookiesBack.l2])
                      | succ k3 =>
                        have H := HA.out
                        clear HA
                        simp only [laws_FnCookiesBack.l2] at H
                        by_cases c44 : x78_3 < (t192.length : Int)
                        · rw [if_pos c44] at H
                          have c44b0 : decide (x78_3 < (t192.length : Int)) = true := decide_eq_true c44
                          clear c44
                          by_cases c45 : 0 ≤ x78_3
                          · rw [if_pos c45] at H
                            have c45b0 : decide (0 ≤ x78_3) = true := decide_eq_true c45
                            clear c45
                            by_cases c46 : x78_3 < (t192.length : Int)
                            · rw [if_pos c46] at H
                              have c46b0 : decide (x78_3 < (t192.length : Int)) = true := decide_eq_true c46
                              clear c46
                              by_cases c47 : x78_3 < (l0.length : Int)
                              · rw [if_pos c47] at H
                                have c47b0 : decide (x78_3 < (l0.length : Int)) = true := decide_eq_true c47
                                clear c47
                                by_cases c48 : ((rd_T40 t192 x78_3).f0).toList = ((rd_T40 l0 x78_3).f0).toList
                                · rw [if_pos c48] at H
                                  have c48b0 : (((rd_T40 t192 x78_3).f0).toList == ((rd_T40 l0 x78_3).f0).toList) = true := beq_iff_eq.mpr c48
                                  have c48b1 : (((rd_T40 t192 x78_3).f0).toList != ((rd_T40 l0 x78_3).f0).toList) = false := bne_eq_false_iff_eq.mpr c48
                                  clear c48
                                  by_cases c49 : ((rd_T40 t192 x78_3).f1).toList = ((rd_T40 l0 x78_3).f1).toList
                                  · rw [if_pos c49] at H
                                    have c49b0 : (((rd_T40 t192 x78_3).f1).toList == ((rd_T40 l0 x78_3).f1).toList) = true := beq_iff_eq.mpr c49
                                    have c49b1 : (((rd_T40 t192 x78_3).f1).toList != ((rd_T40 l0 x78_3).f1).toList) = false := bne_eq_false_iff_eq.mpr c49
                                    clear c49
                                    have H' := Aside0.mk H
                                    clear H
                                    have p195 : 0 ≤ (x78_3 : Int) := of_decide_eq_true (by first | (with_reducible assumption) | assumption)
                                    have q195 : x78_3 < (t192.length : Int) := of_decide_eq_true (by first | (with_reducible assumption) | assumption)
                                    obtain ⟨ad195, e195, hx195_0, hx195_1, hx195_2⟩ := at_T40 (Kd.R_reads' HO_7.out).2.2 x78_3 p195 q195
                                    cases e195
                                    replace p195 := eq_true p195
                                    replace q195 := eq_true q195
                                    have p196 : 0 ≤ (x78_3 : Int) := of_decide_eq_true (by first | (with_reducible assumption) | assumption)
                                    have q196 : x78_3 < (l0.length : Int) := of_decide_eq_true (by first | (with_reducible assumption) | assumption)
                                    obtain ⟨ad196, e196, hx196_0, hx196_1, hx196_2⟩ := at_T40 HR0.out x78_3 p196 q196
                                    cases e196
                                    replace hx196_0 := (HB.out.cell (World.block_lt_of_cell? w _ hx196_0)).trans hx196_0
                                    replace hx196_1 := (HB.out.cell (World.block_lt_of_cell? w _ hx196_1)).trans hx196_1
                                    replace hx196_2 := (HB.out.cell (World.block_lt_of_cell? w _ hx196_2)).trans hx196_2
                                    replace p196 := eq_true p196
                                    replace q196 := eq_true q196
                                    have p197 : 0 ≤ (x78_3 : Int) := of_decide_eq_true (by first | (with_reducible assumption) | assumption)
                                    have q197 : x78_3 < (t192.length : Int) := of_decide_eq_true (by first | (with_reducible assumption) | assumption)
                                    obtain ⟨ad197, e197, hx197_0, hx197_1, hx197_2⟩ := at_T40 (Kd.R_reads' HO_7.out).2.2 x78_3 p197 q197
                                    obtain rfl : ad195 = ad197 := (by injection e197)
                                    replace p197 := eq_true p197
                                    replace q197 := eq_true q197
                                    have p198 : 0 ≤ (x78_3 : Int) := of_decide_eq_true (by first | (with_reducible assumption) | assumption)
                                    have q198 : x78_3 < (l0.length : Int) := of_decide_eq_true (by first | (with_reducible assumption) | assumption)
                                    obtain ⟨ad198, e198, hx198_0, hx198_1, hx198_2⟩ := at_T40 HR0.out x78_3 p198 q198
                                    obtain rfl : ad196 = ad198 := (by injection e198)
                                    replace hx198_0 := (HB.out.cell (World.block_lt_of_cell? w _ hx198_0)).trans hx198_0
                                    replace hx198_1 := (HB.out.cell (World.block_lt_of_cell? w _ hx198_1)).trans hx198_1
                                    replace hx198_2 := (HB.out.cell (World.block_lt_of_cell? w _ hx198_2)).trans hx198_2
                                    replace p198 := eq_true p198
                                    replace q198 := eq_true q198
                                    go_wp2
                                    have hw8_ := Go.Proofs.YtipmmjbjgbfgjaaX.wrap_u8; have hw64_ := Go.Proofs.YtipmmjbjgbfgjaaX.wrap_i64; repeat (go_quiet (fail); try go_wp2)
                                    go_roundg k3
                                    case measure => have := HJ4.out; have := HK2.out; have := HK3.out; omega
                                    case rel => exact ⟨(wrap64 (x78_3 + 1)), (by first | rfl | (simp; done) | (simp [*]; done) | (simp [Go.Proofs.YtipmmjbjgbfgjaaX.isEmpty_ne]; done)), H', ⟨by have := HJ4.out; have := HK2.out; have := HK3.out; omega⟩, ⟨by (with_reducible repeat (first | apply Kd.R_alloc | apply Kd.R_drewN | apply Kd.R_drew)); exact HO_7.out⟩, ⟨by repeat (first | (with_reducible first | exact HB.out | apply below_alloc | apply pw_below_drewN | apply below_drew1) | exact HB.out)⟩⟩
                                  · rw [if_neg c49] at H
                                    have c49b0 : (((rd_T40 t192 x78_3).f1).toList == ((rd_T40 l0 x78_3).f1).toList) = false := beq_eq_false_iff_ne.mpr c49
                                    have c49b1 : (((rd_T40 t192 x78_3).f1).toList != ((rd_T40 l0 x78_3).f1).toList) = true := bne_iff_ne.mpr c49
                                    obtain rfl := Option.some.inj H
                                    have p195 : 0 ≤ (x78_3 : Int) := of_decide_eq_true (by first | (with_reducible assumption) | assumption)
                                    have q195 : x78_3 < (t192.length : Int) := of_decide_eq_true (by first | (with_reducible assumption) | assumption)
                                    obtain ⟨ad195, e195, hx195_0, hx195_1, hx195_2⟩ := at_T40 (Kd.R_reads' HO_7.out).2.2 x78_3 p195 q195
                                    cases e195
                                    replace p195 := eq_true p195
                                    replace q195 := eq_true q195
                                    have p196 : 0 ≤ (x78_3 : Int) := of_decide_eq_true (by first | (with_reducible assumption) | assumption)
                                    have q196 : x78_3 < (l0.length : Int) := of_decide_eq_true (by first | (with_reducible assumption) | assumption)
                                    obtain ⟨ad196, e196, hx196_0, hx196_1, hx196_2⟩ := at_T40 HR0.out x78_3 p196 q196
                                    cases e196
                                    replace hx196_0 := (HB.out.cell (World.block_lt_of_cell? w _ hx196_0)).trans hx196_0
                                    replace hx196_1 := (HB.out.cell (World.block_lt_of_cell? w _ hx196_1)).trans hx196_1
                                    replace hx196_2 := (HB.out.cell (World.block_lt_of_cell? w _ hx196_2)).trans hx196_2
                                    replace p196 := eq_true p196
                                    replace q196 := eq_true q196
                                    have p197 : 0 ≤ (x78_3 : Int) := of_decide_eq_true (by first | (with_reducible assumption) | assumption)
                                    have q197 : x78_3 < (t192.length : Int) := of_decide_eq_true (by first | (with_reducible assumption) | assumption)
                                    obtain ⟨ad197, e197, hx197_0, hx197_1, hx197_2⟩ := at_T40 (Kd.R_reads' HO_7.out).2.2 x78_3 p197 q197
                                    obtain rfl : ad195 = ad197 := (by injection e197)
                                    replace p197 := eq_true p197
                                    replace q197 := eq_true q197
                                    have p198 : 0 ≤ (x78_3 : Int) := of_decide_eq_true (by first | (with_reducible assumption) | assumption)
                                    have q198 : x78_3 < (l0.length : Int) := of_decide_eq_true (by first | (with_reducible assumption) | assumption)
                                    obtain ⟨ad198, e198, hx198_0, hx198_1, hx198_2⟩ := at_T40 HR0.out x78_3 p198 q198
                                    obtain rfl : ad196 = ad198 := (by injection e198)
                                    replace hx198_0 := (HB.out.cell (World.block_lt_of_cell? w _ hx198_0)).trans hx198_0
                                    replace hx198_1 := (HB.out.cell (World.block_lt_of_cell? w _ hx198_1)).trans hx198_1
                                    replace hx198_2 := (HB.out.cell (World.block_lt_of_cell? w _ hx198_2)).trans hx198_2
                                    replace p198 := eq_true p198
                                    replace q198 := eq_true q198
                                    go_wp2
                                    have hw8_ := Go.Proofs.YtipmmjbjgbfgjaaX.wrap_u8; have hw64_ := Go.Proofs.YtipmmjbjgbfgjaaX.wrap_i64; repeat (go_quiet (fail); try go_wp2)
                                    go_ret
                                    exact ⟨by first | rfl | (simp [errW_none, errW_some] <;> rfl) | (simp [*, errW_none, errW_some] <;> rfl), by repeat (first | (with_reducible first | exact HB.out | apply below_alloc | apply pw_below_drewN | apply below_drew1) | exact HB.out)⟩
                                · rw [if_neg c48] at H
                                  have c48b0 : (((rd_T40 t192 x78_3).f0).toList == ((rd_T40 l0 x78_3).f0).toList) = false := beq_eq_false_iff_ne.mpr c48
                                  have c48b1 : (((rd_T40 t192 x78_3).f0).toList != ((rd_T40 l0 x78_3).f0).toList) = true := bne_iff_ne.mpr c48
                                  obtain rfl := Option.some.inj H
                                  have p195 : 0 ≤ (x78_3 : Int) := of_decide_eq_true (by first | (with_reducible assumption) | assumption)
                                  have q195 : x78_3 < (t192.length : Int) := of_decide_eq_true (by first | (with_reducible assumption) | assumption)
                                  obtain ⟨ad195, e195, hx195_0, hx195_1, hx195_2⟩ := at_T40 (Kd.R_reads' HO_7.out).2.2 x78_3 p195 q195
                                  cases e195
                                  replace p195 := eq_true p195
                                  replace q195 := eq_true q195
                                  have p196 : 0 ≤ (x78_3 : Int) := of_decide_eq_true (by first | (with_reducible assumption) | assumption)
                                  have q196 : x78_3 < (l0.length : Int) := of_decide_eq_true (by first | (with_reducible assumption) | assumption)
                                  obtain ⟨ad196, e196, hx196_0, hx196_1, hx196_2⟩ := at_T40 HR0.out x78_3 p196 q196
                                  cases e196
                                  replace hx196_0 := (HB.out.cell (World.block_lt_of_cell? w _ hx196_0)).trans hx196_0
                                  replace hx196_1 := (HB.out.cell (World.block_lt_of_cell? w _ hx196_1)).trans hx196_1
                                  replace hx196_2 := (HB.out.cell (World.block_lt_of_cell? w _ hx196_2)).trans hx196_2
                                  replace p196 := eq_true p196
                                  replace q196 := eq_true q196
                                  go_wp2
                                  have hw8_ := Go.Proofs.YtipmmjbjgbfgjaaX.wrap_u8; have hw64_ := Go.Proofs.YtipmmjbjgbfgjaaX.wrap_i64; repeat (go_quiet (fail); try go_wp2)
                                  go_ret
                                  exact ⟨by first | rfl | (simp [errW_none, errW_some] <;> rfl) | (simp [*, errW_none, errW_some] <;> rfl), by repeat (first | (with_reducible first | exact HB.out | apply below_alloc | apply pw_below_drewN | apply below_drew1) | exact HB.out)⟩
                              · rw [if_neg c47] at H
                                exact absurd H (by simp)
                            · rw [if_neg c46] at H
                              exact absurd H (by simp)
                          · rw [if_neg c45] at H
                            exact absurd H (by simp)
                        · rw [if_neg c44] at H
                          have c44b0 : decide (x78_3 < (t192.length : Int)) = false := decide_eq_false c44
                          clear c44
                          obtain rfl := Option.some.inj H
                          go_wp2
                          have hw8_ := Go.Proofs.YtipmmjbjgbfgjaaX.wrap_u8; have hw64_ := Go.Proofs.YtipmmjbjgbfgjaaX.wrap_i64; repeat (go_quiet (fail); try go_wp2)
                          go_ret
                          exact ⟨by first | rfl | (simp [errW_none, errW_some] <;> rfl) | (simp [*, errW_none, errW_some] <;> rfl), by repeat (first | (with_reducible first | exact HB.out | apply below_alloc | apply pw_below_drewN | apply below_drew1) | exact HB.out)⟩
                  · rw [if_neg c40] at H
                    have c40b0 : ((t192.length : Int) == (l0.length : Int)) = false := beq_eq_false_iff_ne.mpr c40
                    have c40b1 : ((t192.length : Int) != (l0.length : Int)) = true := bne_iff_ne.mpr c40
                    have c40b2 : (t192.length == l0.length) = false := by first | simpa using c40 | (simp at c40 ⊢; omega)
                    obtain rfl := Option.some.inj H
                    go_wp2_with (first | (go_at_call 31; (with_reducible refine (impl_CookiesText.calls _ _ l0 t191 _ ?side1 ?side2 A38.out).mono ?_); (case side1 => repeat (first | exact (Kd.C_below HR0.out HB.out) | (with_reducible refine Kd.C_alloc ?_ _) | (with_reducible refine Kd.C_drewN ?_ _) | (with_reducible refine Kd.C_drew ?_))); (case side2 => exact HC0.out); rintro e w50 ⟨rfl, hb⟩; have n0_ := Aside0.mk (below_step (by repeat (first | (with_reducible first | exact HB.out | apply below_alloc | apply pw_below_drewN | apply below_drew1) | exact HB.out)) hb); clear HB; have HB := n0_; clear n0_; (try clear hb); (try clear hb2); (try clear hk); (try clear hi)) | (go_at_call 28; (with_reducible refine (impl_RequestCookies.calls t191 t192 _ A39.out).mono ?_); rintro e w51 ⟨v193, rfl, ho0, hb⟩; have n0_ := Aside0.mk (Kd.R_lower ho0 (below_size (by repeat (first | (with_reducible first | exact HB.out | apply below_alloc | apply pw_below_drewN | apply below_drew1) | exact HB.out)))); have n1_ := Aside0.mk (below_step (by repeat (first | (with_reducible first | exact HB.out | apply below_alloc | apply pw_below_drewN | apply below_drew1) | exact HB.out)) hb); clear HB; have HO194 := n0_; have HB := n1_; clear n0_ n1_; (try clear hb); (try clear hb2); (try clear hk); (try clear hi); (try clear ho0); obtain ⟨Ao52, co52, eo52⟩ := Kd.R_slice HO194.out; subst eo52))
                    repeat (go_quiet (first | (go_at_call 31; (with_reducible refine (impl_CookiesText.calls _ _ l0 t191 _ ?side1 ?side2 A38.out).mono ?_); (case side1 => repeat (first | exact (Kd.C_below HR0.out HB.out) | (with_reducible refine Kd.C_alloc ?_ _) | (with_reducible refine Kd.C_drewN ?_ _) | (with_reducible refine Kd.C_drew ?_))); (case side2 => exact HC0.out); rintro e w50 ⟨rfl, hb⟩; have n0_ := Aside0.mk (below_step (by repeat (first | (with_reducible first | exact HB.out | apply below_alloc | apply pw_below_drewN | apply below_drew1) | exact HB.out)) hb); clear HB; have HB := n0_; clear n0_; (try clear hb); (try clear hb2); (try clear hk); (try clear hi)) | (go_at_call 28; (with_reducible refine (impl_RequestCookies.calls t191 t192 _ A39.out).mono ?_); rintro e w51 ⟨v193, rfl, ho0, hb⟩; have n0_ := Aside0.mk (Kd.R_lower ho0 (below_size (by repeat (first | (with_reducible first | exact HB.out | apply below_alloc | apply pw_below_drewN | apply below_drew1) | exact HB.out)))); have n1_ := Aside0.mk (below_step (by repeat (first | (with_reducible first | exact HB.out | apply below_alloc | apply pw_below_drewN | apply below_drew1) | exact HB.out)) hb); clear HB; have HO194 := n0_; have HB := n1_; clear n0_ n1_; (try clear hb); (try clear hb2); (try clear hk); (try clear hi); (try clear ho0); obtain ⟨Ao52, co52, eo52⟩ := Kd.R_slice HO194.out; subst eo52)); try go_wp2_with (first | (go_at_call 31; (with_reducible refine (impl_CookiesText.calls _ _ l0 t191 _ ?side1 ?side2 A38.out).mono ?_); (case side1 => repeat (first | exact (Kd.C_below HR0.out HB.out) | (with_reducible refine Kd.C_alloc ?_ _) | (with_reducible refine Kd.C_drewN ?_ _) | (with_reducible refine Kd.C_drew ?_))); (case side2 => exact HC0.out); rintro e w50 ⟨rfl, hb⟩; have n0_ := Aside0.mk (below_step (by repeat (first | (with_reducible first | exact HB.out | apply below_alloc | apply pw_below_drewN | apply below_drew1) | exact HB.out)) hb); clear HB; have HB := n0_; clear n0_; (try clear hb); (try clear hb2); (try clear hk); (try clear hi)) | (go_at_call 28; (with_reducible refine (impl_RequestCookies.calls t191 t192 _ A39.out).mono ?_); rintro e w51 ⟨v193, rfl, ho0, hb⟩; have n0_ := Aside0.mk (Kd.R_lower ho0 (below_size (by repeat (first | (with_reducible first | exact HB.out | apply below_alloc | apply pw_below_drewN | apply below_drew1) | exact HB.out)))); have n1_ := Aside0.mk (below_step (by repeat (first | (with_reducible first | exact HB.out | apply below_alloc | apply pw_below_drewN | apply below_drew1) | exact HB.out)) hb); clear HB; have HO194 := n0_; have HB := n1_; clear n0_ n1_; (try clear hb); (try clear hb2); (try clear hk); (try clear hi); (try clear ho0); obtain ⟨Ao52, co52, eo52⟩ := Kd.R_slice HO194.out; subst eo52)))
                    go_ret
                    exact ⟨by first | rfl | (simp [errW_none, errW_some] <;> rfl) | (simp [*, errW_none, errW_some] <;> rfl), by repeat (first | (with_reducible first | exact HB.out | apply below_alloc | apply pw_below_drewN | apply below_drew1) | exact HB.out)⟩
          · replace c16 := Bool.eq_false_iff.mpr c16
            subst c16
            have H1 : (some true) = some r := by rw [if_neg (show ¬ (false = true) by decide)] at H; exact H
            clear H
            have H := H1
            clear H1
            obtain rfl := Option.some.inj H
            go_wp2_with (first | (go_at_call 29; (with_reducible refine (laws_few.calls kj4 _ _ l0 false _ ?side1 ?side2 A15.out).mono ?_); (case side1 => repeat (first | exact (Kd.C_below HR0.out HB.out) | (with_reducible refine Kd.C_alloc ?_ _) | (with_reducible refine Kd.C_drewN ?_ _) | (with_reducible refine Kd.C_drew ?_))); (case side2 => exact HC0.out); rintro e w53 ⟨rfl, hb⟩; have n0_ := Aside0.mk (below_step (by repeat (first | (with_reducible first | exact HB.out | apply below_alloc | apply pw_below_drewN | apply below_drew1) | exact HB.out)) hb); clear HB; have HB := n0_; clear n0_; (try clear hb); (try clear hb2); (try clear hk); (try clear hi)))
            repeat (go_quiet (first | (go_at_call 29; (with_reducible refine (laws_few.calls kj4 _ _ l0 false _ ?side1 ?side2 A15.out).mono ?_); (case side1 => repeat (first | exact (Kd.C_below HR0.out HB.out) | (with_reducible refine Kd.C_alloc ?_ _) | (with_reducible refine Kd.C_drewN ?_ _) | (with_reducible refine Kd.C_drew ?_))); (case side2 => exact HC0.out); rintro e w53 ⟨rfl, hb⟩; have n0_ := Aside0.mk (below_step (by repeat (first | (with_reducible first | exact HB.out | apply below_alloc | apply pw_below_drewN | apply below_drew1) | exact HB.out)) hb); clear HB; have HB := n0_; clear n0_; (try clear hb); (try clear hb2); (try clear hk); (try clear hi))); try go_wp2_with (first | (go_at_call 29; (with_reducible refine (laws_few.calls kj4 _ _ l0 false _ ?side1 ?side2 A15.out).mono ?_); (case side1 => repeat (first | exact (Kd.C_below HR0.out HB.out) | (with_reducible refine Kd.C_alloc ?_ _) | (with_reducible refine Kd.C_drewN ?_ _) | (with_reducible refine Kd.C_drew ?_))); (case side2 => exact HC0.out); rintro e w53 ⟨rfl, hb⟩; have n0_ := Aside0.mk (below_step (by repeat (first | (with_reducible first | exact HB.out | apply below_alloc | apply pw_below_drewN | apply below_drew1) | exact HB.out)) hb); clear HB; have HB := n0_; clear n0_; (try clear hb); (try clear hb2); (try clear hk); (try clear hi))))
            go_ret
            exact ⟨by first | rfl | (simp [errW_none, errW_some] <;> rfl) | (simp [*, errW_none, errW_some] <;> rfl), by repeat (first | (with_reducible first | exact HB.out | apply below_alloc | apply pw_below_drewN | apply below_drew1) | exact HB.out)⟩
  · replace c3 := Bool.eq_false_iff.mpr c3
    subst c3
    have H1 : (some true) = some r := by rw [if_neg (show ¬ (false = true) by decide)] at H; exact H
    clear H
    have H := H1
    clear H1
    obtain rfl := Option.some.inj H
    go_enter Try.func7, Try.ntmps7
    go_wp2_with (first | (go_at_call 27; (with_reducible refine (laws_zzFits7.calls k _ _ l0 false _ ?side1 ?side2 A2.out).mono ?_); (case side1 => repeat (first | exact HR0.out | (with_reducible refine Kd.C_alloc ?_ _) | (with_reducible refine Kd.C_drewN ?_ _) | (with_reducible refine Kd.C_drew ?_))); (case side2 => exact HC0.out); rintro e w54 ⟨rfl, hb⟩; have n0_ := Aside0.mk (below_step (by repeat (first | (with_reducible first | exact HB.out | apply below_alloc | apply pw_below_drewN | apply below_drew1) | exact HB.out)) hb); clear HB; have HB := n0_; clear n0_; (try clear hb); (try clear hb2); (try clear hk); (try clear hi)))
    repeat (go_quiet (first | (go_at_call 27; (with_reducible refine (laws_zzFits7.calls k _ _ l0 false _ ?side1 ?side2 A2.out).mono ?_); (case side1 => repeat (first | exact HR0.out | (with_reducible refine Kd.C_alloc ?_ _) | (with_reducible refine Kd.C_drewN ?_ _) | (with_reducible refine Kd.C_drew ?_))); (case side2 => exact HC0.out); rintro e w54 ⟨rfl, hb⟩; have n0_ := Aside0.mk (below_step (by repeat (first | (with_reducible first | exact HB.out | apply below_alloc | apply pw_below_drewN | apply below_drew1) | exact HB.out)) hb); clear HB; have HB := n0_; clear n0_; (try clear hb); (try clear hb2); (try clear hk); (try clear hi))); try go_wp2_with (first | (go_at_call 27; (with_reducible refine (laws_zzFits7.calls k _ _ l0 false _ ?side1 ?side2 A2.out).mono ?_); (case side1 => repeat (first | exact HR0.out | (with_reducible refine Kd.C_alloc ?_ _) | (with_reducible refine Kd.C_drewN ?_ _) | (with_reducible refine Kd.C_drew ?_))); (case side2 => exact HC0.out); rintro e w54 ⟨rfl, hb⟩; have n0_ := Aside0.mk (below_step (by repeat (first | (with_reducible first | exact HB.out | apply below_alloc | apply pw_below_drewN | apply below_drew1) | exact HB.out)) hb); clear HB; have HB := n0_; clear n0_; (try clear hb); (try clear hb2); (try clear hk); (try clear hi))))
    go_ret
    exact ⟨by first | rfl | (simp [errW_none, errW_some] <;> rfl) | (simp [*, errW_none, errW_some] <;> rfl), by repeat (first | (with_reducible first | exact HB.out | apply below_alloc | apply pw_below_drewN | apply below_drew1) | exact HB.out)⟩

end Go.Proofs.Ytipmmjbjgbfgjaa.Q
