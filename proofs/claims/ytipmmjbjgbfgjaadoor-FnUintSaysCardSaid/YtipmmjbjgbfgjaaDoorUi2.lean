/- The number that a text begins with: hertzconv.ParseUintBuf, ParseUint, impl.UintOf, impl.UintAhead. -/
import Derived.Test.YtipmmjbjgbfgjaaDoorUi1
import Derived.Test.YtipmmjbjgbfgjaaDoorBt
import Derived.Test.YtipmmjbjgbfgjaaDoorQ0
import Derived.WalkSpells
import Derived.StillTailTactics
import Derived.Deep.RegionWith
namespace Go.Proofs.YtipmmjbjgbfgjaaDoor.Q
open Go.RowKit Go.Proofs.YtipmmjbjgbfgjaaDoorW.PrintWords Go.Proofs.YtipmmjbjgbfgjaaDoorW.PrintLast Go.Proofs.YtipmmjbjgbfgjaaDoorW.PrintMore
open Go.Proofs.YtipmmjbjgbfgjaaDoorKit (L size_L)
open Go.Proofs.YtipmmjbjgbfgjaaDoor.SpA (isD isD_b stepU pubGo pub uof uah)
set_option linter.unusedVariables false
set_option linter.unusedSimpArgs false
def natV : Value → Nat
  | .int _ x => x.toNat
  | _ => 0
theorem drawn_below {b : Nat} {a w w' : World} (h : Below b a w) (d : Drawn0 w w') : Below b a w' := by
  obtain ⟨m, rfl⟩ := d
  exact pw_below_drewN h m
/-- The four errors lie where the program's text lays them. -/
def LaidD (w : World) : Prop := 4 ≤ w.heap.size ∧ ∀ k, k < 4 → ∃ a, w.cell? ⟨k, 0, none⟩ = some (.iface 54 (.pointer (some a)))
theorem LaidD.below {b : Nat} {w w' : World} (h : LaidD w) (hb : Below b w w') (h4 : w.heap.size ≤ b) : LaidD w' := by
  refine ⟨Nat.le_trans h.1 hb.size, fun k hk => ?_⟩
  obtain ⟨a, ha⟩ := h.2 k hk
  exact ⟨a, by rw [← ha]; exact hb.cell (p := ⟨k, 0, none⟩) (by have := h.1; show k < b; omega)⟩
def ErrV (err : Bool) (v : Value) : Prop := (err = true ∧ ∃ a, v = .iface 54 (.pointer (some a))) ∨ (err = false ∧ v = .nilIface)
def PubPost (w : World) (l : List UInt8) (e : Ending) (w' : World) : Prop := ∃ ev, e = .returned (.tuple #[.int .i64 (pub l).1, .int .i64 (pub l).2.1, ev]) ∧ ErrV (pub l).2.2 ev ∧ Below w.heap.size w w'
theorem PubPost.of {w : World} {l : List UInt8} {x y : Int} {b : Bool} {ev : Value} {w' : World} (h : pub l = (x, y, b)) (he : ErrV b ev) (hb : Below w.heap.size w w') : PubPost w l (.returned (.tuple #[.int .i64 x, .int .i64 y, ev])) w' := by
  refine ⟨ev, ?_, ?_, hb⟩
  · rw [h]
  · rw [h]; exact he
theorem BR.at_ {w : World} {g : Nat} {e : TypeId} {l : List UInt8} (h : BR w g e l) (i : Nat) (hi : i < l.length) : w.cell? ⟨g, i, none⟩ = some (.int .u8 (l[i].toNat : Int)) := h.cell i hi
set_option maxHeartbeats 16000000 in
set_option maxRecDepth 100000 in
theorem pubf_calls (w : World) (g c : Nat) (l : List UInt8) (hbr : BR w g 5 l) (hc : l.length ≤ c) (hl : l.length ≤ 2147483647) (hL : LaidD w) :
    Calls Tryd.prog 18 #[.slice (some ⟨g, 0, none⟩) l.length c] w (PubPost w l) := by
  obtain ⟨a1, e1⟩ := hL.2 1 (by decide)
  obtain ⟨a2, e2⟩ := hL.2 2 (by decide)
  obtain ⟨a3, e3⟩ := hL.2 3 (by decide)
  by_cases h0 : l = []
  · subst h0
    have b1 : ((([] : List UInt8).length : Int) == 0) = true := rfl
    have b2 : ((0 : Int) == 0) = true := rfl
    clear hbr hc hl hL
    go_enter Tryd.func18, Tryd.ntmps18
    go_wp2
    repeat (go_quiet (fail); try go_wp2)
    go_ret3
    exact PubPost.of rfl (.inl ⟨rfl, _, rfl⟩) (pw_below_drewN (Below.refl _ _) _)
  · have hl0 := List.length_pos_iff.2 h0
    have b1 : ((l.length : Int) == 0) = false := beq_eq_false_iff_ne.2 (by omega)
    have hp : pub l = pubGo (l.drop 0) 0 0 := by rw [pub, if_neg h0]; rfl
    have HP := Aside0.mk hp
    have HBR := Aside0.mk hbr
    have HL := Aside0.mk hl
    clear hbr hc hL h0 hp hl hl0
    go_enter Tryd.func18, Tryd.ntmps18
    go_wp2
    go_loop [6, 7] (fun v5 v6 => ∃ (v : Int) (i : Nat), v5 = .int .i64 v ∧ v6 = .int .i64 (i : Int) ∧ Aside0 (i ≤ l.length ∧ 0 ≤ v ∧ v ≤ 9223372036854775807 ∧ pub l = pubGo (l.drop i) i v)) (fun _ v6 => l.length - natV v6)
    case atStart => exact ⟨0, 0, rfl, rfl, ⟨⟨Nat.zero_le _, by decide, by decide, HP.out⟩⟩⟩
    case round =>
      obtain ⟨v, i, rfl, rfl, HI⟩ := hrel
      obtain ⟨hi, hv0, hv1, hpg⟩ := HI.out
      have hLL := HL.out
      by_cases hlt : i < l.length
      · have hd : l.drop i = l[i] :: l.drop (i + 1) := List.drop_eq_getElem_cons hlt
        have fc := HBR.out.at_ i hlt
        obtain ⟨x, hx⟩ : ∃ x, x = l[i] := ⟨_, rfl⟩
        rw [← hx] at hd fc
        have hxb := x.toNat_lt
        rw [hd] at hpg
        have t1 : decide ((i : Int) < (l.length : Int)) = true := decide_eq_true (by omega)
        have p1 : (0 ≤ (i : Int)) = True := eq_true (by omega)
        have q1 : ((i : Int) < (l.length : Int)) = True := eq_true (by omega)
        have wx : wrap64 ((i : Int) + 1) = ((i + 1 : Nat) : Int) := by unfold wrap64; omega
        by_cases hD : isD x = true
        · have hb := isD_b hD
          rw [pubGo, if_pos hD] at hpg
          have k1 : ((x.toNat : Int) - 48) % 256 = (x.toNat : Int) - 48 := by omega
          have k2 : decide ((x.toNat : Int) - 48 > 9) = false := decide_eq_false (by omega)
          have k3 : (0 ≤ (x.toNat : Int) - 48) = True := eq_true (by omega)
          obtain ⟨y, hy⟩ : ∃ y, y = stepU v x := ⟨_, rfl⟩
          have hyw : wrap64 (wrap64 (10 * v) + ((x.toNat : Int) - 48)) = y := by rw [hy]; rfl
          have hyb : -9223372036854775808 ≤ y ∧ y ≤ 9223372036854775807 := by rw [← hyw]; unfold wrap64; omega
          rw [← hy] at hpg
          by_cases hlt2 : y < v
          · rw [if_pos hlt2] at hpg
            have t2 : decide (y < v) = true := decide_eq_true hlt2
            have HPG := Aside0.mk hpg
            clear hi hv0 hv1 hpg hLL hlt hd hx hxb hD hb hy hyb hlt2 HI HP
            go_wp2
            repeat (go_quiet (fail); try go_wp2)
            go_ret3
            exact PubPost.of HPG.out (.inl ⟨rfl, _, rfl⟩) (by first | exact Below.refl _ _ | exact pw_below_drewN (Below.refl _ _) _)
          · rw [if_neg hlt2] at hpg
            have t2 : decide (y < v) = false := decide_eq_false hlt2
            have HPG := Aside0.mk hpg
            have HYB : Aside0 (i < l.length ∧ 0 ≤ y ∧ y ≤ 9223372036854775807) := ⟨by omega⟩
            clear hi hv0 hv1 hpg hLL hlt hd hx hxb hD hb hy hyb hlt2 HI HP
            go_wp2
            go_round
            case measure => have := HYB.out; simp only [natV]; try rw [wx]; omega
            case rel => exact ⟨y, i + 1, by first | rfl | rw [hyw], by first | rfl | (rw [← wx]), ⟨⟨by have := HYB.out; omega, HYB.out.2.1, HYB.out.2.2, HPG.out⟩⟩⟩
        · rw [pubGo, if_neg hD] at hpg
          have hnd : ¬ (48 ≤ x.toNat ∧ x.toNat ≤ 57) := by simpa [isD] using hD
          have k2 : decide (((x.toNat : Int) - 48) % 256 > 9) = true := decide_eq_true (by omega)
          by_cases hi0 : i = 0
          · subst hi0
            rw [if_pos rfl] at hpg
            have t2 : ((0 : Int) == 0) = true := rfl
            clear t1 q1
            have t1 : decide ((0 : Int) < (l.length : Int)) = true := decide_eq_true (by omega)
            have q1 : ((0 : Int) < (l.length : Int)) = True := eq_true (by omega)
            have n1 : 0 < l.length := by omega
            have HPG := Aside0.mk hpg
            clear hi hv0 hv1 hpg hLL hlt hd hx hxb hD hnd HI HP
            go_wp2
            repeat (go_quiet (fail); try go_wp2)
            go_ret3
            exact PubPost.of HPG.out (.inl ⟨rfl, _, rfl⟩) (by first | exact Below.refl _ _ | exact pw_below_drewN (Below.refl _ _) _)
          · rw [if_neg hi0] at hpg
            have t2 : ((i : Int) == 0) = false := beq_eq_false_iff_ne.2 (by omega)
            have HPG := Aside0.mk hpg
            clear hi hv0 hv1 hpg hLL hlt hd hx hxb hD hnd HI HP hi0
            go_wp2
            go_ret3
            exact PubPost.of HPG.out (.inr ⟨rfl, rfl⟩) (by first | exact Below.refl _ _ | exact pw_below_drewN (Below.refl _ _) _)
      · have hie : i = l.length := by omega
        subst hie
        rw [List.drop_length, pubGo] at hpg
        have t1 : decide ((l.length : Int) < (l.length : Int)) = false := decide_eq_false (by omega)
        have HPG := Aside0.mk hpg
        clear hi hv0 hv1 hpg hLL hlt HI HP
        go_wp2
        go_ret3
        exact PubPost.of HPG.out (.inr ⟨rfl, rfl⟩) (by first | exact Below.refl _ _ | exact pw_below_drewN (Below.refl _ _) _)
def ParsePostU (w : World) (l : List UInt8) (e : Ending) (w' : World) : Prop := ∃ v ev er, e = .returned (.tuple #[.int .i64 v, ev]) ∧ ErrV er ev ∧ uof l = (if er = true then (0, false) else (v, true)) ∧ Below w.heap.size w w'
set_option maxHeartbeats 16000000 in
set_option maxRecDepth 100000 in
theorem parseU_calls (w : World) (g c : Nat) (l : List UInt8) (hbr : BR w g 5 l) (hc : l.length ≤ c) (hl : l.length ≤ 2147483647) (hL : LaidD w) :
    Calls Tryd.prog 15 #[.slice (some ⟨g, 0, none⟩) l.length c] w (ParsePostU w l) := by
  obtain ⟨a0, e0⟩ := hL.2 0 (by decide)
  obtain ⟨x, y, b, hp⟩ : ∃ x y b, pub l = (x, y, b) := ⟨_, _, _, rfl⟩
  have hu : uof l = if y = (l.length : Int) ∧ b = false then (x, true) else (0, false) := by unfold uof; rw [hp]
  have hcl := pubf_calls w g c l hbr hc hl hL
  have HCL := Aside0.mk hcl
  have HP := Aside0.mk hp
  have HU := Aside0.mk hu
  have HLD := Aside0.mk hL
  clear hbr hc hL hcl hp hu hl
  by_cases hy : y = (l.length : Int)
  · subst hy
    have b1 : ((l.length : Int) != (l.length : Int)) = false := by simp
    have b2 : ((l.length : Int) == (l.length : Int)) = true := by simp
    go_enter Tryd.func15, Tryd.ntmps15
    go_wp2_with ((with_reducible refine gate_callee (f := 18) rfl ?_); refine goesL_ (some 9) rfl rfl Tryd.func18 (by kernel_rfl) rfl #[.slice (some ⟨g, 0, none⟩) l.length c] rfl (by (try simp only [List.map_toArray, List.map_cons, List.map_nil]); first | done | rfl) ?_; refine HCL.out.mono ?_; rintro e w1 ⟨ev, rfl, he, hb⟩; rw [HP.out] at he; have HE := Aside0.mk he; have HB := Aside0.mk hb; simp only [HP.out]; refine ⟨_, rfl, ?_⟩; clear he hb)
    go_ret2
    exact ⟨_, ev, b, rfl, HE.out, by rw [HU.out]; cases b <;> simp, HB.out⟩
  · have b1 : (y != (l.length : Int)) = true := bne_iff_ne.2 hy
    have b2 : (y == (l.length : Int)) = false := beq_eq_false_iff_ne.2 hy
    have HY := Aside0.mk hy
    clear hy
    go_enter Tryd.func15, Tryd.ntmps15
    go_wp2_with (fail)
    refine HCL.out.mono ?_
    rintro e w1 ⟨ev, rfl, he, hb⟩
    simp only [HP.out]
    have e0 : w1.cell? ⟨0, 0, none⟩ = some (.iface 54 (.pointer (some a0))) := by
      rw [← e0]
      exact hb.cell (p := ⟨0, 0, none⟩) (by have := HLD.out.1; show (0 : Nat) < _; omega)
    have HB := Aside0.mk hb
    clear he hb
    go_wp2
    repeat (go_quiet (fail); try go_wp2)
    go_ret2
    exact ⟨_, _, true, rfl, .inl ⟨rfl, _, rfl⟩, by rw [HU.out, if_neg (fun h => HY.out h.1)]; rfl, pw_below_drewN HB.out _⟩
set_option maxHeartbeats 16000000 in
set_option maxRecDepth 100000 in
theorem uintOf_calls (s : ByteArray) (w : World) (hs : s.size ≤ 2147483647) (hL : LaidD w) :
    Calls Tryd.prog 5 #[.string s] w fun e w' => e = .returned (.tuple #[.int .i64 (uof (L s)).1, .bool (uof (L s)).2]) ∧ Below w.heap.size w w' := by
  obtain ⟨l, hl⟩ : ∃ l, l = s.data.toList := ⟨_, rfl⟩
  have hsz : s.size = l.length := by rw [hl]; exact size_L s
  rw [show L s = l from hl.symm]
  have HLL := Aside0.mk hl
  have HSZ := Aside0.mk hsz
  have HS : Aside0 (l.length ≤ 2147483647) := ⟨by omega⟩
  have HLD := Aside0.mk hL
  clear hl hsz hs hL
  go_enter Tryd.func5, Tryd.ntmps5
  go_wp2_with (first | (refine Go.Proofs.YtipmmjbjgbfgjaaDoorX.convL_ (some 8) rfl rfl 9 43 _ rfl s rfl ?_; refine (conv_BR2 9 43 5 Tryd.underlying9 Tryd.underlying43 Tryd.underlying5 s _).mono ?_; rintro en w6 ⟨c6, rfl, hcc, hbr, hb⟩; rw [← HLL.out] at hbr; rw [HSZ.out] at hcc; rw [HSZ.out]; refine ⟨_, rfl, ?_⟩; have HB6 := Aside0.mk hb; have HR6 := Aside0.mk hbr; have HC6 := Aside0.mk hcc; clear hcc hbr hb))
  refine (parseU_calls w6 w.heap.size c6 l HR6.out HC6.out HS.out (HLD.out.below HB6.out (Nat.le_refl _))).mono ?_
  rintro e w7 ⟨v, ev, er, rfl, he, hu, hb⟩
  have HU := Aside0.mk hu
  have HB7 := Aside0.mk (below_step HB6.out hb)
  clear hu hb
  rcases he with ⟨rfl, a, rfl⟩ | ⟨rfl, rfl⟩
  · go_wp2
    go_ret2
    exact ⟨by rw [HU.out]; rfl, HB7.out⟩
  · go_wp2
    go_ret2
    exact ⟨by rw [HU.out]; rfl, HB7.out⟩
set_option maxHeartbeats 16000000 in
set_option maxRecDepth 100000 in
theorem uintAhead_calls (s : ByteArray) (w : World) (hs : s.size ≤ 2147483647) (hL : LaidD w) :
    Calls Tryd.prog 8 #[.string s] w fun e w' => e = .returned (.tuple #[.int .i64 (uah (L s)).1, .int .i64 (uah (L s)).2.1, .bool (uah (L s)).2.2]) ∧ Below w.heap.size w w' := by
  obtain ⟨l, hl⟩ : ∃ l, l = s.data.toList := ⟨_, rfl⟩
  have hsz : s.size = l.length := by rw [hl]; exact size_L s
  rw [show L s = l from hl.symm]
  have HLL := Aside0.mk hl
  have HSZ := Aside0.mk hsz
  have HS : Aside0 (l.length ≤ 2147483647) := ⟨by omega⟩
  have HLD := Aside0.mk hL
  clear hl hsz hs hL
  go_enter Tryd.func8, Tryd.ntmps8
  go_wp2_with (first | (refine Go.Proofs.YtipmmjbjgbfgjaaDoorX.convL_ (some 8) rfl rfl 9 43 _ rfl s rfl ?_; refine (conv_BR2 9 43 5 Tryd.underlying9 Tryd.underlying43 Tryd.underlying5 s _).mono ?_; rintro en w6 ⟨c6, rfl, hcc, hbr, hb⟩; rw [← HLL.out] at hbr; rw [HSZ.out] at hcc; rw [HSZ.out]; refine ⟨_, rfl, ?_⟩; have HB6 := Aside0.mk hb; have HR6 := Aside0.mk hbr; have HC6 := Aside0.mk hcc; clear hcc hbr hb))
  refine (pubf_calls w6 w.heap.size c6 l HR6.out HC6.out HS.out (HLD.out.below HB6.out (Nat.le_refl _))).mono ?_
  rintro e w7 ⟨ev, rfl, he, hb⟩
  have HB7 := Aside0.mk (below_step HB6.out hb)
  clear hb
  obtain ⟨x, y, b, hp⟩ : ∃ x y b, pub l = (x, y, b) := ⟨_, _, _, rfl⟩
  rw [hp] at he
  have HU : Aside0 (uah l = if b = true then (0, 0, false) else (x, y, true)) := ⟨by unfold uah; rw [hp]⟩
  simp only [hp]
  clear hp
  rcases he with ⟨hb, a, rfl⟩ | ⟨hb, rfl⟩
  · have hb2 : b = true := hb
    subst hb2
    clear hb
    go_wp2
    go_ret3
    exact ⟨by rw [HU.out]; rfl, HB7.out⟩
  · have hb2 : b = false := hb
    subst hb2
    clear hb
    go_wp2
    go_ret3
    exact ⟨by rw [HU.out]; rfl, HB7.out⟩
end Go.Proofs.YtipmmjbjgbfgjaaDoor.Q
