-- Written by a program of this session out of the translation, with the kit's printer. Not trusted: Lean checks it.
import Derived.Test.YtipmmjbjgbfgjaaProg
import Derived.Below
import Derived.Deep.Draws
import Derived.Deep.AppendLies
import Derived.Maps.AppendAt
import Derived.OwnWalk
import Derived.Laws.BytesArg
import Derived.Laws.MakeOwn
import Derived.Laws.OwnMore
import Derived.Deep.OwnRows
import Derived.Tactics
import Derived.Lib.ConvBytes
import Derived.Laws.Slices
import Derived.WalkKit
import Derived.KernelRfl
import Derived.RowKit3
import Derived.Deep.LoopGhost
import Derived.Deep.QuietTactic
import Derived.BigQuiet
import Derived.WideLaws
import Derived.Deep.DeepCutAuto
import Derived.Deep.CutBlock
import Derived.Deep.RegionHeld3
import Derived.Laws.Rows
import Derived.Lib.AppendStr
import Derived.ArgAppend
import Derived.Laws.IdiomCopy
import Derived.OrdersHeld
import Derived.Laws.BitsLemmas
import Derived.RowKit
import Derived.Test.YtipmmjbjgbfgjaaX
import Derived.Laws.Externs
import Derived.Lib.BytesEntry
import Derived.Lib.Bytealg
import Derived.WalkSpells
import Derived.Test.YtipmmjbjgbfgjaaWWords
import Derived.Test.YtipmmjbjgbfgjaaWLast
import Derived.Test.YtipmmjbjgbfgjaaWTab
import Derived.Test.YtipmmjbjgbfgjaaWFour
import Derived.Test.YtipmmjbjgbfgjaaWQPut
import Derived.Test.YtipmmjbjgbfgjaaWApart
import Derived.Test.YtipmmjbjgbfgjaaWArr
import Derived.Test.YtipmmjbjgbfgjaaWZeros
import Derived.Test.YtipmmjbjgbfgjaaWFoot
import Derived.Test.YtipmmjbjgbfgjaaWKept
import Derived.Test.YtipmmjbjgbfgjaaWShare
import Derived.Test.YtipmmjbjgbfgjaaWN
import Derived.Test.YtipmmjbjgbfgjaaWFootNe
import Derived.Test.YtipmmjbjgbfgjaaWAt
import Derived.Test.YtipmmjbjgbfgjaaWEqStruct
import Derived.Test.YtipmmjbjgbfgjaaWRepsOne
import Derived.Test.YtipmmjbjgbfgjaaWInv
import Derived.Test.YtipmmjbjgbfgjaaWInvWords
import Derived.Test.YtipmmjbjgbfgjaaWGuard
import Derived.Test.YtipmmjbjgbfgjaaWNEv
import Derived.Test.YtipmmjbjgbfgjaaWMore
namespace Go.Proofs.Ytipmmjbjgbfgjaa.Q
open Go.RowKit Go.Proofs.YtipmmjbjgbfgjaaW.PrintWords Go.Proofs.YtipmmjbjgbfgjaaW.PrintLast Go.Proofs.YtipmmjbjgbfgjaaW.PrintMore
attribute [local go_sem] max2_int min2_int max_two min_two max_three min_three max_four min_four   -- for this text's walks alone
set_option linter.unusedVariables false
set_option linter.unusedSimpArgs false



def errW : Option Int → Value
  | none => .nilIface
  | some c => .iface 0 (.int .i64 c)
theorem errW_none : errW none = .nilIface := rfl
theorem errW_some (c : Int) : errW (some c) = .iface 0 (.int .i64 c) := rfl

theorem info5 : (Try.prog.info? 5).map (fun i => (i.zero, i.size, i.bytes)) = some (some (.int .u8 0), 1, 1) := by kernel_rfl
theorem info9 : (Try.prog.info? 9).map (fun i => (i.zero, i.size, i.bytes)) = some (some (.string ⟨#[]⟩), 1, 16) := by kernel_rfl
theorem info40 : (Try.prog.info? 40).map (fun i => (i.zero, i.size, i.bytes)) = some (some (.agg #[(.string ⟨#[]⟩), (.string ⟨#[]⟩), (.bool false)]), 3, 40) := by kernel_rfl
theorem info71 : (Try.prog.info? 71).map (fun i => (i.zero, i.size, i.bytes)) = some (some (.agg #[(.string ⟨#[]⟩), (.string ⟨#[]⟩), (.bool false)]), 3, 40) := by kernel_rfl
theorem info82 : (Try.prog.info? 82).map (fun i => (i.zero, i.size, i.bytes)) = some (some (.agg #[(.string ⟨#[]⟩), (.string ⟨#[]⟩), (.bool false)]), 3, 40) := by kernel_rfl
theorem info86 : (Try.prog.info? 86).map (fun i => (i.zero, i.size, i.bytes)) = some (some (.agg #[(.slice none 0 0), (.slice none 0 0), (.bool false)]), 3, 56) := by kernel_rfl
-- the values' own types
/-! #### struct type 40 -/
structure S40 where
  f0 : ByteArray
  f1 : ByteArray
  f2 : Bool
def z40 : S40 := ⟨(⟨#[]⟩ : ByteArray), (⟨#[]⟩ : ByteArray), false⟩
def k40 : Kd S40 := Kd.iso (Kd.pair Kd.string (Kd.pair Kd.string Kd.bool)) (fun x : S40 => (x.f0, x.f1, x.f2))
theorem k40_open {w : World} {x : S40} {cs : List Value} (h : k40.K w x cs) : cs = [.string x.f0, .string x.f1, .bool x.f2] := by
  obtain ⟨_, _, rfl, rfl, ⟨_, _, rfl, rfl, rfl⟩⟩ := h
  exact rfl
theorem k40_openM {w : World} {base : Nat} {ok : Nat → Prop} {x : S40} {cs : List Value} (h : k40.M w base ok x cs) : cs = [.string x.f0, .string x.f1, .bool x.f2] := by
  obtain ⟨_, _, rfl, rfl, ⟨_, _, rfl, rfl, rfl⟩⟩ := h
  exact rfl
theorem k40_mk (w : World) (x : S40)  : k40.K w x [.string x.f0, .string x.f1, .bool x.f2] := ⟨[.string x.f0], [.string x.f1, .bool x.f2], rfl, rfl, ⟨[.string x.f1], [.bool x.f2], rfl, rfl, rfl⟩⟩
theorem k40_mkM (w : World) (base : Nat) (ok : Nat → Prop) (x : S40)  : k40.M w base ok x [.string x.f0, .string x.f1, .bool x.f2] := ⟨[.string x.f0], [.string x.f1, .bool x.f2], rfl, rfl, ⟨[.string x.f1], [.bool x.f2], rfl, rfl, rfl⟩⟩
theorem k40_mkF (W : World) (ok : Nat → Prop) (x : S40) : Kd.FK k40 W ok x [.string x.f0, .string x.f1, .bool x.f2] := fun W2 _ => k40_mk W2 x
def rd_T40 (xs : List S40) (i : Int) : S40 := xs.getD i.toNat z40
theorem at_T40 {w : World} {A : Option Addr} {n : Nat} {xs : List S40} (h : Kd.C k40 w A n xs) (i : Int) (h0 : 0 ≤ i) (h1 : i < n) : ∃ ad , A = some ad ∧ w.cell? (ad.add (i.toNat * 3)) = some (.string (rd_T40 xs i).f0) ∧ w.cell? ⟨(ad.add (i.toNat * 3)).block, (ad.add (i.toNat * 3)).off + 1, none⟩ = some (.string (rd_T40 xs i).f1) ∧ w.cell? ⟨(ad.add (i.toNat * 3)).block, (ad.add (i.toNat * 3)).off + 2, none⟩ = some (.bool (rd_T40 xs i).f2) := by
  obtain ⟨ad, c, e, _, hK, hc0⟩ := Kd.C_get h z40 i h0 h1
  have hc : ∀ j u, c[j]? = some u → w.cell? (ad.add (i.toNat * 3 + j)) = some u := hc0
  obtain rfl := k40_open hK
  exact ⟨ad, e, hc 0 _ rfl, by rw [← add_field _ _ 1 (by omega)]; exact hc 1 _ rfl, by rw [← add_field _ _ 2 (by omega)]; exact hc 2 _ rfl⟩

/-! #### struct type 82 -/
structure S82 where
  f0 : ByteArray
  f1 : ByteArray
  f2 : Bool
def z82 : S82 := ⟨(⟨#[]⟩ : ByteArray), (⟨#[]⟩ : ByteArray), false⟩
def k82 : Kd S82 := Kd.iso (Kd.pair Kd.string (Kd.pair Kd.string Kd.bool)) (fun x : S82 => (x.f0, x.f1, x.f2))
theorem k82_open {w : World} {x : S82} {cs : List Value} (h : k82.K w x cs) : cs = [.string x.f0, .string x.f1, .bool x.f2] := by
  obtain ⟨_, _, rfl, rfl, ⟨_, _, rfl, rfl, rfl⟩⟩ := h
  exact rfl
theorem k82_openM {w : World} {base : Nat} {ok : Nat → Prop} {x : S82} {cs : List Value} (h : k82.M w base ok x cs) : cs = [.string x.f0, .string x.f1, .bool x.f2] := by
  obtain ⟨_, _, rfl, rfl, ⟨_, _, rfl, rfl, rfl⟩⟩ := h
  exact rfl
theorem k82_mk (w : World) (x : S82)  : k82.K w x [.string x.f0, .string x.f1, .bool x.f2] := ⟨[.string x.f0], [.string x.f1, .bool x.f2], rfl, rfl, ⟨[.string x.f1], [.bool x.f2], rfl, rfl, rfl⟩⟩
theorem k82_mkM (w : World) (base : Nat) (ok : Nat → Prop) (x : S82)  : k82.M w base ok x [.string x.f0, .string x.f1, .bool x.f2] := ⟨[.string x.f0], [.string x.f1, .bool x.f2], rfl, rfl, ⟨[.string x.f1], [.bool x.f2], rfl, rfl, rfl⟩⟩
theorem k82_mkF (W : World) (ok : Nat → Prop) (x : S82) : Kd.FK k82 W ok x [.string x.f0, .string x.f1, .bool x.f2] := fun W2 _ => k82_mk W2 x
def rd_T82 (xs : List S82) (i : Int) : S82 := xs.getD i.toNat z82
theorem at_T82 {w : World} {A : Option Addr} {n : Nat} {xs : List S82} (h : Kd.C k82 w A n xs) (i : Int) (h0 : 0 ≤ i) (h1 : i < n) : ∃ ad , A = some ad ∧ w.cell? (ad.add (i.toNat * 3)) = some (.string (rd_T82 xs i).f0) ∧ w.cell? ⟨(ad.add (i.toNat * 3)).block, (ad.add (i.toNat * 3)).off + 1, none⟩ = some (.string (rd_T82 xs i).f1) ∧ w.cell? ⟨(ad.add (i.toNat * 3)).block, (ad.add (i.toNat * 3)).off + 2, none⟩ = some (.bool (rd_T82 xs i).f2) := by
  obtain ⟨ad, c, e, _, hK, hc0⟩ := Kd.C_get h z82 i h0 h1
  have hc : ∀ j u, c[j]? = some u → w.cell? (ad.add (i.toNat * 3 + j)) = some u := hc0
  obtain rfl := k82_open hK
  exact ⟨ad, e, hc 0 _ rfl, by rw [← add_field _ _ 1 (by omega)]; exact hc 1 _ rfl, by rw [← add_field _ _ 2 (by omega)]; exact hc 2 _ rfl⟩

def rd_L5 (xs : List (List Int)) (i : Int) : (List Int) := xs.getD i.toNat ([] : List Int)
theorem at_L5 {w : World} {A : Option Addr} {n : Nat} {xs : List (List Int)} (h : Kd.C (Kd.slice 5 (Kd.int .u8)) w A n xs) (i : Int) (h0 : 0 ≤ i) (h1 : i < n) : ∃ ad A0 c0, A = some ad ∧ w.cell? (ad.add i.toNat) = some (.slice A0 (rd_L5 xs i).length c0) ∧ (rd_L5 xs i).length ≤ c0 ∧ (Kd.int .u8).C w A0 (rd_L5 xs i).length (rd_L5 xs i) := by
  obtain ⟨ad, c, e, _, hK, hc0⟩ := Kd.C_get h ([] : List Int) i h0 h1
  have hc : ∀ j u, c[j]? = some u → w.cell? (ad.add (i.toNat * 1 + j)) = some u := hc0
  obtain ⟨A0, c0, rfl, l0, g0⟩ := hK
  exact ⟨ad, A0, c0, e, by have hq := hc 0 _ rfl; rwa [Nat.mul_one, Nat.add_zero] at hq, l0, g0⟩

/-! #### struct type 86 -/
structure S86 where
  f0 : (List Int)
  f1 : (List Int)
  f2 : Bool
def z86 : S86 := ⟨([] : List Int), ([] : List Int), false⟩
def k86 : Kd S86 := Kd.iso (Kd.pair (Kd.slice 5 (Kd.int .u8)) (Kd.pair (Kd.slice 5 (Kd.int .u8)) Kd.bool)) (fun x : S86 => (x.f0, x.f1, x.f2))
theorem k86_open {w : World} {x : S86} {cs : List Value} (h : k86.K w x cs) : ∃ A0 c0 A1 c1, cs = [.slice A0 x.f0.length c0, .slice A1 x.f1.length c1, .bool x.f2] ∧ x.f0.length ≤ c0 ∧ (Kd.int .u8).C w A0 x.f0.length x.f0 ∧ x.f1.length ≤ c1 ∧ (Kd.int .u8).C w A1 x.f1.length x.f1 := by
  obtain ⟨_, _, rfl, ⟨A0, c0, rfl, l0, g0⟩, ⟨_, _, rfl, ⟨A1, c1, rfl, l1, g1⟩, rfl⟩⟩ := h
  exact ⟨A0, c0, A1, c1, rfl, l0, g0, l1, g1⟩
theorem k86_openM {w : World} {base : Nat} {ok : Nat → Prop} {x : S86} {cs : List Value} (h : k86.M w base ok x cs) : ∃ v0 v1, cs = [v0, v1, .bool x.f2] ∧ (Kd.int .u8).R 5 w base ok v0 x.f0 ∧ (Kd.int .u8).R 5 w base ok v1 x.f1 := by
  obtain ⟨_, _, rfl, ⟨v0, rfl, g0⟩, ⟨_, _, rfl, ⟨v1, rfl, g1⟩, rfl⟩⟩ := h
  exact ⟨v0, v1, rfl, g0, g1⟩
theorem k86_mk (w : World) (x : S86) {A0 : Option Addr} {c0 : Nat} (l0 : x.f0.length ≤ c0) (g0 : (Kd.int .u8).C w A0 x.f0.length x.f0) {A1 : Option Addr} {c1 : Nat} (l1 : x.f1.length ≤ c1) (g1 : (Kd.int .u8).C w A1 x.f1.length x.f1) : k86.K w x [.slice A0 x.f0.length c0, .slice A1 x.f1.length c1, .bool x.f2] := ⟨[.slice A0 x.f0.length c0], [.slice A1 x.f1.length c1, .bool x.f2], rfl, ⟨A0, c0, rfl, l0, g0⟩, ⟨[.slice A1 x.f1.length c1], [.bool x.f2], rfl, ⟨A1, c1, rfl, l1, g1⟩, rfl⟩⟩
theorem k86_mkM (w : World) (base : Nat) (ok : Nat → Prop) (x : S86) {v0 : Value} (g0 : (Kd.int .u8).R 5 w base ok v0 x.f0) {v1 : Value} (g1 : (Kd.int .u8).R 5 w base ok v1 x.f1) : k86.M w base ok x [v0, v1, .bool x.f2] := ⟨[v0], [v1, .bool x.f2], rfl, ⟨v0, rfl, g0⟩, ⟨[v1], [.bool x.f2], rfl, ⟨v1, rfl, g1⟩, rfl⟩⟩
theorem k86_openF {W : World} {ok : Nat → Prop} {x : S86} {cs : List Value} (h : Kd.FK k86 W ok x cs) : ∃ A0 c0 A1 c1, cs = [.slice A0 x.f0.length c0, .slice A1 x.f1.length c1, .bool x.f2] ∧ x.f0.length ≤ c0 ∧ Kd.F (Kd.int .u8) W ok A0 x.f0.length x.f0 ∧ x.f1.length ≤ c1 ∧ Kd.F (Kd.int .u8) W ok A1 x.f1.length x.f1 := by
  obtain ⟨A0, c0, A1, c1, rfl, l0, _, l1, _⟩ := k86_open (Kd.FK_now h)
  exact ⟨A0, c0, A1, c1, rfl, l0, (fun W' hW => by obtain ⟨A0_, c0_, A1_, c1_, he, l0_, g0_, l1_, g1_⟩ := k86_open (h W' hW); injection (Option.some.inj (show some (Value.slice A0 x.f0.length c0) = some (Value.slice A0_ x.f0.length c0_) from congrArg (fun l => l[0]?) he)) with ha_ _ _; rw [ha_]; exact g0_), l1, (fun W' hW => by obtain ⟨A0_, c0_, A1_, c1_, he, l0_, g0_, l1_, g1_⟩ := k86_open (h W' hW); injection (Option.some.inj (show some (Value.slice A1 x.f1.length c1) = some (Value.slice A1_ x.f1.length c1_) from congrArg (fun l => l[1]?) he)) with ha_ _ _; rw [ha_]; exact g1_)⟩
theorem k86_mkF (W : World) (ok : Nat → Prop) (x : S86) {A0 : Option Addr} {c0 : Nat} (l0 : x.f0.length ≤ c0) (g0 : Kd.F (Kd.int .u8) W ok A0 x.f0.length x.f0) {A1 : Option Addr} {c1 : Nat} (l1 : x.f1.length ≤ c1) (g1 : Kd.F (Kd.int .u8) W ok A1 x.f1.length x.f1) : Kd.FK k86 W ok x [.slice A0 x.f0.length c0, .slice A1 x.f1.length c1, .bool x.f2] := fun W2 hW => k86_mk W2 x l0 (g0 W2 hW) l1 (g1 W2 hW)
def rd_T86 (xs : List S86) (i : Int) : S86 := xs.getD i.toNat z86
theorem at_T86 {w : World} {A : Option Addr} {n : Nat} {xs : List S86} (h : Kd.C k86 w A n xs) (i : Int) (h0 : 0 ≤ i) (h1 : i < n) : ∃ ad A0 c0 A1 c1, A = some ad ∧ w.cell? (ad.add (i.toNat * 3)) = some (.slice A0 (rd_T86 xs i).f0.length c0) ∧ w.cell? ⟨(ad.add (i.toNat * 3)).block, (ad.add (i.toNat * 3)).off + 1, none⟩ = some (.slice A1 (rd_T86 xs i).f1.length c1) ∧ w.cell? ⟨(ad.add (i.toNat * 3)).block, (ad.add (i.toNat * 3)).off + 2, none⟩ = some (.bool (rd_T86 xs i).f2) ∧ (rd_T86 xs i).f0.length ≤ c0 ∧ (Kd.int .u8).C w A0 (rd_T86 xs i).f0.length (rd_T86 xs i).f0 ∧ (rd_T86 xs i).f1.length ≤ c1 ∧ (Kd.int .u8).C w A1 (rd_T86 xs i).f1.length (rd_T86 xs i).f1 := by
  obtain ⟨ad, c, e, _, hK, hc0⟩ := Kd.C_get h z86 i h0 h1
  have hc : ∀ j u, c[j]? = some u → w.cell? (ad.add (i.toNat * 3 + j)) = some u := hc0
  obtain ⟨A0, c0, A1, c1, rfl, l0, g0, l1, g1⟩ := k86_open hK
  exact ⟨ad, A0, c0, A1, c1, e, hc 0 _ rfl, by rw [← add_field _ _ 1 (by omega)]; exact hc 1 _ rfl, by rw [← add_field _ _ 2 (by omega)]; exact hc 2 _ rfl, l0, g0, l1, g1⟩

/-! #### struct type 71 -/
structure S71 where
  f0 : ByteArray
  f1 : ByteArray
  f2 : Bool
def z71 : S71 := ⟨(⟨#[]⟩ : ByteArray), (⟨#[]⟩ : ByteArray), false⟩
def k71 : Kd S71 := Kd.iso (Kd.pair Kd.string (Kd.pair Kd.string Kd.bool)) (fun x : S71 => (x.f0, x.f1, x.f2))
theorem k71_open {w : World} {x : S71} {cs : List Value} (h : k71.K w x cs) : cs = [.string x.f0, .string x.f1, .bool x.f2] := by
  obtain ⟨_, _, rfl, rfl, ⟨_, _, rfl, rfl, rfl⟩⟩ := h
  exact rfl
theorem k71_openM {w : World} {base : Nat} {ok : Nat → Prop} {x : S71} {cs : List Value} (h : k71.M w base ok x cs) : cs = [.string x.f0, .string x.f1, .bool x.f2] := by
  obtain ⟨_, _, rfl, rfl, ⟨_, _, rfl, rfl, rfl⟩⟩ := h
  exact rfl
theorem k71_mk (w : World) (x : S71)  : k71.K w x [.string x.f0, .string x.f1, .bool x.f2] := ⟨[.string x.f0], [.string x.f1, .bool x.f2], rfl, rfl, ⟨[.string x.f1], [.bool x.f2], rfl, rfl, rfl⟩⟩
theorem k71_mkM (w : World) (base : Nat) (ok : Nat → Prop) (x : S71)  : k71.M w base ok x [.string x.f0, .string x.f1, .bool x.f2] := ⟨[.string x.f0], [.string x.f1, .bool x.f2], rfl, rfl, ⟨[.string x.f1], [.bool x.f2], rfl, rfl, rfl⟩⟩
theorem k71_mkF (W : World) (ok : Nat → Prop) (x : S71) : Kd.FK k71 W ok x [.string x.f0, .string x.f1, .bool x.f2] := fun W2 _ => k71_mk W2 x
def rd_T71 (xs : List S71) (i : Int) : S71 := xs.getD i.toNat z71
theorem at_T71 {w : World} {A : Option Addr} {n : Nat} {xs : List S71} (h : Kd.C k71 w A n xs) (i : Int) (h0 : 0 ≤ i) (h1 : i < n) : ∃ ad , A = some ad ∧ w.cell? (ad.add (i.toNat * 3)) = some (.string (rd_T71 xs i).f0) ∧ w.cell? ⟨(ad.add (i.toNat * 3)).block, (ad.add (i.toNat * 3)).off + 1, none⟩ = some (.string (rd_T71 xs i).f1) ∧ w.cell? ⟨(ad.add (i.toNat * 3)).block, (ad.add (i.toNat * 3)).off + 2, none⟩ = some (.bool (rd_T71 xs i).f2) := by
  obtain ⟨ad, c, e, _, hK, hc0⟩ := Kd.C_get h z71 i h0 h1
  have hc : ∀ j u, c[j]? = some u → w.cell? (ad.add (i.toNat * 3 + j)) = some u := hc0
  obtain rfl := k71_open hK
  exact ⟨ad, e, hc 0 _ rfl, by rw [← add_field _ _ 1 (by omega)]; exact hc 1 _ rfl, by rw [← add_field _ _ 2 (by omega)]; exact hc 2 _ rfl⟩

def conv24.f (a0 : ByteArray) : Option (List Int) := if a0.size ≤ 140737488355328 then some (bytesOf a0) else none
theorem conv24.calls (a0 : ByteArray) (r : List Int) (w : World) (h : conv24.f a0 = some r) :
    Go.Proofs.YtipmmjbjgbfgjaaX.ConvCalls Try.prog 9 24 a0 w fun e w' => ∃ v0_ : Value, e = .returned v0_ ∧ Kd.V (Kd.int .u8) 5 w' w.heap.size (fun k_ => (w.heap.size ≤ k_)) v0_ r ∧ Below w.heap.size w w' := by
  unfold conv24.f at h
  split at h
  · obtain rfl := Option.some.inj h
    exact Go.Proofs.YtipmmjbjgbfgjaaX.conv_bytes 9 24 5 Try.underlying9 Try.underlying24 Try.underlying5 a0 (by assumption) w
  · cases h
end Go.Proofs.Ytipmmjbjgbfgjaa.Q
