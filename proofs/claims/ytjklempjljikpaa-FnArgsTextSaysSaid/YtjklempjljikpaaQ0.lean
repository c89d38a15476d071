-- Written by a program of this session out of the translation, with the kit's printer. Not trusted: Lean checks it.
import Derived.Test.YtjklempjljikpaaProg
import Derived.Below
import Derived.Deep.Draws
import Derived.Deep.AppendLies
import Derived.Maps.AppendAt
import Derived.OwnWalk
import Derived.Laws.BytesArg
import Derived.Laws.MakeOwn
import Derived.Laws.OwnMore
import Derived.Deep.OwnRows
import Derived.Tactics
import Derived.Lib.ConvBytes
import Derived.Laws.Slices
import Derived.WalkKit
import Derived.KernelRfl
import Derived.RowKit3
import Derived.Deep.LoopGhost
import Derived.Deep.QuietTactic
import Derived.BigQuiet
import Derived.WideLaws
import Derived.Deep.DeepCutAuto
import Derived.Deep.CutBlock
import Derived.Deep.RegionHeld3
import Derived.Laws.Rows
import Derived.Lib.AppendStr
import Derived.ArgAppend
import Derived.Laws.IdiomCopy
import Derived.OrdersHeld
import Derived.Laws.BitsLemmas
import Derived.RowKit
import Derived.Test.YtjklempjljikpaaX
import Derived.Laws.Externs
import Derived.Lib.BytesEntry
import Derived.Lib.Bytealg
import Derived.WalkSpells
import Derived.Test.YtjklempjljikpaaWWords
import Derived.Test.YtjklempjljikpaaWLast
import Derived.Test.YtjklempjljikpaaWTab
import Derived.Test.YtjklempjljikpaaWFour
import Derived.Test.YtjklempjljikpaaWQPut
import Derived.Test.YtjklempjljikpaaWApart
import Derived.Test.YtjklempjljikpaaWArr
import Derived.Test.YtjklempjljikpaaWZeros
import Derived.Test.YtjklempjljikpaaWFoot
import Derived.Test.YtjklempjljikpaaWKept
import Derived.Test.YtjklempjljikpaaWShare
import Derived.Test.YtjklempjljikpaaWN
import Derived.Test.YtjklempjljikpaaWFootNe
import Derived.Test.YtjklempjljikpaaWAt
import Derived.Test.YtjklempjljikpaaWEqStruct
import Derived.Test.YtjklempjljikpaaWRepsOne
import Derived.Test.YtjklempjljikpaaWInv
import Derived.Test.YtjklempjljikpaaWInvWords
import Derived.Test.YtjklempjljikpaaWGuard
import Derived.Test.YtjklempjljikpaaWNEv
import Derived.Test.YtjklempjljikpaaWMore
namespace Go.Proofs.Ytjklempjljikpaa.Q
open Go.RowKit Go.Proofs.YtjklempjljikpaaW.PrintWords Go.Proofs.YtjklempjljikpaaW.PrintLast Go.Proofs.YtjklempjljikpaaW.PrintMore
attribute [local go_sem] max2_int min2_int max_two min_two max_three min_three max_four min_four   -- for this text's walks alone
set_option linter.unusedVariables false
set_option linter.unusedSimpArgs false



def errW : Option Int → Value
  | none => .nilIface
  | some c => .iface 0 (.int .i64 c)
theorem errW_none : errW none = .nilIface := rfl
theorem errW_some (c : Int) : errW (some c) = .iface 0 (.int .i64 c) := rfl

theorem info5 : (Try.prog.info? 5).map (fun i => (i.zero, i.size, i.bytes)) = some (some (.int .u8 0), 1, 1) := by kernel_rfl
theorem info9 : (Try.prog.info? 9).map (fun i => (i.zero, i.size, i.bytes)) = some (some (.string ⟨#[]⟩), 1, 16) := by kernel_rfl
theorem info36 : (Try.prog.info? 36).map (fun i => (i.zero, i.size, i.bytes)) = some (some (.agg #[(.string ⟨#[]⟩), (.string ⟨#[]⟩), (.bool false)]), 3, 40) := by kernel_rfl
theorem info62 : (Try.prog.info? 62).map (fun i => (i.zero, i.size, i.bytes)) = some (some (.agg #[(.string ⟨#[]⟩), (.string ⟨#[]⟩), (.bool false)]), 3, 40) := by kernel_rfl
theorem info72 : (Try.prog.info? 72).map (fun i => (i.zero, i.size, i.bytes)) = some (some (.agg #[(.slice none 0 0), (.slice none 0 0), (.bool false)]), 3, 56) := by kernel_rfl
theorem info74 : (Try.prog.info? 74).map (fun i => (i.zero, i.size, i.bytes)) = some (some (.agg #[(.string ⟨#[]⟩), (.string ⟨#[]⟩), (.bool false)]), 3, 40) := by kernel_rfl
-- the values' own types
def rd_L2 (xs : List (List Int)) (i : Int) : (List Int) := xs.getD i.toNat ([] : List Int)
theorem at_L2 {w : World} {A : Option Addr} {n : Nat} {xs : List (List Int)} (h : Kd.C (Kd.slice 5 (Kd.int .u8)) w A n xs) (i : Int) (h0 : 0 ≤ i) (h1 : i < n) : ∃ ad A0 c0, A = some ad ∧ w.cell? (ad.add i.toNat) = some (.slice A0 (rd_L2 xs i).length c0) ∧ (rd_L2 xs i).length ≤ c0 ∧ (Kd.int .u8).C w A0 (rd_L2 xs i).length (rd_L2 xs i) := by
  obtain ⟨ad, c, e, _, hK, hc0⟩ := Kd.C_get h ([] : List Int) i h0 h1
  have hc : ∀ j u, c[j]? = some u → w.cell? (ad.add (i.toNat * 1 + j)) = some u := hc0
  obtain ⟨A0, c0, rfl, l0, g0⟩ := hK
  exact ⟨ad, A0, c0, e, by have hq := hc 0 _ rfl; rwa [Nat.mul_one, Nat.add_zero] at hq, l0, g0⟩

/-! #### struct type 72 -/
structure S72 where
  f0 : (List Int)
  f1 : (List Int)
  f2 : Bool
def z72 : S72 := ⟨([] : List Int), ([] : List Int), false⟩
def k72 : Kd S72 := Kd.iso (Kd.pair (Kd.slice 5 (Kd.int .u8)) (Kd.pair (Kd.slice 5 (Kd.int .u8)) Kd.bool)) (fun x : S72 => (x.f0, x.f1, x.f2))
theorem k72_open {w : World} {x : S72} {cs : List Value} (h : k72.K w x cs) : ∃ A0 c0 A1 c1, cs = [.slice A0 x.f0.length c0, .slice A1 x.f1.length c1, .bool x.f2] ∧ x.f0.length ≤ c0 ∧ (Kd.int .u8).C w A0 x.f0.length x.f0 ∧ x.f1.length ≤ c1 ∧ (Kd.int .u8).C w A1 x.f1.length x.f1 := by
  obtain ⟨_, _, rfl, ⟨A0, c0, rfl, l0, g0⟩, ⟨_, _, rfl, ⟨A1, c1, rfl, l1, g1⟩, rfl⟩⟩ := h
  exact ⟨A0, c0, A1, c1, rfl, l0, g0, l1, g1⟩
theorem k72_openM {w : World} {base : Nat} {ok : Nat → Prop} {x : S72} {cs : List Value} (h : k72.M w base ok x cs) : ∃ v0 v1, cs = [v0, v1, .bool x.f2] ∧ (Kd.int .u8).R 5 w base ok v0 x.f0 ∧ (Kd.int .u8).R 5 w base ok v1 x.f1 := by
  obtain ⟨_, _, rfl, ⟨v0, rfl, g0⟩, ⟨_, _, rfl, ⟨v1, rfl, g1⟩, rfl⟩⟩ := h
  exact ⟨v0, v1, rfl, g0, g1⟩
theorem k72_mk (w : World) (x : S72) {A0 : Option Addr} {c0 : Nat} (l0 : x.f0.length ≤ c0) (g0 : (Kd.int .u8).C w A0 x.f0.length x.f0) {A1 : Option Addr} {c1 : Nat} (l1 : x.f1.length ≤ c1) (g1 : (Kd.int .u8).C w A1 x.f1.length x.f1) : k72.K w x [.slice A0 x.f0.length c0, .slice A1 x.f1.length c1, .bool x.f2] := ⟨[.slice A0 x.f0.length c0], [.slice A1 x.f1.length c1, .bool x.f2], rfl, ⟨A0, c0, rfl, l0, g0⟩, ⟨[.slice A1 x.f1.length c1], [.bool x.f2], rfl, ⟨A1, c1, rfl, l1, g1⟩, rfl⟩⟩
theorem k72_mkM (w : World) (base : Nat) (ok : Nat → Prop) (x : S72) {v0 : Value} (g0 : (Kd.int .u8).R 5 w base ok v0 x.f0) {v1 : Value} (g1 : (Kd.int .u8).R 5 w base ok v1 x.f1) : k72.M w base ok x [v0, v1, .bool x.f2] := ⟨[v0], [v1, .bool x.f2], rfl, ⟨v0, rfl, g0⟩, ⟨[v1], [.bool x.f2], rfl, ⟨v1, rfl, g1⟩, rfl⟩⟩
theorem k72_openF {W : World} {ok : Nat → Prop} {x : S72} {cs : List Value} (h : Kd.FK k72 W ok x cs) : ∃ A0 c0 A1 c1, cs = [.slice A0 x.f0.length c0, .slice A1 x.f1.length c1, .bool x.f2] ∧ x.f0.length ≤ c0 ∧ Kd.F (Kd.int .u8) W ok A0 x.f0.length x.f0 ∧ x.f1.length ≤ c1 ∧ Kd.F (Kd.int .u8) W ok A1 x.f1.length x.f1 := by
  obtain ⟨A0, c0, A1, c1, rfl, l0, _, l1, _⟩ := k72_open (Kd.FK_now h)
  exact ⟨A0, c0, A1, c1, rfl, l0, (fun W' hW => by obtain ⟨A0_, c0_, A1_, c1_, he, l0_, g0_, l1_, g1_⟩ := k72_open (h W' hW); injection (Option.some.inj (show some (Value.slice A0 x.f0.length c0) = some (Value.slice A0_ x.f0.length c0_) from congrArg (fun l => l[0]?) he)) with ha_ _ _; rw [ha_]; exact g0_), l1, (fun W' hW => by obtain ⟨A0_, c0_, A1_, c1_, he, l0_, g0_, l1_, g1_⟩ := k72_open (h W' hW); injection (Option.some.inj (show some (Value.slice A1 x.f1.length c1) = some (Value.slice A1_ x.f1.length c1_) from congrArg (fun l => l[1]?) he)) with ha_ _ _; rw [ha_]; exact g1_)⟩
theorem k72_mkF (W : World) (ok : Nat → Prop) (x : S72) {A0 : Option Addr} {c0 : Nat} (l0 : x.f0.length ≤ c0) (g0 : Kd.F (Kd.int .u8) W ok A0 x.f0.length x.f0) {A1 : Option Addr} {c1 : Nat} (l1 : x.f1.length ≤ c1) (g1 : Kd.F (Kd.int .u8) W ok A1 x.f1.length x.f1) : Kd.FK k72 W ok x [.slice A0 x.f0.length c0, .slice A1 x.f1.length c1, .bool x.f2] := fun W2 hW => k72_mk W2 x l0 (g0 W2 hW) l1 (g1 W2 hW)
def rd_T72 (xs : List S72) (i : Int) : S72 := xs.getD i.toNat z72
theorem at_T72 {w : World} {A : Option Addr} {n : Nat} {xs : List S72} (h : Kd.C k72 w A n xs) (i : Int) (h0 : 0 ≤ i) (h1 : i < n) : ∃ ad A0 c0 A1 c1, A = some ad ∧ w.cell? (ad.add (i.toNat * 3)) = some (.slice A0 (rd_T72 xs i).f0.length c0) ∧ w.cell? ⟨(ad.add (i.toNat * 3)).block, (ad.add (i.toNat * 3)).off + 1, none⟩ = some (.slice A1 (rd_T72 xs i).f1.length c1) ∧ w.cell? ⟨(ad.add (i.toNat * 3)).block, (ad.add (i.toNat * 3)).off + 2, none⟩ = some (.bool (rd_T72 xs i).f2) ∧ (rd_T72 xs i).f0.length ≤ c0 ∧ (Kd.int .u8).C w A0 (rd_T72 xs i).f0.length (rd_T72 xs i).f0 ∧ (rd_T72 xs i).f1.length ≤ c1 ∧ (Kd.int .u8).C w A1 (rd_T72 xs i).f1.length (rd_T72 xs i).f1 := by
  obtain ⟨ad, c, e, _, hK, hc0⟩ := Kd.C_get h z72 i h0 h1
  have hc : ∀ j u, c[j]? = some u → w.cell? (ad.add (i.toNat * 3 + j)) = some u := hc0
  obtain ⟨A0, c0, A1, c1, rfl, l0, g0, l1, g1⟩ := k72_open hK
  exact ⟨ad, A0, c0, A1, c1, e, hc 0 _ rfl, by rw [← add_field _ _ 1 (by omega)]; exact hc 1 _ rfl, by rw [← add_field _ _ 2 (by omega)]; exact hc 2 _ rfl, l0, g0, l1, g1⟩

/-! #### struct type 74 -/
structure S74 where
  f0 : ByteArray
  f1 : ByteArray
  f2 : Bool
def z74 : S74 := ⟨(⟨#[]⟩ : ByteArray), (⟨#[]⟩ : ByteArray), false⟩
def k74 : Kd S74 := Kd.iso (Kd.pair Kd.string (Kd.pair Kd.string Kd.bool)) (fun x : S74 => (x.f0, x.f1, x.f2))
theorem k74_open {w : World} {x : S74} {cs : List Value} (h : k74.K w x cs) : cs = [.string x.f0, .string x.f1, .bool x.f2] := by
  obtain ⟨_, _, rfl, rfl, ⟨_, _, rfl, rfl, rfl⟩⟩ := h
  exact rfl
theorem k74_openM {w : World} {base : Nat} {ok : Nat → Prop} {x : S74} {cs : List Value} (h : k74.M w base ok x cs) : cs = [.string x.f0, .string x.f1, .bool x.f2] := by
  obtain ⟨_, _, rfl, rfl, ⟨_, _, rfl, rfl, rfl⟩⟩ := h
  exact rfl
theorem k74_mk (w : World) (x : S74)  : k74.K w x [.string x.f0, .string x.f1, .bool x.f2] := ⟨[.string x.f0], [.string x.f1, .bool x.f2], rfl, rfl, ⟨[.string x.f1], [.bool x.f2], rfl, rfl, rfl⟩⟩
theorem k74_mkM (w : World) (base : Nat) (ok : Nat → Prop) (x : S74)  : k74.M w base ok x [.string x.f0, .string x.f1, .bool x.f2] := ⟨[.string x.f0], [.string x.f1, .bool x.f2], rfl, rfl, ⟨[.string x.f1], [.bool x.f2], rfl, rfl, rfl⟩⟩
theorem k74_mkF (W : World) (ok : Nat → Prop) (x : S74) : Kd.FK k74 W ok x [.string x.f0, .string x.f1, .bool x.f2] := fun W2 _ => k74_mk W2 x
def rd_T74 (xs : List S74) (i : Int) : S74 := xs.getD i.toNat z74
theorem at_T74 {w : World} {A : Option Addr} {n : Nat} {xs : List S74} (h : Kd.C k74 w A n xs) (i : Int) (h0 : 0 ≤ i) (h1 : i < n) : ∃ ad , A = some ad ∧ w.cell? (ad.add (i.toNat * 3)) = some (.string (rd_T74 xs i).f0) ∧ w.cell? ⟨(ad.add (i.toNat * 3)).block, (ad.add (i.toNat * 3)).off + 1, none⟩ = some (.string (rd_T74 xs i).f1) ∧ w.cell? ⟨(ad.add (i.toNat * 3)).block, (ad.add (i.toNat * 3)).off + 2, none⟩ = some (.bool (rd_T74 xs i).f2) := by
  obtain ⟨ad, c, e, _, hK, hc0⟩ := Kd.C_get h z74 i h0 h1
  have hc : ∀ j u, c[j]? = some u → w.cell? (ad.add (i.toNat * 3 + j)) = some u := hc0
  obtain rfl := k74_open hK
  exact ⟨ad, e, hc 0 _ rfl, by rw [← add_field _ _ 1 (by omega)]; exact hc 1 _ rfl, by rw [← add_field _ _ 2 (by omega)]; exact hc 2 _ rfl⟩

/-! #### struct type 36 -/
structure S36 where
  f0 : ByteArray
  f1 : ByteArray
  f2 : Bool
def z36 : S36 := ⟨(⟨#[]⟩ : ByteArray), (⟨#[]⟩ : ByteArray), false⟩
def k36 : Kd S36 := Kd.iso (Kd.pair Kd.string (Kd.pair Kd.string Kd.bool)) (fun x : S36 => (x.f0, x.f1, x.f2))
theorem k36_open {w : World} {x : S36} {cs : List Value} (h : k36.K w x cs) : cs = [.string x.f0, .string x.f1, .bool x.f2] := by
  obtain ⟨_, _, rfl, rfl, ⟨_, _, rfl, rfl, rfl⟩⟩ := h
  exact rfl
theorem k36_openM {w : World} {base : Nat} {ok : Nat → Prop} {x : S36} {cs : List Value} (h : k36.M w base ok x cs) : cs = [.string x.f0, .string x.f1, .bool x.f2] := by
  obtain ⟨_, _, rfl, rfl, ⟨_, _, rfl, rfl, rfl⟩⟩ := h
  exact rfl
theorem k36_mk (w : World) (x : S36)  : k36.K w x [.string x.f0, .string x.f1, .bool x.f2] := ⟨[.string x.f0], [.string x.f1, .bool x.f2], rfl, rfl, ⟨[.string x.f1], [.bool x.f2], rfl, rfl, rfl⟩⟩
theorem k36_mkM (w : World) (base : Nat) (ok : Nat → Prop) (x : S36)  : k36.M w base ok x [.string x.f0, .string x.f1, .bool x.f2] := ⟨[.string x.f0], [.string x.f1, .bool x.f2], rfl, rfl, ⟨[.string x.f1], [.bool x.f2], rfl, rfl, rfl⟩⟩
theorem k36_mkF (W : World) (ok : Nat → Prop) (x : S36) : Kd.FK k36 W ok x [.string x.f0, .string x.f1, .bool x.f2] := fun W2 _ => k36_mk W2 x
def rd_T36 (xs : List S36) (i : Int) : S36 := xs.getD i.toNat z36
theorem at_T36 {w : World} {A : Option Addr} {n : Nat} {xs : List S36} (h : Kd.C k36 w A n xs) (i : Int) (h0 : 0 ≤ i) (h1 : i < n) : ∃ ad , A = some ad ∧ w.cell? (ad.add (i.toNat * 3)) = some (.string (rd_T36 xs i).f0) ∧ w.cell? ⟨(ad.add (i.toNat * 3)).block, (ad.add (i.toNat * 3)).off + 1, none⟩ = some (.string (rd_T36 xs i).f1) ∧ w.cell? ⟨(ad.add (i.toNat * 3)).block, (ad.add (i.toNat * 3)).off + 2, none⟩ = some (.bool (rd_T36 xs i).f2) := by
  obtain ⟨ad, c, e, _, hK, hc0⟩ := Kd.C_get h z36 i h0 h1
  have hc : ∀ j u, c[j]? = some u → w.cell? (ad.add (i.toNat * 3 + j)) = some u := hc0
  obtain rfl := k36_open hK
  exact ⟨ad, e, hc 0 _ rfl, by rw [← add_field _ _ 1 (by omega)]; exact hc 1 _ rfl, by rw [← add_field _ _ 2 (by omega)]; exact hc 2 _ rfl⟩

/-! #### struct type 62 -/
structure S62 where
  f0 : ByteArray
  f1 : ByteArray
  f2 : Bool
def z62 : S62 := ⟨(⟨#[]⟩ : ByteArray), (⟨#[]⟩ : ByteArray), false⟩
def k62 : Kd S62 := Kd.iso (Kd.pair Kd.string (Kd.pair Kd.string Kd.bool)) (fun x : S62 => (x.f0, x.f1, x.f2))
theorem k62_open {w : World} {x : S62} {cs : List Value} (h : k62.K w x cs) : cs = [.string x.f0, .string x.f1, .bool x.f2] := by
  obtain ⟨_, _, rfl, rfl, ⟨_, _, rfl, rfl, rfl⟩⟩ := h
  exact rfl
theorem k62_openM {w : World} {base : Nat} {ok : Nat → Prop} {x : S62} {cs : List Value} (h : k62.M w base ok x cs) : cs = [.string x.f0, .string x.f1, .bool x.f2] := by
  obtain ⟨_, _, rfl, rfl, ⟨_, _, rfl, rfl, rfl⟩⟩ := h
  exact rfl
theorem k62_mk (w : World) (x : S62)  : k62.K w x [.string x.f0, .string x.f1, .bool x.f2] := ⟨[.string x.f0], [.string x.f1, .bool x.f2], rfl, rfl, ⟨[.string x.f1], [.bool x.f2], rfl, rfl, rfl⟩⟩
theorem k62_mkM (w : World) (base : Nat) (ok : Nat → Prop) (x : S62)  : k62.M w base ok x [.string x.f0, .string x.f1, .bool x.f2] := ⟨[.string x.f0], [.string x.f1, .bool x.f2], rfl, rfl, ⟨[.string x.f1], [.bool x.f2], rfl, rfl, rfl⟩⟩
theorem k62_mkF (W : World) (ok : Nat → Prop) (x : S62) : Kd.FK k62 W ok x [.string x.f0, .string x.f1, .bool x.f2] := fun W2 _ => k62_mk W2 x
def rd_T62 (xs : List S62) (i : Int) : S62 := xs.getD i.toNat z62
theorem at_T62 {w : World} {A : Option Addr} {n : Nat} {xs : List S62} (h : Kd.C k62 w A n xs) (i : Int) (h0 : 0 ≤ i) (h1 : i < n) : ∃ ad , A = some ad ∧ w.cell? (ad.add (i.toNat * 3)) = some (.string (rd_T62 xs i).f0) ∧ w.cell? ⟨(ad.add (i.toNat * 3)).block, (ad.add (i.toNat * 3)).off + 1, none⟩ = some (.string (rd_T62 xs i).f1) ∧ w.cell? ⟨(ad.add (i.toNat * 3)).block, (ad.add (i.toNat * 3)).off + 2, none⟩ = some (.bool (rd_T62 xs i).f2) := by
  obtain ⟨ad, c, e, _, hK, hc0⟩ := Kd.C_get h z62 i h0 h1
  have hc : ∀ j u, c[j]? = some u → w.cell? (ad.add (i.toNat * 3 + j)) = some u := hc0
  obtain rfl := k62_open hK
  exact ⟨ad, e, hc 0 _ rfl, by rw [← add_field _ _ 1 (by omega)]; exact hc 1 _ rfl, by rw [← add_field _ _ 2 (by omega)]; exact hc 2 _ rfl⟩

def tab1 : ByteArray := ⟨#[16, 16, 16, 16, 16, 16, 16, 16, 16, 16, 16, 16, 16, 16, 16, 16, 16, 16, 16, 16, 16, 16, 16, 16, 16, 16, 16, 16, 16, 16, 16, 16, 16, 16, 16, 16, 16, 16, 16, 16, 16, 16, 16, 16, 16, 16, 16, 16, 0, 1, 2, 3, 4, 5, 6, 7, 8, 9, 16, 16, 16, 16, 16, 16, 16, 10, 11, 12, 13, 14, 15, 16, 16, 16, 16, 16, 16, 16, 16, 16, 16, 16, 16, 16, 16, 16, 16, 16, 16, 16, 16, 16, 16, 16, 16, 16, 16, 10, 11, 12, 13, 14, 15, 16, 16, 16, 16, 16, 16, 16, 16, 16, 16, 16, 16, 16, 16, 16, 16, 16, 16, 16, 16, 16, 16, 16, 16, 16, 16, 16, 16, 16, 16, 16, 16, 16, 16, 16, 16, 16, 16, 16, 16, 16, 16, 16, 16, 16, 16, 16, 16, 16, 16, 16, 16, 16, 16, 16, 16, 16, 16, 16, 16, 16, 16, 16, 16, 16, 16, 16, 16, 16, 16, 16, 16, 16, 16, 16, 16, 16, 16, 16, 16, 16, 16, 16, 16, 16, 16, 16, 16, 16, 16, 16, 16, 16, 16, 16, 16, 16, 16, 16, 16, 16, 16, 16, 16, 16, 16, 16, 16, 16, 16, 16, 16, 16, 16, 16, 16, 16, 16, 16, 16, 16, 16, 16, 16, 16, 16, 16, 16, 16, 16, 16, 16, 16, 16, 16, 16, 16, 16, 16, 16, 16, 16, 16, 16, 16, 16, 16, 16, 16, 16, 16, 16, 16]⟩
def tab2 : ByteArray := ⟨#[1, 1, 1, 1, 1, 1, 1, 1, 1, 1, 1, 1, 1, 1, 1, 1, 1, 1, 1, 1, 1, 1, 1, 1, 1, 1, 1, 1, 1, 1, 1, 1, 1, 1, 1, 1, 1, 1, 1, 1, 1, 1, 1, 1, 1, 0, 0, 1, 0, 0, 0, 0, 0, 0, 0, 0, 0, 0, 1, 1, 1, 1, 1, 1, 1, 0, 0, 0, 0, 0, 0, 0, 0, 0, 0, 0, 0, 0, 0, 0, 0, 0, 0, 0, 0, 0, 0, 0, 0, 0, 0, 1, 1, 1, 1, 0, 1, 0, 0, 0, 0, 0, 0, 0, 0, 0, 0, 0, 0, 0, 0, 0, 0, 0, 0, 0, 0, 0, 0, 0, 0, 0, 0, 1, 1, 1, 0, 1, 1, 1, 1, 1, 1, 1, 1, 1, 1, 1, 1, 1, 1, 1, 1, 1, 1, 1, 1, 1, 1, 1, 1, 1, 1, 1, 1, 1, 1, 1, 1, 1, 1, 1, 1, 1, 1, 1, 1, 1, 1, 1, 1, 1, 1, 1, 1, 1, 1, 1, 1, 1, 1, 1, 1, 1, 1, 1, 1, 1, 1, 1, 1, 1, 1, 1, 1, 1, 1, 1, 1, 1, 1, 1, 1, 1, 1, 1, 1, 1, 1, 1, 1, 1, 1, 1, 1, 1, 1, 1, 1, 1, 1, 1, 1, 1, 1, 1, 1, 1, 1, 1, 1, 1, 1, 1, 1, 1, 1, 1, 1, 1, 1, 1, 1, 1, 1, 1, 1, 1, 1, 1, 1, 1, 1, 1, 1, 1]⟩
def conv48.f (a0 : ByteArray) : Option (List Int) := if a0.size ≤ 140737488355328 then some (bytesOf a0) else none
theorem conv48.calls (a0 : ByteArray) (r : List Int) (w : World) (h : conv48.f a0 = some r) :
    Go.Proofs.YtjklempjljikpaaX.ConvCalls Try.prog 9 48 a0 w fun e w' => ∃ v0_ : Value, e = .returned v0_ ∧ Kd.V (Kd.int .u8) 5 w' w.heap.size (fun k_ => (w.heap.size ≤ k_)) v0_ r ∧ Below w.heap.size w w' := by
  unfold conv48.f at h
  split at h
  · obtain rfl := Option.some.inj h
    exact Go.Proofs.YtjklempjljikpaaX.conv_bytes 9 48 5 Try.underlying9 Try.underlying48 Try.underlying5 a0 (by assumption) w
  · cases h
end Go.Proofs.Ytjklempjljikpaa.Q
