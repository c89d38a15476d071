-- Written by a program of this session out of the translation, with the kit's printer. Not trusted: Lean checks it.
import Derived.Test.YtjmcndbkmknemaaProg
import Derived.Below
import Derived.Deep.Draws
import Derived.Deep.AppendLies
import Derived.Maps.AppendAt
import Derived.OwnWalk
import Derived.Laws.BytesArg
import Derived.Laws.MakeOwn
import Derived.Laws.OwnMore
import Derived.Deep.OwnRows
import Derived.Tactics
import Derived.Lib.ConvBytes
import Derived.Laws.Slices
import Derived.WalkKit
import Derived.KernelRfl
import Derived.RowKit3
import Derived.Deep.LoopGhost
import Derived.Deep.QuietTactic
import Derived.BigQuiet
import Derived.WideLaws
import Derived.Deep.DeepCutAuto
import Derived.Deep.CutBlock
import Derived.Deep.RegionHeld3
import Derived.Laws.Rows
import Derived.Lib.AppendStr
import Derived.ArgAppend
import Derived.Laws.IdiomCopy
import Derived.OrdersHeld
import Derived.Laws.BitsLemmas
import Derived.RowKit
import Derived.Test.YtjmcndbkmknemaaX
import Derived.Laws.Externs
import Derived.Lib.BytesEntry
import Derived.Lib.Bytealg
import Derived.WalkSpells
import Derived.Test.YtjmcndbkmknemaaWWords
import Derived.Test.YtjmcndbkmknemaaWLast
import Derived.Test.YtjmcndbkmknemaaWTab
import Derived.Test.YtjmcndbkmknemaaWFour
import Derived.Test.YtjmcndbkmknemaaWQPut
import Derived.Test.YtjmcndbkmknemaaWApart
import Derived.Test.YtjmcndbkmknemaaWArr
import Derived.Test.YtjmcndbkmknemaaWZeros
import Derived.Test.YtjmcndbkmknemaaWFoot
import Derived.Test.YtjmcndbkmknemaaWKept
import Derived.Test.YtjmcndbkmknemaaWShare
import Derived.Test.YtjmcndbkmknemaaWN
import Derived.Test.YtjmcndbkmknemaaWFootNe
import Derived.Test.YtjmcndbkmknemaaWAt
import Derived.Test.YtjmcndbkmknemaaWEqStruct
import Derived.Test.YtjmcndbkmknemaaWRepsOne
import Derived.Test.YtjmcndbkmknemaaWInv
import Derived.Test.YtjmcndbkmknemaaWInvWords
import Derived.Test.YtjmcndbkmknemaaWGuard
import Derived.Test.YtjmcndbkmknemaaWNEv
import Derived.Test.YtjmcndbkmknemaaWMore
namespace Go.Proofs.Ytjmcndbkmknemaa.Q
open Go.RowKit Go.Proofs.YtjmcndbkmknemaaW.PrintWords Go.Proofs.YtjmcndbkmknemaaW.PrintLast Go.Proofs.YtjmcndbkmknemaaW.PrintMore
attribute [local go_sem] max2_int min2_int max_two min_two max_three min_three max_four min_four   -- for this text's walks alone
set_option linter.unusedVariables false
set_option linter.unusedSimpArgs false



def errW : Option Int → Value
  | none => .nilIface
  | some c => .iface 0 (.int .i64 c)
theorem errW_none : errW none = .nilIface := rfl
theorem errW_some (c : Int) : errW (some c) = .iface 0 (.int .i64 c) := rfl

theorem info5 : (Try.prog.info? 5).map (fun i => (i.zero, i.size, i.bytes)) = some (some (.int .u8 0), 1, 1) := by kernel_rfl
theorem info9 : (Try.prog.info? 9).map (fun i => (i.zero, i.size, i.bytes)) = some (some (.string ⟨#[]⟩), 1, 16) := by kernel_rfl
theorem info27 : (Try.prog.info? 27).map (fun i => (i.zero, i.size, i.bytes)) = some (some (.agg #[(.string ⟨#[]⟩), (.string ⟨#[]⟩)]), 2, 32) := by kernel_rfl
theorem info45 : (Try.prog.info? 45).map (fun i => (i.zero, i.size, i.bytes)) = some (some (.agg #[(.string ⟨#[]⟩), (.string ⟨#[]⟩), (.bool false), (.bool false)]), 4, 40) := by kernel_rfl
theorem info53 : (Try.prog.info? 53).map (fun i => (i.zero, i.size, i.bytes)) = some (some (.agg #[(.string ⟨#[]⟩), (.string ⟨#[]⟩), (.bool false), (.bool false)]), 4, 40) := by kernel_rfl
theorem info63 : (Try.prog.info? 63).map (fun i => (i.zero, i.size, i.bytes)) = some (some (.agg #[(.string ⟨#[]⟩), (.string ⟨#[]⟩)]), 2, 32) := by kernel_rfl
theorem info65 : (Try.prog.info? 65).map (fun i => (i.zero, i.size, i.bytes)) = some (some (.agg #[(.string ⟨#[]⟩), (.string ⟨#[]⟩)]), 2, 32) := by kernel_rfl
-- the values' own types
/-! #### struct type 27 -/
structure S27 where
  f0 : ByteArray
  f1 : ByteArray
def z27 : S27 := ⟨(⟨#[]⟩ : ByteArray), (⟨#[]⟩ : ByteArray)⟩
def k27 : Kd S27 := Kd.iso (Kd.pair Kd.string Kd.string) (fun x : S27 => (x.f0, x.f1))
theorem k27_open {w : World} {x : S27} {cs : List Value} (h : k27.K w x cs) : cs = [.string x.f0, .string x.f1] := by
  obtain ⟨_, _, rfl, rfl, rfl⟩ := h
  exact rfl
theorem k27_openM {w : World} {base : Nat} {ok : Nat → Prop} {x : S27} {cs : List Value} (h : k27.M w base ok x cs) : cs = [.string x.f0, .string x.f1] := by
  obtain ⟨_, _, rfl, rfl, rfl⟩ := h
  exact rfl
theorem k27_mk (w : World) (x : S27)  : k27.K w x [.string x.f0, .string x.f1] := ⟨[.string x.f0], [.string x.f1], rfl, rfl, rfl⟩
theorem k27_mkM (w : World) (base : Nat) (ok : Nat → Prop) (x : S27)  : k27.M w base ok x [.string x.f0, .string x.f1] := ⟨[.string x.f0], [.string x.f1], rfl, rfl, rfl⟩
theorem k27_mkF (W : World) (ok : Nat → Prop) (x : S27) : Kd.FK k27 W ok x [.string x.f0, .string x.f1] := fun W2 _ => k27_mk W2 x
def rd_T27 (xs : List S27) (i : Int) : S27 := xs.getD i.toNat z27
theorem at_T27 {w : World} {A : Option Addr} {n : Nat} {xs : List S27} (h : Kd.C k27 w A n xs) (i : Int) (h0 : 0 ≤ i) (h1 : i < n) : ∃ ad , A = some ad ∧ w.cell? (ad.add (i.toNat * 2)) = some (.string (rd_T27 xs i).f0) ∧ w.cell? ⟨(ad.add (i.toNat * 2)).block, (ad.add (i.toNat * 2)).off + 1, none⟩ = some (.string (rd_T27 xs i).f1) := by
  obtain ⟨ad, c, e, _, hK, hc0⟩ := Kd.C_get h z27 i h0 h1
  have hc : ∀ j u, c[j]? = some u → w.cell? (ad.add (i.toNat * 2 + j)) = some u := hc0
  obtain rfl := k27_open hK
  exact ⟨ad, e, hc 0 _ rfl, by rw [← add_field _ _ 1 (by omega)]; exact hc 1 _ rfl⟩

/-! #### struct type 63 -/
structure S63 where
  f0 : ByteArray
  f1 : ByteArray
def z63 : S63 := ⟨(⟨#[]⟩ : ByteArray), (⟨#[]⟩ : ByteArray)⟩
def k63 : Kd S63 := Kd.iso (Kd.pair Kd.string Kd.string) (fun x : S63 => (x.f0, x.f1))
theorem k63_open {w : World} {x : S63} {cs : List Value} (h : k63.K w x cs) : cs = [.string x.f0, .string x.f1] := by
  obtain ⟨_, _, rfl, rfl, rfl⟩ := h
  exact rfl
theorem k63_openM {w : World} {base : Nat} {ok : Nat → Prop} {x : S63} {cs : List Value} (h : k63.M w base ok x cs) : cs = [.string x.f0, .string x.f1] := by
  obtain ⟨_, _, rfl, rfl, rfl⟩ := h
  exact rfl
theorem k63_mk (w : World) (x : S63)  : k63.K w x [.string x.f0, .string x.f1] := ⟨[.string x.f0], [.string x.f1], rfl, rfl, rfl⟩
theorem k63_mkM (w : World) (base : Nat) (ok : Nat → Prop) (x : S63)  : k63.M w base ok x [.string x.f0, .string x.f1] := ⟨[.string x.f0], [.string x.f1], rfl, rfl, rfl⟩
theorem k63_mkF (W : World) (ok : Nat → Prop) (x : S63) : Kd.FK k63 W ok x [.string x.f0, .string x.f1] := fun W2 _ => k63_mk W2 x
def rd_T63 (xs : List S63) (i : Int) : S63 := xs.getD i.toNat z63
theorem at_T63 {w : World} {A : Option Addr} {n : Nat} {xs : List S63} (h : Kd.C k63 w A n xs) (i : Int) (h0 : 0 ≤ i) (h1 : i < n) : ∃ ad , A = some ad ∧ w.cell? (ad.add (i.toNat * 2)) = some (.string (rd_T63 xs i).f0) ∧ w.cell? ⟨(ad.add (i.toNat * 2)).block, (ad.add (i.toNat * 2)).off + 1, none⟩ = some (.string (rd_T63 xs i).f1) := by
  obtain ⟨ad, c, e, _, hK, hc0⟩ := Kd.C_get h z63 i h0 h1
  have hc : ∀ j u, c[j]? = some u → w.cell? (ad.add (i.toNat * 2 + j)) = some u := hc0
  obtain rfl := k63_open hK
  exact ⟨ad, e, hc 0 _ rfl, by rw [← add_field _ _ 1 (by omega)]; exact hc 1 _ rfl⟩

/-! #### struct type 65 -/
structure S65 where
  f0 : ByteArray
  f1 : ByteArray
def z65 : S65 := ⟨(⟨#[]⟩ : ByteArray), (⟨#[]⟩ : ByteArray)⟩
def k65 : Kd S65 := Kd.iso (Kd.pair Kd.string Kd.string) (fun x : S65 => (x.f0, x.f1))
theorem k65_open {w : World} {x : S65} {cs : List Value} (h : k65.K w x cs) : cs = [.string x.f0, .string x.f1] := by
  obtain ⟨_, _, rfl, rfl, rfl⟩ := h
  exact rfl
theorem k65_openM {w : World} {base : Nat} {ok : Nat → Prop} {x : S65} {cs : List Value} (h : k65.M w base ok x cs) : cs = [.string x.f0, .string x.f1] := by
  obtain ⟨_, _, rfl, rfl, rfl⟩ := h
  exact rfl
theorem k65_mk (w : World) (x : S65)  : k65.K w x [.string x.f0, .string x.f1] := ⟨[.string x.f0], [.string x.f1], rfl, rfl, rfl⟩
theorem k65_mkM (w : World) (base : Nat) (ok : Nat → Prop) (x : S65)  : k65.M w base ok x [.string x.f0, .string x.f1] := ⟨[.string x.f0], [.string x.f1], rfl, rfl, rfl⟩
theorem k65_mkF (W : World) (ok : Nat → Prop) (x : S65) : Kd.FK k65 W ok x [.string x.f0, .string x.f1] := fun W2 _ => k65_mk W2 x
def rd_T65 (xs : List S65) (i : Int) : S65 := xs.getD i.toNat z65
theorem at_T65 {w : World} {A : Option Addr} {n : Nat} {xs : List S65} (h : Kd.C k65 w A n xs) (i : Int) (h0 : 0 ≤ i) (h1 : i < n) : ∃ ad , A = some ad ∧ w.cell? (ad.add (i.toNat * 2)) = some (.string (rd_T65 xs i).f0) ∧ w.cell? ⟨(ad.add (i.toNat * 2)).block, (ad.add (i.toNat * 2)).off + 1, none⟩ = some (.string (rd_T65 xs i).f1) := by
  obtain ⟨ad, c, e, _, hK, hc0⟩ := Kd.C_get h z65 i h0 h1
  have hc : ∀ j u, c[j]? = some u → w.cell? (ad.add (i.toNat * 2 + j)) = some u := hc0
  obtain rfl := k65_open hK
  exact ⟨ad, e, hc 0 _ rfl, by rw [← add_field _ _ 1 (by omega)]; exact hc 1 _ rfl⟩

/-! #### struct type 45 -/
structure S45 where
  f0 : ByteArray
  f1 : ByteArray
  f2 : Bool
  f3 : Bool
def z45 : S45 := ⟨(⟨#[]⟩ : ByteArray), (⟨#[]⟩ : ByteArray), false, false⟩
def k45 : Kd S45 := Kd.iso (Kd.pair Kd.string (Kd.pair Kd.string (Kd.pair Kd.bool Kd.bool))) (fun x : S45 => (x.f0, x.f1, x.f2, x.f3))
theorem k45_open {w : World} {x : S45} {cs : List Value} (h : k45.K w x cs) : cs = [.string x.f0, .string x.f1, .bool x.f2, .bool x.f3] := by
  obtain ⟨_, _, rfl, rfl, ⟨_, _, rfl, rfl, ⟨_, _, rfl, rfl, rfl⟩⟩⟩ := h
  exact rfl
theorem k45_openM {w : World} {base : Nat} {ok : Nat → Prop} {x : S45} {cs : List Value} (h : k45.M w base ok x cs) : cs = [.string x.f0, .string x.f1, .bool x.f2, .bool x.f3] := by
  obtain ⟨_, _, rfl, rfl, ⟨_, _, rfl, rfl, ⟨_, _, rfl, rfl, rfl⟩⟩⟩ := h
  exact rfl
theorem k45_mk (w : World) (x : S45)  : k45.K w x [.string x.f0, .string x.f1, .bool x.f2, .bool x.f3] := ⟨[.string x.f0], [.string x.f1, .bool x.f2, .bool x.f3], rfl, rfl, ⟨[.string x.f1], [.bool x.f2, .bool x.f3], rfl, rfl, ⟨[.bool x.f2], [.bool x.f3], rfl, rfl, rfl⟩⟩⟩
theorem k45_mkM (w : World) (base : Nat) (ok : Nat → Prop) (x : S45)  : k45.M w base ok x [.string x.f0, .string x.f1, .bool x.f2, .bool x.f3] := ⟨[.string x.f0], [.string x.f1, .bool x.f2, .bool x.f3], rfl, rfl, ⟨[.string x.f1], [.bool x.f2, .bool x.f3], rfl, rfl, ⟨[.bool x.f2], [.bool x.f3], rfl, rfl, rfl⟩⟩⟩
theorem k45_mkF (W : World) (ok : Nat → Prop) (x : S45) : Kd.FK k45 W ok x [.string x.f0, .string x.f1, .bool x.f2, .bool x.f3] := fun W2 _ => k45_mk W2 x
def rd_T45 (xs : List S45) (i : Int) : S45 := xs.getD i.toNat z45
theorem at_T45 {w : World} {A : Option Addr} {n : Nat} {xs : List S45} (h : Kd.C k45 w A n xs) (i : Int) (h0 : 0 ≤ i) (h1 : i < n) : ∃ ad , A = some ad ∧ w.cell? (ad.add (i.toNat * 4)) = some (.string (rd_T45 xs i).f0) ∧ w.cell? ⟨(ad.add (i.toNat * 4)).block, (ad.add (i.toNat * 4)).off + 1, none⟩ = some (.string (rd_T45 xs i).f1) ∧ w.cell? ⟨(ad.add (i.toNat * 4)).block, (ad.add (i.toNat * 4)).off + 2, none⟩ = some (.bool (rd_T45 xs i).f2) ∧ w.cell? ⟨(ad.add (i.toNat * 4)).block, (ad.add (i.toNat * 4)).off + 3, none⟩ = some (.bool (rd_T45 xs i).f3) := by
  obtain ⟨ad, c, e, _, hK, hc0⟩ := Kd.C_get h z45 i h0 h1
  have hc : ∀ j u, c[j]? = some u → w.cell? (ad.add (i.toNat * 4 + j)) = some u := hc0
  obtain rfl := k45_open hK
  exact ⟨ad, e, hc 0 _ rfl, by rw [← add_field _ _ 1 (by omega)]; exact hc 1 _ rfl, by rw [← add_field _ _ 2 (by omega)]; exact hc 2 _ rfl, by rw [← add_field _ _ 3 (by omega)]; exact hc 3 _ rfl⟩

/-! #### struct type 53 -/
structure S53 where
  f0 : ByteArray
  f1 : ByteArray
  f2 : Bool
  f3 : Bool
def z53 : S53 := ⟨(⟨#[]⟩ : ByteArray), (⟨#[]⟩ : ByteArray), false, false⟩
def k53 : Kd S53 := Kd.iso (Kd.pair Kd.string (Kd.pair Kd.string (Kd.pair Kd.bool Kd.bool))) (fun x : S53 => (x.f0, x.f1, x.f2, x.f3))
theorem k53_open {w : World} {x : S53} {cs : List Value} (h : k53.K w x cs) : cs = [.string x.f0, .string x.f1, .bool x.f2, .bool x.f3] := by
  obtain ⟨_, _, rfl, rfl, ⟨_, _, rfl, rfl, ⟨_, _, rfl, rfl, rfl⟩⟩⟩ := h
  exact rfl
theorem k53_openM {w : World} {base : Nat} {ok : Nat → Prop} {x : S53} {cs : List Value} (h : k53.M w base ok x cs) : cs = [.string x.f0, .string x.f1, .bool x.f2, .bool x.f3] := by
  obtain ⟨_, _, rfl, rfl, ⟨_, _, rfl, rfl, ⟨_, _, rfl, rfl, rfl⟩⟩⟩ := h
  exact rfl
theorem k53_mk (w : World) (x : S53)  : k53.K w x [.string x.f0, .string x.f1, .bool x.f2, .bool x.f3] := ⟨[.string x.f0], [.string x.f1, .bool x.f2, .bool x.f3], rfl, rfl, ⟨[.string x.f1], [.bool x.f2, .bool x.f3], rfl, rfl, ⟨[.bool x.f2], [.bool x.f3], rfl, rfl, rfl⟩⟩⟩
theorem k53_mkM (w : World) (base : Nat) (ok : Nat → Prop) (x : S53)  : k53.M w base ok x [.string x.f0, .string x.f1, .bool x.f2, .bool x.f3] := ⟨[.string x.f0], [.string x.f1, .bool x.f2, .bool x.f3], rfl, rfl, ⟨[.string x.f1], [.bool x.f2, .bool x.f3], rfl, rfl, ⟨[.bool x.f2], [.bool x.f3], rfl, rfl, rfl⟩⟩⟩
theorem k53_mkF (W : World) (ok : Nat → Prop) (x : S53) : Kd.FK k53 W ok x [.string x.f0, .string x.f1, .bool x.f2, .bool x.f3] := fun W2 _ => k53_mk W2 x
def rd_T53 (xs : List S53) (i : Int) : S53 := xs.getD i.toNat z53
theorem at_T53 {w : World} {A : Option Addr} {n : Nat} {xs : List S53} (h : Kd.C k53 w A n xs) (i : Int) (h0 : 0 ≤ i) (h1 : i < n) : ∃ ad , A = some ad ∧ w.cell? (ad.add (i.toNat * 4)) = some (.string (rd_T53 xs i).f0) ∧ w.cell? ⟨(ad.add (i.toNat * 4)).block, (ad.add (i.toNat * 4)).off + 1, none⟩ = some (.string (rd_T53 xs i).f1) ∧ w.cell? ⟨(ad.add (i.toNat * 4)).block, (ad.add (i.toNat * 4)).off + 2, none⟩ = some (.bool (rd_T53 xs i).f2) ∧ w.cell? ⟨(ad.add (i.toNat * 4)).block, (ad.add (i.toNat * 4)).off + 3, none⟩ = some (.bool (rd_T53 xs i).f3) := by
  obtain ⟨ad, c, e, _, hK, hc0⟩ := Kd.C_get h z53 i h0 h1
  have hc : ∀ j u, c[j]? = some u → w.cell? (ad.add (i.toNat * 4 + j)) = some u := hc0
  obtain rfl := k53_open hK
  exact ⟨ad, e, hc 0 _ rfl, by rw [← add_field _ _ 1 (by omega)]; exact hc 1 _ rfl, by rw [← add_field _ _ 2 (by omega)]; exact hc 2 _ rfl, by rw [← add_field _ _ 3 (by omega)]; exact hc 3 _ rfl⟩

def tab1 : ByteArray := ⟨#[1, 1, 1, 1, 1, 1, 1, 1, 1, 1, 1, 1, 1, 1, 1, 1, 1, 1, 1, 1, 1, 1, 1, 1, 1, 1, 1, 1, 1, 1, 1, 1, 1, 1, 1, 1, 1, 1, 1, 1, 1, 1, 1, 1, 1, 0, 0, 1, 0, 0, 0, 0, 0, 0, 0, 0, 0, 0, 1, 1, 1, 1, 1, 1, 1, 0, 0, 0, 0, 0, 0, 0, 0, 0, 0, 0, 0, 0, 0, 0, 0, 0, 0, 0, 0, 0, 0, 0, 0, 0, 0, 1, 1, 1, 1, 0, 1, 0, 0, 0, 0, 0, 0, 0, 0, 0, 0, 0, 0, 0, 0, 0, 0, 0, 0, 0, 0, 0, 0, 0, 0, 0, 0, 1, 1, 1, 0, 1, 1, 1, 1, 1, 1, 1, 1, 1, 1, 1, 1, 1, 1, 1, 1, 1, 1, 1, 1, 1, 1, 1, 1, 1, 1, 1, 1, 1, 1, 1, 1, 1, 1, 1, 1, 1, 1, 1, 1, 1, 1, 1, 1, 1, 1, 1, 1, 1, 1, 1, 1, 1, 1, 1, 1, 1, 1, 1, 1, 1, 1, 1, 1, 1, 1, 1, 1, 1, 1, 1, 1, 1, 1, 1, 1, 1, 1, 1, 1, 1, 1, 1, 1, 1, 1, 1, 1, 1, 1, 1, 1, 1, 1, 1, 1, 1, 1, 1, 1, 1, 1, 1, 1, 1, 1, 1, 1, 1, 1, 1, 1, 1, 1, 1, 1, 1, 1, 1, 1, 1, 1, 1, 1, 1, 1, 1, 1, 1]⟩
def tab2 : ByteArray := ⟨#[1, 1, 1, 1, 1, 1, 1, 1, 1, 1, 1, 1, 1, 1, 1, 1, 1, 1, 1, 1, 1, 1, 1, 1, 1, 1, 1, 1, 1, 1, 1, 1, 1, 1, 1, 1, 0, 1, 0, 1, 1, 1, 1, 0, 0, 0, 0, 0, 0, 0, 0, 0, 0, 0, 0, 0, 0, 0, 0, 0, 1, 0, 1, 1, 0, 0, 0, 0, 0, 0, 0, 0, 0, 0, 0, 0, 0, 0, 0, 0, 0, 0, 0, 0, 0, 0, 0, 0, 0, 0, 0, 1, 1, 1, 1, 0, 1, 0, 0, 0, 0, 0, 0, 0, 0, 0, 0, 0, 0, 0, 0, 0, 0, 0, 0, 0, 0, 0, 0, 0, 0, 0, 0, 1, 1, 1, 0, 1, 1, 1, 1, 1, 1, 1, 1, 1, 1, 1, 1, 1, 1, 1, 1, 1, 1, 1, 1, 1, 1, 1, 1, 1, 1, 1, 1, 1, 1, 1, 1, 1, 1, 1, 1, 1, 1, 1, 1, 1, 1, 1, 1, 1, 1, 1, 1, 1, 1, 1, 1, 1, 1, 1, 1, 1, 1, 1, 1, 1, 1, 1, 1, 1, 1, 1, 1, 1, 1, 1, 1, 1, 1, 1, 1, 1, 1, 1, 1, 1, 1, 1, 1, 1, 1, 1, 1, 1, 1, 1, 1, 1, 1, 1, 1, 1, 1, 1, 1, 1, 1, 1, 1, 1, 1, 1, 1, 1, 1, 1, 1, 1, 1, 1, 1, 1, 1, 1, 1, 1, 1, 1, 1, 1, 1, 1, 1, 1]⟩
def conv67.f (a0 : ByteArray) : Option (List Int) := if a0.size ≤ 140737488355328 then some (bytesOf a0) else none
theorem conv67.calls (a0 : ByteArray) (r : List Int) (w : World) (h : conv67.f a0 = some r) :
    Go.Proofs.YtjmcndbkmknemaaX.ConvCalls Try.prog 9 67 a0 w fun e w' => ∃ v0_ : Value, e = .returned v0_ ∧ Kd.V (Kd.int .u8) 5 w' w.heap.size (fun k_ => (w.heap.size ≤ k_)) v0_ r ∧ Below w.heap.size w w' := by
  unfold conv67.f at h
  split at h
  · obtain rfl := Option.some.inj h
    exact Go.Proofs.YtjmcndbkmknemaaX.conv_bytes 9 67 5 Try.underlying9 Try.underlying67 Try.underlying5 a0 (by assumption) w
  · cases h
end Go.Proofs.Ytjmcndbkmknemaa.Q
