/- What the callees of the path's cleaning tell of rows. -/
import Derived.Test.YtjklempjljikpaaPwB
import Derived.Test.YtjklempjljikpaaPwL
namespace Go.Proofs.Ytjklempjljikpaa.Q
open Go.RowKit Go.Proofs.YtjklempjljikpaaW.PrintWords Go.Proofs.YtjklempjljikpaaW.PrintLast Go.Proofs.YtjklempjljikpaaW.PrintMore
open Go.Proofs.Ytjklempjljikpaa.SpA (toI toI_length toI_append ix)
theorem cutTo {P : Program} {t e : TypeId} {i : TypeInfo} (ht : P.underlying t = some (.slice e)) (hi : P.info? e = some i) (A : Option Addr) (m c n : Nat) (x : Int) (hx : x = (n : Int)) (hn : n ≤ m) (hm : m ≤ c) :
    ∀ W : World, (Instr.slice t (.slice A m c) none (some (.int .i64 x)) none).run P W = .ok (.slice A n c) W := by
  intro W
  have h := cut_to (P := P) t e .i64 ht hi A m c x (by omega) (by omega) hm W
  rw [show x.toNat = n by omega] at h
  exact h
theorem cutFrom {P : Program} {t e : TypeId} {i : TypeInfo} (ht : P.underlying t = some (.slice e)) (hi : P.info? e = some i) (hs : i.size = 1) (g off m c n off' m' c' : Nat) (x : Int) (hx : x = (n : Int)) (hn : n < c) (hm : n ≤ m) (h1 : off' = off + n) (h2 : m' = m - n) (h3 : c' = c - n) :
    ∀ W : World, (Instr.slice t (.slice (some ⟨g, off, none⟩) m c) (some (.int .i64 x)) none none).run P W = .ok (.slice (some ⟨g, off', none⟩) m' c') W := by
  intro W
  have h := cut_from (P := P) t e .i64 ht hi 1 hs (some ⟨g, off, none⟩) m c x (by omega) (by omega) W
  have hxt : x.toNat = n := by omega
  rw [hxt, if_neg (by omega), Nat.mul_one, Option.map_some, addr_add] at h
  rw [h1, h2, h3]
  exact h
theorem zz_calls {w : World} {g g1 c c1 : Nat} {p q sub : List UInt8} (r : Int) (hr : ix sub q 0 = r) (hb : BR w g 5 (p ++ q)) (hc : q.length ≤ c) (hs : BR w g1 5 sub) (hc1 : sub.length ≤ c1) (hn : sub ≠ []) (hl : (p ++ q).length ≤ 4611686018427387) (hm : sub.length ≤ 4611686018427387) :
    Calls Try.prog 59 #[.slice (some ⟨g, p.length, none⟩) q.length c, .slice (some ⟨g1, 0, none⟩) sub.length c1] w fun e w' => e = .returned (.int .i64 r) ∧ Drawn0 w w' := by
  subst hr
  have hql : q.length ≤ 4611686018427387 := by simp at hl; omega
  obtain ⟨k, hk⟩ := SpA.zzIndex q sub hn (by omega) hm
  have h := hertzproto_zzIndex.calls k (some ⟨g, p.length, none⟩) c (toI q) (some ⟨g1, 0, none⟩) c1 (toI sub) _ w (hb.C (by omega)) (by rw [toI_length]; exact hc) (BR.C (p := []) (q := sub) hs (by simpa using Nat.le_trans hm (by omega))) (by rw [toI_length]; exact hc1) (hk k (Nat.le_refl k))
  rw [toI_length, toI_length] at h
  exact h
theorem zz0_calls {w : World} {g g1 c c1 : Nat} {q sub : List UInt8} (r : Int) (hr : ix sub q 0 = r) (hb : BR w g 5 q) (hc : q.length ≤ c) (hs : BR w g1 5 sub) (hc1 : sub.length ≤ c1) (hn : sub ≠ []) (hl : q.length ≤ 4611686018427387) (hm : sub.length ≤ 4611686018427387) :
    Calls Try.prog 59 #[.slice (some ⟨g, 0, none⟩) q.length c, .slice (some ⟨g1, 0, none⟩) sub.length c1] w fun e w' => e = .returned (.int .i64 r) ∧ Drawn0 w w' := zz_calls (p := []) r hr hb hc hs hc1 hn hl hm
/-- A slice's size. -/
def lenV : Value → Nat
  | .slice _ n _ => n
  | _ => 0
/-- A part that stands ahead of the first step back is a word. -/
theorem good_part (L p y b : List UInt8) (h1 : ∀ a c, L ≠ a ++ 47 :: 47 :: c) (h2 : ∀ a c, L ≠ a ++ 47 :: 46 :: 47 :: c) (hL : L = (p ++ 47 :: y) ++ [47, 46, 46, 47] ++ b) (hmin : ∀ a' b', L = a' ++ [47, 46, 46, 47] ++ b' → (p ++ 47 :: y).length ≤ a'.length) : Cl.good y := by
  refine ⟨fun e => h1 p (46 :: 46 :: 47 :: b) (by rw [hL, e]; simp), fun e => h2 p (46 :: 46 :: 47 :: b) (by rw [hL, e]; simp), fun e => ?_⟩
  have := hmin p (46 :: 46 :: 47 :: b) (by rw [hL, e]; simp)
  simp at this
  omega
theorem no_slash_first (a t L r : List UInt8) (hL : L = a ++ r) (ht : L = 47 :: t) (ha : (47 : UInt8) ∉ a) : a = [] := by
  cases a with
  | nil => rfl
  | cons x a =>
    rw [hL] at ht
    have := (List.cons.inj ht).1
    exact absurd (by rw [this]; simp) ha
theorem slash_first (p b c t : List UInt8) (h : p ++ 47 :: c = 47 :: t) : ∃ t, p ++ 47 :: b = 47 :: t := by
  cases p with
  | nil => exact ⟨b, rfl⟩
  | cons x y => have := (List.cons.inj h).1; exact ⟨y ++ 47 :: b, by rw [this]; rfl⟩
theorem lib_calls {w : World} {g c : Nat} {p : List UInt8} (r : Int) (hr : Ev (fun k => bytes_LastIndexByte.f k (toI p) 47) r) (hb : BR w g 5 p) (hc : p.length ≤ c) (hl : p.length ≤ 4611686018427387) :
    Calls Try.prog 63 #[.slice (some ⟨g, 0, none⟩) p.length c, .int .u8 47] w fun e w' => e = .returned (.int .i64 r) ∧ Drawn0 w w' := by
  obtain ⟨k, hk⟩ := hr
  have h := bytes_LastIndexByte.calls k (some ⟨g, 0, none⟩) c (toI p) 47 r w (BR.C (p := []) (q := p) hb (by simpa using Nat.le_trans hl (by omega))) (by rw [toI_length]; exact hc) (hk k (Nat.le_refl k))
  rw [toI_length] at h
  exact h
theorem lix_calls {w : World} {g g1 c c1 : Nat} {p : List UInt8} (r : Int) (hr : Ev (fun k => bytes_LastIndex.f k (toI p) [47, 46, 46]) r) (hb : BR w g 5 p) (hc : p.length ≤ c) (hs : BR w g1 5 [47, 46, 46]) (hc1 : 3 ≤ c1) (hl : p.length ≤ 4611686018427387) :
    Calls Try.prog 64 #[.slice (some ⟨g, 0, none⟩) p.length c, .slice (some ⟨g1, 0, none⟩) 3 c1] w fun e w' => e = .returned (.int .i64 r) ∧ Drawn0 w w' := by
  obtain ⟨k, hk⟩ := hr
  have h := bytes_LastIndex.calls k (some ⟨g, 0, none⟩) c (toI p) (some ⟨g1, 0, none⟩) c1 (toI [47, 46, 46]) r w (BR.C (p := []) (q := p) hb (by simpa using Nat.le_trans hl (by omega))) (by rw [toI_length]; exact hc) (BR.C (p := []) (q := [47, 46, 46]) hs (by simp)) hc1 (hk k (Nat.le_refl k))
  rw [toI_length] at h
  exact h
end Go.Proofs.Ytjklempjljikpaa.Q
