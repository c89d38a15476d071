/- Numbers as digits, there and back: the plain part. No program in sight. -/
import Derived.Test.YtipmmjbjgbfgjaaDoorKit
namespace Go.Proofs.YtipmmjbjgbfgjaaDoor.SpA
open Go.RowKit Go.Proofs.YtipmmjbjgbfgjaaDoorW.PrintWords Go.Proofs.YtipmmjbjgbfgjaaDoorW.PrintLast Go.Proofs.YtipmmjbjgbfgjaaDoorKit
set_option linter.unusedVariables false
set_option linter.unusedSimpArgs false
/-- A number's digits. -/
def dec (n : Nat) : List UInt8 := if h : n < 10 then [UInt8.ofNat (48 + n)] else dec (n / 10) ++ [UInt8.ofNat (48 + n % 10)]
termination_by n
decreasing_by omega
theorem dec_pos (n : Nat) : 0 < (dec n).length := by rw [dec]; split <;> simp
theorem dec_len : ∀ (m n : Nat), n < 10 ^ (m + 1) → (dec n).length ≤ m + 1
  | 0, n, h => by
    rw [dec, dif_pos (by omega)]
    simp
  | m + 1, n, h => by
    rw [dec]
    split
    · simp
    · rw [List.length_append, List.length_singleton]
      have := dec_len m (n / 10) (by rw [Nat.pow_succ] at h; omega)
      omega
def isD (c : UInt8) : Bool := decide (48 ≤ c.toNat ∧ c.toNat ≤ 57)
theorem isD_dig (d : Nat) (h : d < 10) : isD (UInt8.ofNat (48 + d)) = true ∧ (UInt8.ofNat (48 + d)).toNat = 48 + d := by
  have e : (UInt8.ofNat (48 + d)).toNat = 48 + d := by
    rw [UInt8.toNat_ofNat']
    omega
  refine ⟨?_, e⟩
  unfold isD
  rw [e]
  exact decide_eq_true ⟨by omega, by omega⟩
theorem dec_isD (n : Nat) : ∀ c ∈ dec n, isD c = true := by
  induction n using Nat.strongRecOn with
  | ind n ih =>
    intro c hc
    rw [dec] at hc
    split at hc
    · rename_i h
      simp only [List.mem_singleton] at hc
      subst hc
      exact (isD_dig n h).1
    · rename_i h
      rcases List.mem_append.1 hc with h1 | h1
      · exact ih (n / 10) (by omega) c h1
      · simp only [List.mem_singleton] at h1
        subst h1
        exact (isD_dig (n % 10) (by omega)).1
def valD (ds : List UInt8) (v : Int) : Int := ds.foldl (fun x c => 10 * x + ((c.toNat : Int) - 48)) v
theorem valD_dec (n : Nat) : valD (dec n) 0 = (n : Int) := by
  induction n using Nat.strongRecOn with
  | ind n ih =>
    rw [dec]
    split
    · rename_i h
      simp only [valD, List.foldl_cons, List.foldl_nil, (isD_dig n h).2]
      omega
    · rename_i h
      have := ih (n / 10) (by omega)
      simp only [valD] at this
      simp only [valD, List.foldl_append, List.foldl_cons, List.foldl_nil, (isD_dig (n % 10) (by omega)).2, this]
      omega
/-- One digit more. -/
def stepU (v : Int) (c : UInt8) : Int := wrap64 (wrap64 (10 * v) + ((c.toNat : Int) - 48))
/-- What is read of bytes from a place on: the number, the place, whether it is an error. -/
def pubGo : List UInt8 → Nat → Int → Int × Int × Bool
  | [], i, v => (v, (i : Int), false)
  | c :: t, i, v => if isD c = true then (if stepU v c < v then (-1, (i : Int), true) else pubGo t (i + 1) (stepU v c)) else if i = 0 then (-1, 0, true) else (v, (i : Int), false)
def pub (l : List UInt8) : Int × Int × Bool := if l = [] then (-1, 0, true) else pubGo l 0 0
def uof (l : List UInt8) : Int × Bool := if (pub l).2.1 = (l.length : Int) ∧ (pub l).2.2 = false then ((pub l).1, true) else (0, false)
def uah (l : List UInt8) : Int × Int × Bool := if (pub l).2.2 = true then (0, 0, false) else ((pub l).1, (pub l).2.1, true)
theorem isD_b {c : UInt8} (h : isD c = true) : 48 ≤ c.toNat ∧ c.toNat ≤ 57 := by simpa [isD] using h
theorem pow18 : (10 : Int) ^ 18 = 1000000000000000000 := by decide
theorem pubGo_digs : ∀ (ds t : List UInt8) (i : Nat) (v : Int), (∀ c ∈ ds, isD c = true) → 0 ≤ v → v < 10 ^ i → i + ds.length ≤ 18 →
    pubGo (ds ++ t) i v = pubGo t (i + ds.length) (valD ds v) ∧ 0 ≤ valD ds v ∧ valD ds v < 10 ^ (i + ds.length)
  | [], t, i, v, _, h0, h1, _ => ⟨rfl, h0, h1⟩
  | c :: ds, t, i, v, hd, h0, h1, hl => by
    have hc := hd c (List.mem_cons_self ..)
    have hb := isD_b hc
    simp only [List.length_cons] at hl
    have hp : (10 : Int) ^ (i + 1) ≤ 10 ^ 18 := by
      have : (10 : Nat) ^ (i + 1) ≤ 10 ^ 18 := Nat.pow_le_pow_right (by omega) (by omega)
      exact_mod_cast this
    have hs : (10 : Int) ^ (i + 1) = 10 ^ i * 10 := Int.pow_succ ..
    rw [pow18] at hp
    have he : stepU v c = 10 * v + ((c.toNat : Int) - 48) := by unfold stepU wrap64; omega
    have hv : 10 * v + ((c.toNat : Int) - 48) < 10 ^ (i + 1) := by omega
    have ih := pubGo_digs ds t (i + 1) (10 * v + ((c.toNat : Int) - 48)) (fun x hx => hd x (List.mem_cons_of_mem _ hx)) (by omega) hv (by omega)
    have hw : i + (c :: ds).length = i + 1 + ds.length := by simp; omega
    rw [hw]
    refine ⟨?_, ih.2⟩
    rw [List.cons_append, pubGo, if_pos hc, he, if_neg (by omega), ih.1]
    rfl
/-- A text that begins with up to 18 digits and goes on with none. -/
theorem pub_digs (ds t : List UInt8) (hd : ∀ c ∈ ds, isD c = true) (h0 : 0 < ds.length) (h1 : ds.length ≤ 18) (ht : ∀ c ∈ t.head?, isD c = false) : pub (ds ++ t) = (valD ds 0, (ds.length : Int), false) := by
  have hne : ds ++ t ≠ [] := by intro e; simp at e; rw [e.1] at h0; exact absurd h0 (by decide)
  have h := (pubGo_digs ds t 0 0 hd (by omega) (by decide) (by omega)).1
  rw [pub, if_neg hne, h, Nat.zero_add]
  cases t with
  | nil => rfl
  | cons c t =>
    have := ht c rfl
    rw [pubGo, if_neg (by rw [this]; decide), if_neg (by omega)]
theorem pub_none (l : List UInt8) (h : ∀ c ∈ l.head?, isD c = false) : (pub l).2.2 = true ∧ (pub l).2.1 = 0 := by
  cases l with
  | nil => exact ⟨rfl, rfl⟩
  | cons c t =>
    have := h c rfl
    rw [pub, if_neg (by simp), pubGo, if_neg (by rw [this]; decide), if_pos rfl]
    exact ⟨rfl, rfl⟩
theorem pub_dec (n : Nat) (t : List UInt8) (hn : n < 10 ^ 18) (ht : ∀ c ∈ t.head?, isD c = false) : pub (dec n ++ t) = ((n : Int), ((dec n).length : Int), false) := by
  rw [pub_digs (dec n) t (dec_isD n) (dec_pos n) (dec_len 17 n hn) ht, valD_dec]
end Go.Proofs.YtipmmjbjgbfgjaaDoor.SpA
