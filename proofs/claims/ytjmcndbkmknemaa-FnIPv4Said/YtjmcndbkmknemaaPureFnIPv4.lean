/- The pure statement of FnIPv4: four numbers from 0 to 255 without zeros ahead, with dots between, are an address, and nothing else is. -/
import Derived.Test.YtjmcndbkmknemaaQ15
import Derived.Test.YtjmcndbkmknemaaQ16
import Derived.Test.YtjmcndbkmknemaaQ17
import Derived.Test.YtjmcndbkmknemaaQ18
import Derived.Test.YtjmcndbkmknemaaSpTxt
import Derived.Test.YtjmcndbkmknemaaSpDig
import Derived.OpenShut
namespace Go.Proofs.Ytjmcndbkmknemaa.Pure
open Go.RowKit Go.Proofs.Ytjmcndbkmknemaa.Q Go.Proofs.YtjmcndbkmknemaaW.PrintWords Go.Proofs.YtjmcndbkmknemaaW.PrintLast Go.Proofs.YtjmcndbkmknemaaKit Go.Proofs.Ytjmcndbkmknemaa.SpA
set_option linter.unusedVariables false
set_option linter.unusedSimpArgs false
def isD (c : UInt8) : Bool := decide (48 ≤ c.toNat) && decide (c.toNat ≤ 57)
theorem isD_iff (c : UInt8) : isD c = true ↔ 48 ≤ c.toNat ∧ c.toNat ≤ 57 := by simp [isD]
def decv (a : Nat) (l : List UInt8) : Nat := l.foldl (fun a c => a * 10 + (c.toNat - 48)) a
theorem decv_nil (a : Nat) : decv a [] = a := rfl
theorem decv_cons (a : Nat) (c : UInt8) (t : List UInt8) : decv a (c :: t) = decv (a * 10 + (c.toNat - 48)) t := by unfold decv; rw [List.foldl_cons]
theorem val_ge : ∀ (l : List UInt8) (a : Nat), a * 10 ^ l.length ≤ decv a l
  | [], a => by simp [decv_nil]
  | c :: t, a => by
    rw [decv_cons, List.length_cons, Nat.pow_succ, Nat.mul_comm _ 10, ← Nat.mul_assoc]
    exact Nat.le_trans (Nat.mul_le_mul_right _ (Nat.le_add_right _ _)) (val_ge t _)
theorem val_le (l : List UInt8) (a : Nat) : a ≤ decv a l := Nat.le_trans (Nat.le_mul_of_pos_right _ (Nat.pow_pos (by omega))) (val_ge l a)
/-- What stands ahead of what is no digit, if its number is not above 255. -/
def scan : List UInt8 → Nat → Nat → Option (Nat × List UInt8)
  | [], _, ci => some (ci, [])
  | c :: t, n, ci => if isD c then (if n * 10 + (c.toNat - 48) > 255 then none else scan t (n * 10 + (c.toNat - 48)) (ci + 1)) else some (ci, c :: t)
theorem scan_eq : ∀ (l : List UInt8) (n ci : Nat), n ≤ 255 → scan l n ci = if decv n (l.takeWhile isD) ≤ 255 then some (ci + (l.takeWhile isD).length, l.dropWhile isD) else none
  | [], n, ci, h => by simp [scan, decv_nil, h]
  | c :: t, n, ci, h => by
    rw [scan]
    by_cases d : isD c = true
    · rw [if_pos d, List.takeWhile_cons, if_pos d, List.dropWhile_cons, if_pos d, decv_cons]
      by_cases g : n * 10 + (c.toNat - 48) > 255
      · rw [if_pos g, if_neg]
        have := val_le (t.takeWhile isD) (n * 10 + (c.toNat - 48))
        omega
      · rw [if_neg g, scan_eq t _ _ (by omega), List.length_cons]
        split
        · congr 2; omega
        · rfl
    · rw [if_neg d, List.takeWhile_cons, if_neg d, List.dropWhile_cons, if_neg d]
      simp [decv_nil, h]
def okay (p : List UInt8) : Bool := !p.isEmpty && p.all isD && decide (decv 0 p ≤ 255) && !(decide (1 < p.length) && (p.head? == some 48))
theorem okay_len (p : List UInt8) (h : okay p = true) : p.length ≤ 3 := by
  simp only [okay, Bool.and_eq_true, Bool.not_eq_true', decide_eq_true_eq, Bool.and_eq_false_iff, decide_eq_false_iff_not] at h
  obtain ⟨⟨⟨h1, h2⟩, h3⟩, h4⟩ := h
  match p with
  | [] => simp
  | c :: t =>
    have hc := (isD_iff c).1 (by simp at h2; exact h2.1)
    simp only [List.length_cons, List.head?_cons] at *
    by_cases g : 3 ≤ t.length
    · have hne : c ≠ 48 := by
        rintro rfl
        rcases h4 with h4 | h4
        · omega
        · simp at h4
      have : c.toNat ≠ 48 := fun e => hne (UInt8.toNat_inj.1 e)
      rw [decv_cons] at h3
      have g1 := val_ge t (0 * 10 + (c.toNat - 48))
      have g2 : 10 ^ 3 ≤ 10 ^ t.length := Nat.pow_le_pow_right (by omega) g
      have g3 : 1 * 10 ^ t.length ≤ (0 * 10 + (c.toNat - 48)) * 10 ^ t.length := Nat.mul_le_mul_right _ (by omega)
      omega
    · omega
def ip : Nat → Bool → List UInt8 → Bool
  | 0, _, l => l.isEmpty
  | m + 1, true, l => match scan l 0 0 with
    | none => false
    | some (ci, r) => !l.isEmpty && decide (ci ≠ 0) && !(decide (1 < ci) && (l.head? == some 48)) && ip m false r
  | m + 1, false, l => match l with
    | [] => false
    | c :: t => decide (c = 46) && ip (m + 1) true t
termination_by m b _ => (m, if b then 0 else 1)
def fourS : Nat → Nat → List UInt8 → Bool
  | 0, _, _ => false
  | d + 1, n, l => okay (l.takeWhile (· ≠ 46)) && match l.dropWhile (· ≠ 46) with
    | [] => decide (n + 1 = 4)
    | _ :: r => fourS d (n + 1) r
theorem four_many : ∀ (d n : Nat) (l : List UInt8), 4 ≤ n → fourS d n l = false
  | 0, _, _, _ => rfl
  | d + 1, n, l, h => by
    rw [fourS]
    split
    · rw [decide_eq_false (by omega), Bool.and_false]
    · rw [four_many d _ _ (by omega), Bool.and_false]
theorem takes (p q : UInt8 → Bool) (hpq : ∀ c, p c = true → q c = true) : ∀ (l : List UInt8), (∀ c ∈ l.takeWhile q, p c = true) → l.takeWhile p = l.takeWhile q ∧ l.dropWhile p = l.dropWhile q
  | [], _ => by simp
  | c :: t, h => by
    by_cases d : q c = true
    · rw [List.takeWhile_cons, if_pos d] at h
      have pc := h c (by simp)
      have := takes p q hpq t (fun x hx => h x (by simp [hx]))
      simp [List.takeWhile_cons, List.dropWhile_cons, d, pc, this.1, this.2]
    · have : ¬ p c = true := fun e => d (hpq c e)
      simp [List.takeWhile_cons, List.dropWhile_cons, d, this]
theorem drop_head (q : UInt8 → Bool) : ∀ (l : List UInt8) (c : UInt8) (r : List UInt8), l.dropWhile q = c :: r → q c = false
  | [], c, r, h => by simp at h
  | x :: t, c, r, h => by
    rw [List.dropWhile_cons] at h
    split at h
    · exact drop_head q t c r h
    · simp only [List.cons.injEq] at h
      rw [← h.1]
      simpa using ‹¬ q x = true›
theorem isD_dot (c : UInt8) (h : isD c = true) : (decide (c ≠ 46)) = true := by
  rw [decide_eq_true_eq]
  rintro rfl
  revert h
  decide
theorem dropW_len (q : UInt8 → Bool) : ∀ (l : List UInt8), (l.dropWhile q).length ≤ l.length
  | [] => by simp
  | c :: t => by
    rw [List.dropWhile_cons]
    split
    · exact Nat.le_trans (dropW_len q t) (by simp)
    · exact Nat.le_refl _
theorem mem_takeW (q : UInt8 → Bool) : ∀ (l : List UInt8) (c : UInt8), c ∈ l.takeWhile q → q c = true
  | [], c, h => by simp at h
  | x :: t, c, h => by
    rw [List.takeWhile_cons] at h
    split at h
    · rcases List.mem_cons.1 h with rfl | h
      · assumption
      · exact mem_takeW q t c h
    · simp at h
theorem takeW_self (q : UInt8 → Bool) : ∀ (l : List UInt8), (∀ c ∈ l, q c = true) → l.takeWhile q = l
  | [], _ => rfl
  | x :: t, h => by rw [List.takeWhile_cons, if_pos (h x (by simp)), takeW_self q t (fun c hc => h c (by simp [hc]))]
/-- Both readings tell the same. -/
theorem same : ∀ (d n m : Nat) (l : List UInt8), l.length < d → n + 1 + m = 4 → ip (m + 1) true l = fourS d n l
  | 0, n, m, l, hd, hm => by omega
  | d + 1, n, m, l, hd, hm => by
    rw [ip, fourS, scan_eq l 0 0 (by omega)]
    by_cases ok : okay (l.takeWhile (fun c => decide (c ≠ 46))) = true
    · have hall : ∀ c ∈ l.takeWhile (fun c => decide (c ≠ 46)), isD c = true := by
        simp only [okay, Bool.and_eq_true] at ok
        exact List.all_eq_true.1 ok.1.1.2
      obtain ⟨e1, e2⟩ := takes isD (fun c => decide (c ≠ 46)) isD_dot l hall
      rw [e1, e2, ok, Bool.true_and]
      have hlen := okay_len _ ok
      simp only [okay, Bool.and_eq_true, Bool.not_eq_true', decide_eq_true_eq] at ok
      obtain ⟨⟨⟨h1, h2⟩, h3⟩, h4⟩ := ok
      rw [if_pos h3]
      have hne : l ≠ [] := by rintro rfl; simp at h1
      have hhd : l.head? = (l.takeWhile (fun c => decide (c ≠ 46))).head? := by
        match l with
        | [] => rfl
        | c :: t =>
          by_cases q : decide (c ≠ 46) = true
          · rw [List.takeWhile_cons, if_pos q]; rfl
          · rw [List.takeWhile_cons, if_neg q] at h1; simp at h1
      have hpos : (l.takeWhile (fun c => decide (c ≠ 46))).length ≠ 0 := by
        intro e
        rw [List.length_eq_zero_iff.1 e] at h1
        simp at h1
      simp only [Nat.zero_add]
      rw [hhd, h4, decide_eq_true hpos, show l.isEmpty = false by simpa using hne]
      simp only [Bool.not_false, Bool.true_and]
      cases hr : l.dropWhile (fun c => decide (c ≠ 46)) with
      | nil =>
        cases m with
        | zero => rw [ip]; simp; omega
        | succ m => rw [ip]; simp; omega
      | cons c r =>
        have hc := drop_head _ l c r hr
        have hc46 : c = 46 := by simpa using hc
        have hrl : r.length < d := by
          have := congrArg List.length hr
          have h5 := dropW_len (fun c => decide (c ≠ 46)) l
          simp only [List.length_cons] at this
          omega
        cases m with
        | zero => rw [ip]; exact (four_many d (n + 1) r (by omega)).symm
        | succ m => rw [ip, hc46, decide_eq_true rfl, Bool.true_and]; exact same d (n + 1) m r hrl (by omega)
    · rw [Bool.eq_false_iff.2 ok, Bool.false_and]
      split
      · rfl
      · rename_i ci r hs
        split at hs
        · rename_i hv
          simp only [Option.some.injEq, Prod.mk.injEq, Nat.zero_add] at hs
          obtain ⟨rfl, rfl⟩ := hs
          by_cases okq : okay (l.takeWhile isD) = true
          · have hnp : l.takeWhile isD ≠ l.takeWhile (fun c => decide (c ≠ 46)) := fun e => ok (e ▸ okq)
            cases hr : l.dropWhile isD with
            | nil =>
              exfalso
              have : l.takeWhile isD = l := by
                have := List.takeWhile_append_dropWhile (p := isD) (l := l)
                rw [hr, List.append_nil] at this
                exact this
              apply hnp
              have h6 : ∀ c ∈ l, isD c = true := by rw [← this]; exact fun c hc => mem_takeW _ _ _ hc
              have h7 : l.takeWhile (fun c => decide (c ≠ 46)) = l := by
                exact takeW_self _ _ fun c hc => isD_dot c (h6 c hc)
              rw [this, h7]
            | cons c r =>
              have hc : c ≠ 46 := by
                rintro rfl
                apply hnp
                have e := List.takeWhile_append_dropWhile (p := isD) (l := l)
                rw [hr] at e
                have h6 : ∀ c ∈ l.takeWhile isD, decide (c ≠ 46) = true := fun c hc => isD_dot c (mem_takeW _ _ _ hc)
                conv => rhs; rw [← e]
                rw [List.takeWhile_append_of_pos h6]
                simp
              have : ip m false (c :: r) = false := by
                cases m with
                | zero => rw [ip]; rfl
                | succ m => rw [ip, decide_eq_false hc]; rfl
              rw [this, Bool.and_false]
          · by_cases he : l.takeWhile isD = []
            · rw [he]; simp
            · have hall : (l.takeWhile isD).all isD = true := List.all_eq_true.2 fun c hc => mem_takeW _ _ _ hc
              have hhd : l.head? = (l.takeWhile isD).head? := by
                match l with
                | [] => rfl
                | c :: t =>
                  by_cases q : isD c = true
                  · rw [List.takeWhile_cons, if_pos q]; rfl
                  · rw [List.takeWhile_cons, if_neg q] at he; simp at he
              have : (decide (1 < (l.takeWhile isD).length) && (l.head? == some 48)) = true := by
                cases hx : (decide (1 < (l.takeWhile isD).length) && (l.head? == some 48)) with
                | true => rfl
                | false =>
                  exfalso
                  apply okq
                  rw [hhd] at hx
                  simp only [okay, hall, decide_eq_true hv, hx]
                  simpa using he
              rw [this]; simp
        · cases hs
/-! ### the code's own reading -/
def after (l : List UInt8) (rest : List UInt8 → Bool) (ci : Nat) (r : List UInt8) : Bool := decide (ci ≠ 0) && !(decide (1 < ci) && (l.head? == some 48)) && rest r
theorem head_bt (s : ByteArray) (h : 0 < s.size) : bt s 0 = 48 ↔ (L s).head? = some 48 := by
  have hl : 0 < (L s).length := by rw [← size_L]; exact h
  have := bt_nat s 0 hl
  rw [show (0 : Int) = ((0 : Nat) : Int) from rfl, this, List.head?_eq_getElem?, List.getElem?_eq_getElem hl]
  constructor
  · intro e
    have : (L s)[0].toNat = 48 := by omega
    rw [UInt8.toNat_inj.1 (show (L s)[0].toNat = (48 : UInt8).toNat from this)]
  · intro e
    simp only [Option.some.injEq] at e
    rw [e]; rfl
theorem j3_false (s : ByteArray) (i : Nat) (n : Int) (hs : s.size ≤ 140737488351232) (hi : i < 4) (pre suf : List UInt8) (h : L s = pre ++ suf) (rest : List UInt8 → Bool)
    (hr : ∀ s' : ByteArray, s'.size ≤ s.size → Ev (fun k => fiberutils_IsIPv4.l0 k s' ((i + 1 : Nat) : Int)) (rest (L s'))) :
    Ev (fun k => fiberutils_IsIPv4.j3 k s (i : Int) n (pre.length : Int) false) (after (L s) rest pre.length suf) := by
  have hsz : s.size = pre.length + suf.length := by rw [size_L, h, List.length_append]
  have hx : L (s.extract pre.length s.size) = suf := by rw [L_extract, h, List.drop_left, List.take_of_length_le (by omega)]
  have hw : wrap64 ((i : Int) + 1) = ((i + 1 : Nat) : Int) := by rw [wrap_id (by omega) (by omega)]; omega
  have hgo := hr (s.extract pre.length s.size) (by rw [size_L, hx]; omega)
  rw [hx] at hgo
  unfold after
  by_cases h0 : pre.length = 0
  · rw [decide_eq_false (by omega)]
    refine Ev.step (f := fun _ => some false) (fun k => ?_) (Ev.now _)
    simp only [fiberutils_IsIPv4.j3]
    rw [if_neg (by simp), if_pos (by omega)]
  · rw [decide_eq_true h0, Bool.true_and]
    by_cases h1 : 1 < pre.length
    · rw [decide_eq_true h1, Bool.true_and]
      by_cases hh : (L s).head? = some 48
      · rw [hh]
        refine Ev.step (f := fun _ => some false) (fun k => ?_) (Ev.now _)
        simp only [fiberutils_IsIPv4.j3]
        rw [if_neg (by simp), if_neg (by omega), if_pos (by omega), if_pos (by omega), if_pos ((head_bt s (by omega)).2 hh)]
      · rw [show ((L s).head? == some 48) = false by simpa using hh, Bool.not_false, Bool.true_and]
        refine Ev.step (fun k => ?_) hgo
        simp only [fiberutils_IsIPv4.j3]
        rw [if_neg (by simp), if_neg (by omega), if_pos (by omega), if_pos (by omega), if_neg (fun e => hh ((head_bt s (by omega)).1 e)), if_pos (by omega), if_pos (by omega), hw]
        rfl
    · rw [decide_eq_false h1, Bool.false_and, Bool.not_false, Bool.true_and]
      refine Ev.step (fun k => ?_) hgo
      simp only [fiberutils_IsIPv4.j3]
      rw [if_neg (by simp), if_neg (by omega), if_neg (by omega), if_pos (by omega), if_pos (by omega), hw]
      rfl
theorem l1_ev (s : ByteArray) (i : Nat) (hs : s.size ≤ 140737488351232) (hi : i < 4) (rest : List UInt8 → Bool)
    (hr : ∀ s' : ByteArray, s'.size ≤ s.size → Ev (fun k => fiberutils_IsIPv4.l0 k s' ((i + 1 : Nat) : Int)) (rest (L s'))) :
    ∀ (suf pre : List UInt8) (n : Nat), L s = pre ++ suf → n ≤ 255 → Ev (fun k => fiberutils_IsIPv4.l1 k s (i : Int) (n : Int) (pre.length : Int)) (match scan suf n pre.length with
      | none => false
      | some (ci, r) => after (L s) rest ci r)
  | [], pre, n, h, hn => by
    refine Ev.step (fun k => ?_) (j3_false s i n hs hi pre [] h rest hr)
    simp only [fiberutils_IsIPv4.l1]
    rw [if_neg (sz_not h)]
  | c :: t, pre, n, h, hn => by
    rw [scan]
    by_cases d : isD c = true
    · have hd := (isD_iff c).1 d
      have hv : wrap64 (wrap64 ((n : Int) * 10) + ((c.toNat : Int) - 48) % 256) = ((n * 10 + (c.toNat - 48) : Nat) : Int) := by
        rw [wrap_id (x := (n : Int) * 10) (by omega) (by omega), wrap_id (by omega) (by omega)]
        omega
      rw [if_pos d]
      refine Ev.step (f := fun k => fiberutils_IsIPv4.j3 k s (i : Int) (n : Int) (pre.length : Int) true) (fun k => ?_) ?_
      · simp only [fiberutils_IsIPv4.l1]
        rw [if_pos (sz_mid h), if_pos (by omega), bt_mid h, if_pos (by omega), decide_eq_true (by omega)]
      · by_cases g : n * 10 + (c.toNat - 48) > 255
        · rw [if_pos g]
          refine Ev.step (f := fun _ => some false) (fun k => ?_) (Ev.now _)
          simp only [fiberutils_IsIPv4.j3]
          rw [if_pos trivial, if_pos (by omega), if_pos (sz_mid h), bt_mid h, hv, if_pos (by omega)]
        · rw [if_neg g]
          have ih := l1_ev s i hs hi rest hr t (pre ++ [c]) (n * 10 + (c.toNat - 48)) (mid_next h) (by omega)
          rw [show (pre ++ [c]).length = pre.length + 1 by simp] at ih
          refine Ev.step (fun k => ?_) ih
          simp only [fiberutils_IsIPv4.j3]
          rw [if_pos trivial, if_pos (by omega), if_pos (sz_mid h), bt_mid h, hv, if_neg (by omega), wrap_mid h hs]
          simp
    · rw [if_neg d]
      refine Ev.step (fun k => ?_) (j3_false s i n hs hi pre (c :: t) h rest hr)
      have hd : ¬ (48 ≤ c.toNat ∧ c.toNat ≤ 57) := fun e => d ((isD_iff c).2 e)
      simp only [fiberutils_IsIPv4.l1]
      rw [if_pos (sz_mid h), if_pos (by omega), bt_mid h]
      by_cases g : (48 : Int) ≤ (c.toNat : Int)
      · rw [if_pos g, decide_eq_false (by omega)]
      · rw [if_neg g]
theorem j1_ev (s : ByteArray) (i : Nat) (hs : s.size ≤ 140737488351232) (hi : i < 4) (rest : List UInt8 → Bool)
    (hr : ∀ s' : ByteArray, s'.size ≤ s.size → Ev (fun k => fiberutils_IsIPv4.l0 k s' ((i + 1 : Nat) : Int)) (rest (L s'))) :
    Ev (fun k => fiberutils_IsIPv4.j1 k s (i : Int)) (match scan (L s) 0 0 with
      | none => false
      | some (ci, r) => after (L s) rest ci r) :=
  Ev.step (fun k => by simp only [fiberutils_IsIPv4.j1]; rfl) (l1_ev s i hs hi rest hr (L s) [] 0 rfl (by omega))
theorem ip_true (m : Nat) (l : List UInt8) : ip (m + 1) true l = match scan l 0 0 with
      | none => false
      | some (ci, r) => after l (ip m false) ci r := by
  rw [ip]
  cases l with
  | nil => simp [scan, after]
  | cons c t =>
    split <;> simp [after]
theorem ip_ev : ∀ (m i : Nat) (s : ByteArray), i + m = 4 → s.size ≤ 140737488351232 → Ev (fun k => fiberutils_IsIPv4.l0 k s (i : Int)) (ip m (decide (i = 0)) (L s))
  | 0, i, s, hi, hs => by
    refine Ev.step (f := fun _ => some ((s.size : Int) == 0)) (fun k => ?_) (Ev.same (Ev.now _) ?_)
    · simp only [fiberutils_IsIPv4.l0]
      rw [if_neg (by omega)]
    · rw [ip, size_L]
      cases L s with
      | nil => rfl
      | cons c t => simp; omega
  | m + 1, i, s, hi, hs => by
    have hr : ∀ (s0 : ByteArray), s0.size ≤ 140737488351232 → ∀ s' : ByteArray, s'.size ≤ s0.size → Ev (fun k => fiberutils_IsIPv4.l0 k s' ((i + 1 : Nat) : Int)) (ip m false (L s')) := by
      intro s0 h0 s' h
      have := ip_ev m (i + 1) s' (by omega) (by omega)
      rwa [decide_eq_false (by omega)] at this
    cases hl : L s with
    | nil =>
      have hz : s.size = 0 := by rw [size_L, hl]; rfl
      refine Ev.step (f := fun _ => some false) (fun k => ?_) (Ev.same (Ev.now _) ?_)
      · simp only [fiberutils_IsIPv4.l0]
        rw [if_pos (by omega), if_pos (by omega)]
      · cases decide (i = 0) with
        | true => rw [ip_true]; simp [scan, after]
        | false => rw [ip]
    | cons c t =>
      have hz : s.size = t.length + 1 := by rw [size_L, hl]; rfl
      by_cases h0 : i = 0
      · rw [decide_eq_true h0, ip_true]
        have := j1_ev s i hs (by omega) _ (hr s hs)
        rw [hl] at this
        refine Ev.step (fun k => ?_) this
        simp only [fiberutils_IsIPv4.l0]
        rw [if_pos (by omega), if_neg (by omega), if_neg (by omega)]
      · rw [decide_eq_false h0, ip]
        have hb : bt s 0 = (c.toNat : Int) := by
          have := bt_nat s 0 (by rw [hl]; simp)
          simp only [hl] at this
          exact this
        by_cases h46 : c = 46
        · rw [decide_eq_true h46, Bool.true_and, ip_true]
          have hx : L (s.extract 1 s.size) = t := by rw [L_extract, hl]; simp [List.take_of_length_le, hz]
          have := j1_ev (s.extract 1 s.size) i (by rw [size_L, hx]; omega) (by omega) _ (hr _ (by rw [size_L, hx]; omega))
          rw [hx] at this
          refine Ev.step (fun k => ?_) this
          simp only [fiberutils_IsIPv4.l0]
          rw [if_pos (by omega), if_neg (by omega), if_pos (by omega), if_pos (by omega), hb, if_pos (by rw [h46]; rfl), if_pos (by omega)]
        · rw [decide_eq_false h46, Bool.false_and]
          refine Ev.step (f := fun _ => some false) (fun k => ?_) (Ev.now _)
          simp only [fiberutils_IsIPv4.l0]
          rw [if_pos (by omega), if_neg (by omega), if_pos (by omega), if_pos (by omega), hb, if_neg (fun e => h46 (UInt8.toNat_inj.1 (by show c.toNat = 46; omega)))]
theorem isIPv4_ev (s : ByteArray) (hs : s.size ≤ 140737488351232) : Ev (fun k => impl_IPv4.f k s) (fourS ((L s).length + 1) 0 (L s)) := by
  have := ip_ev 4 0 s rfl hs
  rw [decide_eq_true rfl, same ((L s).length + 1) 0 3 (L s) (by omega) (by omega)] at this
  exact Ev.call this (Ev.now _)
/-! ### the statement's reading -/
theorem until_l (s : ByteArray) (hs : s.size ≤ 140737488351232) : ∀ (suf pre : List UInt8), L s = pre ++ suf → Ev (fun k => laws_until.l0 k s 46 (pre.length : Int)) ((pre.length + (suf.takeWhile (fun c => decide (c ≠ 46))).length : Nat) : Int)
  | [], pre, h => by
    refine Ev.step (f := fun _ => some (pre.length : Int)) (fun k => ?_) (Ev.same (Ev.now _) (by simp))
    simp only [laws_until.l0]
    rw [if_neg (sz_not h)]
  | c :: t, pre, h => by
    rw [List.takeWhile_cons]
    by_cases d : c = 46
    · rw [if_neg (by simp [d])]
      refine Ev.step (f := fun _ => some (pre.length : Int)) (fun k => ?_) (Ev.same (Ev.now _) (by simp))
      simp only [laws_until.l0]
      rw [if_pos (sz_mid h), if_pos (by omega), bt_mid h, if_pos (by rw [d]; rfl)]
    · rw [if_pos (by simp [d]), List.length_cons]
      have ih := until_l s hs t (pre ++ [c]) (mid_next h)
      refine Ev.step (fun k => ?_) (Ev.same ih (by rw [List.length_append]; simp; omega))
      simp only [laws_until.l0]
      rw [if_pos (sz_mid h), if_pos (by omega), bt_mid h, if_neg (fun e => d (UInt8.toNat_inj.1 (by show c.toNat = 46; omega))), wrap_mid h hs]
theorem decv_top : ∀ (l : List UInt8) (a : Nat), (∀ c ∈ l, isD c = true) → decv a l ≤ (a + 1) * 10 ^ l.length
  | [], a, _ => by rw [decv_nil]; simp
  | x :: t, a, hx => by
    have hx1 := (isD_iff x).1 (hx x (by simp))
    rw [decv_cons, List.length_cons]
    refine Nat.le_trans (decv_top t _ (fun c hc => hx c (by simp [hc]))) ?_
    rw [Nat.pow_succ, Nat.mul_comm (10 ^ t.length) 10, ← Nat.mul_assoc]
    exact Nat.mul_le_mul_right _ (by omega)
theorem decv_small (l : List UInt8) (h : ∀ c ∈ l, isD c = true) (hl : l.length ≤ 3) : decv 0 l ≤ 1000 := by
  have h1 := decv_top l 0 h
  have h2 : 10 ^ l.length ≤ 10 ^ 3 := Nat.pow_le_pow_right (by omega) hl
  omega
theorem step_val (x d : Nat) (c : Int) (hx : x ≤ 1000) (h0 : 48 ≤ c) (h1 : c ≤ 57) (hd : (d : Int) = c - 48) : wrap64 (wrap64 (10 * (x : Int)) + (c - 48) % 256) = ((x * 10 + d : Nat) : Int) := by
  rw [wrap_id (x := 10 * (x : Int)) (by omega) (by omega), wrap_id (by omega) (by omega)]
  omega
/-- The digits of one part. -/
theorem part_l (s : ByteArray) (n : Int) (hs : s.size ≤ 140737488351232) (pre p r : List UInt8) (h : L s = pre ++ p ++ r) (hp : p ≠ []) (hl : p.length ≤ 3) (v : Bool)
    (hr : Ev (fun k => laws_four.l0 k s (wrap64 (n + 1)) (wrap64 (((pre.length + p.length : Nat) : Int) + 1))) v) :
    ∀ (p2 p1 : List UInt8), p = p1 ++ p2 → (∀ c ∈ p1, isD c = true) →
      Ev (fun k => laws_four.l1 k s n (pre.length : Int) ((pre.length + p.length : Nat) : Int) (decv 0 p1 : Nat) ((pre.length + p1.length : Nat) : Int)) (p2.all isD && decide (decv 0 p ≤ 255) && !(decide (1 < p.length) && (p.head? == some 48)) && v)
  | [], p1, he, hd => by
    have hpl : 0 < p.length := List.length_pos_iff.2 hp
    rw [List.append_nil] at he
    subst he
    have hsz : s.size = pre.length + p.length + r.length := by rw [size_L, h, List.length_append, List.length_append]
    have hw : wrap64 (((pre.length + p.length : Nat) : Int) - (pre.length : Int)) = (p.length : Int) := by rw [wrap_id (by omega) (by omega)]; omega
    have hb : bt s (pre.length : Int) = 48 ↔ p.head? = some 48 := by
      match p, hp with
      | c :: t, _ =>
        rw [bt_mid (c := c) (t := t ++ r) (by rw [h]; simp)]
        constructor
        · intro e
          have : c.toNat = 48 := by omega
          rw [UInt8.toNat_inj.1 (show c.toNat = (48 : UInt8).toNat from this)]; rfl
        · intro e
          simp only [List.head?_cons, Option.some.injEq] at e
          rw [e]; rfl
    rw [List.all_nil, Bool.true_and]
    by_cases h1 : decv 0 p ≤ 255
    · rw [decide_eq_true h1, Bool.true_and]
      by_cases h2 : 1 < p.length
      · rw [decide_eq_true h2, Bool.true_and]
        by_cases h3 : p.head? = some 48
        · rw [h3]
          refine Ev.step (f := fun _ => some false) (fun k => ?_) (Ev.now _)
          simp only [laws_four.l1]
          rw [if_neg (by omega), if_neg (by omega), if_neg (by omega), hw, if_pos (by omega), if_pos (by omega), if_pos (by omega), if_pos (hb.2 h3)]
        · rw [show (p.head? == some 48) = false by simpa using h3, Bool.not_false, Bool.true_and]
          refine Ev.step (fun k => ?_) hr
          simp only [laws_four.l1]
          rw [if_neg (by omega), if_neg (by omega), if_neg (by omega), hw, if_pos (by omega), if_pos (by omega), if_pos (by omega), if_neg (fun e => h3 (hb.1 e))]
      · rw [decide_eq_false h2, Bool.false_and, Bool.not_false, Bool.true_and]
        refine Ev.step (fun k => ?_) hr
        simp only [laws_four.l1]
        rw [if_neg (by omega), if_neg (by omega), if_neg (by omega), hw, if_neg (by omega)]
    · rw [decide_eq_false h1, Bool.false_and, Bool.false_and]
      refine Ev.step (f := fun _ => some false) (fun k => ?_) (Ev.now _)
      simp only [laws_four.l1]
      rw [if_neg (by omega), if_neg (by omega), if_pos (by omega)]
  | c :: t, p1, he, hd => by
    have hpl : p.length = p1.length + t.length + 1 := by rw [he, List.length_append, List.length_cons]; omega
    have hsz : s.size = pre.length + p.length + r.length := by rw [size_L, h, List.length_append, List.length_append]
    have hb : bt s ((pre.length + p1.length : Nat) : Int) = (c.toNat : Int) := by
      have := bt_mid (s := s) (pre := pre ++ p1) (c := c) (t := t ++ r) (by rw [h, he]; simp)
      rwa [List.length_append] at this
    have hw : wrap64 (((pre.length + p.length : Nat) : Int) - (pre.length : Int)) = (p.length : Int) := by rw [wrap_id (by omega) (by omega)]; omega
    rw [List.all_cons]
    by_cases d : isD c = true
    · have hdc := (isD_iff c).1 d
      have q1 : ((pre.length + p1.length : Nat) : Int) < ((pre.length + p.length : Nat) : Int) := by omega
      have q2 : (0 : Int) ≤ ((pre.length + p1.length : Nat) : Int) := by omega
      have q3 : ((pre.length + p1.length : Nat) : Int) < (s.size : Int) := by omega
      have q4 : ¬ (c.toNat : Int) < 48 := by omega
      have q5 : ¬ (c.toNat : Int) > 57 := by omega
      have q6 : ¬ (p.length : Int) > 3 := by omega
      have hv : decv 0 (p1 ++ [c]) = decv 0 p1 * 10 + (c.toNat - 48) := by unfold decv; rw [List.foldl_append, List.foldl_cons, List.foldl_nil]
      have hsmall := decv_small p1 hd (by omega)
      have hn : wrap64 (wrap64 (10 * ((decv 0 p1 : Nat) : Int)) + ((c.toNat : Int) - 48) % 256) = ((decv 0 (p1 ++ [c]) : Nat) : Int) := by
        rw [hv]; exact step_val _ _ _ hsmall (by omega) (by omega) (by omega)
      have hn2 : wrap64 (((pre.length + p1.length : Nat) : Int) + 1) = ((pre.length + (p1 ++ [c]).length : Nat) : Int) := by
        rw [wrap_id (by omega) (by omega), List.length_append]; simp; omega
      rw [d, Bool.true_and]
      refine Ev.step (fun k => ?_) (part_l s n hs pre p r h hp hl v hr t (p1 ++ [c]) (by rw [he]; simp) (fun x hx => by
        rcases List.mem_append.1 hx with hx | hx
        · exact hd x hx
        · rw [List.mem_singleton.1 hx]; exact d))
      simp only [laws_four.l1]
      rw [if_pos q1, if_pos q2, if_pos q3, hb, if_neg q4, if_neg q5, hw, if_neg q6, hn, hn2]
    · rw [Bool.eq_false_iff.2 d, Bool.false_and, Bool.false_and, Bool.false_and, Bool.false_and]
      have hd2 : ¬ (48 ≤ c.toNat ∧ c.toNat ≤ 57) := fun e => d ((isD_iff c).2 e)
      refine Ev.step (f := fun _ => some false) (fun k => ?_) (Ev.now _)
      simp only [laws_four.l1]
      rw [if_pos (by omega), if_pos (by omega), if_pos (by omega), hb]
      by_cases g : (c.toNat : Int) < 48
      · rw [if_pos g]
      · rw [if_neg g, if_pos (by omega)]
theorem four_ev (s : ByteArray) (hs : s.size ≤ 140737488351232) : ∀ (d : Nat) (suf pre : List UInt8) (n : Nat), suf.length < d → n ≤ pre.length → L s = pre ++ suf → Ev (fun k => laws_four.l0 k s (n : Int) (pre.length : Int)) (fourS d n suf)
  | 0, suf, pre, n, hd, _, h => by omega
  | d + 1, suf, pre, n, hd, hnp, h => by
    have hsz : s.size = pre.length + suf.length := by rw [size_L, h, List.length_append]
    have e := List.takeWhile_append_dropWhile (p := fun c => decide (c ≠ (46 : UInt8))) (l := suf)
    have hu := until_l s hs suf pre h
    rw [fourS]
    refine Ev.step (f := fun k => (laws_until.f k s (pre.length : Int) 46).bind fun t => laws_four.l1 k s (n : Int) (pre.length : Int) t 0 (pre.length : Int)) (fun k => ?_) (Ev.call hu ?_)
    · simp only [laws_four.l0]
      rw [if_pos (by omega)]
    generalize hp : suf.takeWhile (fun c => decide (c ≠ 46)) = p at e hu
    generalize hr : suf.dropWhile (fun c => decide (c ≠ 46)) = r at e
    have hpl : p.length + r.length = suf.length := by rw [← e, List.length_append]
    by_cases p0 : p = []
    · subst p0
      refine Ev.step (f := fun _ => some false) (fun k => ?_) (Ev.same (Ev.now _) (by simp [okay]))
      simp only [laws_four.l1]
      rw [if_neg (by simp), if_pos (by simp)]
    · have hpp : 0 < p.length := List.length_pos_iff.2 p0
      by_cases p3 : p.length ≤ 3
      · have hw1 : wrap64 ((n : Int) + 1) = ((n + 1 : Nat) : Int) := by rw [wrap_id (by omega) (by omega)]; omega
        have hgo : Ev (fun k => laws_four.l0 k s (wrap64 ((n : Int) + 1)) (wrap64 (((pre.length + p.length : Nat) : Int) + 1))) (match (generalizing := false) r with
            | [] => decide (n + 1 = 4)
            | _ :: r => fourS d (n + 1) r) := by
          rw [hw1]
          cases r with
          | nil =>
            simp only [List.length_nil] at hpl
            refine Ev.step (f := fun _ => some (((n + 1 : Nat) : Int) == 4)) (fun k => ?_) (Ev.same (Ev.now _) ?_)
            · simp only [laws_four.l0]
              rw [wrap_id (by omega) (by omega), if_neg (by omega)]
            · rw [Bool.eq_iff_iff]
              simp
              omega
          | cons c r =>
            simp only [List.length_cons] at hpl
            have hc : c = 46 := by simpa using drop_head _ suf c r hr
            have hl2 : wrap64 (((pre.length + p.length : Nat) : Int) + 1) = ((pre ++ p ++ [c]).length : Int) := by
              rw [wrap_id (by omega) (by omega)]; simp; omega
            rw [hl2]
            exact four_ev s hs d r (pre ++ p ++ [c]) (n + 1) (by omega) (by simp; omega) (by rw [h, ← e]; simp)
        have := part_l s (n : Int) hs pre p r (by rw [h, ← e]; simp) p0 p3 _ hgo p [] rfl (by simp)
        refine Ev.same this ?_
        unfold okay
        rw [show p.isEmpty = false by simpa using p0, Bool.not_false, Bool.true_and]
      · have hok : okay p = false := by
          cases ho : okay p with
          | false => rfl
          | true => exact absurd (okay_len p ho) p3
        rw [hok, Bool.false_and]
        match p, p0 with
        | c :: t, _ =>
          have hb : bt s (pre.length : Int) = (c.toNat : Int) := bt_mid (t := t ++ r) (by rw [h, ← e]; simp)
          have hw : wrap64 (((pre.length + (c :: t).length : Nat) : Int) - (pre.length : Int)) = ((c :: t).length : Int) := by rw [wrap_id (by omega) (by omega)]; omega
          refine Ev.step (f := fun _ => some false) (fun k => ?_) (Ev.now _)
          simp only [laws_four.l1]
          rw [if_pos (by omega), if_pos (by omega), if_pos (by omega), hb, hw]
          by_cases g : (c.toNat : Int) < 48
          · rw [if_pos g]
          · rw [if_neg g]
            by_cases g2 : (c.toNat : Int) > 57
            · rw [if_pos g2]
            · rw [if_neg g2, if_pos (by omega)]
/-! ### the numbers from 0 to 255 -/
theorem okay_dec : ∀ n : Fin 256, okay (dec n) = true := by decide +kernel
theorem takes_dot : ∀ (p r : List UInt8), (∀ c ∈ p, c ≠ 46) → (p ++ 46 :: r).takeWhile (fun c => decide (c ≠ 46)) = p ∧ (p ++ 46 :: r).dropWhile (fun c => decide (c ≠ 46)) = 46 :: r
  | [], r, _ => by simp
  | c :: t, r, h => by
    have h1 : decide (c ≠ 46) = true := by simpa using h c (by simp)
    obtain ⟨e1, e2⟩ := takes_dot t r (fun x hx => h x (by simp [hx]))
    constructor
    · rw [List.cons_append, List.takeWhile_cons, if_pos h1, e1]
    · rw [List.cons_append, List.dropWhile_cons, if_pos h1, e2]
theorem takes_end : ∀ (p : List UInt8), (∀ c ∈ p, c ≠ 46) → p.takeWhile (fun c => decide (c ≠ 46)) = p ∧ p.dropWhile (fun c => decide (c ≠ 46)) = []
  | [], _ => by simp
  | c :: t, h => by
    have h1 : decide (c ≠ 46) = true := by simpa using h c (by simp)
    obtain ⟨e1, e2⟩ := takes_end t (fun x hx => h x (by simp [hx]))
    constructor
    · rw [List.takeWhile_cons, if_pos h1, e1]
    · rw [List.dropWhile_cons, if_pos h1, e2]
theorem okay_dots (p : List UInt8) (h : okay p = true) : ∀ c ∈ p, c ≠ 46 := by
  simp only [okay, Bool.and_eq_true] at h
  intro c hc
  simpa using isD_dot c (List.all_eq_true.1 h.1.1.2 c hc)
theorem four_true (p q r t : List UInt8) (hp : okay p = true) (hq : okay q = true) (hr : okay r = true) (ht : okay t = true) (d : Nat) : fourS (d + 4) 0 (p ++ 46 :: (q ++ 46 :: (r ++ 46 :: t))) = true := by
  obtain ⟨a1, a2⟩ := takes_dot p (q ++ 46 :: (r ++ 46 :: t)) (okay_dots p hp)
  obtain ⟨b1, b2⟩ := takes_dot q (r ++ 46 :: t) (okay_dots q hq)
  obtain ⟨c1, c2⟩ := takes_dot r t (okay_dots r hr)
  obtain ⟨d1, d2⟩ := takes_end t (okay_dots t ht)
  rw [fourS, a1, a2, hp]
  simp only [Bool.true_and]
  rw [fourS, b1, b2, hq]
  simp only [Bool.true_and]
  rw [fourS, c1, c2, hr]
  simp only [Bool.true_and]
  rw [fourS, d1, d2, ht]
  rfl
theorem u8_of (a : Int) (h : (Lit.int .u8 a).wf = true) : ∃ n : Nat, a = n ∧ n < 256 := by
  have h2 := bounds_u8 h
  exact ⟨a.toNat, by omega, by omega⟩
theorem FnIPv4 : laws_FnIPv4.Pure := by
  intro a0 a1 a2 a3 s h0 h1 h2 h3 hs
  obtain ⟨n0, rfl, l0⟩ := u8_of a0 h0
  obtain ⟨n1, rfl, l1⟩ := u8_of a1 h1
  obtain ⟨n2, rfl, l2⟩ := u8_of a2 h2
  obtain ⟨n3, rfl, l3⟩ := u8_of a3 h3
  refine Ev.rounds ?_
  unfold laws_FnIPv4.f
  by_cases h : (s.size : Int) > 2147483647
  · exact Ev.pos h (Ev.now _)
  have c1 : fourS ((L ⟨#[49, 46, 50, 46, 51, 46, 52]⟩).length + 1) 0 (L ⟨#[49, 46, 50, 46, 51, 46, 52]⟩) = true := by decide +kernel
  have c2 : fourS ((L ⟨#[49, 46, 50, 46, 51]⟩).length + 1) 0 (L ⟨#[49, 46, 50, 46, 51]⟩) = false := by decide +kernel
  refine Ev.neg h (Ev.call (Ev.same (isIPv4_ev ⟨#[49, 46, 50, 46, 51, 46, 52]⟩ (by decide)) c1) (Ev.pos rfl (Ev.call (Ev.same (isIPv4_ev ⟨#[49, 46, 50, 46, 51]⟩ (by decide)) c2) ?_)))
  refine Ev.step (fun k => by simp only [laws_FnIPv4.j0]; rw [if_neg (by decide)]) ?_
  refine Ev.call (short1 s) ?_
  cases decide (s.size ≤ 2000) with
  | false => exact Ev.neg (by simp) (Ev.now _)
  | true =>
    obtain ⟨t0, e0, d0⟩ := digits n0 (by omega)
    obtain ⟨t1, e1, d1⟩ := digits n1 (by omega)
    obtain ⟨t2, e2, d2⟩ := digits n2 (by omega)
    obtain ⟨t3, e3, d3⟩ := digits n3 (by omega)
    have w : ∀ n : Nat, n < 256 → wrap64 (n : Int) = n := fun n hn => wrap_id (by omega) (by omega)
    have z : ∀ n : Nat, n < 256 → ∀ t : ByteArray, L t = dec n → t.size ≤ 3 := fun n hn t ht => by rw [size_L, ht]; exact dec_len 2 n (by omega)
    have z0 := z n0 l0 t0 d0
    have z1 := z n1 l1 t1 d1
    have z2 := z n2 l2 t2 d2
    have z3 := z n3 l3 t3 d3
    rw [w n0 l0, w n1 l1, w n2 l2, w n3 l3]
    refine Ev.pos rfl (Ev.call e0 (Ev.pos (by omega) (Ev.call e1 (Ev.pos (by omega) (Ev.pos (by omega) (Ev.call e2 (Ev.pos (by omega) (Ev.pos (by omega) (Ev.call e3 (Ev.pos (by omega) ?_))))))))))
    have hsz : ((((((t0 ++ (⟨#[46]⟩ : ByteArray)) ++ t1) ++ (⟨#[46]⟩ : ByteArray)) ++ t2) ++ (⟨#[46]⟩ : ByteArray)) ++ t3).size ≤ 140737488351232 := by
      simp only [size_append, show (⟨#[46]⟩ : ByteArray).size = 1 from rfl]
      omega
    have hl : L ((((((t0 ++ (⟨#[46]⟩ : ByteArray)) ++ t1) ++ (⟨#[46]⟩ : ByteArray)) ++ t2) ++ (⟨#[46]⟩ : ByteArray)) ++ t3) = dec n0 ++ 46 :: (dec n1 ++ 46 :: (dec n2 ++ 46 :: dec n3)) := by
      simp only [L_append, d0, d1, d2, d3, show L ⟨#[46]⟩ = [46] from rfl, List.append_assoc, List.singleton_append, List.cons_append, List.nil_append]
    have hok : ∀ n : Nat, n < 256 → okay (dec n) = true := fun n hn => okay_dec ⟨n, hn⟩
    have hi := isIPv4_ev _ hsz
    rw [hl] at hi
    have hlen : ∃ d, (dec n0 ++ 46 :: (dec n1 ++ 46 :: (dec n2 ++ 46 :: dec n3))).length + 1 = d + 4 := ⟨(dec n0 ++ 46 :: (dec n1 ++ 46 :: (dec n2 ++ 46 :: dec n3))).length + 1 - 4, by simp; omega⟩
    obtain ⟨d, hd⟩ := hlen
    rw [hd, four_true _ _ _ _ (hok n0 l0) (hok n1 l1) (hok n2 l2) (hok n3 l3)] at hi
    refine Ev.call hi (Ev.pos rfl (Ev.call (isIPv4_ev s hs) (Ev.call (four_ev s hs ((L s).length + 1) (L s) [] 0 (by omega) (by simp) rfl) (Ev.some (r := true) (by simp)))))
end Go.Proofs.Ytjmcndbkmknemaa.Pure
