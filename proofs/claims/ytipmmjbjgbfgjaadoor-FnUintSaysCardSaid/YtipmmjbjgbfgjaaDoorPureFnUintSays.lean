/- The pure statement of FnUintSays: a text's number, and the one it begins with, are what they should be. -/
import Derived.Test.YtipmmjbjgbfgjaaDoorQ10
import Derived.Test.YtipmmjbjgbfgjaaDoorQ11
import Derived.Test.YtipmmjbjgbfgjaaDoorQ15
import Derived.Test.YtipmmjbjgbfgjaaDoorQ2
import Derived.Test.YtipmmjbjgbfgjaaDoorQ4
import Derived.Test.YtipmmjbjgbfgjaaDoorQ6
import Derived.Test.YtipmmjbjgbfgjaaDoorQ8
import Derived.Test.YtipmmjbjgbfgjaaDoorQ9
import Derived.Test.YtipmmjbjgbfgjaaDoorSpSht
import Derived.Test.YtipmmjbjgbfgjaaDoorSpHex
import Derived.Test.YtipmmjbjgbfgjaaDoorUi1
import Derived.OpenShut
namespace Go.Proofs.YtipmmjbjgbfgjaaDoor.Pure
open Go.RowKit Go.Proofs.YtipmmjbjgbfgjaaDoor.Q Go.Proofs.YtipmmjbjgbfgjaaDoorW.PrintWords Go.Proofs.YtipmmjbjgbfgjaaDoorW.PrintLast Go.Proofs.YtipmmjbjgbfgjaaDoorKit Go.Proofs.YtipmmjbjgbfgjaaDoor.SpA
set_option linter.unusedVariables false
set_option linter.unusedSimpArgs false
theorem uof_12 : impl_UintOf.f (⟨#[49, 50]⟩ : ByteArray) = some (12, true) := by decide +kernel
/-! ### the digits that a text begins with -/
def lead (l : List UInt8) : List UInt8 := l.takeWhile isD
theorem lead_isD (l : List UInt8) : ∀ c ∈ lead l, isD c = true := fun c h => by
  have := List.all_takeWhile (p := isD) (l := l)
  exact List.all_eq_true.1 this c h
theorem lead_rest (l : List UInt8) : ∃ t, l = lead l ++ t ∧ ∀ c ∈ t.head?, isD c = false := by
  refine ⟨l.dropWhile isD, (List.takeWhile_append_dropWhile).symm, fun c h => ?_⟩
  have := List.head?_dropWhile_not isD l
  rw [h] at this
  simpa using this
def aheadS (l : List UInt8) : Int × Int × Int := if (lead l).length = 0 then (0, 0, 0) else if (lead l).length > 18 then (0, 0, 2) else (valD (lead l) 0, ((lead l).length : Int), 1)
theorem valD_snoc (p : List UInt8) (c : UInt8) : valD (p ++ [c]) 0 = 10 * valD p 0 + ((c.toNat : Int) - 48) := by unfold valD; rw [List.foldl_append, List.foldl_cons, List.foldl_nil]
theorem valD_bd (p : List UInt8) (hp : ∀ c ∈ p, isD c = true) (hl : p.length ≤ 18) : 0 ≤ valD p 0 ∧ valD p 0 < 10 ^ p.length := by
  have := (pubGo_digs p [] 0 0 hp (by omega) (by decide) (by omega)).2
  rwa [Nat.zero_add] at this
theorem ahead_end (s : ByteArray) (pre suf : List UInt8) (v : Int) (h : L s = pre ++ suf) (hp : ∀ c ∈ pre, isD c = true) (hs : ∀ c ∈ suf.head?, isD c = false) (hv : v = valD (pre.take 18) 0) (hsz : s.size ≤ 2000) :
    Ev (fun k => spec_UintAhead.j1 k s v (pre.length : Int) false) (aheadS (L s)) := by
  have hle : lead (L s) = pre := by
    rw [h]
    unfold lead
    have hsuf : suf.takeWhile isD = [] := by
      cases suf with
      | nil => rfl
      | cons c t => rw [List.takeWhile_cons, hs c rfl]; rfl
    rw [List.takeWhile_append_of_pos hp, hsuf, List.append_nil]
  refine Ev.step (f := fun _ => some (aheadS (L s))) (fun k => ?_) (Ev.now _)
  simp only [spec_UintAhead.j1]
  rw [if_neg (by decide)]
  unfold aheadS
  rw [hle]
  by_cases h0 : pre.length = 0
  · rw [if_pos (by omega), if_pos h0]
  · rw [if_neg (by omega), if_neg h0]
    by_cases h1 : pre.length > 18
    · rw [if_pos (by omega), if_pos h1]
    · rw [if_neg (by omega), if_neg h1, hv, List.take_of_length_le (by omega)]
theorem ahead_l (s : ByteArray) (hsz : s.size ≤ 2000) : ∀ (suf pre : List UInt8) (v : Int), L s = pre ++ suf → (∀ c ∈ pre, isD c = true) → v = valD (pre.take 18) 0 → Ev (fun k => spec_UintAhead.l0 k s v (pre.length : Int)) (aheadS (L s))
  | [], pre, v, h, hp, hv => by
    refine Ev.step (fun k => ?_) (ahead_end s pre [] v h hp (by intro c hc; cases hc) hv hsz)
    simp only [spec_UintAhead.l0]
    rw [if_neg (sz_not h)]
  | c :: t, pre, v, h, hp, hv => by
    have hb := bt_mid h
    have hcb := c.toNat_lt
    by_cases hd : isD c = true
    · have hdd := isD_b hd
      have ih := ahead_l s hsz t (pre ++ [c]) (if pre.length < 18 then 10 * v + ((c.toNat : Int) - 48) else v) (mid_next h) (by
        intro x hx
        rcases List.mem_append.1 hx with h1 | h1
        · exact hp x h1
        · rw [List.mem_singleton.1 h1]; exact hd) (by
        by_cases hl : pre.length < 18
        · rw [if_pos hl, List.take_of_length_le (by simp; omega), valD_snoc, hv, List.take_of_length_le (by omega)]
        · rw [if_neg hl, List.take_append_of_le_length (by omega), hv])
      have hw := wrap_mid h (by omega)
      refine Ev.step (fun k => by simp only [spec_UintAhead.l0]; rw [if_pos (sz_mid h), if_pos (by omega), hb, if_pos (by omega), decide_eq_true (by omega)]) (Ev.step (fun k => ?_) ih)
      simp only [spec_UintAhead.j1]
      rw [if_pos trivial, hb, hw]
      by_cases hl : pre.length < 18
      · have hbd := valD_bd (pre.take 18) (fun c hc => hp c (List.mem_of_mem_take hc)) (by simp; omega)
        rw [List.take_of_length_le (by omega)] at hbd hv
        have hpw : (10 : Int) ^ pre.length ≤ 10 ^ 17 := by
          have : (10 : Nat) ^ pre.length ≤ 10 ^ 17 := Nat.pow_le_pow_right (by omega) (by omega)
          exact_mod_cast this
        have h17 : (10 : Int) ^ 17 = 100000000000000000 := by decide
        rw [h17] at hpw
        rw [if_pos (by omega), if_pos (by omega), if_pos (sz_mid h), if_pos hl, Int.emod_eq_of_lt (by omega) (by omega), wrap_id (x := 10 * v) (by omega) (by omega), wrap_id (by omega) (by omega)]
      · rw [if_neg (by omega), if_neg hl]
    · have hdd : ¬ (48 ≤ c.toNat ∧ c.toNat ≤ 57) := by simpa [isD] using hd
      have he := ahead_end s pre (c :: t) v h hp (by intro x hx; cases hx; simpa using hd) hv hsz
      refine Ev.step (fun k => ?_) he
      simp only [spec_UintAhead.l0]
      rw [if_pos (sz_mid h), if_pos (by omega), hb]
      by_cases h1 : (c.toNat : Int) ≥ 48
      · rw [if_pos h1, decide_eq_false (by omega)]
      · rw [if_neg h1]
theorem ahead (s : ByteArray) (hsz : s.size ≤ 2000) : Ev (fun k => spec_UintAhead.f k s) (aheadS (L s)) := ahead_l s hsz (L s) [] 0 rfl (by simp) rfl
def ofS (l : List UInt8) : Int × Int := if (aheadS l).2.2 = 1 ∧ (aheadS l).2.1 < (l.length : Int) then (0, 0) else ((aheadS l).1, (aheadS l).2.2)
theorem specOf (s : ByteArray) (hsz : s.size ≤ 2000) : Ev (fun k => spec_UintOf.f k s) (ofS (L s)) := by
  refine Ev.call (ahead s hsz) ?_
  have hl : (s.size : Int) = ((L s).length : Int) := by rw [size_L]
  by_cases c1 : (aheadS (L s)).2.2 = 1
  · by_cases c2 : (aheadS (L s)).2.1 < (s.size : Int)
    · have e : ofS (L s) = (0, 0) := by unfold ofS; rw [if_pos ⟨c1, by omega⟩]
      rw [e]
      exact Ev.pos c1 (Ev.pos c2 (Ev.now _))
    · have e : ofS (L s) = ((aheadS (L s)).1, (aheadS (L s)).2.2) := by unfold ofS; rw [if_neg (fun h => by have := h.2; omega)]
      rw [e]
      exact Ev.pos c1 (Ev.neg c2 (Ev.now _))
  · have e : ofS (L s) = ((aheadS (L s)).1, (aheadS (L s)).2.2) := by unfold ofS; rw [if_neg (fun h => c1 h.1)]
    rw [e]
    exact Ev.neg c1 (Ev.now _)
/-- What is told of a text is what should be. -/
theorem ahead_all (l : List UInt8) : ((aheadS l).2.2 = 0 ∧ (pub l).2.2 = true ∧ (pub l).2.1 = 0) ∨ (aheadS l).2.2 = 2 ∨ ((aheadS l).2.2 = 1 ∧ pub l = ((aheadS l).1, (aheadS l).2.1, false)) := by
  obtain ⟨t, h1, h2⟩ := lead_rest l
  unfold aheadS
  by_cases h0 : (lead l).length = 0
  · rw [if_pos h0]
    refine .inl ⟨rfl, ?_⟩
    have hn : lead l = [] := List.length_eq_zero_iff.1 h0
    rw [hn, List.nil_append] at h1
    exact pub_none l (by rw [h1]; exact h2)
  · rw [if_neg h0]
    by_cases h3 : (lead l).length > 18
    · rw [if_pos h3]; exact .inr (.inl rfl)
    · rw [if_neg h3]
      refine .inr (.inr ⟨rfl, ?_⟩)
      have := pub_digs (lead l) t (lead_isD l) (by omega) (by omega) h2
      rw [← h1] at this
      exact this
theorem told (a : Bool) (x : Int) : laws_told.f a x = some (if x = 2 then true else (a == (x == 1))) := by
  unfold laws_told.f
  by_cases h : x = 2
  · rw [if_pos h, if_pos h]
  · rw [if_neg h, if_neg h]
/-! ### a number's text -/
theorem one_dig (d : Nat) (h : d < 10) : strOfNums ([(wrap64 (48 + (d : Int))) % 256] : List Int) = ⟨#[UInt8.ofNat (48 + d)]⟩ := by
  have : ([(wrap64 (48 + (d : Int))) % 256] : List Int) = toI [UInt8.ofNat (48 + d)] := by
    simp only [toI, List.map_cons, List.map_nil, (isD_dig d h).2]
    congr 1
    rw [wrap_id (by omega) (by omega)]
    omega
  rw [this]
  exact ext (by rw [L_strOf])
theorem decimal_ev : ∀ (m n : Nat), n < 10 ^ (m + 1) → m ≤ 18 → n ≤ 9223372036854775807 → ∃ s, Ev (fun k => spec_decimal.f k (n : Int)) s ∧ L s = dec n := by
  intro m
  induction m with
  | zero =>
    intro n h _ hn
    have h10 : n < 10 := by omega
    have hr : Int.tmod (n : Int) 10 = (n : Int) := by rw [Int.tmod_eq_emod_of_nonneg (by omega)]; omega
    refine ⟨_, Ev.step (f := fun _ => some (strOfNums ([(wrap64 (48 + (n : Int))) % 256] : List Int))) (fun k => ?_) (Ev.now _), ?_⟩
    · simp only [spec_decimal.f]
      rw [if_pos (by omega), hr]
    · rw [one_dig n h10, dec, dif_pos h10]
  | succ m ih =>
    intro n h hm hn
    have hr : Int.tmod (n : Int) 10 = ((n % 10 : Nat) : Int) := by rw [Int.tmod_eq_emod_of_nonneg (by omega)]; omega
    by_cases c : n < 10
    · have hr2 : n % 10 = n := by omega
      refine ⟨_, Ev.step (f := fun _ => some (strOfNums ([(wrap64 (48 + (n : Int))) % 256] : List Int))) (fun k => ?_) (Ev.now _), ?_⟩
      · simp only [spec_decimal.f]
        rw [if_pos (by omega), hr, hr2]
      · rw [one_dig n c, dec, dif_pos c]
    · obtain ⟨s, hs, he⟩ := ih (n / 10) (by rw [Nat.pow_succ] at h; omega) (by omega) (by omega)
      have hsz : s.size ≤ 19 := by
        rw [size_L, he]
        exact Nat.le_trans (dec_len m (n / 10) (by rw [Nat.pow_succ] at h; omega)) (by omega)
      have hq : Int.tdiv (n : Int) 10 = ((n / 10 : Nat) : Int) := by rw [Int.tdiv_eq_ediv_of_nonneg (by omega)]; omega
      have hd := one_dig (n % 10) (by omega)
      have hdiv : ((n / 10 : Nat) : Int) ≤ 9223372036854775807 := by omega
      refine ⟨s ++ ⟨#[UInt8.ofNat (48 + n % 10)]⟩, ?_, ?_⟩
      · refine Ev.step (fun k => ?_) (Ev.call (f := fun _ t => if t.size + (⟨#[UInt8.ofNat (48 + n % 10)]⟩ : ByteArray).size ≤ 9223372036854775807 then some (t ++ ⟨#[UInt8.ofNat (48 + n % 10)]⟩) else none) hs (Ev.pos (show s.size + 1 ≤ 9223372036854775807 by omega) (Ev.now _)))
        simp only [spec_decimal.f]
        rw [if_neg (by omega), hr, hq, wrap_id (x := ((n / 10 : Nat) : Int)) (by omega) (by omega)]
        simp only [Option.bind_some, hd]
      · rw [L_append, he]
        conv => rhs; rw [dec, dif_neg c]
theorem FnUintSays : laws_FnUintSays.Pure := by
  intro s n x hs hn hxw
  have hnb := bounds_i64 hn
  have hxb := bounds_u64 hxw
  refine Ev.rounds ?_
  unfold laws_FnUintSays.f
  by_cases h : (s.size : Int) > 2147483647
  · exact Ev.pos h (Ev.now _)
  refine Ev.neg h ?_
  simp only [uof_12, Option.bind_some]
  refine Ev.pos trivial (Ev.step (fun k => by simp only [laws_FnUintSays.j0]; rw [if_neg (by decide)]) (Ev.call (short1 s) ?_))
  by_cases hsh : s.size ≤ 2000
  · refine Ev.pos (decide_eq_true hsh) (Ev.call (specOf s hsh) ?_)
    have hl : ((L s).length : Int) = (s.size : Int) := by rw [size_L]
    have hu : impl_UintOf.f s = some (uof (L s)) := by unfold impl_UintOf.f; rw [if_pos (by omega)]
    have ha : impl_UintAhead.f s = some (uah (L s)) := by unfold impl_UintAhead.f; rw [if_pos (by omega)]
    simp only [hu, told, Option.bind_some]
    -- the last part
    have fin : Ev (fun k => laws_FnUintSays.j2 k n x false) true := by
      obtain ⟨y, rfl⟩ : ∃ y : Nat, x = y := ⟨x.toNat, by omega⟩
      have hy : y < 16 ^ 16 := by omega
      obtain ⟨z, hz, hze⟩ := specHex 15 y hy (by omega)
      have hi := hexText y hy
      rw [digs_hexS y hy] at hi
      refine Ev.step (fun k => by simp only [laws_FnUintSays.j2]; rw [if_neg (by decide)]) ?_
      have tl_z : z.toList = (⟨((hexS y).map hx).toArray⟩ : ByteArray).toList := by rw [tl, tl, hze]
      by_cases hneg : n < 0
      · have h1 : impl_UintText.f n = some (⟨#[]⟩, false) := by unfold impl_UintText.f; rw [if_pos hneg]
        refine Ev.call (g := fun k => spec_UintText.f k n) (a := (⟨#[]⟩, false)) (by unfold spec_UintText.f; exact Ev.pos hneg (Ev.now _)) ?_
        simp only [h1, Option.bind_some]
        exact Ev.call hz (Ev.call hi (Ev.pos (by simp) (Ev.pos (by simp) (Ev.pos tl_z (Ev.some (by simp))))))
      · obtain ⟨m, rfl⟩ : ∃ m : Nat, n = m := ⟨n.toNat, by omega⟩
        obtain ⟨d, hd, hde⟩ := decimal_ev 18 m (by omega) (by omega) (by omega)
        have h1 : impl_UintText.f (m : Int) = some (⟨(dec m).toArray⟩, true) := by unfold impl_UintText.f; rw [if_neg hneg, if_pos (by omega), Int.toNat_natCast]
        refine Ev.call (g := fun k => spec_UintText.f k (m : Int)) (a := (d, true)) (by unfold spec_UintText.f; exact Ev.neg hneg (Ev.call hd (Ev.now _))) ?_
        simp only [h1, Option.bind_some]
        have tl_d : d.toList = (⟨(dec m).toArray⟩ : ByteArray).toList := by rw [tl, tl, hde]
        exact Ev.call hz (Ev.call hi (Ev.pos tl_d (Ev.pos (by simp) (Ev.pos tl_z (Ev.some (by simp))))))
    have mid : Ev (fun k => laws_FnUintSays.j1 k s n x false) true := by
      refine Ev.step (fun k => by simp only [laws_FnUintSays.j1]; rw [if_neg (by decide)]) (Ev.call (ahead s hsh) ?_)
      simp only [ha, told, Option.bind_some]
      rcases ahead_all (L s) with ⟨e1, e2, e3⟩ | e1 | ⟨e1, e2⟩
      · have e : uah (L s) = (0, 0, false) := by unfold uah; rw [if_pos e2]
        rw [e1, e]
        exact Ev.pos (by simp) (Ev.neg (by simp) fin)
      · rw [e1]
        exact Ev.pos (by simp) (Ev.neg (by simp) fin)
      · have e : uah (L s) = ((aheadS (L s)).1, (aheadS (L s)).2.1, true) := by unfold uah; rw [e2, if_neg (by simp)]
        rw [e1, e]
        refine Ev.pos (by simp) (Ev.pos rfl (Ev.pos rfl ?_))
        simp only [bne_self_eq_false]
        exact fin
    rcases ahead_all (L s) with ⟨e1, e2, e3⟩ | e1 | ⟨e1, e2⟩
    · have e : uof (L s) = (0, false) := by unfold uof; rw [if_neg (fun h => by rw [e2] at h; exact absurd h.2 (by decide))]
      have eo : ofS (L s) = ((aheadS (L s)).1, 0) := by unfold ofS; rw [if_neg (fun h => by rw [e1] at h; exact absurd h.1 (by decide)), e1]
      rw [eo, e]
      exact Ev.pos (by simp) (Ev.neg (by simp) mid)
    · have eo : ofS (L s) = ((aheadS (L s)).1, 2) := by unfold ofS; rw [if_neg (fun h => by rw [e1] at h; exact absurd h.1 (by decide)), e1]
      rw [eo]
      exact Ev.pos (by simp) (Ev.neg (by simp) mid)
    · by_cases hk : (aheadS (L s)).2.1 = ((L s).length : Int)
      · have e : uof (L s) = ((aheadS (L s)).1, true) := by unfold uof; rw [e2, if_pos ⟨hk, rfl⟩]
        have eo : ofS (L s) = ((aheadS (L s)).1, 1) := by unfold ofS; rw [if_neg (by omega), e1]
        rw [eo, e]
        refine Ev.pos (by simp) (Ev.pos rfl ?_)
        simp only [bne_self_eq_false]
        exact mid
      · have hle : (aheadS (L s)).2.1 < ((L s).length : Int) := by
          have : (aheadS (L s)).2.1 ≤ ((L s).length : Int) := by
            unfold aheadS
            have : (lead (L s)).length ≤ (L s).length := by unfold lead; exact List.IsPrefix.length_le (List.takeWhile_prefix _)
            split
            · simp
            · split
              · simp
              · simp; omega
          omega
        have e : uof (L s) = (0, false) := by unfold uof; rw [e2, if_neg (fun h => hk h.1)]
        have eo : ofS (L s) = (0, 0) := by unfold ofS; rw [if_pos ⟨e1, hle⟩]
        rw [eo, e]
        exact Ev.pos (by simp) (Ev.neg (by simp) mid)
  · exact Ev.neg (by rw [decide_eq_false hsh]; decide) (Ev.now _)
end Go.Proofs.YtipmmjbjgbfgjaaDoor.Pure
