/- The pure statement of FnUintBack: a number's text is read as that number. -/
import Derived.Test.YtipmmjbjgbfgjaaDoorQ2
import Derived.Test.YtipmmjbjgbfgjaaDoorQ4
import Derived.Test.YtipmmjbjgbfgjaaDoorQ6
import Derived.Test.YtipmmjbjgbfgjaaDoorQ7
import Derived.Test.YtipmmjbjgbfgjaaDoorSpSht
import Derived.Test.YtipmmjbjgbfgjaaDoorUi1
import Derived.OpenShut
namespace Go.Proofs.YtipmmjbjgbfgjaaDoor.Pure
open Go.RowKit Go.Proofs.YtipmmjbjgbfgjaaDoor.Q Go.Proofs.YtipmmjbjgbfgjaaDoorW.PrintWords Go.Proofs.YtipmmjbjgbfgjaaDoorW.PrintLast Go.Proofs.YtipmmjbjgbfgjaaDoorKit Go.Proofs.YtipmmjbjgbfgjaaDoor.SpA
set_option linter.unusedVariables false
set_option linter.unusedSimpArgs false
theorem uof_12 : impl_UintOf.f (⟨#[49, 50]⟩ : ByteArray) = some (12, true) := by decide +kernel
theorem uof_dec (n : Nat) (hn : n < 10 ^ 18) : impl_UintOf.f (⟨(dec n).toArray⟩ : ByteArray) = some ((n : Int), true) := by
  have hl := dec_len 17 n hn
  have hp := pub_dec n [] hn (by intro c hc; cases hc)
  rw [List.append_nil] at hp
  unfold impl_UintOf.f
  rw [if_pos (by rw [size_L]; show (dec n).length ≤ _; omega)]
  show some (uof (dec n)) = _
  unfold uof
  rw [hp, if_pos ⟨rfl, rfl⟩]
theorem uah_dec (n : Nat) (hn : n < 10 ^ 18) (s : ByteArray) (t : List UInt8) (hs : L s = dec n ++ t) (ht : ∀ c ∈ t.head?, isD c = false) (hl : t.length ≤ 2000) : impl_UintAhead.f s = some ((n : Int), ((dec n).length : Int), true) := by
  have h1 := dec_len 17 n hn
  have hp := pub_dec n t hn ht
  unfold impl_UintAhead.f
  rw [if_pos (by rw [size_L, hs, List.length_append]; omega)]
  show some (uah (L s)) = _
  rw [hs]
  unfold uah
  rw [hp, if_neg (by simp)]
theorem FnUintBack : laws_FnUintBack.Pure := by
  intro a0 s h0 hs
  have hb := bounds_i64 h0
  refine Ev.rounds ?_
  unfold laws_FnUintBack.f
  by_cases h : (s.size : Int) > 2147483647
  · exact Ev.pos h (Ev.now _)
  refine Ev.neg h ?_
  simp only [uof_12, Option.bind_some]
  refine Ev.pos trivial (Ev.step (fun k => by simp only [laws_FnUintBack.j0]; rw [if_neg (by decide)]) ?_)
  by_cases hn : a0 < 0
  · have ht : impl_UintText.f a0 = some (⟨#[]⟩, false) := by unfold impl_UintText.f; rw [if_pos hn]
    simp only [ht, Option.bind_some]
    exact Ev.pos hn (Ev.neg (by decide) (Ev.some (by rw [tl]; rfl)))
  obtain ⟨n, rfl⟩ : ∃ n : Nat, a0 = n := ⟨a0.toNat, by omega⟩
  have ht : impl_UintText.f (n : Int) = some (⟨(dec n).toArray⟩, true) := by unfold impl_UintText.f; rw [if_neg hn, if_pos (by omega), Int.toNat_natCast]
  simp only [ht, Option.bind_some]
  refine Ev.neg hn ?_
  have out : Ev (fun k => laws_FnUintBack.j1 k (n : Int) s ⟨(dec n).toArray⟩ true true) true := Ev.step (f := fun _ => some true) (fun k => by simp only [laws_FnUintBack.j1]; rw [if_pos (by decide)]) (Ev.now _)
  by_cases hg : (n : Int) > 1125899906842624
  · exact Ev.pos hg out
  refine Ev.neg hg (Ev.call (short1 s) ?_)
  by_cases hsh : s.size ≤ 2000
  · have hn18 : n < 10 ^ 18 := by omega
    have hdl := dec_len 17 n hn18
    have hsz : (⟨(dec n).toArray⟩ : ByteArray).size = (dec n).length := by rw [size_L]
    have inn : (∀ c ∈ (L s).head?, isD c = false) → Ev (fun k => laws_FnUintBack.j1 k (n : Int) s ⟨(dec n).toArray⟩ true false) true := by
      intro hh
      refine Ev.step (fun k => by simp only [laws_FnUintBack.j1]; rw [if_neg (by decide)]) ?_
      simp only [uof_dec n hn18, Option.bind_some]
      have hah := uah_dec n hn18 (⟨(dec n).toArray⟩ ++ s) (L s) (by rw [L_append]) hh (by rw [← size_L]; exact hsh)
      refine Ev.pos (by rw [hsz]; omega) ?_
      simp only [hah, Option.bind_some]
      refine Ev.pos trivial (Ev.pos trivial (Ev.pos trivial (Ev.pos trivial (Ev.pos trivial (Ev.some ?_)))))
      rw [hsz]
      simp
    refine Ev.pos (decide_eq_true hsh) ?_
    by_cases he : L s = []
    · refine Ev.pos (by rw [tl]; exact he) (inn ?_)
      rw [he]
      intro c hc
      cases hc
    · obtain ⟨c, t, hct⟩ := List.exists_cons_of_ne_nil he
      have hb0 : bt s 0 = (c.toNat : Int) := bt_mid (pre := []) hct
      refine Ev.neg (by rw [tl]; exact he) (Ev.pos (by rw [size_L, hct]; simp) ?_)
      rw [hb0]
      by_cases c1 : (c.toNat : Int) ≥ 48
      · refine Ev.pos c1 ?_
        by_cases c2 : (c.toNat : Int) ≤ 57
        · rw [decide_eq_true c2]; exact out
        · rw [decide_eq_false c2]
          refine inn ?_
          rw [hct]
          intro x hx
          cases hx
          exact decide_eq_false (by omega)
      · refine Ev.neg c1 (inn ?_)
        rw [hct]
        intro x hx
        cases hx
        exact decide_eq_false (by omega)
  · exact Ev.neg (by rw [decide_eq_false hsh]; decide) out
end Go.Proofs.YtipmmjbjgbfgjaaDoor.Pure
