/- The reference's cleaned path, put together. No program in sight. -/
import Derived.Test.YtjklempjljikpaaQ10
import Derived.Test.YtjklempjljikpaaQ12
import Derived.Test.YtjklempjljikpaaQ14
import Derived.Test.YtjklempjljikpaaQ7
import Derived.Test.YtjklempjljikpaaQ8
import Derived.Test.YtjklempjljikpaaSpSpc
namespace Go.Proofs.Ytjklempjljikpaa.SpA
open Go.RowKit Go.Proofs.Ytjklempjljikpaa.Q Go.Proofs.YtjklempjljikpaaW.PrintWords Go.Proofs.YtjklempjljikpaaW.PrintLast Go.Proofs.YtjklempjljikpaaKit
set_option linter.unusedVariables false
set_option linter.unusedSimpArgs false
theorem cleanPath (s : ByteArray) (h : s.size ≤ 2147483647) : impl_CleanPath.f s = some ⟨(norm (L s)).toArray⟩ := by
  unfold impl_CleanPath.f hertzproto_ZzPath.f
  rw [if_pos h]
  rfl
theorem norm_plain (l : List UInt8) (h : (37 : UInt8) ∉ l) : norm l = Cl.cleanK (lead l ++ l) := by rw [norm, dec_none l h]
theorem cleans : laws_cleans.f = some true := by
  have n1 : norm [47, 97, 47, 46, 46, 47, 98] = [47, 98] := by rw [norm_plain _ (by decide)]; decide
  have n2 : norm [97] = [47, 97] := by rw [norm_plain _ (by decide)]; decide
  unfold laws_cleans.f
  rw [cleanPath _ (by decide), cleanPath _ (by decide), show L (⟨#[47, 97, 47, 46, 46, 47, 98]⟩ : ByteArray) = [47, 97, 47, 46, 46, 47, 98] from rfl, show L (⟨#[97]⟩ : ByteArray) = [97] from rfl, n1, n2]
  simp only [Option.bind_some, tl]
  rw [if_pos trivial]
  simp
theorem clean_lead (d : List UInt8) : Cl.cleanK (47 :: d) = Cl.cleanK d := by
  have := Cl.clean_app [] d
  rw [List.nil_append] at this
  rw [this, Cl.cleanK, show Cl.keepK [] = [] from by simp [Cl.keepK, Cl.splitS, Cl.stepK]]
theorem norm_dec (l : List UInt8) : norm l = Cl.cleanK (dec l) := by
  unfold norm
  cases l with
  | nil => exact clean_lead _
  | cons c t =>
    by_cases hc : c = 47
    · rw [lead, if_pos hc]; rfl
    · rw [lead, if_neg hc]; exact clean_lead _
theorem split_l (s : ByteArray) (hs : s.size ≤ 2147483647) : ∀ (suf dn cur : List UInt8) (acc : List ByteArray), L s = (dn ++ cur) ++ suf → (47 : UInt8) ∉ cur → acc.length ≤ dn.length →
    Ev (fun k => spec_split.l0 k s 47 acc (dn.length : Int) ((dn ++ cur).length : Int)) (acc ++ (Cl.splitS (cur ++ suf)).map bl)
  | [], dn, cur, acc, h, hc, ha => by
    have hsz : s.size = dn.length + cur.length := by rw [size_L, h]; simp
    have hlen : ((dn ++ cur).length : Int) = (dn.length : Int) + cur.length := by simp
    have hex : s.extract (dn.length : Int).toNat ((dn ++ cur).length : Int).toNat = bl cur := by
      refine ext ?_
      rw [L_extract, Int.toNat_natCast, Int.toNat_natCast, h, L_bl]
      simp
    have w1 : wrap64 (((dn ++ cur).length : Int) + 1) = ((dn ++ cur).length : Int) + 1 := wrap_id (by omega) (by omega)
    rw [List.append_nil, Cl.splitS_word cur hc]
    refine Ev.step (f := fun k => spec_split.l0 k s 47 (acc ++ [bl cur]) (((dn ++ cur).length : Int) + 1) (((dn ++ cur).length : Int) + 1)) (fun k => ?_) (Ev.step (f := fun _ => some (acc ++ [bl cur])) (fun k => ?_) (Ev.now _))
    · simp only [spec_split.l0]
      rw [if_pos (by omega), if_pos (by omega), if_pos (by omega), if_pos (by omega), if_pos (by omega), hex, w1]
    · simp only [spec_split.l0]
      rw [if_neg (by omega)]
  | c :: t, dn, cur, acc, h, hc, ha => by
    have hsz : s.size = dn.length + cur.length + (t.length + 1) := by rw [size_L, h]; simp; omega
    have hlen : ((dn ++ cur).length : Int) = (dn.length : Int) + cur.length := by simp
    have hex : s.extract (dn.length : Int).toNat ((dn ++ cur).length : Int).toNat = bl cur := by
      refine ext ?_
      rw [L_extract, Int.toNat_natCast, Int.toNat_natCast, h, L_bl]
      simp
    by_cases h47 : c = 47
    · have ih := split_l s hs t (dn ++ cur ++ [c]) [] (acc ++ [bl cur]) (by rw [h]; simp) (by simp) (by simp; omega)
      rw [List.append_nil] at ih
      have w1 : wrap64 (((dn ++ cur).length : Int) + 1) = ((dn ++ cur ++ [c]).length : Int) := wrap_mid h (by omega)
      rw [h47, Cl.splitS_app, Cl.splitS_word cur hc]
      refine Ev.step (fun k => ?_) (Ev.same ih (by simp))
      simp only [spec_split.l0]
      rw [if_pos (by omega), if_neg (by omega), if_pos (by omega), if_pos (sz_mid h), bt_mid h, if_pos (by rw [h47]; rfl), if_pos (by omega), if_pos (by omega), if_pos (by omega), hex, w1]
    · have ih := split_l s hs t dn (cur ++ [c]) acc (by rw [h]; simp) (by simp only [List.mem_append, List.mem_singleton, not_or]; exact ⟨hc, fun e => h47 e.symm⟩) ha
      have w1 : wrap64 (((dn ++ cur).length : Int) + 1) = ((dn ++ (cur ++ [c])).length : Int) := by rw [wrap_mid h (by omega), List.append_assoc]
      rw [show cur ++ c :: t = (cur ++ [c]) ++ t by simp]
      refine Ev.step (fun k => ?_) ih
      simp only [spec_split.l0]
      rw [if_pos (by omega), if_neg (by omega), if_pos (by omega), if_pos (sz_mid h), bt_mid h, if_neg (fun e => h47 (UInt8.toNat_inj.1 (by have : (47 : UInt8).toNat = 47 := rfl; omega))), w1]
theorem split (s : ByteArray) (hs : s.size ≤ 2147483647) : Ev (fun k => spec_split.f k s 47) ((Cl.splitS (L s)).map bl) := split_l s hs (L s) [] [] [] rfl (by simp) (Nat.le_refl _)
theorem split_len : ∀ l, (Cl.splitS l).length ≤ l.length + 1
  | [] => by simp [Cl.splitS]
  | c :: t => by
    have := split_len t
    unfold Cl.splitS
    split
    · simp; exact this
    · split
      · simp
      · rename_i h; rw [h] at this; simp at this ⊢; omega
theorem step_len (k : List (List UInt8)) (p : List UInt8) : (Cl.stepK k p).length ≤ k.length + 1 := by
  unfold Cl.stepK
  split
  · omega
  · split <;> simp
    omega
theorem fold_len : ∀ (S k : List (List UInt8)), (S.foldl Cl.stepK k).length ≤ k.length + S.length
  | [], k => by simp
  | p :: S, k => by
    have := fold_len S (Cl.stepK k p)
    have := step_len k p
    simp only [List.foldl_cons, List.length_cons]
    omega
theorem bl_nil (p : List UInt8) : (bl p).toList = ([] : List UInt8) ↔ p = [] := by rw [tl, L_bl]
/-- The parts behind each other, slashes between. -/
theorem join_l (last : ByteArray) (hl : last.size ≤ 100000) (K : List (List UInt8)) (hK : (K.map List.length).sum ≤ 100000) (hKl : K.length ≤ 100000) : ∀ (suf pre : List (List UInt8)) (x9 : ByteArray), K = pre ++ suf → x9.size + ((suf.map List.length).sum + suf.length) ≤ 400000 →
    Ev (fun k => spec_Cleaned.l1 k last x9 (K.map bl) ((K.map bl).length : Int) (pre.length : Int)) (⟨(L x9 ++ (suf.flatMap (fun q => q ++ [47]) ++ L last)).toArray⟩, 1)
  | [], pre, x9, h, hz => by
    refine Ev.step (f := fun _ => some (x9 ++ last, 1)) (fun k => ?_) (Ev.same (Ev.now _) ?_)
    · simp only [spec_Cleaned.l1]
      rw [if_neg (by rw [h]; simp), if_pos (by simp at hz; omega)]
    · congr 1
  | p :: t, pre, x9, h, hz => by
    simp only [List.map_cons, List.sum_cons, List.length_cons] at hz
    have hm : K.map bl = pre.map bl ++ bl p :: t.map bl := by rw [h]; simp
    have hln : ((pre.map bl).length : Int) = (pre.length : Int) := by simp
    have hrd : rdOf ByteArray.empty (K.map bl) (pre.length : Int) = bl p := by rw [← hln]; exact get_mid hm _
    have hpl : (bl p).size = p.length := by rw [size_L, L_bl]
    have hlk : K.length = pre.length + (t.length + 1) := by rw [h]; simp
    have w1 : wrap64 ((pre.length : Int) + 1) = ((pre ++ [p]).length : Int) := by rw [wrap_id (by omega) (by omega)]; simp
    have hsz : (bl p ++ (⟨#[47]⟩ : ByteArray)).size = p.length + 1 := by rw [size_append, hpl]; rfl
    have ih := join_l last hl K hK hKl t (pre ++ [p]) (x9 ++ (bl p ++ ⟨#[47]⟩)) (by rw [h]; simp) (by rw [size_append, hsz]; omega)
    refine Ev.step (fun k => ?_) (Ev.same ih ?_)
    · simp only [spec_Cleaned.l1]
      rw [if_pos (by simp; omega), if_pos (by omega), if_pos (by simp; omega), hrd, if_pos (by omega), if_pos (by omega), w1]
    · rw [L_append, L_append, L_bl]
      simp [L]
theorem join_eq (K : List (List UInt8)) (last : List UInt8) : 47 :: (K.flatMap (fun q => q ++ [47]) ++ last) = Cl.joinS (K ++ [last]) := by
  induction K with
  | nil => simp [Cl.joinS]
  | cons q K ih =>
    rw [List.cons_append, Cl.joinS_cons, ← ih]
    simp
theorem drop_sum : ∀ k : List (List UInt8), (k.dropLast.map List.length).sum ≤ (k.map List.length).sum
  | [] => by simp
  | [x] => by simp
  | x :: y :: t => by
    have := drop_sum (y :: t)
    simp only [List.dropLast_cons_cons, List.map_cons, List.sum_cons] at this ⊢
    omega
theorem len_step (k : List (List UInt8)) (p : List UInt8) : ((Cl.stepK k p).map List.length).sum ≤ (k.map List.length).sum + p.length := by
  unfold Cl.stepK
  split
  · omega
  · split
    · have : (k.dropLast.map List.length).sum ≤ (k.map List.length).sum := by
        exact drop_sum k
      omega
    · simp
theorem len_fold : ∀ (S k : List (List UInt8)), ((S.foldl Cl.stepK k).map List.length).sum ≤ (k.map List.length).sum + (S.map List.length).sum
  | [], k => by simp
  | p :: S, k => by
    have := len_fold S (Cl.stepK k p)
    have := len_step k p
    simp only [List.foldl_cons, List.map_cons, List.sum_cons]
    omega
theorem split_sum : ∀ l, ((Cl.splitS l).map List.length).sum ≤ l.length
  | [] => by simp [Cl.splitS]
  | c :: t => by
    have := split_sum t
    unfold Cl.splitS
    split
    · simp; omega
    · split
      · simp
      · rename_i h; rw [h] at this; simp at this ⊢; omega
theorem keep_l (last : ByteArray) (hl : last.size ≤ 100000) (S : List (List UInt8)) (hS : (S.map List.length).sum ≤ 100000) (hSl : S.length ≤ 100000) : ∀ (suf pre K : List (List UInt8)), S = pre ++ suf → K = pre.foldl Cl.stepK [] →
    Ev (fun k => spec_Cleaned.l0 k last (K.map bl) (S.map bl) ((S.map bl).length : Int) (pre.length : Int)) (⟨(Cl.joinS (S.foldl Cl.stepK [] ++ [L last])).toArray⟩, 1)
  | [], pre, K, h, hK => by
    have hKS : K = S.foldl Cl.stepK [] := by rw [hK, h]; simp
    have b1 := fold_len S []
    have b2 := len_fold S []
    rw [← hKS] at b1 b2 ⊢
    simp at b1 b2
    have := join_l last hl K (by omega) (by omega) K [] ⟨#[47]⟩ rfl (by show (1 : Nat) + _ ≤ _; omega)
    refine Ev.step (fun k => ?_) (Ev.same this ?_)
    · simp only [spec_Cleaned.l0]
      rw [if_neg (by rw [h]; simp)]
      rfl
    · congr 2
      rw [← join_eq]
      rfl
  | p :: t, pre, K, h, hK => by
    have hm : S.map bl = pre.map bl ++ bl p :: t.map bl := by rw [h]; simp
    have hln : ((pre.map bl).length : Int) = (pre.length : Int) := by simp
    have hrd : rdOf ByteArray.empty (S.map bl) (pre.length : Int) = bl p := by rw [← hln]; exact get_mid hm _
    have hlk : S.length = pre.length + (t.length + 1) := by rw [h]; simp
    have w1 : wrap64 ((pre.length : Int) + 1) = ((pre ++ [p]).length : Int) := by rw [wrap_id (by omega) (by omega)]; simp
    have ih := keep_l last hl S hS hSl t (pre ++ [p]) (Cl.stepK K p) (by rw [h]; simp) (by rw [hK]; simp)
    have b1 := fold_len pre []
    rw [← hK] at b1
    simp at b1
    have hj : Ev (fun k => spec_Cleaned.j2 k last (K.map bl) (bl p) (S.map bl) ((S.map bl).length : Int) (pre.length : Int) (bl p) (decide (p = [] ∨ p = [46]))) (⟨(Cl.joinS (S.foldl Cl.stepK [] ++ [L last])).toArray⟩, 1) := by
      refine Ev.step (fun k => ?_) ih
      simp only [spec_Cleaned.j2]
      rw [w1]
      by_cases hp : p = [] ∨ p = [46]
      · rw [if_pos (decide_eq_true hp), show Cl.stepK K p = K from if_pos hp]
      · rw [if_neg (by simpa using hp)]
        rw [tl, L_bl]
        by_cases hd : p = [46, 46]
        · rw [if_pos hd, show Cl.stepK K p = K.dropLast by unfold Cl.stepK; rw [if_neg hp, if_pos hd]]
          have hmx : mx (wrap64 (((K.map bl).length : Int) - 1)) 0 = ((K.length - 1 : Nat) : Int) := by
            rw [List.length_map, wrap_id (by omega) (by omega)]
            unfold mx
            split <;> omega
          rw [hmx, if_pos (by omega), if_pos (by rw [List.length_map]; omega), Int.toNat_natCast, List.dropLast_eq_take, List.map_take]
        · rw [if_neg hd, show Cl.stepK K p = K ++ [p] by unfold Cl.stepK; rw [if_neg hp, if_neg hd], if_pos (by simp; omega)]
          simp
    refine Ev.step (fun k => ?_) hj
    simp only [spec_Cleaned.l0]
    rw [if_pos (by simp; omega), if_pos (by omega), if_pos (by simp; omega), hrd]
    simp only [tl, L_bl]
    by_cases h0 : p = []
    · rw [if_pos h0, h0]
      rfl
    · rw [if_neg h0]
      congr 1
      by_cases h1 : p = [46]
      · rw [h1]; rfl
      · rw [decide_eq_false (by simp [h0, h1]), beq_eq_false_iff_ne.2 h1]
theorem cleaned (s : ByteArray) (hs : s.size ≤ 50000) : ∃ r, Ev (fun k => spec_Cleaned.f k s) r ∧ (r.2 = 1 → L r.1 = Cl.cleanK (L s)) := by
  obtain ⟨S, last, hSl⟩ : ∃ S last, Cl.splitS (L s) = S ++ [last] := by
    have hne := Cl.splitS_ne (L s)
    exact ⟨_, _, (List.dropLast_concat_getLast hne).symm⟩
  have hspl := split s (by omega)
  have b1 := split_len (L s)
  have b2 := split_sum (L s)
  rw [hSl] at hspl b1 b2
  rw [← size_L] at b1 b2
  simp at b1 b2
  have hcl : Cl.cleanK (L s) = Cl.finK (S.foldl Cl.stepK []) last := by
    unfold Cl.cleanK
    rw [hSl]
    simp
  have hm : (S ++ [last]).map bl = S.map bl ++ bl last :: [] := by simp
  have hln : ((S.map bl).length : Int) = (S.length : Int) := by simp
  have hrd : rdOf ByteArray.empty ((S ++ [last]).map bl) (S.length : Int) = bl last := by rw [← hln]; exact get_mid hm _
  have w1 : wrap64 ((((S ++ [last]).map bl).length : Int) - 1) = (S.length : Int) := by rw [List.length_map, List.length_append, wrap_id (by omega) (by simp only [List.length_singleton]; omega)]; simp
  have hls : (bl last).size = last.length := by rw [size_L, L_bl]
  have hk := keep_l (bl last) (by omega) S (by omega) (by omega) S [] [] rfl rfl
  rw [L_bl] at hk
  have hj : Ev (fun k => spec_Cleaned.j0 k ((S ++ [last]).map bl) (bl last) false) (⟨(Cl.joinS (S.foldl Cl.stepK [] ++ [last])).toArray⟩, 1) := by
    refine Ev.step (fun k => ?_) hk
    simp only [spec_Cleaned.j0]
    rw [if_neg (by decide), w1, if_pos (by omega), if_pos (by simp; omega), Int.toNat_natCast]
    simp only [Option.bind_some]
    rw [show ((S ++ [last]).map bl).take S.length = S.map bl by rw [hm, ← show (S.map bl).length = S.length by simp, List.take_left]]
    rfl
  have hjt : Ev (fun k => spec_Cleaned.j0 k ((S ++ [last]).map bl) (bl last) true) (⟨#[]⟩, 2) := Ev.step (f := fun _ => some (⟨#[]⟩, 2)) (fun k => by simp only [spec_Cleaned.j0]; rw [if_pos trivial]) (Ev.now _)
  have base : ∀ r, Ev (fun k => if last = [46] then spec_Cleaned.j0 k ((S ++ [last]).map bl) (bl last) true else spec_Cleaned.j0 k ((S ++ [last]).map bl) (bl last) (last == [46, 46])) r → Ev (fun k => spec_Cleaned.f k s) r := fun r hr => by
    refine Ev.call hspl ?_
    have e : ∀ k, (if 0 ≤ (wrap64 ((((S ++ [last]).map bl).length : Int) - 1)) then (if (wrap64 ((((S ++ [last]).map bl).length : Int) - 1)) < (((S ++ [last]).map bl).length : Int) then (if (rdOf ByteArray.empty ((S ++ [last]).map bl) (wrap64 ((((S ++ [last]).map bl).length : Int) - 1))).toList = ([46] : List UInt8) then (spec_Cleaned.j0 k ((S ++ [last]).map bl) (rdOf ByteArray.empty ((S ++ [last]).map bl) (wrap64 ((((S ++ [last]).map bl).length : Int) - 1))) true) else (spec_Cleaned.j0 k ((S ++ [last]).map bl) (rdOf ByteArray.empty ((S ++ [last]).map bl) (wrap64 ((((S ++ [last]).map bl).length : Int) - 1))) ((rdOf ByteArray.empty ((S ++ [last]).map bl) (wrap64 ((((S ++ [last]).map bl).length : Int) - 1))).toList == ([46, 46] : List UInt8)))) else (none)) else (none)) = if last = [46] then spec_Cleaned.j0 k ((S ++ [last]).map bl) (bl last) true else spec_Cleaned.j0 k ((S ++ [last]).map bl) (bl last) (last == [46, 46]) := fun k => by
      rw [w1, if_pos (by omega), if_pos (by simp; omega), hrd, tl, L_bl]
    rw [← funext e] at hr; exact hr
  by_cases h1 : last = [46]
  · exact ⟨_, base _ (Ev.pos h1 hjt), fun e => absurd e (by decide)⟩
  · by_cases h2 : last = [46, 46]
    · exact ⟨_, base _ (Ev.neg h1 (by rw [h2] at hjt ⊢; exact hjt)), fun e => absurd e (by decide)⟩
    · refine ⟨_, base _ (Ev.neg h1 (by rw [beq_eq_false_iff_ne.2 h2]; exact hj)), fun _ => ?_⟩
      rw [hcl, Cl.finK, if_neg h2]
end Go.Proofs.Ytjklempjljikpaa.SpA
