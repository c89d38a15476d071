/- Paths as parts between slashes: what cleaning comes to. No program in sight. -/
namespace Go.Proofs.Ytjklempjljikpaa.Cl
def splitS : List UInt8 → List (List UInt8)
  | [] => [[]]
  | c :: t => if c = 47 then [] :: splitS t else match splitS t with
    | [] => [[c]]
    | h :: r => (c :: h) :: r
theorem splitS_ne : ∀ l, splitS l ≠ []
  | [] => by simp [splitS]
  | c :: t => by
    unfold splitS
    split
    · simp
    · split <;> simp
theorem splitS_app (b : List UInt8) : ∀ a, splitS (a ++ 47 :: b) = splitS a ++ splitS b
  | [] => by simp [splitS]
  | c :: t => by
    have ih := splitS_app b t
    by_cases hc : c = 47
    · simp [splitS, hc, ih]
    · simp only [List.cons_append, splitS, if_neg hc, ih]
      cases h : splitS t with
      | nil => exact absurd h (splitS_ne t)
      | cons x y => simp
theorem splitS_word : ∀ a : List UInt8, (47 : UInt8) ∉ a → splitS a = [a]
  | [], _ => rfl
  | c :: t, h => by
    have hc : ¬ c = 47 := fun e => h (by simp [e])
    have ih := splitS_word t (fun e => h (by simp [e]))
    simp [splitS, hc, ih]
theorem splitS_free : ∀ (l q : List UInt8), q ∈ splitS l → (47 : UInt8) ∉ q
  | [], q, h => by simp [splitS] at h; simp [h]
  | c :: t, q, h => by
    have ih := splitS_free t
    by_cases hc : c = 47
    · simp only [splitS, if_pos hc, List.mem_cons] at h
      rcases h with h | h
      · simp [h]
      · exact ih q h
    · cases hs : splitS t with
      | nil => exact absurd hs (splitS_ne t)
      | cons x y =>
        simp only [splitS, if_neg hc, hs, List.mem_cons] at h
        rcases h with h | h
        · have := ih x (by rw [hs]; simp)
          rw [h]
          simp only [List.mem_cons, not_or]
          exact ⟨fun e => hc e.symm, this⟩
        · exact ih q (by rw [hs]; simp [h])
def joinS (S : List (List UInt8)) : List UInt8 := S.flatMap (47 :: ·)
theorem joinS_cons (q : List UInt8) (S : List (List UInt8)) : joinS (q :: S) = 47 :: q ++ joinS S := by simp [joinS]
theorem joinS_nil : joinS [] = [] := rfl
theorem joinS_app (S T : List (List UInt8)) : joinS (S ++ T) = joinS S ++ joinS T := by simp [joinS]
theorem join_split : ∀ l, joinS (splitS l) = 47 :: l
  | [] => by simp [splitS, joinS]
  | c :: t => by
    have ih := join_split t
    by_cases hc : c = 47
    · simp [splitS, hc, joinS_cons, ih]
    · cases hs : splitS t with
      | nil => exact absurd hs (splitS_ne t)
      | cons x y =>
        rw [hs, joinS_cons] at ih
        simp only [splitS, if_neg hc, hs, joinS_cons]
        simp at ih ⊢
        exact ih
theorem split_join : ∀ S : List (List UInt8), (∀ q ∈ S, (47 : UInt8) ∉ q) → splitS (joinS S) = [] :: S
  | [], _ => rfl
  | q :: S, h => by
    have ih := split_join S (fun x hx => h x (by simp [hx]))
    rw [joinS_cons]
    cases S with
    | nil => simp [splitS, joinS_nil, splitS_word q (h q (by simp))]
    | cons r R =>
      rw [joinS_cons] at ih ⊢
      have e : (47 : UInt8) :: q ++ (47 :: r ++ joinS R) = (47 :: q) ++ 47 :: (r ++ joinS R) := by simp
      rw [e, splitS_app]
      have e2 : splitS (47 :: (r ++ joinS R)) = [] :: splitS (r ++ joinS R) := by simp [splitS]
      rw [show (47 : UInt8) :: r ++ joinS R = 47 :: (r ++ joinS R) by simp, e2] at ih
      have e3 := List.cons.inj ih
      rw [e3.2]
      simp [splitS, splitS_word q (h q (by simp))]
def stepK (k : List (List UInt8)) (p : List UInt8) : List (List UInt8) := if p = [] ∨ p = [46] then k else if p = [46, 46] then k.dropLast else k ++ [p]
def good (q : List UInt8) : Prop := q ≠ [] ∧ q ≠ [46] ∧ q ≠ [46, 46]
theorem stepK_good (k : List (List UInt8)) (q : List UInt8) (h : good q) : stepK k q = k ++ [q] := by
  unfold stepK
  rw [if_neg (fun e => e.elim h.1 h.2.1), if_neg h.2.2]
theorem fold_good : ∀ (S k : List (List UInt8)), (∀ q ∈ S, good q) → S.foldl stepK k = k ++ S
  | [], k, _ => by simp
  | q :: S, k, h => by
    rw [List.foldl_cons, stepK_good k q (h q (by simp)), fold_good S _ (fun x hx => h x (by simp [hx]))]
    simp
theorem fold_keeps (P : List UInt8 → Prop) : ∀ (S k : List (List UInt8)), (∀ q ∈ S, P q) → (∀ q ∈ k, P q ∧ good q) → ∀ q ∈ S.foldl stepK k, P q ∧ good q
  | [], _, _, hk => hk
  | p :: S, k, h, hk => by
    rw [List.foldl_cons]
    refine fold_keeps P S _ (fun x hx => h x (by simp [hx])) fun q hq => ?_
    unfold stepK at hq
    split at hq
    · exact hk q hq
    · rename_i h1
      split at hq
      · exact hk q (List.dropLast_subset _ hq)
      · rename_i h2
        rw [List.mem_append] at hq
        rcases hq with hq | hq
        · exact hk q hq
        · have : q = p := by simpa using hq
          subst this
          exact ⟨h q (by simp), fun e => h1 (.inl e), fun e => h1 (.inr e), h2⟩
def keepK (l : List UInt8) : List (List UInt8) := (splitS l).foldl stepK []
def finK (k : List (List UInt8)) (last : List UInt8) : List UInt8 := if last = [46, 46] then joinS (k.dropLast ++ [[]]) else joinS (k ++ [last])
def cleanK (l : List UInt8) : List UInt8 := finK ((splitS l).dropLast.foldl stepK []) ((splitS l).getLastD [])
theorem keep_app (a b : List UInt8) : keepK (a ++ 47 :: b) = (splitS b).foldl stepK (keepK a) := by rw [keepK, splitS_app, List.foldl_append]; rfl
theorem getLastD_app {α} (d : α) : ∀ (a b : List α), b ≠ [] → (a ++ b).getLastD d = b.getLastD d := by
  intro a b h
  rw [List.getLastD_eq_getLast?, List.getLastD_eq_getLast?, List.getLast?_append]
  cases hb : b.getLast? with
  | none => exact absurd (List.getLast?_eq_none_iff.1 hb) h
  | some x => simp
theorem clean_app (a b : List UInt8) : cleanK (a ++ 47 :: b) = finK ((splitS b).dropLast.foldl stepK (keepK a)) ((splitS b).getLastD []) := by
  rw [cleanK, splitS_app, List.dropLast_append_of_ne_nil (splitS_ne b), List.foldl_append, getLastD_app _ _ _ (splitS_ne b)]
  rfl
theorem clean_dup (a b : List UInt8) : cleanK (a ++ 47 :: 47 :: b) = cleanK (a ++ 47 :: b) := by
  have e : a ++ 47 :: 47 :: b = (a ++ 47 :: []) ++ 47 :: b := by simp
  rw [e, clean_app, clean_app, keep_app]
  simp [splitS, stepK]
theorem clean_dot (a b : List UInt8) : cleanK (a ++ 47 :: 46 :: 47 :: b) = cleanK (a ++ 47 :: b) := by
  have e : a ++ 47 :: 46 :: 47 :: b = (a ++ 47 :: [46]) ++ 47 :: b := by simp
  rw [e, clean_app, clean_app, keep_app]
  simp [splitS, stepK]
theorem clean_up (p x b : List UInt8) (hx : (47 : UInt8) ∉ x) (hg : good x) : cleanK (p ++ 47 :: x ++ 47 :: 46 :: 46 :: 47 :: b) = cleanK (p ++ 47 :: b) := by
  have e : p ++ 47 :: x ++ 47 :: 46 :: 46 :: 47 :: b = ((p ++ 47 :: x) ++ 47 :: [46, 46]) ++ 47 :: b := by simp
  rw [e, clean_app, clean_app, keep_app, keep_app, splitS_word x hx]
  have : splitS [46, 46] = [[46, 46]] := by decide
  rw [this, List.foldl_cons, List.foldl_nil, List.foldl_cons, List.foldl_nil, stepK_good _ _ hg]
  simp [stepK]
theorem clean_up0 (b : List UInt8) : cleanK (47 :: 46 :: 46 :: 47 :: b) = cleanK (47 :: b) := by
  have e : (47 : UInt8) :: 46 :: 46 :: 47 :: b = ([] ++ 47 :: [46, 46]) ++ 47 :: b := by simp
  rw [e, clean_app, keep_app, show (47 : UInt8) :: b = [] ++ 47 :: b by simp, clean_app]
  have : splitS [46, 46] = [[46, 46]] := by decide
  rw [this]
  simp [keepK, splitS, stepK]
/-- No two slashes, no step onto itself, no step back (but at the end). -/
structure Free (l : List UInt8) : Prop where
  dup : ∀ a b, l ≠ a ++ 47 :: 47 :: b
  dot : ∀ a b, l ≠ a ++ 47 :: 46 :: 47 :: b
  up : ∀ a b, l ≠ a ++ 47 :: 46 :: 46 :: 47 :: b
theorem Free.part (l a q b : List UInt8) (h : Free l) (e : l = a ++ 47 :: q ++ 47 :: b) : good q := by
  refine ⟨fun hq => h.dup a b ?_, fun hq => h.dot a b ?_, fun hq => h.up a b ?_⟩ <;> (rw [e, hq]; simp)
theorem joined_good (S : List (List UInt8)) (b : List UInt8) (h : Free (joinS S ++ 47 :: b)) : ∀ q ∈ S, good q := by
  intro q hq
  obtain ⟨S1, S2, rfl⟩ := List.append_of_mem hq
  rw [joinS_app, joinS_cons] at h
  cases S2 with
  | nil => exact h.part _ (joinS S1) q b (by simp [joinS_nil])
  | cons r R => exact h.part _ (joinS S1) q (r ++ joinS R ++ 47 :: b) (by simp [joinS_cons])
theorem keep_joined (S : List (List UInt8)) (hS : ∀ q ∈ S, (47 : UInt8) ∉ q) (hg : ∀ q ∈ S, good q) : keepK (joinS S) = S := by
  rw [keepK, split_join S hS, List.foldl_cons, fold_good S _ hg]
  simp [stepK]
theorem clean_joined (S : List (List UInt8)) (last : List UInt8) (hS : ∀ q ∈ S, (47 : UInt8) ∉ q) (hg : ∀ q ∈ S, good q) (hl : (47 : UInt8) ∉ last) : cleanK (joinS (S ++ [last])) = finK S last := by
  rw [joinS_app, joinS_cons, joinS_nil]
  rw [show joinS S ++ (47 :: last ++ []) = joinS S ++ 47 :: last by simp, clean_app, splitS_word _ hl, keep_joined S hS hg]
  rfl
/-- A path without such steps, that does not end with a step back, stays. -/
theorem clean_stays (l : List UInt8) (h : Free (47 :: l)) (he : ∀ a, 47 :: l ≠ a ++ [47, 46, 46]) : cleanK (47 :: l) = 47 :: l := by
  have hj := join_split l
  have hne := splitS_ne l
  obtain ⟨S, last, hs⟩ : ∃ S last, splitS l = S ++ [last] := ⟨_, _, (List.dropLast_concat_getLast hne).symm⟩
  have hf : ∀ q ∈ S ++ [last], (47 : UInt8) ∉ q := fun q hq => splitS_free l q (hs ▸ hq)
  rw [hs] at hj
  rw [← hj] at h he ⊢
  have hg : ∀ q ∈ S, good q := by
    refine joined_good S last ?_
    rw [joinS_app, joinS_cons, joinS_nil] at h
    simpa using h
  rw [clean_joined S last (fun q hq => hf q (by simp [hq])) hg (hf last (by simp)), finK, if_neg]
  intro e
  exact he (joinS S) (by rw [joinS_app, e, joinS_cons, joinS_nil]; simp)
theorem clean_end (p x : List UInt8) (h : Free (p ++ 47 :: x ++ [47, 46, 46])) (hx : (47 : UInt8) ∉ x) (hp : p = [] ∨ ∃ q, p = 47 :: q) : cleanK (p ++ 47 :: x ++ [47, 46, 46]) = p ++ [47] := by
  have hgx : good x := h.part _ p x [46, 46] rfl
  have hk : joinS (keepK p) = p := by
    rcases hp with rfl | ⟨q, rfl⟩
    · rfl
    · have hj := join_split q
      have hg : ∀ y ∈ splitS q, good y := joined_good (splitS q) (x ++ [47, 46, 46]) (by rw [hj]; simpa using h)
      rw [← hj, keep_joined _ (splitS_free q) hg]
  rw [show p ++ 47 :: x ++ [47, 46, 46] = (p ++ 47 :: x) ++ 47 :: [46, 46] by simp, clean_app, keep_app, splitS_word x hx]
  have : splitS [46, 46] = [[46, 46]] := by decide
  rw [this, List.foldl_cons, List.foldl_nil, stepK_good _ _ hgx]
  simp [finK, joinS_app, joinS_cons, joinS_nil, hk]
theorem clean_end0 : cleanK [47, 46, 46] = [47] := by decide
/-- What comes out. -/
theorem clean_form (l : List UInt8) : ∃ S last, cleanK l = joinS (S ++ [last]) ∧ (∀ q ∈ S, (47 : UInt8) ∉ q ∧ good q) ∧ (47 : UInt8) ∉ last ∧ last ≠ [46, 46] := by
  have hf := fold_keeps (fun q => (47 : UInt8) ∉ q) (splitS l).dropLast [] (fun q hq => splitS_free l q (List.dropLast_subset _ hq)) (by simp)
  unfold cleanK finK
  split
  · exact ⟨_, [], rfl, fun q hq => hf q (List.dropLast_subset _ hq), by simp, by decide⟩
  · rename_i h
    refine ⟨_, _, rfl, hf, ?_, h⟩
    have hne := splitS_ne l
    rw [List.getLastD_eq_getLast?, List.getLast?_eq_some_getLast hne]
    exact splitS_free l _ (List.getLast_mem hne)
theorem joined_free (S : List (List UInt8)) (last : List UInt8) (hS : ∀ q ∈ S, (47 : UInt8) ∉ q ∧ good q) (hl : (47 : UInt8) ∉ last) : Free (joinS (S ++ [last])) := by
  have key : ∀ a q b, (47 : UInt8) ∉ q → joinS (S ++ [last]) = a ++ 47 :: q ++ 47 :: b → good q := by
    intro a q b hq e
    have h1 := split_join (S ++ [last]) (fun y hy => by
      rw [List.mem_append] at hy
      rcases hy with hy | hy
      · exact (hS y hy).1
      · rw [List.mem_singleton.1 hy]; exact hl)
    rw [e, splitS_app, splitS_app, splitS_word q hq] at h1
    obtain ⟨x, A, hA⟩ : ∃ x A, splitS a = x :: A := by
      cases h : splitS a with
      | nil => exact absurd h (splitS_ne a)
      | cons x A => exact ⟨x, A, rfl⟩
    rw [hA] at h1
    simp only [List.cons_append, List.cons.injEq] at h1
    have h2 := congrArg List.dropLast h1.2
    rw [List.dropLast_concat, List.dropLast_append_of_ne_nil (splitS_ne b)] at h2
    refine (hS q ?_).2
    rw [← h2]
    simp
  refine ⟨fun a b e => ?_, fun a b e => ?_, fun a b e => ?_⟩
  · exact (key a [] b (by simp) (by simpa using e)).1 rfl
  · exact (key a [46] b (by decide) (by simpa using e)).2.1 rfl
  · exact (key a [46, 46] b (by decide) (by simpa using e)).2.2 rfl
theorem joinS_slash (S : List (List UInt8)) (last : List UInt8) : ∃ t, joinS (S ++ [last]) = 47 :: t := by
  cases S with
  | nil => exact ⟨last, by simp [joinS]⟩
  | cons q S => exact ⟨q ++ joinS (S ++ [last]), by simp [joinS_cons]⟩
theorem clean_free (l : List UInt8) : Free (cleanK l) := by
  obtain ⟨S, last, e, h1, h2, _⟩ := clean_form l
  rw [e]
  exact joined_free S last h1 h2
theorem clean_slash (l : List UInt8) : ∃ t, cleanK l = 47 :: t := by
  obtain ⟨S, last, e, _⟩ := clean_form l
  rw [e]
  exact joinS_slash S last
theorem clean_again (l : List UInt8) : cleanK (cleanK l) = cleanK l := by
  obtain ⟨S, last, e, h1, h2, h3⟩ := clean_form l
  rw [e, clean_joined S last (fun q hq => (h1 q hq).1) (fun q hq => (h1 q hq).2) h2, finK, if_neg h3]
theorem clean_words (S : List (List UInt8)) (last : List UInt8) (h1 : ∀ q ∈ S, (47 : UInt8) ∉ q ∧ good q) (h2 : (47 : UInt8) ∉ last) (h3 : last ≠ [46, 46]) : cleanK (joinS (S ++ [last])) = joinS (S ++ [last]) := by
  rw [clean_joined S last (fun q hq => (h1 q hq).1) (fun q hq => (h1 q hq).2) h2, finK, if_neg h3]
theorem clean_steps (S T : List (List UInt8)) (more last : List UInt8) (h1 : ∀ q ∈ S, (47 : UInt8) ∉ q ∧ good q) (h2 : (47 : UInt8) ∉ last) (h3 : last ≠ [46, 46]) (hm : (47 : UInt8) ∉ more ∧ good more) (ht : ∀ q ∈ T, (47 : UInt8) ∉ q ∧ good q) :
    cleanK (joinS (S ++ more :: [46, 46] :: (T ++ [last]))) = joinS (S ++ (T ++ [last])) := by
  obtain ⟨t, e⟩ := joinS_slash T last
  have e2 : joinS (S ++ more :: [46, 46] :: (T ++ [last])) = joinS S ++ 47 :: more ++ 47 :: 46 :: 46 :: 47 :: t := by
    rw [joinS_app, joinS_cons, joinS_cons, e]; simp
  have e3 : joinS (S ++ (T ++ [last])) = joinS S ++ 47 :: t := by rw [joinS_app, e]
  rw [e2, clean_up _ _ _ hm.1 hm.2, ← e3]
  rw [← List.append_assoc]
  refine clean_words (S ++ T) last (fun q hq => ?_) h2 h3
  rw [List.mem_append] at hq
  exact hq.elim (h1 q) (ht q)
/-- Steps that are not there before the shift are not there behind it: what stands before 'p ++ [47]' and behind it is as before. -/
theorem shift_free2 (p m b : List UInt8) (h : ∀ a c, p ++ 47 :: m ++ 47 :: b ≠ a ++ 47 :: 47 :: c) : ∀ a c, p ++ 47 :: b ≠ a ++ 47 :: 47 :: c := by
  intro a c e
  rcases List.append_eq_append_iff.1 e with ⟨t, h1, h2⟩ | ⟨t, h1, h2⟩
  · cases t with
    | nil => 
      simp at h1 h2
      exact h (p ++ 47 :: m) c (by rw [h2])
    | cons x t =>
      simp at h2
      exact h (p ++ 47 :: m ++ 47 :: t) c (by rw [h2.2]; simp)
  · cases t with
    | nil =>
      simp at h1 h2
      exact h (p ++ 47 :: m) c (by rw [h2])
    | cons x t =>
      simp at h2
      cases t with
      | nil =>
        simp at h2
        refine h a (m ++ 47 :: b) ?_
        rw [h1, ← h2.1]; simp
      | cons y t =>
        simp at h2
        exact h a (t ++ 47 :: (m ++ 47 :: b)) (by rw [h1, ← h2.1, ← h2.2.1]; simp)
theorem shift_free3 (p m b : List UInt8) (h : ∀ a c, p ++ 47 :: m ++ 47 :: b ≠ a ++ 47 :: 46 :: 47 :: c) : ∀ a c, p ++ 47 :: b ≠ a ++ 47 :: 46 :: 47 :: c := by
  intro a c e
  rcases List.append_eq_append_iff.1 e with ⟨t, h1, h2⟩ | ⟨t, h1, h2⟩
  · cases t with
    | nil => 
      simp at h1 h2
      exact h (p ++ 47 :: m) c (by rw [h2])
    | cons x t =>
      simp at h2
      exact h (p ++ 47 :: m ++ 47 :: t) c (by rw [h2.2]; simp)
  · cases t with
    | nil =>
      simp at h1 h2
      exact h (p ++ 47 :: m) c (by rw [h2])
    | cons x t =>
      simp at h2
      cases t with
      | nil => simp at h2
      | cons y t =>
        simp at h2
        cases t with
        | nil =>
          simp at h2
          exact h a (m ++ 47 :: b) (by rw [h1, ← h2.1, ← h2.2.1]; simp)
        | cons z t =>
          simp at h2
          exact h a (t ++ 47 :: (m ++ 47 :: b)) (by rw [h1, ← h2.1, ← h2.2.1, ← h2.2.2.1]; simp)
end Go.Proofs.Ytjklempjljikpaa.Cl
