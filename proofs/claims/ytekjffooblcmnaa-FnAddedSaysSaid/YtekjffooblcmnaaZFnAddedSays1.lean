/- FnAddedSays: the law's function, called with any arguments, returns true and leaves its arguments as they were: every input, no condition. Part 2 of 8. -/
import Derived.Test.YtekjffooblcmnaaZFnAddedSays0
import Derived.WalkSpells
import Derived.Lib.LazyBuf
import Derived.Laws.OwnMore
import Derived.Lib.AppendStr
import Derived.StillTailTactics
set_option linter.unusedVariables false
set_option linter.unusedSimpArgs false
set_option linter.unusedSectionVars false
section
namespace Go.Proofs.Ytekjffooblcmnaa.Rt
set_option linter.unusedSimpArgs false
set_option linter.unusedVariables false
abbrev Str := List UInt8
structure Dat where
  place : Int
  pp : Str
  pn : List Str
structure Nd where
  kind : Nat
  pre : Str
  par : Option Nat
  kids : List Nat
  pc : Option Nat
  ac : Option Nat
  d : Option Dat
abbrev Tb := Nat → Option Nd
def put (t : Tb) (b : Nat) (n : Nd) : Tb := fun x => if x = b then some n else t x
def lcp : Str → Str → Nat
  | a :: s, b :: t => if a = b then lcp s t + 1 else 0
  | _, _ => 0
def headIs (t : Tb) (c : UInt8) (k : Nat) : Bool := match t k with
  | some m => m.pre.head? == some c
  | none => false
def kid (t : Tb) (n : Nd) (c : UInt8) : Option Nat := n.kids.find? (headIs t c)
def kidL (t : Tb) (n : Nd) (c : UInt8) : Option Nat := match kid t n c with
  | some k => some k
  | none => if c = 58 then n.pc else if c = 42 then n.ac else none
def rep (t : Tb) (n : Nd) (p : Nat) : Tb := fun x => if x ∈ n.kids ∨ n.pc = some x ∨ n.ac = some x then (t x).map fun m => { m with par := some p } else t x
def sp (c : UInt8) : Bool := c == 58 || c == 42
def ins : Nat → Tb → Nat → Str → Nat → Option Dat → Nat → Nat → Option (Tb × Bool)
  | 0, _, _, _, _, _, _, _ => none
  | f + 1, t, cur, s, k, h, n1, n2 =>
    match t cur with
    | none => none
    | some nd =>
      if lcp s nd.pre = 0 then some (put t cur { nd with pre := s, kind := if h.isSome then k else nd.kind, d := if h.isSome then h else nd.d }, false)
      else if lcp s nd.pre < nd.pre.length then
        if lcp s nd.pre = s.length then
          some (put (put (rep t nd n1) n1 { nd with pre := nd.pre.drop (lcp s nd.pre), par := some cur }) cur ⟨k, nd.pre.take (lcp s nd.pre), nd.par, [n1], none, none, h⟩, false)
        else
          some (put (put (put (rep t nd n1) n1 { nd with pre := nd.pre.drop (lcp s nd.pre), par := some cur }) n2 ⟨k, s.drop (lcp s nd.pre), some cur, [], none, none, h⟩) cur ⟨0, nd.pre.take (lcp s nd.pre), nd.par, [n1, n2], none, none, none⟩, false)
      else if lcp s nd.pre < s.length then
        match (s.drop (lcp s nd.pre)).head? with
        | none => none
        | some c =>
          match kidL t nd c with
          | some b => ins f t b (s.drop (lcp s nd.pre)) k h n1 n2
          | none =>
            some (put (put t n1 ⟨k, s.drop (lcp s nd.pre), some cur, [], none, none, h⟩) cur (if k = 0 then { nd with kids := nd.kids ++ [n1] } else if k = 1 then { nd with pc := some n1 } else { nd with ac := some n1 }), false)
      else if nd.d.isSome && h.isSome then some (t, true)
      else some (put t cur (if h.isSome then { nd with d := h } else nd), false)
def steps : Nat → Str → Str → List (Str × Nat × Bool)
  | 0, _, _ => []
  | _ + 1, done, [] => [(done, 0, true)]
  | f + 1, done, c :: t =>
    if c = 58 then
      (done, 0, false) :: (match t.dropWhile (· != 47) with
        | [] => [(done ++ [58], 1, true)]
        | x :: r => (done ++ [58], 1, false) :: steps f (done ++ [58, x]) r)
    else if c = 42 then [(done, 0, false), (done ++ [42], 2, true)]
    else steps f (done ++ [c]) t
def shape : Nat → Str → Str
  | 0, _ => []
  | _ + 1, [] => []
  | f + 1, c :: t =>
    if c = 58 then
      58 :: (match t.dropWhile (· != 47) with
        | [] => []
        | x :: r => x :: shape f r)
    else if c = 42 then [42]
    else c :: shape f t
def names : Nat → Str → List Str
  | 0, _ => []
  | _ + 1, [] => []
  | f + 1, c :: t =>
    if c = 58 then
      t.takeWhile (· != 47) :: (match t.dropWhile (· != 47) with
        | [] => []
        | _ :: r => names f r)
    else if c = 42 then [t]
    else names f t
def Ch (n : Nd) (c : Nat) : Prop := c ∈ n.kids ∨ n.pc = some c ∨ n.ac = some c
structure Inv (t : Tb) (key : Nat → Str) (root : Nat) : Prop where
  rt : ∃ nd, t root = some nd ∧ nd.par = none ∧ nd.kind = 0 ∧ key root = nd.pre ∧ nd.pre ≠ [] ∧ ∀ x ∈ nd.pre, sp x = false
  kd : ∀ b nd c, t b = some nd → c ∈ nd.kids → ∃ m, t c = some m ∧ m.par = some b ∧ m.kind = 0 ∧ m.pre ≠ [] ∧ (∀ x ∈ m.pre, sp x = false) ∧ key c = key b ++ m.pre
  pc : ∀ b nd c, t b = some nd → nd.pc = some c → ∃ m, t c = some m ∧ m.par = some b ∧ m.kind = 1 ∧ m.pre = [58] ∧ key c = key b ++ [58]
  ac : ∀ b nd c, t b = some nd → nd.ac = some c → ∃ m, t c = some m ∧ m.par = some b ∧ m.kind = 2 ∧ m.pre = [42] ∧ key c = key b ++ [42] ∧ m.kids = [] ∧ m.pc = none ∧ m.ac = none ∧ m.d.isSome
  hd : ∀ b nd c c' m m', t b = some nd → c ∈ nd.kids → c' ∈ nd.kids → t c = some m → t c' = some m' → m.pre.head? = m'.pre.head? → c = c'
  up : ∀ b nd, t b = some nd → b ≠ root → ∃ p ndp, nd.par = some p ∧ t p = some ndp ∧ Ch ndp b
section
variable {t : Tb} {key : Nat → Str} {root : Nat}
theorem Inv.ch (I : Inv t key root) {b : Nat} {nd : Nd} {c : Nat} (hb : t b = some nd) (hc : Ch nd c) : ∃ m x r, t c = some m ∧ m.par = some b ∧ m.pre = x :: r ∧ key c = key b ++ m.pre ∧ ((sp x = false ∧ c ∈ nd.kids) ∨ (x = 58 ∧ nd.pc = some c) ∨ (x = 42 ∧ nd.ac = some c)) := by
  rcases hc with h | h | h
  · obtain ⟨m, h1, h2, _, h3, h4, h5⟩ := I.kd b nd c hb h
    cases hp : m.pre with
    | nil => exact absurd hp h3
    | cons x r => exact ⟨m, x, r, h1, h2, hp, h5, .inl ⟨h4 x (by rw [hp]; simp), h⟩⟩
  · obtain ⟨m, h1, h2, _, h3, h4⟩ := I.pc b nd c hb h
    exact ⟨m, 58, [], h1, h2, h3, by rw [h3]; exact h4, .inr (.inl ⟨rfl, h⟩)⟩
  · obtain ⟨m, h1, h2, _, h3, h4, _⟩ := I.ac b nd c hb h
    exact ⟨m, 42, [], h1, h2, h3, by rw [h3]; exact h4, .inr (.inr ⟨rfl, h⟩)⟩
theorem Inv.ch_eq (I : Inv t key root) {b : Nat} {nd : Nd} {c c' : Nat} {x : UInt8} {r r' : Str} (hb : t b = some nd) (hc : Ch nd c) (hc' : Ch nd c') (e : key c = key b ++ x :: r) (e' : key c' = key b ++ x :: r') : c = c' := by
  obtain ⟨m, y, s, h1, _, h2, h3, h4⟩ := I.ch hb hc
  obtain ⟨m', y', s', k1, _, k2, k3, k4⟩ := I.ch hb hc'
  have e1 : y = x := by
    rw [h3, h2] at e
    exact (List.cons.inj (List.append_cancel_left e)).1
  have e2 : y' = x := by
    rw [k3, k2] at e'
    exact (List.cons.inj (List.append_cancel_left e')).1
  subst e1; subst e2
  rcases h4 with ⟨a1, a2⟩ | ⟨a1, a2⟩ | ⟨a1, a2⟩
  · rcases k4 with ⟨b1, b2⟩ | ⟨b1, b2⟩ | ⟨b1, b2⟩
    · exact I.hd b nd c c' m m' hb a2 b2 h1 k1 (by rw [h2, k2]; rfl)
    · subst b1; cases a1
    · subst b1; cases a1
  · subst a1
    rcases k4 with ⟨b1, b2⟩ | ⟨b1, b2⟩ | ⟨b1, b2⟩
    · cases b1
    · rw [a2] at b2; exact Option.some.inj b2
    · cases b1
  · subst a1
    rcases k4 with ⟨b1, b2⟩ | ⟨b1, b2⟩ | ⟨b1, b2⟩
    · cases b1
    · cases b1
    · rw [a2] at b2; exact Option.some.inj b2
theorem Inv.parent (I : Inv t key root) {b : Nat} {nd : Nd} (hb : t b = some nd) (hr : b ≠ root) : ∃ p ndp x r, t p = some ndp ∧ nd.par = some p ∧ Ch ndp b ∧ key b = key p ++ x :: r ∧ nd.pre = x :: r := by
  obtain ⟨p, ndp, h1, h2, h3⟩ := I.up b nd hb hr
  obtain ⟨m, x, r, k1, k2, k3, k4, _⟩ := I.ch h2 h3
  rw [hb] at k1; cases k1
  exact ⟨p, ndp, x, r, h2, h1, h3, by rw [k4, k3], k3⟩
theorem Inv.root_pre (I : Inv t key root) : ∀ (n b : Nat) (nd : Nd), (key b).length = n → t b = some nd → key root <+: key b := by
  intro n
  induction n using Nat.strongRecOn with
  | _ n ih =>
    intro b nd hn hb
    by_cases hr : b = root
    · subst hr; exact List.prefix_refl _
    · obtain ⟨p, ndp, x, r, h1, _, _, h2, _⟩ := I.parent hb hr
      have := ih (key p).length (by rw [← hn, h2]; simp) p ndp rfl h1
      rw [h2]
      exact this.trans (List.prefix_append _ _)
theorem pre_cases {a b l : Str} (ha : a <+: l) (hb : b <+: l) : a = b ∨ (∃ x r, b = a ++ x :: r) ∨ ∃ x r, a = b ++ x :: r := by
  rcases Nat.le_total a.length b.length with h | h
  · obtain ⟨r, hr⟩ := List.prefix_of_prefix_length_le ha hb h
    cases r with
    | nil => exact .inl (by simpa using hr)
    | cons x r => exact .inr (.inl ⟨x, r, hr.symm⟩)
  · obtain ⟨r, hr⟩ := List.prefix_of_prefix_length_le hb ha h
    cases r with
    | nil => exact .inl (by simpa using hr.symm)
    | cons x r => exact .inr (.inr ⟨x, r, hr.symm⟩)
theorem Inv.both (I : Inv t key root) : ∀ (n : Nat),
    (∀ b b' nd nd', (key b').length = n → t b = some nd → t b' = some nd' → key b = key b' → b = b') ∧
    (∀ p b' ndp nd', (key b').length = n → t p = some ndp → t b' = some nd' → (∃ x r, key b' = key p ++ x :: r) → ∃ c, Ch ndp c ∧ key c <+: key b') := by
  intro n
  induction n using Nat.strongRecOn with
  | _ n ih =>
    have inj : ∀ b b' nd nd', (key b').length = n → t b = some nd → t b' = some nd' → key b = key b' → b = b' := by
      intro b b' nd nd' hn hb hb' he
      have rootcase : ∀ (b : Nat) (nd : Nd), t b = some nd → key b = key root → b = root := by
        intro b nd hb he
        by_cases hr : b = root
        · exact hr
        · obtain ⟨p, ndp, x, r, h1, _, _, h2, _⟩ := I.parent hb hr
          have := (I.root_pre _ p ndp rfl h1).length_le
          rw [← he, h2] at this
          simp at this
          omega
      by_cases hr : b = root
      · exact hr.trans (rootcase b' nd' hb' (by rw [← he, hr])).symm
      by_cases hr' : b' = root
      · exact (rootcase b nd hb (by rw [he, hr'])).trans hr'.symm
      obtain ⟨p, ndp, x, r, h1, _, h3, h2, _⟩ := I.parent hb hr
      obtain ⟨p', ndp', x', r', k1, _, k3, k2, _⟩ := I.parent hb' hr'
      have l1 : (key p).length < n := by rw [← hn, ← he, h2]; simp
      have l2 : (key p').length < n := by rw [← hn, k2]; simp
      rcases pre_cases (a := key p) (b := key p') (l := key b') (by rw [← he, h2]; exact List.prefix_append _ _) (by rw [k2]; exact List.prefix_append _ _) with e | ⟨y, s, e⟩ | ⟨y, s, e⟩
      · have hpp := (ih _ l2).1 p p' ndp ndp' rfl h1 k1 e
        subst hpp
        rw [h1] at k1; cases k1
        have hx : x = x' := by
          rw [h2, k2] at he
          exact (List.cons.inj (List.append_cancel_left he)).1
        subst hx
        exact I.ch_eq h1 h3 k3 h2 k2
      · obtain ⟨c, hc, hcp⟩ := (ih _ l2).2 p p' ndp ndp' rfl h1 k1 ⟨y, s, e⟩
        obtain ⟨m, z, q, _, _, c2, c3, _⟩ := I.ch h1 hc
        exfalso
        have hzx : z = x := by
          obtain ⟨w, hw⟩ := hcp
          rw [c3, c2] at hw
          have e3 := he
          rw [h2, k2, ← hw, List.append_assoc, List.append_assoc] at e3
          exact (List.cons.inj (List.append_cancel_left e3)).1.symm
        subst hzx
        have := I.ch_eq h1 h3 hc h2 (by rw [c3, c2])
        subst this
        have := hcp.length_le
        rw [he, k2] at this
        simp at this
        omega
      · obtain ⟨c, hc, hcp⟩ := (ih _ l1).2 p' p ndp' ndp rfl k1 h1 ⟨y, s, e⟩
        obtain ⟨m, z, q, _, _, c2, c3, _⟩ := I.ch k1 hc
        exfalso
        have hzx : z = x' := by
          obtain ⟨w, hw⟩ := hcp
          rw [c3, c2] at hw
          have e3 := he
          rw [h2, k2, ← hw, List.append_assoc, List.append_assoc] at e3
          exact (List.cons.inj (List.append_cancel_left e3)).1
        subst hzx
        have := I.ch_eq k1 k3 hc k2 (by rw [c3, c2])
        subst this
        have := hcp.length_le
        rw [← he, h2] at this
        simp at this
        omega
    refine ⟨inj, ?_⟩
    intro p b' ndp nd' hn hp hb' ⟨x, r, he⟩
    have hr' : b' ≠ root := by
      intro e
      have := (I.root_pre _ p ndp rfl hp).length_le
      rw [← e, he] at this
      simp at this
      omega
    obtain ⟨q, ndq, y, s, k1, _, k3, k2, _⟩ := I.parent hb' hr'
    have l1 : (key q).length < n := by rw [← hn, k2]; simp
    have l2 : (key p).length < n := by rw [← hn, he]; simp
    rcases pre_cases (a := key p) (b := key q) (l := key b') (by rw [he]; exact List.prefix_append _ _) (by rw [k2]; exact List.prefix_append _ _) with e | ⟨z, w, e⟩ | ⟨z, w, e⟩
    · have := (ih _ l1).1 p q ndp ndq rfl hp k1 e
      subst this
      rw [hp] at k1; cases k1
      exact ⟨b', k3, List.prefix_refl _⟩
    · obtain ⟨c, hc, hcp⟩ := (ih _ l1).2 p q ndp ndq rfl hp k1 ⟨z, w, e⟩
      exact ⟨c, hc, hcp.trans (by rw [k2]; exact List.prefix_append _ _)⟩
    · obtain ⟨c, hc, hcp⟩ := (ih _ l2).2 q p ndq ndp rfl k1 hp ⟨z, w, e⟩
      obtain ⟨m, u, v, _, _, c2, c3, _⟩ := I.ch k1 hc
      exfalso
      have huy : u = y := by
        obtain ⟨g, hg⟩ := hcp
        rw [c3, c2] at hg
        have e3 := he
        rw [k2, ← hg, List.append_assoc, List.append_assoc] at e3
        exact (List.cons.inj (List.append_cancel_left e3)).1.symm
      subst huy
      have := I.ch_eq k1 k3 hc k2 (by rw [c3, c2])
      subst this
      have := hcp.length_le
      rw [he] at this
      simp at this
      omega
theorem Inv.inj (I : Inv t key root) {b b' : Nat} {nd nd' : Nd} (h : t b = some nd) (h' : t b' = some nd') (e : key b = key b') : b = b' := (I.both _).1 b b' nd nd' rfl h h' e
theorem Inv.desc (I : Inv t key root) {p b' : Nat} {ndp nd' : Nd} (h : t p = some ndp) (h' : t b' = some nd') {x : UInt8} {r : Str} (e : key b' = key p ++ x :: r) : ∃ c, Ch ndp c ∧ key c <+: key b' := (I.both _).2 p b' ndp nd' rfl h h' ⟨x, r, e⟩
end
section
variable {t : Tb} {key : Nat → Str} {root : Nat}
def Has (t : Tb) (key : Nat → Str) (k : Str) : Prop := ∃ b nd, t b = some nd ∧ key b = k
def Leaf (t : Tb) (key : Nat → Str) (k : Str) (d : Dat) : Prop := ∃ b nd, t b = some nd ∧ key b = k ∧ nd.d = some d
theorem put_self (t : Tb) (b : Nat) (n : Nd) : put t b n b = some n := if_pos rfl
theorem put_ne (t : Tb) {b x : Nat} (n : Nd) (h : x ≠ b) : put t b n x = t x := if_neg h
theorem Inv.ch_ne (I : Inv t key root) {b : Nat} {nd : Nd} {c : Nat} (hb : t b = some nd) (hc : Ch nd c) : c ≠ b := by
  obtain ⟨m, x, r, _, _, h1, h2, _⟩ := I.ch hb hc
  intro e
  rw [e, h1] at h2
  have := congrArg List.length h2
  simp at this
theorem Inv.ch_some (I : Inv t key root) {b : Nat} {nd : Nd} {c : Nat} (hb : t b = some nd) (hc : Ch nd c) : ∃ m, t c = some m ∧ m.par = some b := by
  obtain ⟨m, x, r, h, h2, _⟩ := I.ch hb hc
  exact ⟨m, h, h2⟩
theorem Inv.set (I : Inv t key root) {cur : Nat} {nd : Nd} (hc : t cur = some nd) (h : Option Dat) (hh : h.isSome) : Inv (put t cur { nd with d := h }) key root := by
  have old : ∀ b n, put t cur { nd with d := h } b = some n → ∃ n0, t b = some n0 ∧ n.kind = n0.kind ∧ n.pre = n0.pre ∧ n.par = n0.par ∧ n.kids = n0.kids ∧ n.pc = n0.pc ∧ n.ac = n0.ac := fun b n hb => by
    by_cases e : b = cur
    · subst e; rw [put_self] at hb; cases hb; exact ⟨nd, hc, rfl, rfl, rfl, rfl, rfl, rfl⟩
    · rw [put_ne _ _ e] at hb; exact ⟨n, hb, rfl, rfl, rfl, rfl, rfl, rfl⟩
  have new : ∀ b n0, t b = some n0 → ∃ n, put t cur { nd with d := h } b = some n ∧ n.kind = n0.kind ∧ n.pre = n0.pre ∧ n.par = n0.par ∧ n.kids = n0.kids ∧ n.pc = n0.pc ∧ n.ac = n0.ac ∧ (n0.d.isSome → n.d.isSome) := fun b n0 hb => by
    by_cases e : b = cur
    · subst e; rw [hc] at hb; cases hb; exact ⟨_, put_self _ _ _, rfl, rfl, rfl, rfl, rfl, rfl, fun _ => hh⟩
    · exact ⟨n0, by rw [put_ne _ _ e]; exact hb, rfl, rfl, rfl, rfl, rfl, rfl, id⟩
  refine ⟨?_, ?_, ?_, ?_, ?_, ?_⟩
  · obtain ⟨n0, h1, h2, h3, h4, h5, h6⟩ := I.rt
    obtain ⟨n, k1, k2, k3, k4, _⟩ := new root n0 h1
    exact ⟨n, k1, by rw [k4]; exact h2, by rw [k2]; exact h3, by rw [k3]; exact h4, by rw [k3]; exact h5, by rw [k3]; exact h6⟩
  · intro b n c hb hcc
    obtain ⟨n0, h1, _, _, _, h2, _, _⟩ := old b n hb
    obtain ⟨m0, g1, g2, g3, g4, g5, g6⟩ := I.kd b n0 c h1 (h2 ▸ hcc)
    obtain ⟨m, k1, k2, k3, k4, _⟩ := new c m0 g1
    exact ⟨m, k1, by rw [k4]; exact g2, by rw [k2]; exact g3, by rw [k3]; exact g4, by rw [k3]; exact g5, by rw [k3]; exact g6⟩
  · intro b n c hb hcc
    obtain ⟨n0, h1, _, _, _, _, h2, _⟩ := old b n hb
    obtain ⟨m0, g1, g2, g3, g4, g5⟩ := I.pc b n0 c h1 (h2 ▸ hcc)
    obtain ⟨m, k1, k2, k3, k4, _⟩ := new c m0 g1
    exact ⟨m, k1, by rw [k4]; exact g2, by rw [k2]; exact g3, by rw [k3]; exact g4, g5⟩
  · intro b n c hb hcc
    obtain ⟨n0, h1, _, _, _, _, _, h2⟩ := old b n hb
    obtain ⟨m0, g1, g2, g3, g4, g5, g6, g7, g8, g9⟩ := I.ac b n0 c h1 (h2 ▸ hcc)
    obtain ⟨m, k1, k2, k3, k4, k5, k6, k7, k8⟩ := new c m0 g1
    exact ⟨m, k1, by rw [k4]; exact g2, by rw [k2]; exact g3, by rw [k3]; exact g4, g5, by rw [k5]; exact g6, by rw [k6]; exact g7, by rw [k7]; exact g8, k8 g9⟩
  · intro b n c c' m m' hb h1 h2 h3 h4 h5
    obtain ⟨n0, g1, _, _, _, g2, _, _⟩ := old b n hb
    obtain ⟨m0, q1, _, q2, _⟩ := old c m h3
    obtain ⟨m0', p1, _, p2, _⟩ := old c' m' h4
    exact I.hd b n0 c c' m0 m0' g1 (g2 ▸ h1) (g2 ▸ h2) q1 p1 (by rw [← q2, ← p2]; exact h5)
  · intro b n hb hr
    obtain ⟨n0, g1, _, _, g2, _, _, _⟩ := old b n hb
    obtain ⟨p, np, q1, q2, q3⟩ := I.up b n0 g1 hr
    obtain ⟨np', r1, _, _, _, r2, r3, r4, _⟩ := new p np q2
    exact ⟨p, np', by rw [g2]; exact q1, r1, by unfold Ch at q3 ⊢; rw [r2, r3, r4]; exact q3⟩
theorem Inv.add (I : Inv t key root) {cur n1 : Nat} {nd : Nd} (hc : t cur = some nd) (hn : t n1 = none) (k : Nat) (s : Str) (h : Option Dat) (c : UInt8) (r : Str) (hs : s = c :: r) (hno : kidL t nd c = none)
    (hk : (k = 0 ∧ ∀ x ∈ s, sp x = false) ∨ (k = 1 ∧ s = [58]) ∨ (k = 2 ∧ s = [42] ∧ h.isSome)) (hnk : nd.kind ≠ 2 ∨ ∀ p np, t p = some np → np.ac ≠ some cur) :
    Inv (put (put t n1 ⟨k, s, some cur, [], none, none, h⟩) cur (if k = 0 then { nd with kids := nd.kids ++ [n1] } else if k = 1 then { nd with pc := some n1 } else { nd with ac := some n1 })) (fun x => if x = n1 then key cur ++ s else key x) root := by
  have hcn : cur ≠ n1 := by intro e; rw [e, hn] at hc; cases hc
  generalize hN : (if k = 0 then { nd with kids := nd.kids ++ [n1] } else if k = 1 then { nd with pc := some n1 } else { nd with ac := some n1 } : Nd) = N
  have n_kind : N.kind = nd.kind ∧ N.pre = nd.pre ∧ N.par = nd.par ∧ N.d = nd.d := by rw [← hN]; split; exact ⟨rfl, rfl, rfl, rfl⟩; split <;> exact ⟨rfl, rfl, rfl, rfl⟩
  have n_kids : ∀ x, x ∈ N.kids → x ∈ nd.kids ∨ (x = n1 ∧ k = 0) := by
    intro x hx
    rw [← hN] at hx
    split at hx
    · simp only [List.mem_append, List.mem_singleton] at hx; rcases hx with hx | hx; exact .inl hx; exact .inr ⟨hx, by assumption⟩
    · split at hx <;> exact .inl hx
  have n_pc : ∀ x, N.pc = some x → nd.pc = some x ∨ (x = n1 ∧ k = 1) := by
    intro x hx
    rw [← hN] at hx
    split at hx
    · exact .inl hx
    · split at hx
      · exact .inr ⟨(Option.some.inj hx).symm, by assumption⟩
      · exact .inl hx
  have n_ac : ∀ x, N.ac = some x → nd.ac = some x ∨ (x = n1 ∧ k = 2) := by
    intro x hx
    rw [← hN] at hx
    rcases hk with ⟨e, _⟩ | ⟨e, _⟩ | ⟨e, _⟩
    · rw [if_pos e] at hx; exact .inl hx
    · rw [if_neg (by omega), if_pos e] at hx; exact .inl hx
    · rw [if_neg (by omega), if_neg (by omega)] at hx; exact .inr ⟨(Option.some.inj hx).symm, e⟩
  have hkid : kid t nd c = none ∧ (c = 58 → nd.pc = none) ∧ (c = 42 → nd.ac = none) := by
    unfold kidL at hno
    cases hq : kid t nd c with
    | some b => rw [hq] at hno; cases hno
    | none =>
      rw [hq] at hno
      refine ⟨rfl, fun e => ?_, fun e => ?_⟩
      · subst e; exact hno
      · subst e; exact hno
  have n_ch : ∀ x, Ch nd x → Ch N x := by
    intro x hx
    rw [← hN]
    rcases hx with hx | hx | hx
    · left; split; exact List.mem_append_left _ hx; split <;> exact hx
    · right; left; split
      · exact hx
      · split
        · rename_i e1 e2
          rcases hk with ⟨e, _⟩ | ⟨e, e3⟩ | ⟨e, _⟩
          · omega
          · rw [e3] at hs; have := hkid.2.1 (List.cons.inj hs).1.symm; rw [this] at hx; cases hx
          · omega
        · exact hx
    · right; right; split
      · exact hx
      · split
        · exact hx
        · rename_i e1 e2
          rcases hk with ⟨e, _⟩ | ⟨e, e3⟩ | ⟨e, e3, _⟩
          · omega
          · omega
          · rw [e3] at hs; have := hkid.2.2 (List.cons.inj hs).1.symm; rw [this] at hx; cases hx
  have n_new : Ch N n1 := by
    rw [← hN]
    rcases hk with ⟨e, _⟩ | ⟨e, _⟩ | ⟨e, _⟩
    · rw [if_pos e]; left; simp
    · rw [if_neg (by omega), if_pos e]; right; left; rfl
    · rw [if_neg (by omega), if_neg (by omega)]; right; right; rfl
  have T : ∀ x, put (put t n1 ⟨k, s, some cur, [], none, none, h⟩) cur N x = if x = cur then some N else if x = n1 then some ⟨k, s, some cur, [], none, none, h⟩ else t x := fun x => rfl
  have get : ∀ x m, t x = some m → x ≠ cur → put (put t n1 ⟨k, s, some cur, [], none, none, h⟩) cur N x = some m := fun x m hx e => by
    rw [T, if_neg e, if_neg (fun e2 => by rw [e2, hn] at hx; cases hx)]; exact hx
  have keyo : ∀ x m, t x = some m → (if x = n1 then key cur ++ s else key x) = key x := fun x m hx => if_neg (fun e2 => by rw [e2, hn] at hx; cases hx)
  have chk : ∀ x m, t x = some m → ∃ m', put (put t n1 ⟨k, s, some cur, [], none, none, h⟩) cur N x = some m' ∧ m'.kind = m.kind ∧ m'.pre = m.pre ∧ m'.par = m.par ∧ m'.d = m.d ∧ (x ≠ cur → m' = m) := fun x m hx => by
    by_cases e : x = cur
    · subst e; rw [hc] at hx; cases hx
      exact ⟨N, by rw [T, if_pos rfl], n_kind.1, n_kind.2.1, n_kind.2.2.1, n_kind.2.2.2, fun e => absurd rfl e⟩
    · exact ⟨m, get x m hx e, rfl, rfl, rfl, rfl, fun _ => rfl⟩
  refine ⟨?_, ?_, ?_, ?_, ?_, ?_⟩
  · obtain ⟨n0, h1, h2, h3, h4, h5, h6⟩ := I.rt
    obtain ⟨m', q1, q2, q3, q4, _⟩ := chk root n0 h1
    exact ⟨m', q1, by rw [q4]; exact h2, by rw [q2]; exact h3, by simp only [keyo root n0 h1]; rw [q3]; exact h4, by rw [q3]; exact h5, by rw [q3]; exact h6⟩
  · intro b n x hb hx
    rw [T] at hb
    by_cases e : b = cur
    · subst e
      rw [if_pos rfl] at hb; cases hb
      rcases n_kids x hx with hx | ⟨rfl, e0⟩
      · obtain ⟨m, g1, g2, g3, g4, g5, g6⟩ := I.kd b nd x hc hx
        refine ⟨m, get x m g1 (I.ch_ne hc (.inl hx)), g2, g3, g4, g5, ?_⟩
        simp only [keyo x m g1, keyo b nd hc]; exact g6
      · rcases hk with ⟨_, e2⟩ | ⟨e2, _⟩ | ⟨e2, _⟩
        · refine ⟨⟨k, s, some b, [], none, none, h⟩, by rw [T, if_neg (fun e => hcn e.symm), if_pos rfl], rfl, e0, by show s ≠ []; rw [hs]; simp, e2, ?_⟩
          simp only [if_pos, keyo b nd hc]
        · omega
        · omega
    · rw [if_neg e] at hb
      by_cases e1 : b = n1
      · rw [if_pos e1] at hb; cases hb; cases hx
      · rw [if_neg e1] at hb
        obtain ⟨m, g1, g2, g3, g4, g5, g6⟩ := I.kd b n x hb hx
        obtain ⟨m', q1, q2, q3, q4, _⟩ := chk x m g1
        refine ⟨m', q1, by rw [q4]; exact g2, by rw [q2]; exact g3, by rw [q3]; exact g4, by rw [q3]; exact g5, ?_⟩
        simp only [keyo x m g1, keyo b n hb]; rw [q3]; exact g6
  · intro b n x hb hx
    rw [T] at hb
    by_cases e : b = cur
    · subst e
      rw [if_pos rfl] at hb; cases hb
      rcases n_pc x hx with hx | ⟨rfl, e0⟩
      · obtain ⟨m, g1, g2, g3, g4, g5⟩ := I.pc b nd x hc hx
        refine ⟨m, get x m g1 (I.ch_ne hc (.inr (.inl hx))), g2, g3, g4, ?_⟩
        simp only [keyo x m g1, keyo b nd hc]; exact g5
      · rcases hk with ⟨e2, _⟩ | ⟨_, e2⟩ | ⟨e2, _⟩
        · omega
        · refine ⟨⟨k, s, some b, [], none, none, h⟩, by rw [T, if_neg (fun e => hcn e.symm), if_pos rfl], rfl, e0, e2, ?_⟩
          simp only [if_pos, keyo b nd hc]; rw [e2]
        · omega
    · rw [if_neg e] at hb
      by_cases e1 : b = n1
      · rw [if_pos e1] at hb; cases hb; cases hx
      · rw [if_neg e1] at hb
        obtain ⟨m, g1, g2, g3, g4, g5⟩ := I.pc b n x hb hx
        obtain ⟨m', q1, q2, q3, q4, _⟩ := chk x m g1
        refine ⟨m', q1, by rw [q4]; exact g2, by rw [q2]; exact g3, by rw [q3]; exact g4, ?_⟩
        simp only [keyo x m g1, keyo b n hb]; exact g5
  · intro b n x hb hx
    rw [T] at hb
    by_cases e : b = cur
    · subst e
      rw [if_pos rfl] at hb; cases hb
      rcases n_ac x hx with hx | ⟨rfl, e0⟩
      · obtain ⟨m, g1, g2, g3, g4, g5, g6⟩ := I.ac b nd x hc hx
        refine ⟨m, get x m g1 (I.ch_ne hc (.inr (.inr hx))), g2, g3, g4, ?_, g6⟩
        simp only [keyo x m g1, keyo b nd hc]; exact g5
      · rcases hk with ⟨e2, _⟩ | ⟨e2, _⟩ | ⟨_, e2, e3⟩
        · omega
        · omega
        · refine ⟨⟨k, s, some b, [], none, none, h⟩, by rw [T, if_neg (fun e => hcn e.symm), if_pos rfl], rfl, e0, e2, ?_, rfl, rfl, rfl, e3⟩
          simp only [if_pos, keyo b nd hc]; rw [e2]
    · rw [if_neg e] at hb
      by_cases e1 : b = n1
      · rw [if_pos e1] at hb; cases hb; cases hx
      · rw [if_neg e1] at hb
        obtain ⟨m, g1, g2, g3, g4, g5, g6⟩ := I.ac b n x hb hx
        by_cases ex : x = cur
        ·
          exfalso
          subst ex
          rw [hc] at g1; cases g1
          rcases hnk with q | q
          · exact q g3
          · exact q b n hb hx
        · refine ⟨m, get x m g1 ex, g2, g3, g4, ?_, g6⟩
          simp only [keyo x m g1, keyo b n hb]; exact g5
  · intro b n x x' m m' hb h1 h2 h3 h4 h5
    rw [T] at hb
    by_cases e : b = cur
    · subst e
      rw [if_pos rfl] at hb; cases hb
      have hhead : ∀ y m, y ∈ nd.kids → put (put t n1 ⟨k, s, some b, [], none, none, h⟩) b N y = some m → m.pre.head? ≠ some c := by
        intro y my hy hmy hh
        obtain ⟨m0, g1, _⟩ := I.kd b nd y hc hy
        rw [get y m0 g1 (I.ch_ne hc (.inl hy))] at hmy
        cases hmy
        have := List.find?_eq_none.1 hkid.1 y hy
        unfold headIs at this
        rw [g1] at this
        simp [hh] at this
      have hnew : ∀ m, put (put t n1 ⟨k, s, some b, [], none, none, h⟩) b N n1 = some m → m.pre.head? = some c := fun m hm => by
        rw [T, if_neg (fun e => hcn e.symm), if_pos rfl] at hm
        cases hm
        show s.head? = some c
        rw [hs]; rfl
      rcases n_kids x h1 with h1 | ⟨rfl, _⟩
      · rcases n_kids x' h2 with h2 | ⟨rfl, _⟩
        · obtain ⟨m0, g1, _⟩ := I.kd b nd x hc h1
          obtain ⟨m0', g1', _⟩ := I.kd b nd x' hc h2
          rw [get x m0 g1 (I.ch_ne hc (.inl h1))] at h3
          rw [get x' m0' g1' (I.ch_ne hc (.inl h2))] at h4
          cases h3; cases h4
          exact I.hd b nd x x' m m' hc h1 h2 g1 g1' h5
        · exact absurd (h5.trans (hnew m' h4)) (hhead x m h1 h3)
      · rcases n_kids x' h2 with h2 | ⟨rfl, _⟩
        · exact absurd (h5.symm.trans (hnew m h3)) (hhead x' m' h2 h4)
        · rfl
    · rw [if_neg e] at hb
      by_cases e1 : b = n1
      · rw [if_pos e1] at hb; cases hb; cases h1
      · rw [if_neg e1] at hb
        obtain ⟨m0, g1, _⟩ := I.kd b n x hb h1
        obtain ⟨m0', g1', _⟩ := I.kd b n x' hb h2
        obtain ⟨mm, q1, _, q3, _⟩ := chk x m0 g1
        obtain ⟨mm', p1, _, p3, _⟩ := chk x' m0' g1'
        rw [h3] at q1; cases q1
        rw [h4] at p1; cases p1
        exact I.hd b n x x' m0 m0' hb h1 h2 g1 g1' (by rw [← q3, ← p3]; exact h5)
  · intro b n hb hr
    rw [T] at hb
    by_cases e1 : b = n1
    · subst e1
      rw [if_neg (fun e => hcn e.symm), if_pos rfl] at hb
      cases hb
      exact ⟨cur, N, rfl, by rw [T, if_pos rfl], n_new⟩
    · have hb2 : ∃ n0, t b = some n0 ∧ n.par = n0.par := by
        by_cases e : b = cur
        · subst e; rw [if_pos rfl] at hb; cases hb; exact ⟨nd, hc, n_kind.2.2.1⟩
        · rw [if_neg e, if_neg e1] at hb; exact ⟨n, hb, rfl⟩
      obtain ⟨n0, g1, g2⟩ := hb2
      obtain ⟨p, np, q1, q2, q3⟩ := I.up b n0 g1 hr
      by_cases ep : p = cur
      · subst ep
        rw [hc] at q2; cases q2
        exact ⟨p, N, by rw [g2]; exact q1, by rw [T, if_pos rfl], n_ch b q3⟩
      · exact ⟨p, np, by rw [g2]; exact q1, get p np q2 ep, q3⟩
end
section
variable {t : Tb} {key : Nat → Str} {root : Nat}
theorem Inv.form (I : Inv t key root) {b : Nat} {nd : Nd} (hb : t b = some nd) : (nd.kind = 0 ∧ nd.pre ≠ [] ∧ ∀ x ∈ nd.pre, sp x = false) ∨ (nd.kind = 1 ∧ nd.pre = [58]) ∨ (nd.kind = 2 ∧ nd.pre = [42] ∧ nd.d.isSome) := by
  by_cases hr : b = root
  · obtain ⟨n0, h1, h2, h3, h4, h5, h6⟩ := I.rt
    subst hr
    rw [hb] at h1; cases h1
    exact .inl ⟨h3, h5, h6⟩
  · obtain ⟨p, np, h1, h2, h3⟩ := I.up b nd hb hr
    rcases h3 with h3 | h3 | h3
    · obtain ⟨m, g1, g2, g3, g4, g5, g6⟩ := I.kd p np b h2 h3
      rw [hb] at g1; cases g1
      exact .inl ⟨g3, g4, g5⟩
    · obtain ⟨m, g1, g2, g3, g4, g5⟩ := I.pc p np b h2 h3
      rw [hb] at g1; cases g1
      exact .inr (.inl ⟨g3, g4⟩)
    · obtain ⟨m, g1, g2, g3, g4, g5, g6, g7, g8, g9⟩ := I.ac p np b h2 h3
      rw [hb] at g1; cases g1
      exact .inr (.inr ⟨g3, g4, g9⟩)
theorem Inv.par_key (I : Inv t key root) {cur : Nat} {nd : Nd} (hc : t cur = some nd) {base : Str} (hb : key cur = base ++ nd.pre) {p : Nat} {np : Nd} (hp : t p = some np) (hch : Ch np cur) : key p = base := by
  obtain ⟨m, x, r, h1, _, h2, h3, _⟩ := I.ch hp hch
  rw [hc] at h1; cases h1
  rw [hb] at h3
  exact (List.append_cancel_right h3).symm
theorem Inv.root_base (I : Inv t key root) {nd : Nd} (hc : t root = some nd) {base : Str} (hb : key root = base ++ nd.pre) : base = [] := by
  obtain ⟨n0, h1, _, _, h4, _⟩ := I.rt
  rw [hc] at h1; cases h1
  rw [h4] at hb
  have := congrArg List.length hb
  simp at this
  exact this
theorem Inv.split (I : Inv t key root) {cur n1 : Nat} {nd : Nd} (hc : t cur = some nd) (hn : t n1 = none) {base a b' : Str} (hb : key cur = base ++ nd.pre) (hp : nd.pre = a ++ b') (ha : a ≠ []) (hb' : b' ≠ []) :
    Inv (put (put (rep t nd n1) n1 { nd with pre := b', par := some cur }) cur ⟨0, a, nd.par, [n1], none, none, none⟩) (fun x => if x = cur then base ++ a else if x = n1 then key cur else key x) root := by
  have hcn : cur ≠ n1 := by intro e; rw [e, hn] at hc; cases hc
  have h0 : nd.kind = 0 ∧ ∀ x ∈ nd.pre, sp x = false := by
    rcases I.form hc with h | h | h
    · exact ⟨h.1, h.2.2⟩
    · exfalso
      have := congrArg List.length (hp.symm.trans h.2)
      have := List.length_pos_iff.2 ha
      have := List.length_pos_iff.2 hb'
      simp at *; omega
    · exfalso
      have := congrArg List.length (hp.symm.trans h.2.1)
      have := List.length_pos_iff.2 ha
      have := List.length_pos_iff.2 hb'
      simp at *; omega
  have hsa : ∀ x ∈ a, sp x = false := fun x hx => h0.2 x (by rw [hp]; simp [hx])
  have hsb : ∀ x ∈ b', sp x = false := fun x hx => h0.2 x (by rw [hp]; simp [hx])
  have T : ∀ x, put (put (rep t nd n1) n1 { nd with pre := b', par := some cur }) cur ⟨0, a, nd.par, [n1], none, none, none⟩ x = if x = cur then some ⟨0, a, nd.par, [n1], none, none, none⟩ else if x = n1 then some { nd with pre := b', par := some cur } else rep t nd n1 x := fun x => rfl
  have R : ∀ x m, t x = some m → rep t nd n1 x = some (if x ∈ nd.kids ∨ nd.pc = some x ∨ nd.ac = some x then { m with par := some n1 } else m) := fun x m hx => by
    unfold rep
    by_cases e : x ∈ nd.kids ∨ nd.pc = some x ∨ nd.ac = some x
    · rw [if_pos e, if_pos e, hx]; rfl
    · rw [if_neg e, if_neg e, hx]
  have ne1 : ∀ x m, t x = some m → x ≠ n1 := fun x m hx e => by rw [e, hn] at hx; cases hx
  have new : ∀ x m, t x = some m → x ≠ cur → ∃ m', put (put (rep t nd n1) n1 { nd with pre := b', par := some cur }) cur ⟨0, a, nd.par, [n1], none, none, none⟩ x = some m' ∧ m'.kind = m.kind ∧ m'.pre = m.pre ∧ m'.kids = m.kids ∧ m'.pc = m.pc ∧ m'.ac = m.ac ∧ m'.d = m.d ∧ (Ch nd x → m'.par = some n1) ∧ (¬ Ch nd x → m'.par = m.par) := fun x m hx e => by
    rw [T, if_neg e, if_neg (ne1 x m hx), R x m hx]
    by_cases hch : x ∈ nd.kids ∨ nd.pc = some x ∨ nd.ac = some x
    · rw [if_pos hch]; exact ⟨_, rfl, rfl, rfl, rfl, rfl, rfl, rfl, fun _ => rfl, fun h => absurd hch h⟩
    · rw [if_neg hch]; exact ⟨_, rfl, rfl, rfl, rfl, rfl, rfl, rfl, fun h => absurd h hch, fun _ => rfl⟩
  have old : ∀ x m', put (put (rep t nd n1) n1 { nd with pre := b', par := some cur }) cur ⟨0, a, nd.par, [n1], none, none, none⟩ x = some m' → x ≠ cur → x ≠ n1 → ∃ m, t x = some m ∧ m'.kind = m.kind ∧ m'.pre = m.pre ∧ m'.kids = m.kids ∧ m'.pc = m.pc ∧ m'.ac = m.ac ∧ m'.d = m.d ∧ (Ch nd x → m'.par = some n1) ∧ (¬ Ch nd x → m'.par = m.par) := fun x m' hx e e1 => by
    cases hm : t x with
    | none =>
      rw [T, if_neg e, if_neg e1] at hx
      unfold rep at hx
      rw [hm] at hx
      split at hx <;> cases hx
    | some m =>
      obtain ⟨m2, h1, h2⟩ := new x m hm e
      rw [hx] at h1; cases h1
      exact ⟨m, rfl, h2⟩
  have ko : ∀ x m, t x = some m → x ≠ cur → (if x = cur then base ++ a else if x = n1 then key cur else key x) = key x := fun x m hx e => by rw [if_neg e, if_neg (ne1 x m hx)]
  have kc : (if cur = cur then base ++ a else if cur = n1 then key cur else key cur) = base ++ a := if_pos rfl
  have k1 : (if n1 = cur then base ++ a else if n1 = n1 then key cur else key n1) = key cur := by rw [if_neg (fun e => hcn e.symm), if_pos rfl]
  have tcur : put (put (rep t nd n1) n1 { nd with pre := b', par := some cur }) cur ⟨0, a, nd.par, [n1], none, none, none⟩ cur = some ⟨0, a, nd.par, [n1], none, none, none⟩ := by rw [T, if_pos rfl]
  have tn1 : put (put (rep t nd n1) n1 { nd with pre := b', par := some cur }) cur ⟨0, a, nd.par, [n1], none, none, none⟩ n1 = some { nd with pre := b', par := some cur } := by rw [T, if_neg (fun e => hcn e.symm), if_pos rfl]
  have two : ∀ x p np, t p = some np → Ch np x → p ≠ cur → ¬ Ch nd x := fun x p np hpp hx hne hx2 => by
    obtain ⟨m, g1, g2⟩ := I.ch_some hpp hx
    obtain ⟨m2, q1, q2⟩ := I.ch_some hc hx2
    rw [g1] at q1; cases q1
    rw [g2] at q2
    exact hne (Option.some.inj q2)
  refine ⟨?_, ?_, ?_, ?_, ?_, ?_⟩
  · obtain ⟨n0, h1, h2, h3, h4, h5, h6⟩ := I.rt
    by_cases e : root = cur
    · subst e
      rw [hc] at h1; cases h1
      have hbase := I.root_base hc hb
      refine ⟨_, tcur, h2, rfl, ?_, ha, hsa⟩
      show (if root = root then base ++ a else _) = a
      rw [if_pos rfl, hbase]; rfl
    · obtain ⟨m', g1, g2, g3, _, _, _, _, _, g4⟩ := new root n0 h1 e
      have hnc : ¬ Ch nd root := fun hx => by
        obtain ⟨m, q1, q2⟩ := I.ch_some hc hx
        rw [h1] at q1; cases q1
        rw [h2] at q2; cases q2
      refine ⟨m', g1, by rw [g4 hnc]; exact h2, by rw [g2]; exact h3, ?_, by rw [g3]; exact h5, by rw [g3]; exact h6⟩
      show (if root = cur then base ++ a else if root = n1 then key cur else key root) = m'.pre
      rw [ko root n0 h1 e, g3]; exact h4
  · intro b n x hbn hx
    by_cases e : b = cur
    · subst e
      rw [tcur] at hbn; cases hbn
      obtain rfl : x = n1 := by simpa using hx
      refine ⟨_, tn1, rfl, h0.1, hb', hsb, ?_⟩
      show (if x = b then base ++ a else if x = x then key b else key x) = (if b = b then base ++ a else _) ++ b'
      rw [k1, if_pos rfl, hb, hp, List.append_assoc]
    · by_cases e1 : b = n1
      · subst e1
        rw [tn1] at hbn; cases hbn
        have hx' : x ∈ nd.kids := hx
        obtain ⟨m, g1, g2, g3, g4, g5, g6⟩ := I.kd cur nd x hc hx'
        obtain ⟨m', q1, q2, q3, q4, q5, q6, q7, q8, q9⟩ := new x m g1 (I.ch_ne hc (.inl hx'))
        refine ⟨m', q1, q8 (.inl hx'), by rw [q2]; exact g3, by rw [q3]; exact g4, by rw [q3]; exact g5, ?_⟩
        show (if x = cur then base ++ a else if x = b then key cur else key x) = (if b = cur then base ++ a else if b = b then key cur else key b) ++ m'.pre
        rw [ko x m g1 (I.ch_ne hc (.inl hx')), k1, q3]; exact g6
      · obtain ⟨n0, g1, g2, g3, g4, g5, g6, g7, g8, g9⟩ := old b n hbn e e1
        rw [g4] at hx
        obtain ⟨m, r1, r2, r3, r4, r5, r6⟩ := I.kd b n0 x g1 hx
        by_cases ex : x = cur
        · subst ex
          rw [hc] at r1; cases r1
          refine ⟨_, tcur, r2, rfl, ha, hsa, ?_⟩
          show (if x = x then base ++ a else _) = (if b = x then base ++ a else if b = n1 then key x else key b) ++ a
          rw [if_pos rfl, ko b n0 g1 e, I.par_key hc hb g1 (.inl hx)]
        · obtain ⟨m', q1, q2, q3, q4, q5, q6, q7, q8, q9⟩ := new x m r1 ex
          refine ⟨m', q1, by rw [q9 (two x b n0 g1 (.inl hx) e)]; exact r2, by rw [q2]; exact r3, by rw [q3]; exact r4, by rw [q3]; exact r5, ?_⟩
          show (if x = cur then base ++ a else if x = n1 then key cur else key x) = (if b = cur then base ++ a else if b = n1 then key cur else key b) ++ m'.pre
          rw [ko x m r1 ex, ko b n0 g1 e, q3]; exact r6
  · intro b n x hbn hx
    by_cases e : b = cur
    · subst e
      rw [tcur] at hbn; cases hbn; cases hx
    · by_cases e1 : b = n1
      · subst e1
        rw [tn1] at hbn; cases hbn
        have hx' : nd.pc = some x := hx
        obtain ⟨m, g1, g2, g3, g4, g5⟩ := I.pc cur nd x hc hx'
        obtain ⟨m', q1, q2, q3, q4, q5, q6, q7, q8, q9⟩ := new x m g1 (I.ch_ne hc (.inr (.inl hx')))
        refine ⟨m', q1, q8 (.inr (.inl hx')), by rw [q2]; exact g3, by rw [q3]; exact g4, ?_⟩
        show (if x = cur then base ++ a else if x = b then key cur else key x) = (if b = cur then base ++ a else if b = b then key cur else key b) ++ [58]
        rw [ko x m g1 (I.ch_ne hc (.inr (.inl hx'))), k1]; exact g5
      · obtain ⟨n0, g1, g2, g3, g4, g5, g6, g7, g8, g9⟩ := old b n hbn e e1
        rw [g5] at hx
        obtain ⟨m, r1, r2, r3, r4, r5⟩ := I.pc b n0 x g1 hx
        by_cases ex : x = cur
        · exfalso
          subst ex
          rw [hc] at r1; cases r1
          rw [r3] at h0; exact absurd h0.1 (by decide)
        · obtain ⟨m', q1, q2, q3, q4, q5, q6, q7, q8, q9⟩ := new x m r1 ex
          refine ⟨m', q1, by rw [q9 (two x b n0 g1 (.inr (.inl hx)) e)]; exact r2, by rw [q2]; exact r3, by rw [q3]; exact r4, ?_⟩
          show (if x = cur then base ++ a else if x = n1 then key cur else key x) = (if b = cur then base ++ a else if b = n1 then key cur else key b) ++ [58]
          rw [ko x m r1 ex, ko b n0 g1 e]; exact r5
  · intro b n x hbn hx
    by_cases e : b = cur
    · subst e
      rw [tcur] at hbn; cases hbn; cases hx
    · by_cases e1 : b = n1
      · subst e1
        rw [tn1] at hbn; cases hbn
        have hx' : nd.ac = some x := hx
        obtain ⟨m, g1, g2, g3, g4, g5, g6, g7, g8, g9⟩ := I.ac cur nd x hc hx'
        obtain ⟨m', q1, q2, q3, q4, q5, q6, q7, q8, q9⟩ := new x m g1 (I.ch_ne hc (.inr (.inr hx')))
        refine ⟨m', q1, q8 (.inr (.inr hx')), by rw [q2]; exact g3, by rw [q3]; exact g4, ?_, by rw [q4]; exact g6, by rw [q5]; exact g7, by rw [q6]; exact g8, by rw [q7]; exact g9⟩
        show (if x = cur then base ++ a else if x = b then key cur else key x) = (if b = cur then base ++ a else if b = b then key cur else key b) ++ [42]
        rw [ko x m g1 (I.ch_ne hc (.inr (.inr hx'))), k1]; exact g5
      · obtain ⟨n0, g1, g2, g3, g4, g5, g6, g7, g8, g9⟩ := old b n hbn e e1
        rw [g6] at hx
        obtain ⟨m, r1, r2, r3, r4, r5, r6, r7, r8, r9⟩ := I.ac b n0 x g1 hx
        by_cases ex : x = cur
        · exfalso
          subst ex
          rw [hc] at r1; cases r1
          rw [r3] at h0; exact absurd h0.1 (by decide)
        · obtain ⟨m', q1, q2, q3, q4, q5, q6, q7, q8, q9⟩ := new x m r1 ex
          refine ⟨m', q1, by rw [q9 (two x b n0 g1 (.inr (.inr hx)) e)]; exact r2, by rw [q2]; exact r3, by rw [q3]; exact r4, ?_, by rw [q4]; exact r6, by rw [q5]; exact r7, by rw [q6]; exact r8, by rw [q7]; exact r9⟩
          show (if x = cur then base ++ a else if x = n1 then key cur else key x) = (if b = cur then base ++ a else if b = n1 then key cur else key b) ++ [42]
          rw [ko x m r1 ex, ko b n0 g1 e]; exact r5
  · intro b n x x' m m' hbn hx hx' hm hm' hh
    by_cases e : b = cur
    · subst e
      rw [tcur] at hbn; cases hbn
      rw [show x = n1 by simpa using hx, show x' = n1 by simpa using hx']
    · have key1 : ∀ (b0 : Nat) (n0 : Nd), t b0 = some n0 → x ∈ n0.kids → x' ∈ n0.kids → x = x' := by
        intro b0 n0 g1 k2 k3
        obtain ⟨mm, r1, _⟩ := I.kd b0 n0 x g1 k2
        obtain ⟨mm', r1', _⟩ := I.kd b0 n0 x' g1 k3
        have hpre : ∀ y my mq, t y = some my → put (put (rep t nd n1) n1 { nd with pre := b', par := some cur }) cur ⟨0, a, nd.par, [n1], none, none, none⟩ y = some mq → mq.pre.head? = my.pre.head? := by
          intro y my mq hy hq
          by_cases ey : y = cur
          · subst ey
            rw [hc] at hy; cases hy
            rw [tcur] at hq; cases hq
            show a.head? = nd.pre.head?
            rw [hp]
            cases a with
            | nil => exact absurd rfl ha
            | cons z r => rfl
          · obtain ⟨m2, q1, _, q3, _⟩ := new y my hy ey
            rw [hq] at q1; cases q1
            rw [q3]
        exact I.hd b0 n0 x x' mm mm' g1 k2 k3 r1 r1' (by rw [← hpre x mm m r1 hm, ← hpre x' mm' m' r1' hm']; exact hh)
      by_cases e1 : b = n1
      · subst e1
        rw [tn1] at hbn; cases hbn
        exact key1 cur nd hc hx hx'
      · obtain ⟨n0, g1, g2, g3, g4, _⟩ := old b n hbn e e1
        rw [g4] at hx hx'
        exact key1 b n0 g1 hx hx'
  · intro b n hbn hr
    have newp : ∀ p np, t p = some np → p ≠ cur → ∃ np', put (put (rep t nd n1) n1 { nd with pre := b', par := some cur }) cur ⟨0, a, nd.par, [n1], none, none, none⟩ p = some np' ∧ ∀ y, Ch np y → Ch np' y := fun p np hpp e => by
      obtain ⟨m', q1, _, _, q4, q5, q6, _⟩ := new p np hpp e
      exact ⟨m', q1, fun y hy => by unfold Ch at hy ⊢; rw [q4, q5, q6]; exact hy⟩
    by_cases e : b = cur
    · subst e
      rw [tcur] at hbn; cases hbn
      obtain ⟨p, np, q1, q2, q3⟩ := I.up b nd hc hr
      obtain ⟨np', r1, r2⟩ := newp p np q2 (fun e => I.ch_ne q2 q3 e.symm)
      exact ⟨p, np', q1, r1, r2 b q3⟩
    · by_cases e1 : b = n1
      · subst e1
        rw [tn1] at hbn; cases hbn
        exact ⟨cur, _, rfl, tcur, .inl (by simp)⟩
      · obtain ⟨n0, g1, g2, g3, g4, g5, g6, g7, g8, g9⟩ := old b n hbn e e1
        obtain ⟨p, np, q1, q2, q3⟩ := I.up b n0 g1 hr
        by_cases ep : p = cur
        · subst ep
          rw [hc] at q2; cases q2
          exact ⟨n1, _, g8 q3, tn1, q3⟩
        · obtain ⟨np', r1, r2⟩ := newp p np q2 ep
          exact ⟨p, np', by rw [g9 (two b p np q2 q3 ep)]; exact q1, r1, r2 b q3⟩
end
theorem lcp_le : ∀ s p : Str, lcp s p ≤ s.length ∧ lcp s p ≤ p.length
  | [], _ => by simp [lcp]
  | _ :: _, [] => by simp [lcp]
  | a :: s, b :: p => by
    unfold lcp
    have := lcp_le s p
    split <;> simp <;> omega
theorem lcp_take : ∀ s p : Str, s.take (lcp s p) = p.take (lcp s p)
  | [], _ => by simp [lcp]
  | _ :: _, [] => by simp [lcp]
  | a :: s, b :: p => by
    unfold lcp
    have := lcp_take s p
    split
    · rename_i e; subst e; simp [this]
    · simp
theorem lcp_pos {s p : Str} {x : UInt8} (h : s.head? = some x) (h' : p.head? = some x) : 0 < lcp s p := by
  cases s with
  | nil => cases h
  | cons a s =>
    cases p with
    | nil => cases h'
    | cons b p =>
      cases h; cases h'
      simp [lcp]
theorem lcp_pre : ∀ {s p : Str}, p <+: s → lcp s p = p.length
  | s, [], _ => by cases s <;> rfl
  | [], b :: p, h => by have := h.length_le; simp at this
  | a :: s, b :: p, h => by
    obtain ⟨r, hr⟩ := h
    have h1 := (List.cons.inj hr).1
    subst h1
    have := lcp_pre (s := s) (p := p) ⟨r, (List.cons.inj hr).2⟩
    simp [lcp, this]
theorem lcp_ne : ∀ {s p : Str} {x y : UInt8} {r r' : Str}, s.drop (lcp s p) = x :: r → p.drop (lcp s p) = y :: r' → x ≠ y
  | [], p, x, y, r, r', h, _ => by simp at h
  | a :: s, [], x, y, r, r', _, h => by simp at h
  | a :: s, b :: p, x, y, r, r', h, h' => by
    unfold lcp at h h'
    by_cases e : a = b
    · rw [if_pos e] at h h'
      exact lcp_ne (s := s) (p := p) (by simpa using h) (by simpa using h')
    · rw [if_neg e] at h h'
      simp at h h'
      rw [← h.1, ← h'.1]; exact e
structure PreC (t : Tb) (key : Nat → Str) (S : Str) (k : Nat) (h : Option Dat) : Prop where
  k3 : k = 0 ∨ (k = 1 ∧ ∃ S0, S = S0 ++ [58] ∧ Has t key S0) ∨ (k = 2 ∧ h.isSome ∧ ∃ S0, S = S0 ++ [42] ∧ Has t key S0)
  sp : ∀ i c, S[i]? = some c → sp c = true → (i + 1 < S.length ∨ k = 0) → c = 58 ∧ Has t key (S.take (i + 1))
structure Grow (t : Tb) (key : Nat → Str) (t' : Tb) (key' : Nat → Str) (S : Str) (h : Option Dat) (n1 n2 : Nat) : Prop where
  has : ∀ K, Has t key K → Has t' key' K
  new : Has t' key' S
  leaf : ∀ K d, Leaf t' key' K d ↔ Leaf t key K d ∨ (K = S ∧ h = some d)
  dom : ∀ x, t' x ≠ none → t x ≠ none ∨ x = n1 ∨ x = n2
  old : ∀ K, Has t' key' K → Has t key K ∨ K <+: S
section
variable {t : Tb} {key : Nat → Str} {root : Nat}
theorem Inv.through (I : Inv t key root) {cur : Nat} {nd : Nd} (hc : t cur = some nd) {base : Str} (hb : key cur = base ++ nd.pre) {b' : Nat} {nd' : Nd} (h' : t b' = some nd') {x : UInt8} {w v : Str} (hw : key b' = base ++ x :: w) (hx : nd.pre = x :: v) : key cur <+: key b' := by
  by_cases hr : cur = root
  · rw [hr]; exact I.root_pre _ b' nd' rfl h'
  · obtain ⟨p, np, h1, h2, h3⟩ := I.up cur nd hc hr
    have hpk := I.par_key hc hb h2 h3
    obtain ⟨c, k1, k2⟩ := I.desc h2 h' (x := x) (r := w) (by rw [hw, hpk])
    obtain ⟨m, y, r, _, _, g2, g3, _⟩ := I.ch h2 k1
    have hyx : y = x := by
      obtain ⟨q, hq⟩ := k2
      rw [g3, g2, hw, hpk, List.append_assoc] at hq
      exact (List.cons.inj (List.append_cancel_left hq)).1
    subst hyx
    have := I.ch_eq h2 h3 k1 (x := y) (r := v) (r' := r) (by rw [hb, hx, hpk]) (by rw [g3, g2])
    rw [this]; exact k2
theorem kidL_some (I : Inv t key root) {cur : Nat} {nd : Nd} (hc : t cur = some nd) {c : UInt8} {b : Nat} (h : kidL t nd c = some b) : Ch nd b ∧ ∃ m, t b = some m ∧ m.pre.head? = some c := by
  unfold kidL at h
  cases hk : kid t nd c with
  | some k =>
    rw [hk] at h
    cases h
    unfold kid at hk
    have h1 := List.mem_of_find?_eq_some hk
    have h2 := List.find?_some hk
    obtain ⟨m, g1, _⟩ := I.kd cur nd b hc h1
    refine ⟨.inl h1, m, g1, ?_⟩
    unfold headIs at h2
    rw [g1] at h2
    simpa using h2
  | none =>
    rw [hk] at h
    by_cases e : c = 58
    · simp only [e, if_true] at h
      obtain ⟨m, g1, _, _, g4, _⟩ := I.pc cur nd b hc h
      exact ⟨.inr (.inl h), m, g1, by rw [g4, e]; rfl⟩
    · by_cases e2 : c = 42
      · subst e2
        have h : nd.ac = some b := h
        obtain ⟨m, g1, _, _, g4, _⟩ := I.ac cur nd b hc h
        exact ⟨.inr (.inr h), m, g1, by rw [g4]; rfl⟩
      · simp only at h
        rw [if_neg e, if_neg e2] at h
        cases h
theorem kidL_none (I : Inv t key root) {cur : Nat} {nd : Nd} (hc : t cur = some nd) {c : UInt8} (h : kidL t nd c = none) {b' : Nat} {nd' : Nd} (h' : t b' = some nd') {r : Str} (hk : key b' = key cur ++ c :: r) : False := by
  obtain ⟨x, hx, hxp⟩ := I.desc hc h' hk
  obtain ⟨m, y, q, g1, _, g2, g3, g4⟩ := I.ch hc hx
  have hyc : y = c := by
    obtain ⟨w, hw⟩ := hxp
    rw [g3, g2, hk, List.append_assoc] at hw
    exact (List.cons.inj (List.append_cancel_left hw)).1
  subst hyc
  unfold kidL at h
  cases hkd : kid t nd y with
  | some k => rw [hkd] at h; cases h
  | none =>
    rw [hkd] at h
    rcases g4 with ⟨_, g4⟩ | ⟨e, g4⟩ | ⟨e, g4⟩
    · have := List.find?_eq_none.1 hkd x g4
      unfold headIs at this
      rw [g1] at this
      simp [g2] at this
    · subst e
      simp only [if_true] at h
      rw [h] at g4; cases g4
    · subst e
      have h : nd.ac = none := h
      rw [h] at g4; cases g4
theorem leaf_set {n1 n2 cur : Nat} {nd : Nd} (I : Inv t key root) (hc : t cur = some nd) (h : Option Dat) (hh : h.isSome) (hd : nd.d = none) : Grow t key (put t cur { nd with d := h }) key (key cur) h n1 n2 := by
  refine ⟨fun K ⟨b, n, h1, h2⟩ => ?_, ⟨cur, _, put_self _ _ _, rfl⟩, fun K d => ⟨fun ⟨b, n, h1, h2, h3⟩ => ?_, fun h0 => ?_⟩, fun x hx => ?_, fun K ⟨b, n, h1, h2⟩ => ?_⟩
  · by_cases e : b = cur
    · subst e; exact ⟨b, _, put_self _ _ _, h2⟩
    · exact ⟨b, n, by rw [put_ne _ _ e]; exact h1, h2⟩
  · by_cases e : b = cur
    · subst e
      rw [put_self] at h1; cases h1
      exact .inr ⟨h2.symm, h3⟩
    · rw [put_ne _ _ e] at h1
      exact .inl ⟨b, n, h1, h2, h3⟩
  · rcases h0 with ⟨b, n, h1, h2, h3⟩ | ⟨rfl, h2⟩
    · have e : b ≠ cur := fun e => by subst e; rw [hc] at h1; cases h1; rw [hd] at h3; cases h3
      exact ⟨b, n, by rw [put_ne _ _ e]; exact h1, h2, h3⟩
    · exact ⟨cur, _, put_self _ _ _, rfl, h2⟩
  · by_cases e : x = cur
    · subst e; left; rw [hc]; simp
    · rw [put_ne _ _ e] at hx; exact .inl hx
  · left
    by_cases e : b = cur
    · subst e; exact ⟨b, nd, hc, h2⟩
    · rw [put_ne _ _ e] at h1; exact ⟨b, n, h1, h2⟩
theorem leaf_add {cur n1 n2 : Nat} {nd N : Nd} (I : Inv t key root) (hc : t cur = some nd) (hn : t n1 = none) (k : Nat) (s : Str) (h : Option Dat) (hN : N.d = nd.d) :
    Grow t key (put (put t n1 ⟨k, s, some cur, [], none, none, h⟩) cur N) (fun x => if x = n1 then key cur ++ s else key x) (key cur ++ s) h n1 n2 := by
  have hcn : cur ≠ n1 := by intro e; rw [e, hn] at hc; cases hc
  have ne1 : ∀ x m, t x = some m → x ≠ n1 := fun x m hx e => by rw [e, hn] at hx; cases hx
  have T : ∀ x, put (put t n1 ⟨k, s, some cur, [], none, none, h⟩) cur N x = if x = cur then some N else if x = n1 then some ⟨k, s, some cur, [], none, none, h⟩ else t x := fun x => rfl
  refine ⟨fun K ⟨b, n, h1, h2⟩ => ?_, ⟨n1, _, by rw [T, if_neg (fun e => hcn e.symm), if_pos rfl], if_pos rfl⟩, fun K d => ⟨fun ⟨b, n, h1, h2, h3⟩ => ?_, fun h0 => ?_⟩, fun x hx => ?_, fun K ⟨b, n, h1, h2⟩ => ?_⟩
  · by_cases e : b = cur
    · subst e; exact ⟨b, N, by rw [T, if_pos rfl], by show (if b = n1 then _ else key b) = K; rw [if_neg hcn]; exact h2⟩
    · exact ⟨b, n, by rw [T, if_neg e, if_neg (ne1 b n h1)]; exact h1, by show (if b = n1 then _ else key b) = K; rw [if_neg (ne1 b n h1)]; exact h2⟩
  · rw [T] at h1
    by_cases e : b = cur
    · subst e
      rw [if_pos rfl] at h1; cases h1
      have h2' : key b = K := by have h4 : (if b = n1 then key b ++ s else key b) = K := h2; rwa [if_neg hcn] at h4
      exact .inl ⟨b, nd, hc, h2', by rw [← hN]; exact h3⟩
    · rw [if_neg e] at h1
      by_cases e1 : b = n1
      · rw [if_pos e1] at h1; cases h1
        have h4 : (if b = n1 then key cur ++ s else key b) = K := h2
        rw [if_pos e1] at h4
        exact .inr ⟨h4.symm, h3⟩
      · rw [if_neg e1] at h1
        have h4 : (if b = n1 then key cur ++ s else key b) = K := h2
        rw [if_neg e1] at h4
        exact .inl ⟨b, n, h1, h4, h3⟩
  · rcases h0 with ⟨b, n, h1, h2, h3⟩ | ⟨rfl, h2⟩
    · have e1 := ne1 b n h1
      by_cases e : b = cur
      · subst e
        rw [hc] at h1; cases h1
        exact ⟨b, N, by rw [T, if_pos rfl], by show (if b = n1 then _ else key b) = K; rw [if_neg hcn]; exact h2, by rw [hN]; exact h3⟩
      · exact ⟨b, n, by rw [T, if_neg e, if_neg e1]; exact h1, by show (if b = n1 then _ else key b) = K; rw [if_neg e1]; exact h2, h3⟩
    · exact ⟨n1, _, by rw [T, if_neg (fun e => hcn e.symm), if_pos rfl], if_pos rfl, h2⟩
  · rw [T] at hx
    by_cases e : x = cur
    · subst e; left; rw [hc]; simp
    · rw [if_neg e] at hx
      by_cases e1 : x = n1
      · exact .inr (.inl e1)
      · rw [if_neg e1] at hx; exact .inl hx
  · rw [T] at h1
    by_cases e1 : b = n1
    · have h4 : (if b = n1 then key cur ++ s else key b) = K := h2
      rw [if_pos e1] at h4
      exact .inr (by rw [h4]; exact List.prefix_refl _)
    · have h4 : (if b = n1 then key cur ++ s else key b) = K := h2
      rw [if_neg e1] at h4
      by_cases e : b = cur
      · subst e; exact .inl ⟨b, nd, hc, h4⟩
      · rw [if_neg e, if_neg e1] at h1; exact .inl ⟨b, n, h1, h4⟩
theorem leaf_split {cur n1 : Nat} {nd : Nd} (hc : t cur = some nd) (hn : t n1 = none) {base a b' : Str} :
    (∀ K, Has t key K → Has (put (put (rep t nd n1) n1 { nd with pre := b', par := some cur }) cur ⟨0, a, nd.par, [n1], none, none, none⟩) (fun x => if x = cur then base ++ a else if x = n1 then key cur else key x) K) ∧
    (∀ K d, Leaf (put (put (rep t nd n1) n1 { nd with pre := b', par := some cur }) cur ⟨0, a, nd.par, [n1], none, none, none⟩) (fun x => if x = cur then base ++ a else if x = n1 then key cur else key x) K d ↔ Leaf t key K d) ∧
    (∀ x, put (put (rep t nd n1) n1 { nd with pre := b', par := some cur }) cur ⟨0, a, nd.par, [n1], none, none, none⟩ x ≠ none → t x ≠ none ∨ x = n1) ∧
    (∀ K, Has (put (put (rep t nd n1) n1 { nd with pre := b', par := some cur }) cur ⟨0, a, nd.par, [n1], none, none, none⟩) (fun x => if x = cur then base ++ a else if x = n1 then key cur else key x) K → Has t key K ∨ K = base ++ a) := by
  have hcn : cur ≠ n1 := by intro e; rw [e, hn] at hc; cases hc
  have ne1 : ∀ x m, t x = some m → x ≠ n1 := fun x m hx e => by rw [e, hn] at hx; cases hx
  have T : ∀ x, put (put (rep t nd n1) n1 { nd with pre := b', par := some cur }) cur ⟨0, a, nd.par, [n1], none, none, none⟩ x = if x = cur then some ⟨0, a, nd.par, [n1], none, none, none⟩ else if x = n1 then some { nd with pre := b', par := some cur } else rep t nd n1 x := fun x => rfl
  have R : ∀ x m, t x = some m → ∃ m', rep t nd n1 x = some m' ∧ m'.d = m.d := fun x m hx => by
    unfold rep
    split
    · rw [hx]; exact ⟨_, rfl, rfl⟩
    · exact ⟨m, hx, rfl⟩
  have R' : ∀ x m', rep t nd n1 x = some m' → ∃ m, t x = some m ∧ m'.d = m.d := fun x m' hx => by
    cases hm : t x with
    | none => unfold rep at hx; rw [hm] at hx; split at hx <;> cases hx
    | some m =>
      obtain ⟨m2, h1, h2⟩ := R x m hm
      rw [hx] at h1; cases h1
      exact ⟨m, rfl, h2⟩
  have ko : ∀ x, x ≠ cur → x ≠ n1 → (fun x => if x = cur then base ++ a else if x = n1 then key cur else key x) x = key x := fun x h1 h2 => by show (if x = cur then _ else if x = n1 then _ else key x) = _; rw [if_neg h1, if_neg h2]
  have k1 : (fun x => if x = cur then base ++ a else if x = n1 then key cur else key x) n1 = key cur := by show (if n1 = cur then _ else if n1 = n1 then _ else _) = _; rw [if_neg (fun e => hcn e.symm), if_pos rfl]
  refine ⟨fun K ⟨b, n, h1, h2⟩ => ?_, fun K d => ⟨fun ⟨b, n, h1, h2, h3⟩ => ?_, fun ⟨b, n, h1, h2, h3⟩ => ?_⟩, fun x hx => ?_, fun K ⟨b, n, h1, h2⟩ => ?_⟩
  · by_cases e : b = cur
    · subst e
      exact ⟨n1, _, by rw [T, if_neg (fun e => hcn e.symm), if_pos rfl], by rw [k1]; exact h2⟩
    · obtain ⟨m', q1, _⟩ := R b n h1
      exact ⟨b, m', by rw [T, if_neg e, if_neg (ne1 b n h1)]; exact q1, by rw [ko b e (ne1 b n h1)]; exact h2⟩
  · rw [T] at h1
    by_cases e : b = cur
    · rw [if_pos e] at h1; cases h1; cases h3
    · rw [if_neg e] at h1
      by_cases e1 : b = n1
      · rw [if_pos e1] at h1; cases h1
        subst e1
        rw [k1] at h2
        exact ⟨cur, nd, hc, h2, h3⟩
      · rw [if_neg e1] at h1
        obtain ⟨m, q1, q2⟩ := R' b n h1
        rw [ko b e e1] at h2
        exact ⟨b, m, q1, h2, by rw [← q2]; exact h3⟩
  · by_cases e : b = cur
    · subst e
      rw [hc] at h1; cases h1
      exact ⟨n1, { nd with pre := b', par := some b }, by rw [T, if_neg (fun e => hcn e.symm), if_pos rfl], by rw [k1]; exact h2, h3⟩
    · obtain ⟨m', q1, q2⟩ := R b n h1
      exact ⟨b, m', by rw [T, if_neg e, if_neg (ne1 b n h1)]; exact q1, by rw [ko b e (ne1 b n h1)]; exact h2, by rw [q2]; exact h3⟩
  · rw [T] at hx
    by_cases e : x = cur
    · subst e; left; rw [hc]; simp
    · rw [if_neg e] at hx
      by_cases e1 : x = n1
      · exact .inr e1
      · rw [if_neg e1] at hx
        left
        cases hr : rep t nd n1 x with
        | none => exact absurd hr hx
        | some m' => obtain ⟨m, q1, _⟩ := R' x m' hr; rw [q1]; simp
  · rw [T] at h1
    by_cases e : b = cur
    · have h4 : (if b = cur then base ++ a else if b = n1 then key cur else key b) = K := h2
      rw [if_pos e] at h4
      exact .inr h4.symm
    · rw [if_neg e] at h1
      by_cases e1 : b = n1
      · subst e1
        rw [k1] at h2
        exact .inl ⟨cur, nd, hc, h2⟩
      · rw [if_neg e1] at h1
        obtain ⟨m, q1, q2⟩ := R' b n h1
        rw [ko b e e1] at h2
        exact .inl ⟨b, m, q1, h2⟩
theorem Grow.of_split {t1 t' : Tb} {key1 key' : Nat → Str} {S : Str} {h : Option Dat} {n1 n2 : Nat} (h1 : ∀ K, Has t key K → Has t1 key1 K) (h2 : ∀ K d, Leaf t1 key1 K d ↔ Leaf t key K d) (h3 : ∀ x, t1 x ≠ none → t x ≠ none ∨ x = n1) {B : Str} (h4 : ∀ K, Has t1 key1 K → Has t key K ∨ K = B) (h5 : B <+: S) (g : Grow t1 key1 t' key' S h n2 n1) : Grow t key t' key' S h n1 n2 :=
  ⟨fun K hk => g.has K (h1 K hk), g.new, fun K d => by rw [g.leaf K d, h2 K d], fun x hx => by
    rcases g.dom x hx with e | e | e
    · rcases h3 x e with e | e
      · exact .inl e
      · exact .inr (.inl e)
    · exact .inr (.inr e)
    · exact .inr (.inl e), fun K hk => by
    rcases g.old K hk with e | e
    · rcases h4 K e with e | e
      · exact .inl e
      · exact .inr (e ▸ h5)
    · exact .inr e⟩
end
theorem put_put (t : Tb) (b : Nat) (n m : Nd) : put (put t b n) b m = put t b m := by
  funext x
  unfold put
  by_cases e : x = b
  · simp [e]
  · simp [e]
theorem put_comm (t : Tb) {b c : Nat} (n m : Nd) (h : b ≠ c) : put (put t b n) c m = put (put t c m) b n := by
  funext x
  unfold put
  by_cases e : x = b
  · subst e; simp [h]
  · simp [e]
theorem put_same (t : Tb) (b : Nat) (n : Nd) (h : t b = some n) : put t b n = t := by
  funext x
  unfold put
  by_cases e : x = b
  · subst e; simp [h]
  · simp [e]
section
variable {t : Tb} {key : Nat → Str} {root : Nat}
theorem ins_ok (I : Inv t key root) {S : Str} {k : Nat} {h : Option Dat} {n1 n2 : Nat} (P : PreC t key S k h) (hn1 : t n1 = none) (hn2 : t n2 = none) (h12 : n1 ≠ n2) :
    ∀ (f cur : Nat) (nd : Nd) (s base : Str), t cur = some nd → S = base ++ s → key cur = base ++ nd.pre → (∃ x r r', s = x :: r ∧ nd.pre = x :: r') → s.length < f →
      ∃ t' b, ins f t cur s k h n1 n2 = some (t', b) ∧ ((b = true ∧ t' = t ∧ h.isSome ∧ ∃ d, Leaf t key S d) ∨ (b = false ∧ (h.isSome → ¬ ∃ d, Leaf t key S d) ∧ ∃ key', Inv t' key' root ∧ Grow t key t' key' S h n1 n2)) := by
  intro f
  induction f with
  | zero => intro cur nd s base _ _ _ _ hf; omega
  | succ f ih =>
    intro cur nd s base hc hS hk ⟨x, r, r', hs, hp⟩ hf
    have hl0 : 0 < lcp s nd.pre := lcp_pos (x := x) (by rw [hs]; rfl) (by rw [hp]; rfl)
    obtain ⟨hl1, hl2⟩ := lcp_le s nd.pre
    have htk := lcp_take s nd.pre
    have hform := I.form hc
    have thr : ∀ b' nd' w, t b' = some nd' → key b' = base ++ x :: w → key cur <+: key b' := fun b' nd' w h1 h2 => I.through hc hk h1 h2 hp
    unfold ins
    rw [hc]
    simp only
    rw [if_neg (by omega)]
    by_cases c1 : lcp s nd.pre < nd.pre.length
    ·
      rw [if_pos c1]
      have nohas : ∀ w, w ≠ [] → w <+: s → ¬ Has t key (base ++ w) := by
        intro w hw hws ⟨b', nd', h1, h2⟩
        obtain ⟨y, q, rfl⟩ : ∃ y q, w = y :: q := by cases w with | nil => exact absurd rfl hw | cons y q => exact ⟨y, q, rfl⟩
        have hy : y = x := by obtain ⟨z, hz⟩ := hws; rw [hs] at hz; exact (List.cons.inj hz).1
        subst hy
        have h3 := thr b' nd' q h1 h2
        rw [hk, h2] at h3
        have h4 : nd.pre <+: s := ((List.prefix_append_right_inj base).1 h3).trans hws
        have := lcp_pre h4
        omega
      have h0 : nd.kind = 0 ∧ ∀ z ∈ nd.pre, sp z = false := by
        rcases hform with h | h | h
        · exact ⟨h.1, h.2.2⟩
        · rw [h.2] at c1 hl0; simp at c1; omega
        · rw [h.2.1] at c1 hl0; simp at c1; omega
      have hk0 : k = 0 := by
        rcases P.k3 with e | ⟨_, S0, e1, e2⟩ | ⟨_, _, S0, e1, e2⟩
        · exact e
        all_goals
          exfalso
          rcases List.eq_nil_or_concat s with e | ⟨s0, z, e⟩
          · rw [hs] at e; cases e
          · have e : s = s0 ++ [z] := by simpa using e
            rw [hS, e, ← List.append_assoc] at e1
            have e3 := List.append_inj' e1 rfl
            by_cases hs0 : s0 = []
            · subst hs0
              rw [hs] at e
              have hxz : x = z := (List.cons.inj e).1
              have := h0.2 x (by rw [hp]; simp)
              rw [hxz, (List.cons.inj e3.2).1] at this
              exact absurd this (by decide)
            · exact nohas s0 hs0 (by rw [e]; exact List.prefix_append _ _) (by rw [e3.1]; exact e2)
      have hns : ∀ z ∈ s, sp z = false := by
        intro z hz
        cases hsz : sp z with
        | false => rfl
        | true =>
          exfalso
          obtain ⟨i, hi, hiz⟩ := List.getElem_of_mem hz
          have h1 : S[base.length + i]? = some z := by
            rw [hS, List.getElem?_append_right (by omega), Nat.add_sub_cancel_left, List.getElem?_eq_getElem hi, hiz]
          obtain ⟨_, h2⟩ := P.sp _ z h1 hsz (.inr hk0)
          have h3 : S.take (base.length + i + 1) = base ++ s.take (i + 1) := by
            rw [hS, Nat.add_assoc, List.take_length_add_append]
          rw [h3] at h2
          exact nohas _ (by rw [hs]; simp) (List.take_prefix _ _) h2
      have hpa : nd.pre = nd.pre.take (lcp s nd.pre) ++ nd.pre.drop (lcp s nd.pre) := (List.take_append_drop _ _).symm
      have hna : nd.pre.take (lcp s nd.pre) ≠ [] := by
        intro e; have := congrArg List.length e; rw [List.length_take, List.length_nil] at this; omega
      have hnb : nd.pre.drop (lcp s nd.pre) ≠ [] := by
        intro e; have := congrArg List.length e; rw [List.length_drop, List.length_nil] at this; omega
      have I1 := I.split hc hn1 (base := base) hk hpa hna hnb
      obtain ⟨g1, g2, g3, g4⟩ := leaf_split (t := t) (key := key) hc hn1 (base := base) (a := nd.pre.take (lcp s nd.pre)) (b' := nd.pre.drop (lcp s nd.pre))
      have hcn : cur ≠ n1 := by intro e; rw [e, hn1] at hc; cases hc
      have hc2 : cur ≠ n2 := by intro e; rw [e, hn2] at hc; cases hc
      have noleaf : ¬ ∃ d, Leaf t key S d := by
        rintro ⟨d, b', nd', q1, q2, _⟩
        exact nohas s (by rw [hs]; simp) (List.prefix_refl _) ⟨b', nd', q1, by rw [q2, hS]⟩
      generalize ht1 : put (put (rep t nd n1) n1 { nd with pre := nd.pre.drop (lcp s nd.pre), par := some cur }) cur ⟨0, nd.pre.take (lcp s nd.pre), nd.par, [n1], none, none, none⟩ = t1 at I1 g1 g2 g3 g4
      generalize hkey1 : (fun z => if z = cur then base ++ nd.pre.take (lcp s nd.pre) else if z = n1 then key cur else key z) = key1 at I1 g1 g2 g4
      have hB : base ++ nd.pre.take (lcp s nd.pre) <+: S := by rw [← htk, hS]; exact (List.prefix_append_right_inj base).2 (List.take_prefix _ _)
      have tc1 : t1 cur = some ⟨0, nd.pre.take (lcp s nd.pre), nd.par, [n1], none, none, none⟩ := by rw [← ht1]; exact put_self _ _ _
      have kc1 : key1 cur = base ++ s.take (lcp s nd.pre) := by rw [← hkey1, htk]; exact if_pos rfl
      by_cases c2 : lcp s nd.pre = s.length
      · rw [if_pos c2]
        have hkS : key1 cur = S := by rw [kc1, c2, List.take_length, hS]
        subst hk0
        cases h with
        | none =>
          refine ⟨_, false, rfl, .inr ⟨rfl, fun e => by simp at e, key1, ?_, ?_⟩⟩
          · rw [← ht1] at I1; exact I1
          · rw [← ht1] at g1 g2 g3 g4
            refine ⟨g1, ⟨cur, _, put_self _ _ _, hkS⟩, fun K d => ?_, fun z hz => ?_, fun K hK => (g4 K hK).imp id (fun q => by rw [q]; exact hB)⟩
            · rw [g2 K d]; exact ⟨.inl, fun q => q.elim id (fun q => by cases q.2)⟩
            · rcases g3 z hz with q | q
              · exact .inl q
              · exact .inr (.inl q)
        | some d0 =>
          have I2 := I1.set tc1 (some d0) rfl
          have G2 := leaf_set (n1 := n2) (n2 := n1) I1 tc1 (some d0) rfl rfl
          have he : put (put (rep t nd n1) n1 { nd with pre := nd.pre.drop (lcp s nd.pre), par := some cur }) cur ⟨0, nd.pre.take (lcp s nd.pre), nd.par, [n1], none, none, some d0⟩ = put t1 cur ⟨0, nd.pre.take (lcp s nd.pre), nd.par, [n1], none, none, some d0⟩ := by rw [← ht1, put_put]
          refine ⟨_, false, rfl, .inr ⟨rfl, fun _ => noleaf, key1, ?_, ?_⟩⟩
          · rw [he]; exact I2
          · rw [he]
            rw [hkS] at G2
            exact Grow.of_split g1 g2 g3 g4 hB G2
      · rw [if_neg c2]
        obtain ⟨y, q, hyq⟩ : ∃ y q, s.drop (lcp s nd.pre) = y :: q := by
          cases hd : s.drop (lcp s nd.pre) with
          | nil => have := congrArg List.length hd; rw [List.length_drop] at this; simp at this; omega
          | cons y q => exact ⟨y, q, rfl⟩
        obtain ⟨z, q', hzq⟩ : ∃ z q', nd.pre.drop (lcp s nd.pre) = z :: q' := by
          cases hd : nd.pre.drop (lcp s nd.pre) with
          | nil => exact absurd hd hnb
          | cons z q' => exact ⟨z, q', rfl⟩
        have hyz : y ≠ z := lcp_ne hyq hzq
        have hn21 : t1 n2 = none := by
          rw [← ht1, put_ne _ _ hc2.symm, put_ne _ _ h12.symm]
          unfold rep
          split
          · rw [hn2]; rfl
          · exact hn2
        have tn1 : t1 n1 = some { nd with pre := nd.pre.drop (lcp s nd.pre), par := some cur } := by rw [← ht1, put_ne _ _ hcn.symm, put_self]
        have hsy : sp y = false := hns y (List.mem_of_mem_drop (by rw [hyq]; simp))
        have hno : kidL t1 ⟨0, nd.pre.take (lcp s nd.pre), nd.par, [n1], none, none, none⟩ y = none := by
          unfold kidL kid headIs
          simp only [List.find?_cons, List.find?_nil, tn1, hzq]
          have : ((z :: q').head? == some y) = false := by simp [Ne.symm hyz]
          rw [this]
          simp
        have hk3 : (k = 0 ∧ ∀ w ∈ s.drop (lcp s nd.pre), sp w = false) ∨ (k = 1 ∧ s.drop (lcp s nd.pre) = [58]) ∨ (k = 2 ∧ s.drop (lcp s nd.pre) = [42] ∧ h.isSome) := .inl ⟨hk0, fun w hw => hns w (List.mem_of_mem_drop hw)⟩
        have I2 := I1.add tc1 hn21 k (s.drop (lcp s nd.pre)) h y q hyq hno hk3 (.inl (show (0 : Nat) ≠ 2 by decide))
        have G2 := leaf_add (n2 := n1) (N := (if k = 0 then { (⟨0, nd.pre.take (lcp s nd.pre), nd.par, [n1], none, none, none⟩ : Nd) with kids := [n1] ++ [n2] } else if k = 1 then { (⟨0, nd.pre.take (lcp s nd.pre), nd.par, [n1], none, none, none⟩ : Nd) with pc := some n2 } else { (⟨0, nd.pre.take (lcp s nd.pre), nd.par, [n1], none, none, none⟩ : Nd) with ac := some n2 })) I1 tc1 hn21 k (s.drop (lcp s nd.pre)) h (by rw [if_pos hk0])
        have he : put (put (put (rep t nd n1) n1 { nd with pre := nd.pre.drop (lcp s nd.pre), par := some cur }) n2 ⟨k, s.drop (lcp s nd.pre), some cur, [], none, none, h⟩) cur ⟨0, nd.pre.take (lcp s nd.pre), nd.par, [n1, n2], none, none, none⟩ = put (put t1 n2 ⟨k, s.drop (lcp s nd.pre), some cur, [], none, none, h⟩) cur (if k = 0 then { (⟨0, nd.pre.take (lcp s nd.pre), nd.par, [n1], none, none, none⟩ : Nd) with kids := [n1] ++ [n2] } else if k = 1 then { (⟨0, nd.pre.take (lcp s nd.pre), nd.par, [n1], none, none, none⟩ : Nd) with pc := some n2 } else { (⟨0, nd.pre.take (lcp s nd.pre), nd.par, [n1], none, none, none⟩ : Nd) with ac := some n2 }) := by
          rw [if_pos hk0, ← ht1, put_comm _ _ _ hc2, put_put]
          rfl
        have hkS : key1 cur ++ s.drop (lcp s nd.pre) = S := by rw [kc1, List.append_assoc, List.take_append_drop, hS]
        refine ⟨_, false, rfl, .inr ⟨rfl, fun _ => noleaf, fun z => if z = n2 then key1 cur ++ s.drop (lcp s nd.pre) else key1 z, ?_, ?_⟩⟩
        · rw [he]; exact I2
        · rw [he]
          have hB2 : base ++ nd.pre.take (lcp s nd.pre) <+: key1 cur ++ s.drop (lcp s nd.pre) := by rw [hkS]; exact hB
          have := Grow.of_split g1 g2 g3 g4 hB2 G2
          rw [hkS] at this ⊢
          exact this
    · rw [if_neg c1]
      have hlp : lcp s nd.pre = nd.pre.length := by omega
      have hsp : s = nd.pre ++ s.drop (lcp s nd.pre) := by
        have h1 := List.take_append_drop (lcp s nd.pre) s
        rw [htk, hlp, List.take_length] at h1
        rw [hlp]; exact h1.symm
      have hkc : S = key cur ++ s.drop (lcp s nd.pre) := by rw [hS, hk, List.append_assoc, ← hsp]
      by_cases c2 : lcp s nd.pre < s.length
      · rw [if_pos c2]
        obtain ⟨y, q, hyq⟩ : ∃ y q, s.drop (lcp s nd.pre) = y :: q := by
          cases hd : s.drop (lcp s nd.pre) with
          | nil => have := congrArg List.length hd; rw [List.length_drop] at this; simp at this; omega
          | cons y q => exact ⟨y, q, rfl⟩
        rw [hyq] at hkc ⊢
        simp only [List.head?_cons]
        cases hkd : kidL t nd y with
        | some b =>
          simp only
          obtain ⟨k1, m, k2, k3⟩ := kidL_some I hc hkd
          obtain ⟨m2, y2, r2, q1, _, q2, q3, _⟩ := I.ch hc k1
          rw [k2] at q1; cases q1
          have hy2 : y2 = y := by rw [q2] at k3; exact Option.some.inj k3
          subst hy2
          exact ih b m (y2 :: q) (key cur) k2 hkc q3 ⟨y2, q, r2, rfl, q2⟩ (by
            have := congrArg List.length hyq
            rw [List.length_drop] at this
            omega)
        | none =>
          simp only
          have nohas : ∀ w, w ≠ [] → w <+: y :: q → ¬ Has t key (key cur ++ w) := by
            intro w hw hws ⟨b', nd', h1, h2⟩
            obtain ⟨z, q2, rfl⟩ : ∃ z q2, w = z :: q2 := by cases w with | nil => exact absurd rfl hw | cons z q2 => exact ⟨z, q2, rfl⟩
            have hz : z = y := by obtain ⟨v, hv⟩ := hws; exact (List.cons.inj hv).1
            subst hz
            exact kidL_none I hc hkd h1 h2
          have hk3 : (k = 0 ∧ ∀ w ∈ y :: q, sp w = false) ∨ (k = 1 ∧ y :: q = [58]) ∨ (k = 2 ∧ y :: q = [42] ∧ h.isSome) := by
            have last : ∀ (c : UInt8) S0, S = S0 ++ [c] → Has t key S0 → y :: q = [c] := by
              intro c S0 e1 e2
              rcases List.eq_nil_or_concat (y :: q) with e | ⟨s0, z, e⟩
              · cases e
              · have e : y :: q = s0 ++ [z] := by simpa using e
                rw [hkc, e, ← List.append_assoc] at e1
                have e3 := List.append_inj' e1 rfl
                by_cases hs0 : s0 = []
                · rw [e, hs0, e3.2, List.nil_append]
                · exact absurd (by rw [e3.1]; exact e2) (nohas s0 hs0 (by rw [e]; exact List.prefix_append _ _))
            rcases P.k3 with e | ⟨e0, S0, e1, e2⟩ | ⟨e0, e3, S0, e1, e2⟩
            · left
              refine ⟨e, fun z hz => ?_⟩
              cases hsz : sp z with
              | false => rfl
              | true =>
                exfalso
                obtain ⟨i, hi, hiz⟩ := List.getElem_of_mem hz
                have h1 : S[(key cur).length + i]? = some z := by
                  rw [hkc, List.getElem?_append_right (by omega), Nat.add_sub_cancel_left, List.getElem?_eq_getElem hi, hiz]
                obtain ⟨_, h2⟩ := P.sp _ z h1 hsz (.inr e)
                have h3 : S.take ((key cur).length + i + 1) = key cur ++ (y :: q).take (i + 1) := by
                  rw [hkc, Nat.add_assoc, List.take_length_add_append]
                rw [h3] at h2
                exact nohas _ (by simp) (List.take_prefix _ _) h2
            · exact .inr (.inl ⟨e0, last 58 S0 e1 e2⟩)
            · exact .inr (.inr ⟨e0, last 42 S0 e1 e2, e3⟩)
          have hnk : nd.kind ≠ 2 := by
            intro e
            rcases hform with q0 | q0 | q0
            · omega
            · omega
            ·
              have h1 : S[base.length]? = some 42 := by
                rw [hS, hsp, q0.2.1, List.getElem?_append_right (by omega)]
                simp
              have h2 : base.length + 1 < S.length := by
                rw [hkc, hk, q0.2.1]; simp
              exact absurd (P.sp _ 42 h1 (by decide) (.inl h2)).1 (by decide)
          have I2 := I.add hc hn1 k (y :: q) h y q rfl hkd hk3 (.inl hnk)
          have G2 := leaf_add (n2 := n2) (N := (if k = 0 then { nd with kids := nd.kids ++ [n1] } else if k = 1 then { nd with pc := some n1 } else { nd with ac := some n1 })) I hc hn1 k (y :: q) h (by split; rfl; split <;> rfl)
          refine ⟨_, false, rfl, .inr ⟨rfl, fun _ => ?_, _, I2, by rw [hkc]; exact G2⟩⟩
          rintro ⟨d, b', nd', q1, q2, _⟩
          exact nohas (y :: q) (by simp) (List.prefix_refl _) ⟨b', nd', q1, by rw [q2, hkc]⟩
      · rw [if_neg c2]
        have hS2 : S = key cur := by rw [hkc, List.drop_of_length_le (by omega), List.append_nil]
        by_cases c3 : (nd.d.isSome && h.isSome) = true
        · rw [if_pos c3]
          rw [Bool.and_eq_true] at c3
          refine ⟨t, true, rfl, .inl ⟨rfl, rfl, c3.2, ?_⟩⟩
          cases hd : nd.d with
          | none => rw [hd] at c3; exact absurd c3.1 (by decide)
          | some d => exact ⟨d, cur, nd, hc, hS2.symm, hd⟩
        · rw [if_neg c3]
          refine ⟨_, false, rfl, .inr ⟨rfl, ?_, ?_⟩⟩
          · intro hh ⟨d, b', nd', q1, q2, q3⟩
            have e := I.inj q1 hc (by rw [q2, hS2])
            subst e
            rw [hc] at q1; cases q1
            rw [q3] at c3
            exact c3 (by rw [hh]; rfl)
          · cases h with
            | none =>
              simp only [Option.isSome_none, Bool.false_eq_true, if_false]
              rw [put_same t cur nd hc]
              exact ⟨key, I, fun K q => q, ⟨cur, nd, hc, hS2.symm⟩, fun K d => ⟨.inl, fun q => q.elim id (fun q => by cases q.2)⟩, fun z q => .inl q, fun K q => .inl q⟩
            | some d0 =>
              simp only [Option.isSome_some, if_true]
              have hd : nd.d = none := by
                cases hd : nd.d with
                | none => rfl
                | some d => rw [hd] at c3; exact absurd rfl c3
              have G := leaf_set (n1 := n1) (n2 := n2) I hc (some d0) rfl hd
              rw [← hS2] at G
              exact ⟨key, I.set hc (some d0) rfl, G⟩
end
def addL (d : Dat) : List (Str × Nat × Bool) → Tb → Nat → Option (Tb × Nat × Bool)
  | [], t, n => some (t, n, true)
  | (s, k, fin) :: r, t, n =>
    match ins (s.length + 1) t 0 s k (if fin then some d else none) n (n + 1) with
    | none => none
    | some (t', true) => some (t', n + 2, false)
    | some (t', false) => addL d r t' (n + 2)
structure RInv (Q : Str → Prop) (t : Tb) (n : Nat) (R : Str → Dat → Prop) : Prop where
  tb : (t 0 = some ⟨0, [], none, [], none, none, none⟩ ∧ (∀ K d, ¬ R K d) ∧ ∀ x, x ≠ 0 → t x = none) ∨ ∃ key, Inv t key 0 ∧ (∃ r, key 0 = 47 :: r) ∧ (∀ K, Has t key K → Q K) ∧ ∀ K d, Leaf t key K d ↔ R K d
  dom : ∀ x, n ≤ x → t x = none
structure RMid (Q : Str → Prop) (t : Tb) (n : Nat) (R : Str → Dat → Prop) (D : Str) : Prop where
  tb : ∃ key, Inv t key 0 ∧ (∃ r, key 0 = 47 :: r) ∧ (∀ K, Has t key K → Q K) ∧ (∀ K d, Leaf t key K d ↔ R K d) ∧ (∀ i c, D[i]? = some c → sp c = true → c = 58 ∧ Has t key (D.take (i + 1)))
  dom : ∀ x, n ≤ x → t x = none
theorem grow_head {t : Tb} {key : Nat → Str} {S : Str} (I : Inv t key 0) (hs : Has t key S) {r : Str} (h : S = 47 :: r) : ∃ r', key 0 = 47 :: r' := by
  obtain ⟨b, nd, h1, h2⟩ := hs
  obtain ⟨n0, g1, _, _, g4, g5, _⟩ := I.rt
  have hp := I.root_pre _ b nd rfl h1
  rw [h2, h, g4] at hp
  rw [g4]
  cases hq : n0.pre with
  | nil => exact absurd hq g5
  | cons x q =>
    rw [hq] at hp
    obtain ⟨w, hw⟩ := hp
    exact ⟨q, by rw [(List.cons.inj hw).1]⟩
theorem ins_step {t : Tb} {n : Nat} {R : Str → Dat → Prop} {key : Nat → Str} (I : Inv t key 0) (hk0 : ∃ r, key 0 = 47 :: r) (hl : ∀ K d, Leaf t key K d ↔ R K d) (hd : ∀ x, n ≤ x → t x = none) {S r : Str} (hS : S = 47 :: r) {k : Nat} {h : Option Dat} (P : PreC t key S k h) :
    (h.isSome ∧ (∃ d, R S d) ∧ ins (S.length + 1) t 0 S k h n (n + 1) = some (t, true)) ∨
    ((h.isSome → ¬ ∃ d, R S d) ∧ ∃ t' key', ins (S.length + 1) t 0 S k h n (n + 1) = some (t', false) ∧ Inv t' key' 0 ∧ (∃ r, key' 0 = 47 :: r) ∧ (∀ K d, Leaf t' key' K d ↔ R K d ∨ (K = S ∧ h = some d)) ∧ (∀ K, Has t key K → Has t' key' K) ∧ Has t' key' S ∧ (∀ x, n + 2 ≤ x → t' x = none) ∧ ∀ K, Has t' key' K → Has t key K ∨ K <+: S) := by
  obtain ⟨n0, g1, _, _, g4, g5, _⟩ := I.rt
  obtain ⟨r0, hr0⟩ := hk0
  obtain ⟨t', b, h1, h2⟩ := ins_ok I P (hd n (Nat.le_refl _)) (hd (n + 1) (Nat.le_succ _)) (by omega) (S.length + 1) 0 n0 S [] g1 rfl (by rw [g4]; rfl) ⟨47, r, r0, hS, by rw [← g4]; exact hr0⟩ (Nat.lt_succ_self _)
  rcases h2 with ⟨rfl, rfl, h3, d, h4⟩ | ⟨rfl, h3, key', I', G⟩
  · exact .inl ⟨h3, ⟨d, (hl S d).1 h4⟩, h1⟩
  · refine .inr ⟨fun e ⟨d, hR⟩ => h3 e ⟨d, (hl S d).2 hR⟩, t', key', h1, I', grow_head I' G.new hS, fun K d => by rw [G.leaf K d, hl K d], G.has, G.new, fun x hx => ?_, G.old⟩
    cases hq : t' x with
    | none => rfl
    | some m =>
      rcases G.dom x (by rw [hq]; simp) with e | e | e
      · exact absurd (hd x (by omega)) e
      · omega
      · omega
theorem ins_empty {t : Tb} (h0 : t 0 = some ⟨0, [], none, [], none, none, none⟩) (S : Str) (h : Option Dat) (n : Nat) (f : Nat) : ins (f + 1) t 0 S 0 h n (n + 1) = some (put t 0 ⟨0, S, none, [], none, none, h⟩, false) := by
  unfold ins
  rw [h0]
  simp only
  have : lcp S [] = 0 := by cases S <;> rfl
  rw [if_pos this]
  cases h <;> rfl
theorem inv_first {t : Tb} (ho : ∀ x, x ≠ 0 → t x = none) (S r : Str) (hS : S = 47 :: r) (hs : ∀ x ∈ S, sp x = false) (h : Option Dat) :
    Inv (put t 0 ⟨0, S, none, [], none, none, h⟩) (fun _ => S) 0 ∧ (∀ K d, Leaf (put t 0 ⟨0, S, none, [], none, none, h⟩) (fun _ => S) K d ↔ (K = S ∧ h = some d)) ∧ Has (put t 0 ⟨0, S, none, [], none, none, h⟩) (fun _ => S) S := by
  have only : ∀ b nd, put t 0 ⟨0, S, none, [], none, none, h⟩ b = some nd → b = 0 ∧ nd = ⟨0, S, none, [], none, none, h⟩ := fun b nd hb => by
    by_cases e : b = 0
    · subst e; rw [put_self] at hb; exact ⟨rfl, (Option.some.inj hb).symm⟩
    · rw [put_ne _ _ e, ho b e] at hb; cases hb
  refine ⟨⟨⟨_, put_self _ _ _, rfl, rfl, rfl, by rw [hS]; simp, hs⟩, ?_, ?_, ?_, ?_, ?_⟩, fun K d => ⟨fun ⟨b, nd, h1, h2, h3⟩ => ?_, fun ⟨h1, h2⟩ => ⟨0, _, put_self _ _ _, h1.symm, h2⟩⟩, ⟨0, _, put_self _ _ _, rfl⟩⟩
  · intro b nd c hb hc; obtain ⟨_, rfl⟩ := only b nd hb; cases hc
  · intro b nd c hb hc; obtain ⟨_, rfl⟩ := only b nd hb; cases hc
  · intro b nd c hb hc; obtain ⟨_, rfl⟩ := only b nd hb; cases hc
  · intro b nd c c' m m' hb hc; obtain ⟨_, rfl⟩ := only b nd hb; cases hc
  · intro b nd hb hr; exact absurd (only b nd hb).1 hr
  · obtain ⟨rfl, rfl⟩ := only b nd h1
    exact ⟨h2.symm, h3⟩
def Added (Q : Str → Prop) (d : Dat) (R : Str → Dat → Prop) (S : Str) (x : Option (Tb × Nat × Bool)) : Prop :=
  ∃ t' n' ok, x = some (t', n', ok) ∧ ((ok = false ∧ (∃ d', R S d') ∧ RInv Q t' n' R) ∨ (ok = true ∧ (¬ ∃ d', R S d') ∧ RInv Q t' n' (fun K e => R K e ∨ (K = S ∧ e = d))))
theorem fin_step {Q : Str → Prop} {d : Dat} {R : Str → Dat → Prop} {t : Tb} {n : Nat} {key : Nat → Str} {S : Str} {k : Nat} (hQS : ∀ K, K <+: S → Q K) (I : Inv t key 0) (hk0 : ∃ r, key 0 = 47 :: r) (hq0 : ∀ K, Has t key K → Q K) (hl : ∀ K d, Leaf t key K d ↔ R K d) (hd : ∀ x, n ≤ x → t x = none) (hS : ∃ r, S = 47 :: r) (P : PreC t key S k (some d)) :
    Added Q d R S (addL d [(S, k, true)] t n) := by
  obtain ⟨q, hq⟩ := hS
  unfold addL
  simp only [if_true]
  rcases ins_step I hk0 hl hd hq P with ⟨h1, h2, h3⟩ | ⟨h1, t', key', h2, h3, h4, h5, h6, h7, h8, h9⟩
  · rw [h3]
    exact ⟨_, _, _, rfl, .inl ⟨rfl, h2, .inr ⟨key, I, hk0, hq0, hl⟩, fun x hx => hd x (by omega)⟩⟩
  · rw [h2]
    refine ⟨_, _, _, rfl, .inr ⟨rfl, h1 rfl, .inr ⟨key', h3, h4, fun K hK => (h9 K hK).elim (hq0 K) (hQS K), fun K e => ?_⟩, h8⟩⟩
    rw [h5 K e]
    constructor
    · rintro (q | ⟨q1, q2⟩)
      · exact .inl q
      · exact .inr ⟨q1, (Option.some.inj q2).symm⟩
    · rintro (q | ⟨q1, q2⟩)
      · exact .inl q
      · exact .inr ⟨q1, by rw [q2]⟩
theorem mid_step {Q : Str → Prop} {R : Str → Dat → Prop} {t : Tb} {n : Nat} {key : Nat → Str} {S : Str} {k : Nat} (hQS : ∀ K, K <+: S → Q K) (I : Inv t key 0) (hk0 : ∃ r, key 0 = 47 :: r) (hq0 : ∀ K, Has t key K → Q K) (hl : ∀ K d, Leaf t key K d ↔ R K d) (hd : ∀ x, n ≤ x → t x = none) (hS : ∃ r, S = 47 :: r) (P : PreC t key S k none) :
    ∃ t1 key1, ins (S.length + 1) t 0 S k none n (n + 1) = some (t1, false) ∧ Inv t1 key1 0 ∧ (∃ r, key1 0 = 47 :: r) ∧ (∀ K, Has t1 key1 K → Q K) ∧ (∀ K d, Leaf t1 key1 K d ↔ R K d) ∧ (∀ K, Has t key K → Has t1 key1 K) ∧ Has t1 key1 S ∧ ∀ x, n + 2 ≤ x → t1 x = none := by
  obtain ⟨q, hq⟩ := hS
  rcases ins_step I hk0 hl hd hq P with ⟨h1, _⟩ | ⟨_, t', key', h2, h3, h4, h5, h6, h7, h8, h9⟩
  · cases h1
  · exact ⟨t', key', h2, h3, h4, fun K hK => (h9 K hK).elim (hq0 K) (hQS K), fun K e => by rw [h5 K e]; exact ⟨fun q => q.elim id (fun q => by cases q.2), .inl⟩, h6, h7, h8⟩
theorem addL_cons (d : Dat) (s : Str) (k : Nat) (r : List (Str × Nat × Bool)) {t t1 : Tb} {n : Nat} (h : ins (s.length + 1) t 0 s k none n (n + 1) = some (t1, false)) : addL d ((s, k, false) :: r) t n = addL d r t1 (n + 2) := by
  conv => lhs; unfold addL
  simp only [Bool.false_eq_true, if_false]
  rw [h]
theorem steps_sign {Q : Str → Prop} (d : Dat) (f : Nat) (ih : ∀ (D rest : Str) (t : Tb) (n : Nat) (R : Str → Dat → Prop), rest.length < f → (∃ r, D = 47 :: r) → (∀ K, K <+: D ++ shape f rest → Q K) → RMid Q t n R D → Added Q d R (D ++ shape f rest) (addL d (steps f D rest) t n))
    (D u : Str) (c : UInt8) (hc : sp c = true) (hf : u.length < f) (hD : ∃ r, D = 47 :: r) (hQ : ∀ K, K <+: D ++ shape (f + 1) (c :: u) → Q K) (R : Str → Dat → Prop) (t1 : Tb) (n : Nat) (key1 : Nat → Str) (a2 : Inv t1 key1 0) (a3 : ∃ r, key1 0 = 47 :: r) (aq : ∀ K, Has t1 key1 K → Q K) (a4 : ∀ K d, Leaf t1 key1 K d ↔ R K d) (a6 : Has t1 key1 D) (a7 : ∀ x, n ≤ x → t1 x = none) (hsp1 : ∀ i c, D[i]? = some c → sp c = true → c = 58 ∧ Has t1 key1 (D.take (i + 1))) :
    ∃ l, steps (f + 1) D (c :: u) = (D, 0, false) :: l ∧ Added Q d R (D ++ shape (f + 1) (c :: u)) (addL d l t1 n) := by
  have hS1 : ∀ w, ∃ q, D ++ w = 47 :: q := fun w => by obtain ⟨r, hr⟩ := hD; exact ⟨r ++ w, by rw [hr]; rfl⟩
  have inD : ∀ {i : Nat} {x y : UInt8} {k : Nat}, (D ++ [y])[i]? = some x → sp x = true → (i + 1 < (D ++ [y]).length ∨ k = 0) → k ≠ 0 → x = 58 ∧ Has t1 key1 ((D ++ [y]).take (i + 1)) := fun {i x y k} h1 h2 h3 hk => by
    have hi : i < D.length := by
      rcases h3 with h3 | h3
      · simpa using h3
      · exact absurd h3 hk
    rw [List.getElem?_append_left hi] at h1
    have := hsp1 i x h1 h2
    rwa [List.take_append_of_le_length (by omega)]
  by_cases c1 : c = 58
  · subst c1
    have P1 : ∀ h : Option Dat, PreC t1 key1 (D ++ [58]) 1 h := fun h => ⟨.inr (.inl ⟨rfl, D, rfl, a6⟩), fun i c h1 h2 h3 => inD h1 h2 h3 (by decide)⟩
    cases hw : u.dropWhile (· != 47) with
    | nil =>
      have e : steps (f + 1) D (58 :: u) = [(D, 0, false), (D ++ [58], 1, true)] := by
        unfold steps; rw [if_pos rfl, hw]
      have e2 : shape (f + 1) (58 :: u) = [58] := by unfold shape; rw [if_pos rfl, hw]
      rw [e2] at hQ
      rw [e, e2]
      exact ⟨_, rfl, fin_step hQ a2 a3 aq a4 a7 (hS1 [58]) (P1 (some d))⟩
    | cons x q =>
      have e : steps (f + 1) D (58 :: u) = (D, 0, false) :: (D ++ [58], 1, false) :: steps f (D ++ [58, x]) q := by
        conv => lhs; unfold steps
        rw [if_pos rfl, hw]
      have e2 : shape (f + 1) (58 :: u) = 58 :: x :: shape f q := by
        conv => lhs; unfold shape
        rw [if_pos rfl, hw]
      rw [e2] at hQ
      obtain ⟨t2, key2, b1, b2, b3, bq, b4, b5, b6, b7⟩ := mid_step (fun K hK => hQ K (hK.trans ((List.prefix_append_right_inj D).2 ⟨x :: shape f q, rfl⟩))) a2 a3 aq a4 a7 (hS1 [58]) (P1 none)
      rw [e, e2]
      refine ⟨_, rfl, ?_⟩
      rw [addL_cons d (D ++ [58]) 1 _ b1]
      have hx : x = 47 := by
        have h1 := List.head?_dropWhile_not (· != 47) u
        rw [hw] at h1
        simpa using h1
      have hlen : q.length < f := by
        have h1 := (List.dropWhile_sublist (l := u) (· != 47)).length_le
        rw [hw] at h1
        simp at h1
        omega
      have := ih (D ++ [58, x]) q t2 (n + 2) R hlen (hS1 _) (by rw [show D ++ [58, x] ++ shape f q = D ++ 58 :: x :: shape f q by simp]; exact hQ) ⟨⟨key2, b2, b3, bq, b4, fun i c h1 h2 => ?_⟩, b7⟩
      · rw [show D ++ 58 :: x :: shape f q = D ++ [58, x] ++ shape f q by simp]
        exact this
      · rcases Nat.lt_trichotomy i D.length with hi | hi | hi
        · rw [List.getElem?_append_left hi] at h1
          have := hsp1 i c h1 h2
          rw [List.take_append_of_le_length (by omega)]
          exact ⟨this.1, b5 _ this.2⟩
        · subst hi
          rw [List.getElem?_append_right (by omega)] at h1
          simp at h1
          refine ⟨h1.symm, ?_⟩
          rw [List.take_length_add_append]
          exact b6
        · rw [List.getElem?_append_right (by omega)] at h1
          rcases Nat.lt_or_ge (i - D.length) 2 with h3 | h3
          · have : i - D.length = 1 := by omega
            rw [this] at h1
            simp at h1
            rw [← h1, hx] at h2
            exact absurd h2 (by decide)
          · rw [List.getElem?_eq_none (by simp; omega)] at h1
            cases h1
  · have c2 : c = 42 := by
      unfold sp at hc
      simpa [c1] using hc
    subst c2
    have e : steps (f + 1) D (42 :: u) = [(D, 0, false), (D ++ [42], 2, true)] := by
      unfold steps; rw [if_neg (by decide), if_pos rfl]
    have e2 : shape (f + 1) (42 :: u) = [42] := by unfold shape; rw [if_neg (by decide), if_pos rfl]
    rw [e2] at hQ
    rw [e, e2]
    exact ⟨_, rfl, fin_step hQ a2 a3 aq a4 a7 (hS1 [42]) ⟨.inr (.inr ⟨rfl, rfl, D, rfl, a6⟩), fun i c h1 h2 h3 => inD h1 h2 h3 (by decide)⟩⟩
theorem steps_plain (f : Nat) (D u : Str) (c : UInt8) (hc : sp c = false) : steps (f + 1) D (c :: u) = steps f (D ++ [c]) u ∧ shape (f + 1) (c :: u) = c :: shape f u := by
  have c1 : c ≠ 58 := fun e => by rw [e] at hc; exact absurd hc (by decide)
  have c2 : c ≠ 42 := fun e => by rw [e] at hc; exact absurd hc (by decide)
  constructor
  · conv => lhs; unfold steps
    rw [if_neg c1, if_neg c2]
  · conv => lhs; unfold shape
    rw [if_neg c1, if_neg c2]
theorem steps_mid {Q : Str → Prop} (d : Dat) : ∀ (f : Nat) (D rest : Str) (t : Tb) (n : Nat) (R : Str → Dat → Prop), rest.length < f → (∃ r, D = 47 :: r) → (∀ K, K <+: D ++ shape f rest → Q K) → RMid Q t n R D → Added Q d R (D ++ shape f rest) (addL d (steps f D rest) t n) := by
  intro f
  induction f with
  | zero => intro D rest t n R hf; omega
  | succ f ih =>
    intro D rest t n R hf hD hQ hM
    obtain ⟨key, I, hk0, hq0, hl, hsp⟩ := hM.tb
    have P0 : ∀ h : Option Dat, PreC t key D 0 h := fun h => ⟨.inl rfl, fun i c h1 h2 _ => hsp i c h1 h2⟩
    cases rest with
    | nil =>
      simp only [steps, shape, List.append_nil] at hQ ⊢
      exact fin_step hQ I hk0 hq0 hl hM.dom hD (P0 (some d))
    | cons c u =>
      cases cs : sp c with
      | true =>
        obtain ⟨t1, key1, a1, a2, a3, aq, a4, a5, a6, a7⟩ := mid_step (fun K hK => hQ K (hK.trans (List.prefix_append _ _))) I hk0 hq0 hl hM.dom hD (P0 none)
        obtain ⟨l, h1, h2⟩ := steps_sign d f ih D u c cs (by simpa using hf) hD hQ R t1 (n + 2) key1 a2 a3 aq a4 a6 a7 (fun i c h1 h2 => ⟨(hsp i c h1 h2).1, a5 _ (hsp i c h1 h2).2⟩)
        rw [h1, addL_cons d D 0 _ a1]
        exact h2
      | false =>
        obtain ⟨e, e2⟩ := steps_plain f D u c cs
        rw [e2, show D ++ c :: shape f u = D ++ [c] ++ shape f u by simp] at hQ
        rw [e, e2, show D ++ c :: shape f u = D ++ [c] ++ shape f u by simp]
        refine ih (D ++ [c]) u t n R (by simpa using hf) (by obtain ⟨r, hr⟩ := hD; exact ⟨r ++ [c], by rw [hr]; rfl⟩) hQ ⟨⟨key, I, hk0, hq0, hl, fun i x h1 h2 => ?_⟩, hM.dom⟩
        rcases Nat.lt_trichotomy i D.length with hi | hi | hi
        · rw [List.getElem?_append_left hi] at h1
          have := hsp i x h1 h2
          rw [List.take_append_of_le_length (by omega)]
          exact this
        · subst hi
          rw [List.getElem?_append_right (by omega)] at h1
          simp at h1
          subst h1
          rw [cs] at h2; cases h2
        · rw [List.getElem?_append_right (by omega), List.getElem?_eq_none (by simp; omega)] at h1
          cases h1
theorem steps_first {Q : Str → Prop} (d : Dat) : ∀ (f : Nat) (D rest : Str) (t : Tb) (n : Nat), rest.length < f → (∃ r, D = 47 :: r) → (∀ K, K <+: D ++ shape f rest → Q K) → (∀ x ∈ D, sp x = false) → t 0 = some ⟨0, [], none, [], none, none, none⟩ → (∀ x, x ≠ 0 → t x = none) → 1 ≤ n → (∀ x, n ≤ x → t x = none) → Added Q d (fun _ _ => False) (D ++ shape f rest) (addL d (steps f D rest) t n) := by
  intro f
  induction f with
  | zero => intro D rest t n hf; omega
  | succ f ih =>
    intro D rest t n hf hD hQ hDs h0 ho hn1 hd
    obtain ⟨r, hr⟩ := hD
    have only0 : ∀ (h : Option Dat) K, Has (put t 0 ⟨0, D, none, [], none, none, h⟩) (fun _ => D) K → Q K := fun h K ⟨b, nd, h1, h2⟩ => by
      rw [← h2]; exact hQ _ (List.prefix_append _ _)
    have mid : RMid Q (put t 0 ⟨0, D, none, [], none, none, none⟩) (n + 2) (fun _ _ => False) D := by
      obtain ⟨I, hl, hh⟩ := inv_first ho D r hr hDs none
      refine ⟨⟨_, I, ⟨r, hr⟩, only0 none, fun K e => by rw [hl K e]; exact ⟨(fun q => by cases q.2), False.elim⟩, fun i c h1 h2 => ?_⟩, fun x hx => ?_⟩
      · have := hDs c (List.mem_of_getElem? h1)
        rw [this] at h2; cases h2
      · rw [put_ne _ _ (by omega)]; exact hd x (by omega)
    have first := ins_empty h0 D none n D.length
    cases rest with
    | nil =>
      simp only [steps, shape, List.append_nil]
      unfold addL
      simp only [if_true]
      rw [ins_empty h0 D (some d) n D.length]
      obtain ⟨I, hl, hh⟩ := inv_first ho D r hr hDs (some d)
      refine ⟨_, _, _, rfl, .inr ⟨rfl, fun ⟨_, q⟩ => q, .inr ⟨_, I, ⟨r, hr⟩, only0 (some d), fun K e => ?_⟩, fun x hx => by rw [put_ne _ _ (by omega)]; exact hd x (by omega)⟩⟩
      rw [hl K e]
      exact ⟨fun q => .inr ⟨q.1, (Option.some.inj q.2).symm⟩, fun q => q.elim False.elim (fun q => ⟨q.1, by rw [q.2]⟩)⟩
    | cons c u =>
      cases cs : sp c with
      | true =>
        obtain ⟨_, _, hh⟩ := inv_first ho D r hr hDs none
        have hI := inv_first ho D r hr hDs none
        obtain ⟨l, h1, h2⟩ := steps_sign d f (steps_mid d f) D u c cs (by simpa using hf) ⟨r, hr⟩ hQ (fun _ _ => False) (put t 0 ⟨0, D, none, [], none, none, none⟩) (n + 2) (fun _ => D) hI.1 ⟨r, hr⟩ (only0 none) (fun K e => by rw [hI.2.1 K e]; exact ⟨(fun q => by cases q.2), False.elim⟩) hI.2.2 mid.dom (fun i c h1 h2 => by
          have := hDs c (List.mem_of_getElem? h1)
          rw [this] at h2; cases h2)
        rw [h1, addL_cons d D 0 _ first]
        exact h2
      | false =>
        obtain ⟨e, e2⟩ := steps_plain f D u c cs
        rw [e2, show D ++ c :: shape f u = D ++ [c] ++ shape f u by simp] at hQ
        rw [e, e2, show D ++ c :: shape f u = D ++ [c] ++ shape f u by simp]
        refine ih (D ++ [c]) u t n (by simpa using hf) ⟨r ++ [c], by rw [hr]; rfl⟩ hQ (fun x hx => ?_) h0 ho hn1 hd
        rcases List.mem_append.1 hx with hx | hx
        · exact hDs x hx
        · rw [List.mem_singleton.1 hx]; exact cs
theorem add_ok {Q : Str → Prop} {t : Tb} {n : Nat} {R : Str → Dat → Prop} (I : RInv Q t n R) (hn : 1 ≤ n) (d : Dat) (u : Str) (hQ : ∀ K, K <+: 47 :: shape (u.length + 1) u → Q K) : Added Q d R (47 :: shape (u.length + 1) u) (addL d (steps (u.length + 1) [47] u) t n) := by
  rcases I.tb with ⟨h0, hR, ho⟩ | ⟨key, J, hk0, hq0, hl⟩
  · have := steps_first d (u.length + 1) [47] u t n (Nat.lt_succ_self _) ⟨[], rfl⟩ hQ (fun x hx => by rw [List.mem_singleton.1 hx]; decide) h0 ho hn I.dom
    have e : R = fun _ _ => False := by
      funext K e
      exact propext ⟨fun h => hR K e h, False.elim⟩
    rw [e]
    exact this
  · exact steps_mid d (u.length + 1) [47] u t n R (Nat.lt_succ_self _) ⟨[], rfl⟩ hQ ⟨⟨key, J, hk0, hq0, hl, fun i c h1 h2 => by
      have := List.mem_of_getElem? h1
      rw [List.mem_singleton.1 this] at h2
      exact absurd h2 (by decide)⟩, I.dom⟩
def seg (s : Str) : Str := s.takeWhile (· != 47)
def rst (s : Str) : Str := s.dropWhile (· != 47)
section
variable {t : Tb} {key : Nat → Str} {root : Nat}
end
inductive Rs where
  | hit (b : Nat) (vs : List Str) (ts : Bool)
  | miss (si : Nat) (ts : Bool)
def good (m : Nd) : Bool := m.d.isSome || m.ac.isSome
def slashKid (t : Tb) (nd : Nd) : Bool := match kid t nd 47 with
  | none => false
  | some k => match t k with
    | none => false
    | some m => good m
def nearly (nd : Nd) (s : Str) : Bool := decide (nd.pre = s ++ [47]) && good nd
def anyP (u : Str → Str) (path : Str) (nd : Nd) (si : Nat) (ts : Bool) (vs : List Str) : Rs := match nd.ac with
  | some k => .hit k (vs ++ [u (path.drop si)]) ts
  | none => .miss (si - (if nd.kind = 0 then nd.pre.length else (vs.getLast?.getD []).length)) ts
def parP (t : Tb) (u : Str → Str) (path : Str) (rec : Nat → Nat → Bool → List Str → Rs) (nd : Nd) (si : Nat) (ts : Bool) (vs : List Str) : Rs :=
  match (if path.drop si = [] then none else nd.pc) with
  | none => anyP u path nd si ts vs
  | some k => match t k with
    | none => .miss 0 false
    | some m => match rec k (si + (seg (path.drop si)).length) (ts || ((rst (path.drop si)).isEmpty && slashKid t m)) (vs ++ [u (seg (path.drop si))]) with
      | .hit b w x => .hit b w x
      | .miss s2 t2 => anyP u path nd s2 t2 vs
def midP (t : Tb) (u : Str → Str) (path : Str) (rec : Nat → Nat → Bool → List Str → Rs) (b : Nat) (nd : Nd) (si : Nat) (ts : Bool) (vs : List Str) : Rs :=
  match path.drop si with
  | [] => if nd.d.isSome then .hit b vs ts else parP t u path rec nd si (ts || slashKid t nd) vs
  | c :: r => match kid t nd c with
    | none => parP t u path rec nd si (ts || (decide (c = 47) && r.isEmpty && nd.d.isSome)) vs
    | some k => match rec k si (ts || (decide (c = 47) && r.isEmpty && nd.d.isSome)) vs with
      | .hit b w x => .hit b w x
      | .miss s2 t2 => parP t u path rec nd s2 t2 vs
def run (t : Tb) (u : Str → Str) (path : Str) : Nat → Nat → Nat → Bool → List Str → Rs
  | 0, _, _, _, _ => .miss 0 false
  | f + 1, b, si, ts, vs => match t b with
    | none => .miss 0 false
    | some nd =>
      if nd.kind = 0 then
        if nd.pre.isPrefixOf (path.drop si) then midP t u path (run t u path f) b nd (si + nd.pre.length) ts vs
        else .miss si (ts || nearly nd (path.drop si))
      else midP t u path (run t u path f) b nd si ts vs
section
variable {t : Tb} {key : Nat → Str} {root : Nat}
end
end Go.Proofs.Ytekjffooblcmnaa.Rt
end
section
namespace Go.Proofs.Ytekjffooblcmnaa.Q
open Go.RowKit Go.Proofs.YtekjffooblcmnaaW.PrintWords Go.Proofs.YtekjffooblcmnaaW.PrintLast Go.Proofs.YtekjffooblcmnaaW.PrintMore
structure BR (w : World) (g : Nat) (e : TypeId) (l : List UInt8) : Prop where
  out : ∃ C lo hi, w.heap[g]? = some (.cells C e (lo, hi)) ∧ l.length ≤ C.size ∧ (l.length ≤ lo ∨ hi = 0) ∧ ∀ j (h : j < l.length), C[j]? = some (.int .u8 (l[j].toNat : Int))
theorem BR.cell {w : World} {g : Nat} {e : TypeId} {l : List UInt8} (h : BR w g e l) (j : Nat) (hj : j < l.length) : w.cell? ⟨g, j, none⟩ = some (.int .u8 (l[j].toNat : Int)) := by
  obtain ⟨C, lo, hi, hg, _, _, hc⟩ := h.out
  unfold World.cell?
  rw [hg]
  simpa using hc j hj
theorem BR.frozen {w : World} {g : Nat} {e : TypeId} {l : List UInt8} (h : BR w g e l) (j : Nat) (hj : j < l.length) : w.frozen? ⟨g, j, none⟩ = false := by
  obtain ⟨C, lo, hi, hg, _, hf, _⟩ := h.out
  unfold World.frozen?
  rw [hg]
  show (decide (lo ≤ j) && decide (j < hi)) = false
  rcases hf with hf | hf
  · rw [decide_eq_false (by omega)]; rfl
  · rw [hf, Bool.and_eq_false_iff]; right; exact decide_eq_false (by omega)
theorem BR.put {w : World} {g : Nat} {e : TypeId} {l : List UInt8} (h : BR w g e l) (k : Nat) (hk : k < l.length) (b : UInt8) : BR (w.setCell ⟨g, k, none⟩ (.int .u8 (b.toNat : Int))) g e (l.set k b) := by
  obtain ⟨C, lo, hi, hg, hs, hf, hc⟩ := h.out
  have hgl := (Array.getElem?_eq_some_iff.1 hg).1
  refine ⟨C.setIfInBounds k (.int .u8 (b.toNat : Int)), lo, hi, ?_, by simpa using hs, by simpa using hf, fun j hj => ?_⟩
  · have := (Array.getElem?_eq_some_iff.1 hg).2
    simp only [World.setCell, Array.getElem?_modify, if_pos, hg, Option.map_some]
    simp
  · have hjl : j < l.length := by simpa using hj
    rw [Array.getElem?_setIfInBounds, List.getElem_set]
    by_cases e1 : k = j
    · subst e1
      rw [if_pos rfl, if_pos (by omega), if_pos rfl]
    · rw [if_neg e1, if_neg e1]
      exact hc j hjl
theorem BR.heap {w w' : World} {g : Nat} {e : TypeId} {l : List UInt8} (h : BR w g e l) (hh : w'.heap[g]? = w.heap[g]?) : BR w' g e l := by
  obtain ⟨C, lo, hi, hg, r⟩ := h.out
  exact ⟨C, lo, hi, hh.trans hg, r⟩
theorem BR.drewN {w : World} {g : Nat} {e : TypeId} {l : List UInt8} (h : BR w g e l) (m : Nat) : BR (w.drewN m) g e l := h.heap rfl
theorem BR.lt {w : World} {g : Nat} {e : TypeId} {l : List UInt8} (h : BR w g e l) : g < w.heap.size := by
  obtain ⟨C, lo, hi, hg, r⟩ := h.out
  exact (Array.getElem?_eq_some_iff.1 hg).1
theorem BR.below {w w' : World} {g : Nat} {e : TypeId} {l : List UInt8} (h : BR w g e l) (hb : Below w.heap.size w w') : BR w' g e l := h.heap (hb.block g h.lt)
theorem BR.conv (w : World) (e : TypeId) (s : ByteArray) : BR (Lib.bytesWorld w e s) w.heap.size e s.data.toList := by
  refine ⟨_, _, _, Lib.bytesWorld_at_new w e s, ?_, .inl ?_, fun j hj => ?_⟩
  · simp [Lib.bytesCells]
  · simp [Lib.bytesCells]
  · have hj' : j < s.data.size := by simpa using hj
    have hsz : (s.data.map fun b => Value.int .u8 b.toNat).size = s.data.size := Array.size_map ..
    unfold Lib.bytesCells
    rw [Array.getElem?_append, if_pos (by rw [hsz]; exact hj'), Array.getElem?_map, Array.getElem?_eq_getElem hj']
    simp
theorem conv_BR {P : Program} (src dst e : TypeId) (hs : P.underlying src = some .string) (hd : P.underlying dst = some (.slice e)) (he : P.underlying e = some (.int .u8)) (s : ByteArray) (w : World) :
    Go.Proofs.YtekjffooblcmnaaX.ConvCalls P src dst s w fun en w' => ∃ c, en = .returned (.slice (some ⟨w.heap.size, 0, none⟩) s.size c) ∧ BR w' w.heap.size e s.data.toList ∧ Below w.heap.size w w' := by
  refine ⟨_, _, Lib.run_convert_string_bytes w src dst e s hs hd he, _, rfl, BR.conv w e s, ?_⟩
  exact ⟨rfl, rfl, rfl, by rw [Lib.bytesWorld_size]; omega, fun k hk => Lib.bytesWorld_at_old w e s k hk⟩
theorem BR.alloc {w : World} {e : TypeId} {n : Nat} : BR (w.alloc (.cells (madeCells #[.int .u8 0] n) e)) w.heap.size e (List.replicate n 0) := by
  refine ⟨_, 0, 0, heap_alloc_new w _, by simp [size_madeCells], .inr rfl, fun j hj => ?_⟩
  have hjn : j < n := by simpa using hj
  rw [← Array.getElem?_toList, toList_madeCells_one, List.getElem?_replicate, if_pos hjn]
  simp
section
variable {P : Program} {ops : Array Oper} {rest : List Oper} {o : Oper} {a : Act} {Q : Exit → Act → World → Prop} {W : World}
end
end Go.Proofs.Ytekjffooblcmnaa.Q
end
section
namespace Go.Proofs.Ytekjffooblcmnaa.SpA
open Go.RowKit Go.Proofs.YtekjffooblcmnaaW.PrintWords Go.Proofs.YtekjffooblcmnaaW.PrintLast Go.Proofs.YtekjffooblcmnaaKit
def toI (l : List UInt8) : List Int := l.map fun c => (c.toNat : Int)
theorem toI_length (l : List UInt8) : (toI l).length = l.length := by simp [toI]
theorem toI_append (a b : List UInt8) : toI (a ++ b) = toI a ++ toI b := by simp [toI]
end Go.Proofs.Ytekjffooblcmnaa.SpA
end
section
namespace Go.Proofs.Ytekjffooblcmnaa.Ob
open Go.RowKit Go.Proofs.YtekjffooblcmnaaW.PrintWords Go.Proofs.YtekjffooblcmnaaW.PrintLast Go.Proofs.YtekjffooblcmnaaW.PrintMore
open Go.Proofs.Ytekjffooblcmnaa.SpA (toI toI_length toI_append)
open Go.Proofs.Ytekjffooblcmnaa.Q (BR)
set_option linter.unusedVariables false
set_option linter.unusedSimpArgs false
structure Only (S : Nat → Prop) (w w' : World) : Prop where
  os : w'.os = w.os
  tape : w'.tape = w.tape
  output : w'.output = w.output
  size : w.heap.size ≤ w'.heap.size
  block : ∀ k, k < w.heap.size → ¬ S k → w'.heap[k]? = w.heap[k]?
section
variable {S T : Nat → Prop} {a b c w : World}
theorem Only.refl (S : Nat → Prop) (w : World) : Only S w w := ⟨rfl, rfl, rfl, Nat.le_refl _, fun _ _ _ => rfl⟩
theorem Only.trans (h : Only S a b) (k : Only T b c) (hs : ∀ i, i < a.heap.size → T i → S i) : Only S a c := ⟨k.os.trans h.os, k.tape.trans h.tape, k.output.trans h.output, Nat.le_trans h.size k.size, fun i hi hn => (k.block i (Nat.lt_of_lt_of_le hi h.size) (fun e => hn (hs i hi e))).trans (h.block i hi hn)⟩
theorem Only.mono (h : Only S a b) (hs : ∀ k, k < a.heap.size → S k → T k) : Only T a b := ⟨h.os, h.tape, h.output, h.size, fun k hk hn => h.block k hk (fun e => hn (hs k hk e))⟩
theorem Only.drewN (h : Only S a w) (m : Nat) : Only S a (w.drewN m) := ⟨h.os, h.tape, h.output, h.size, h.block⟩
theorem Only.set (h : Only S a w) {g : Nat} (hg : S g ∨ a.heap.size ≤ g) (j : Nat) (u : Value) : Only S a (w.setCell ⟨g, j, none⟩ u) :=
  ⟨h.os, h.tape, h.output, by simpa [World.setCell] using h.size, fun k hk hn => by
    rw [Below.heap_setCell _ _ _ _ (show k ≠ g from fun e => hg.elim (fun hs => hn (e ▸ hs)) (fun hl => by omega))]
    exact h.block k hk hn⟩
theorem Only.alloc (h : Only S a w) (o : Obj) : Only S a (w.alloc o) :=
  ⟨h.os, h.tape, h.output, by have := h.size; simp; omega, fun k hk hn => by
    rw [Below.heap_alloc _ _ _ (Nat.lt_of_lt_of_le hk h.size)]
    exact h.block k hk hn⟩
theorem Only.of_below (h : Below a.heap.size a w) : Only S a w := ⟨h.os, h.tape, h.output, h.size, fun k hk _ => h.block k hk⟩
theorem Only.below (h : Only S a w) {B : Nat} (hB : ∀ k, S k → B ≤ k) (hs : B ≤ a.heap.size) : Below B a w := ⟨h.os, h.tape, h.output, h.size, fun k hk => h.block k (by omega) (fun e => by have := hB k e; omega)⟩
theorem Only.of_grown {row : Option Nat} (hg : a.grownBy b row) : Only (fun j => row = some j) a b := ⟨hg.os, hg.tape, hg.output, hg.size, fun k hk hn => hg.block k hk (fun e => hn e.symm)⟩
end
def BV (W : World) (v : Value) (l : List UInt8) : Prop := W.ownsRow 0 5 1 v l.length (encs (Value.int .u8) (toI l))
section
variable {W W' : World} {v : Value} {l : List UInt8}
theorem BV.nil (W : World) : BV W (.slice none 0 0) [] := ⟨rfl, .inl ⟨rfl, rfl⟩⟩
theorem BV.R (h : BV W v l) : Kd.R (Kd.int .u8) 5 W 0 (fun _ => True) v (toI l) := Kd.R_of_own (xs := toI l) (by unfold BV at h; rwa [toI_length]) (fun _ _ => trivial)
theorem BV.of_R {base : Nat} {ok : Nat → Prop} (h : Kd.R (Kd.int .u8) 5 W base ok v (toI l)) : BV W v l := by
  obtain ⟨h1, h2⟩ := Kd.own_of_R h
  rw [toI_length] at h1 h2
  refine ⟨h1, h2.imp id ?_⟩
  rintro ⟨g, cap, cur, e, _, r⟩
  exact ⟨g, cap, cur, e, Nat.zero_le _, r⟩
theorem BV.move (h : BV W v l) (hm : ∀ k, v.ownBlock = some k → W'.heap[k]? = W.heap[k]?) : BV W' v l := by
  refine ⟨h.1, h.2.imp id ?_⟩
  rintro ⟨g, cap, cur, e, hb, hg, r⟩
  exact ⟨g, cap, cur, e, hb, (hm g (by rw [e]; rfl)).trans hg, r⟩
theorem BV.lt (h : BV W v l) : ∀ k, v.ownBlock = some k → k < W.heap.size := by
  rcases h.2 with ⟨rfl, _⟩ | ⟨g, cap, cur, rfl, _, hg, _⟩
  · intro k hk; cases hk
  · intro k hk
    have : g = k := by simpa [Value.ownBlock] using hk
    subst this
    exact (Array.getElem?_eq_some_iff.1 hg).1
theorem BV.type (h : BV W v l) {k : Nat} (hk : v.ownBlock = some k) : ∃ C, W.heap[k]? = some (.cells C 5 (0, 0)) := by
  rcases h.2 with ⟨rfl, _⟩ | ⟨g, cap, cur, rfl, _, hg, _⟩
  · cases hk
  · have : g = k := by simpa [Value.ownBlock] using hk
    subst this
    exact ⟨_, hg⟩
theorem BV.slice (h : BV W v l) : ∃ A c, v = .slice A l.length c ∧ l.length ≤ c ∧ (∀ a, A = some a → a.off = 0 ∧ a = ⟨a.block, 0, none⟩) := by
  rcases h.2 with ⟨e, hn⟩ | ⟨g, cap, cur, e, _, hg, hc, _⟩
  · exact ⟨none, 0, by rw [e, hn], by omega, fun a ha => by cases ha⟩
  · exact ⟨_, _, e, hc, fun a ha => by cases ha; exact ⟨rfl, rfl⟩⟩
theorem BV.form (h : BV W v l) : ∃ A n c, v = .slice A n c := by
  obtain ⟨A, c, e, _⟩ := h.slice
  exact ⟨A, _, c, e⟩
theorem BV.C {A : Option Addr} {n c : Nat} (h : BV W (.slice A n c) l) : Kd.C (Kd.int .u8) W A n (toI l) := by
  obtain ⟨hn, _, hc⟩ := Kd.R_reads' h.R
  rw [hn]; exact hc
theorem BV.cap {A : Option Addr} {n c : Nat} (h : BV W (.slice A n c) l) : n = l.length ∧ n ≤ c := by
  obtain ⟨hn, hc, _⟩ := Kd.R_reads' h.R
  exact ⟨by rw [hn, toI_length], hc⟩
theorem BV.BR {g n c : Nat} (h : BV W (.slice (some ⟨g, 0, none⟩) n c) l) : BR W g 5 l := by
  rcases h.2 with ⟨e, hn⟩ | ⟨g', cap, cur, e, hb, hg, hc, hm, hs, ht⟩
  · cases e
  · cases e
    refine ⟨cur, 0, 0, hg, by omega, .inr rfl, fun j hj => ?_⟩
    have hj2 : j < cur.toList.length := by simp; omega
    have h1 : (cur.toList.take (l.length * 1))[j]? = (encs (Value.int .u8) (toI l))[j]? := by rw [ht]
    rw [List.getElem?_take, if_pos (by omega)] at h1
    rw [← Array.getElem?_toList, h1]
    simp [encs, toI, hj]
end
def RV (W : World) (v : Value) (l : List UInt8) : Prop := (v = .slice none 0 0 ∧ l = []) ∨ ∃ g c, v = .slice (some ⟨g, 0, none⟩) l.length c ∧ l.length ≤ c ∧ Go.Proofs.Ytekjffooblcmnaa.Q.BR W g 5 l
def RW (b : Bool) (W : World) (v : Value) (l : List UInt8) : Prop := if b = true then BV W v l else RV W v l ∧ l.length ≤ 4611686018427387904
section
variable {W W' : World} {v : Value} {l : List UInt8} {b : Bool}
theorem BV.rw (h : BV W v l) : RW true W v l := h
theorem RW.move (h : RW b W v l) (hm : ∀ k, v.ownBlock = some k → W'.heap[k]? = W.heap[k]?) : RW b W' v l := by
  cases b
  · refine ⟨h.1.imp id ?_, h.2⟩
    rintro ⟨g, c, e, hc, hb⟩
    exact ⟨g, c, e, hc, hb.heap (hm g (by rw [e]; rfl))⟩
  · exact BV.move h hm
theorem RW.lt (h : RW b W v l) : ∀ k, v.ownBlock = some k → k < W.heap.size := by
  cases b
  · rcases h.1 with ⟨rfl, _⟩ | ⟨g, c, rfl, hc, hb⟩
    · intro k hk; cases hk
    · intro k hk
      have : g = k := by simpa [Value.ownBlock] using hk
      subst this
      exact hb.lt
  · exact BV.lt h
theorem RW.type (h : RW b W v l) {k : Nat} (hk : v.ownBlock = some k) : ∃ C f, W.heap[k]? = some (.cells C 5 f) := by
  cases b
  · rcases h.1 with ⟨rfl, _⟩ | ⟨g, c, rfl, hc, hb⟩
    · cases hk
    · have : g = k := by simpa [Value.ownBlock] using hk
      subst this
      obtain ⟨C, lo, hi, hg, _⟩ := hb.out
      exact ⟨C, _, hg⟩
  · obtain ⟨C, hC⟩ := BV.type h hk
    exact ⟨C, _, hC⟩
theorem RW.slice (h : RW b W v l) : ∃ A c, v = .slice A l.length c ∧ l.length ≤ c ∧ (∀ a, A = some a → a = ⟨a.block, 0, none⟩) := by
  cases b
  · rcases h.1 with ⟨rfl, rfl⟩ | ⟨g, c, rfl, hc, hb⟩
    · exact ⟨none, 0, rfl, Nat.le_refl _, fun a ha => by cases ha⟩
    · exact ⟨_, c, rfl, hc, fun a ha => by cases ha; rfl⟩
  · obtain ⟨A, c, e, hc, ha⟩ := BV.slice h
    exact ⟨A, c, e, hc, fun a h => (ha a h).2⟩
theorem RW.C {A : Option Addr} {n c : Nat} (h : RW b W (.slice A n c) l) : Kd.C (Kd.int .u8) W A n (toI l) := by
  cases b
  · rcases h.1 with ⟨e, rfl⟩ | ⟨g, c, e, hc, hb⟩
    · cases e
      exact (BV.nil W).C
    · cases e
      have hl := h.2
      refine Kd.C_of_reads (enc := Value.int .u8) (d := (0 : Int)) (h1 := fun _ => rfl) ⟨by rw [toI_length], by omega, fun _ => ⟨_, rfl, fun j hj => ?_⟩⟩
      rw [show (Addr.add ⟨g, 0, none⟩ j : Addr) = ⟨g, j, none⟩ by unfold Addr.add; by_cases hj0 : j = 0 <;> simp [hj0]]
      rw [hb.cell j hj]
      simp [toI, hj]
  · exact BV.C h
theorem RW.cap {A : Option Addr} {n c : Nat} (h : RW b W (.slice A n c) l) : n = l.length ∧ n ≤ c := by
  obtain ⟨A', c', e, hc, _⟩ := h.slice
  cases e
  exact ⟨rfl, hc⟩
end
section
variable {P : Program} {ops : Array Oper} {rest : List Oper} {o : Oper} {a : Act} {Q : Exit → Act → World → Prop} {W : World}
theorem app_BV (hgd : o.guard = none) (s x : Operand) (t : TypeId) (ho : o.op = .call { callee := .builtin .append, args := #[s, x], argTypes := #[t, t] })
    (ht : P.underlying t = some (.slice 5)) (hinfo : (P.info? 5).map (fun i => (i.zero, i.size, i.bytes)) = some (some (.int .u8 0), 1, 1))
    (v : Value) (l m : List UInt8) (A : Option Addr) (n c : Nat) (hs : a.eval s = v) (hx : a.eval x = .slice A n c) (hv : BV W v l) (hm : Kd.C (Kd.int .u8) W A n (toI m)) (hl : l.length + m.length ≤ 140737488355328)
    (h : ∀ v1 W1, BV W1 v1 (l ++ m) → Only (fun j => v.ownBlock = some j) W W1 → (v1.ownBlock = v.ownBlock ∨ ∃ b, v1.ownBlock = some b ∧ W.heap.size ≤ b) → wpList P ops Q rest (a.put o.dst v1) W1) : wpList P ops Q (o :: rest) a W := by
  have hn : n = m.length := by have := hm.1; rw [toI_length] at this; exact this.symm
  refine Kd.R_append_rows (Kd.int .u8) (w0 := W) 0 hgd s x t 5 (.int .u8 0) 1 ho ht hinfo rfl (by decide) (by omega) v (toI l) (toI m) A n c (fun _ => True) (fun _ => False) hs hx hv.R hm (fun _ _ h => h) (fun _ h => h.elim) (fun _ _ => trivial) (Below.refl _ _) (Nat.zero_le _) (by rw [toI_length, hn]; omega) ?_
  intro v1 w1 hr _ hg hat
  refine h v1 w1 (BV.of_R (by rw [toI_append]; exact hr)) (Only.of_grown hg) hat
end
theorem BR.C {W : World} {g : Nat} {m : List UInt8} (h : Go.Proofs.Ytekjffooblcmnaa.Q.BR W g 5 m) (hm : m.length ≤ 4611686018427387904) : Kd.C (Kd.int .u8) W (some ⟨g, 0, none⟩) m.length (toI m) := by
  refine Kd.C_of_reads (enc := Value.int .u8) (d := (0 : Int)) (h1 := fun _ => rfl) ⟨by rw [toI_length], by omega, fun _ => ⟨_, rfl, fun j hj => ?_⟩⟩
  rw [show (Addr.add ⟨g, 0, none⟩ j : Addr) = ⟨g, j, none⟩ by unfold Addr.add; by_cases hj0 : j = 0 <;> simp [hj0]]
  have := Go.Proofs.Ytekjffooblcmnaa.Q.BR.cell h j hj
  rw [this]
  simp [toI, hj]
structure OBJ (W : World) (g : Nat) (T : TypeId) (vals : List Value) (rows : List (Option (Bool × List UInt8))) : Prop where
  heap : W.heap[g]? = some (.cells vals.toArray T (0, 0))
  row : ∀ (i : Nat) (b : Bool) (l : List UInt8), rows[i]? = some (some (b, l)) → ∃ v, vals[i]? = some v ∧ RW b W v l
  sep : ∀ (i j : Nat) (l m : Bool × List UInt8) v u k, rows[i]? = some (some l) → rows[j]? = some (some m) → i ≠ j → vals[i]? = some v → vals[j]? = some u → v.ownBlock = some k → u.ownBlock ≠ some k
def Apart (g : Nat) (vals : List Value) (rows : List (Option (Bool × List UInt8))) (v : Value) : Prop := (v.ownBlock ≠ some g) ∧ ∀ (i : Nat) l u k, rows[i]? = some (some l) → vals[i]? = some u → v.ownBlock = some k → u.ownBlock ≠ some k
section
variable {W W' : World} {g : Nat} {T : TypeId} {vals : List Value} {rows : List (Option (Bool × List UInt8))}
theorem OBJ.lt (h : OBJ W g T vals rows) : g < W.heap.size := (Array.getElem?_eq_some_iff.1 h.heap).1
theorem OBJ.move (h : OBJ W g T vals rows) (hg : W'.heap[g]? = W.heap[g]?) (hm : ∀ (i : Nat) l v k, rows[i]? = some (some l) → vals[i]? = some v → v.ownBlock = some k → W'.heap[k]? = W.heap[k]?) : OBJ W' g T vals rows := by
  refine ⟨hg.trans h.heap, fun i b l hi => ?_, h.sep⟩
  obtain ⟨v, hv, hb⟩ := h.row i b l hi
  exact ⟨v, hv, hb.move fun k hk => hm i (b, l) v k hi hv hk⟩
theorem OBJ.below (h : OBJ W g T vals rows) (hb : Below W.heap.size W W') : OBJ W' g T vals rows :=
  h.move (hb.block g h.lt) fun i l v k hi hv hk => by
    obtain ⟨v', hv', hb'⟩ := h.row i l.1 l.2 hi
    rw [hv] at hv'; cases hv'
    exact hb.block k (hb'.lt k hk)
theorem OBJ.drop (h : OBJ W g T vals rows) (i : Nat) : OBJ W g T vals (rows.set i none) := by
  have key : ∀ (j : Nat) l, (rows.set i none)[j]? = some (some l) → rows[j]? = some (some l) := fun j l hj => by
    rw [List.getElem?_set] at hj
    by_cases e : i = j
    · rw [if_pos e] at hj
      split at hj <;> cases hj
    · rwa [if_neg e] at hj
  exact ⟨h.heap, fun j b l hj => h.row j b l (key j (b, l) hj), fun a b l m v u k ha hb => h.sep a b l m v u k (key a l ha) (key b m hb)⟩
theorem Apart.nil (g : Nat) (vals : List Value) (rows : List (Option (Bool × List UInt8))) (n c : Nat) : Apart g vals rows (.slice none n c) := ⟨fun e => by simp [Value.ownBlock] at e, fun i l u k _ _ hk => by simp [Value.ownBlock] at hk⟩
theorem OBJ.only (h : OBJ W g T vals rows) {v : Value} (ha : Apart g vals rows v) (ho : Only (fun j => v.ownBlock = some j) W W') : OBJ W' g T vals rows :=
  h.move (ho.block g h.lt (fun e => ha.1 e)) fun i l u k hi hu hk => by
    obtain ⟨v', hv', hb'⟩ := h.row i l.1 l.2 hi
    rw [hu] at hv'; cases hv'
    exact ho.block k (hb'.lt k hk) (fun e => ha.2 i l u k hi hu e hk)
theorem OBJ.put (h : OBJ W g T vals rows) (hT : T ≠ 5) (i : Nat) (hi : i < vals.length) (v : Value) (hr : ∀ l, rows[i]? ≠ some (some l)) : OBJ (W.setCell ⟨g, i, none⟩ v) g T (vals.set i v) rows := by
  have hg : (W.setCell ⟨g, i, none⟩ v).heap[g]? = some (.cells (vals.set i v).toArray T (0, 0)) := by
    simp only [World.setCell, Array.getElem?_modify, if_pos]
    rw [h.heap]
    simp
  have nei : ∀ (j : Nat) l, rows[j]? = some (some l) → i ≠ j := fun j l hj e => hr l (e ▸ hj)
  have same : ∀ (j : Nat) l, rows[j]? = some (some l) → (vals.set i v)[j]? = vals[j]? := fun j l hj => by rw [List.getElem?_set, if_neg (nei j l hj)]
  refine ⟨hg, fun j c l hj => ?_, fun a b la lb va vb k hra hrb hab hva hvb => ?_⟩
  · obtain ⟨u, hu, hb⟩ := h.row j c l hj
    refine ⟨u, (same j (c, l) hj).trans hu, hb.move fun k hk => Below.heap_setCell _ _ _ _ (fun e => ?_)⟩
    obtain ⟨C, f, hC⟩ := hb.type hk
    rw [e, h.heap] at hC
    cases hC
    exact hT rfl
  · rw [same a la hra] at hva
    rw [same b lb hrb] at hvb
    exact h.sep a b la lb va vb k hra hrb hab hva hvb
theorem OBJ.cell (h : OBJ W g T vals rows) (i : Nat) (v : Value) (hv : vals[i]? = some v) : W.cell? ⟨g, i, none⟩ = some v := by
  unfold World.cell?
  rw [h.heap]
  show vals.toArray[i]? = some v
  rw [List.getElem?_toArray]
  exact hv
theorem OBJ.fz (h : OBJ W g T vals rows) (i : Nat) : W.frozen? ⟨g, i, none⟩ = false := by unfold World.frozen?; rw [h.heap]; simp
end
theorem OBJ.fresh {W : World} {g : Nat} {T : TypeId} {vals : List Value} {rows : List (Option (Bool × List UInt8))} (hg : W.heap[g]? = some (.cells vals.toArray T (0, 0))) (h0 : ∀ v ∈ vals, v.ownBlock = none) (hr : ∀ (i : Nat) (b : Bool) (l : List UInt8), rows[i]? = some (some (b, l)) → l = [] ∧ vals[i]? = some (.slice none 0 0)) : OBJ W g T vals rows := by
  refine ⟨hg, fun i b l hi => ?_, fun i j l m v u k _ _ _ hv _ hk => ?_⟩
  · obtain ⟨rfl, hv⟩ := hr i b l hi
    refine ⟨_, hv, ?_⟩
    cases b
    · exact ⟨.inl ⟨rfl, rfl⟩, Nat.zero_le _⟩
    · exact BV.nil W
  · rw [h0 v (List.mem_of_getElem? hv)] at hk
    cases hk
section
variable {w0 w W W1 : World} {v0 v v1 : Value} {g : Nat} {T : TypeId} {vals : List Value} {rows : List (Option (Bool × List UInt8))} {acc acc1 : List UInt8}
variable {P : Program} {ops : Array Oper} {rest : List Oper} {o : Oper} {a : Act} {Q : Exit → Act → World → Prop}
end
end Go.Proofs.Ytekjffooblcmnaa.Ob
end
