/- FnAddedSays: the law's function, called with any arguments, returns true and leaves its arguments as they were: every input, no condition. Part 3 of 8. -/
import Derived.Test.YtekjffooblcmnaaZFnAddedSays1
import Derived.Deep.RegionWith
import Derived.Test.YtekjffooblcmnaaZFnAddedSays0
import Derived.WalkSmall
set_option linter.unusedVariables false
set_option linter.unusedSimpArgs false
set_option linter.unusedSectionVars false
section
namespace Go.Proofs.Ytekjffooblcmnaa.Rh
open Go.RowKit Go.Proofs.YtekjffooblcmnaaW.PrintWords Go.Proofs.YtekjffooblcmnaaW.PrintLast Go.Proofs.YtekjffooblcmnaaW.PrintMore
open Go.Proofs.Ytekjffooblcmnaa.Ob (Only OBJ)
open Go.Proofs.Ytekjffooblcmnaa.Rt (Nd Dat Tb Ch put)
set_option linter.unusedVariables false
set_option linter.unusedSimpArgs false
def ptr (o : Option Nat) : Value := .pointer (o.map fun b => ⟨b, 0, none⟩)
def pK : Kd Nat := Kd.scalar (fun b => Value.pointer (some ⟨b, 0, none⟩)) (fun _ => rfl)
def ncell (φ : Nat → Nat) (nd : Nd) (lab : Int) (pre pp : ByteArray) (kv pv hv : Value) (lf : Bool) : List Value :=
  [.int .u8 nd.kind, .int .u8 lab, .string pre, ptr (nd.par.map φ), kv, .string pp, pv, hv, ptr (nd.pc.map φ), ptr (nd.ac.map φ), .bool lf]
class Blk where
  X : Nat → Prop
variable [Blk]
def DR (W : World) (o : Option Dat) (pp : ByteArray) (pv hv : Value) : Prop := match o with
  | none => hv = .slice none 0 0 ∧ ∃ C q f, pv = .slice C q f
  | some d => pp.data.toList = d.pp ∧ W.ownsRow 0 3 1 hv 1 [.int .i64 d.place] ∧ ∃ xs : List ByteArray, xs.map (·.data.toList) = d.pn ∧ W.ownsRow 0 9 1 pv xs.length (encs Value.string xs) ∧ ∀ k, hv.ownBlock = some k ∨ pv.ownBlock = some k → Blk.X k
def NR (W : World) (φ : Nat → Nat) (g : Nat) (nd : Nd) (kv : Value) : Prop :=
  ∃ lab pre pp pv hv lf, W.heap[g]? = some (.cells (ncell φ nd lab pre pp kv pv hv lf).toArray 52 (0, 0)) ∧ pre.data.toList = nd.pre ∧ (∀ c r, nd.pre = c :: r → lab = (c.toNat : Int)) ∧ DR W nd.d pp pv hv ∧
    W.ownsRow 0 46 1 kv nd.kids.length (encs (fun b => Value.pointer (some ⟨b, 0, none⟩)) (nd.kids.map φ))
structure HT (W : World) (t : Tb) (φ : Nat → Nat) (K : Nat → Value) : Prop where
  inj : ∀ a b, t a ≠ none → t b ≠ none → φ a = φ b → a = b
  node : ∀ b nd, t b = some nd → NR W φ (φ b) nd (K b)
  sep : ∀ a b k, t a ≠ none → t b ≠ none → a ≠ b → (K a).ownBlock = some k → (K b).ownBlock ≠ some k
def Own (t : Tb) (φ : Nat → Nat) (K : Nat → Value) (k : Nat) : Prop := ∃ b, t b ≠ none ∧ (φ b = k ∨ (K b).ownBlock = some k)
def Srt (W : World) (k : Nat) : Prop := ∃ C e f, W.heap[k]? = some (.cells C e f) ∧ (e = 52 ∨ e = 46)
section
variable {W W' : World} {t : Tb} {φ φ' : Nat → Nat} {K : Nat → Value} {g : Nat} {nd : Nd} {kv : Value}
theorem NR.lt (h : NR W φ g nd kv) : g < W.heap.size := by
  obtain ⟨lab, pre, pp, pv, hv, lf, h1, _⟩ := h
  exact (Array.getElem?_eq_some_iff.1 h1).1
theorem NR.srt (h : NR W φ g nd kv) : Srt W g := by
  obtain ⟨lab, pre, pp, pv, hv, lf, h1, _⟩ := h
  exact ⟨_, _, _, h1, .inl rfl⟩
theorem NR.srtK (h : NR W φ g nd kv) {k : Nat} (hk : kv.ownBlock = some k) : Srt W k := by
  obtain ⟨lab, pre, pp, pv, hv, lf, h1, _, _, _, h5⟩ := h
  obtain ⟨C, hC⟩ := own_typed h5 k hk
  exact ⟨_, _, _, hC, .inr rfl⟩
theorem NR.ltK (h : NR W φ g nd kv) {k : Nat} (hk : kv.ownBlock = some k) : k < W.heap.size := by
  obtain ⟨C, e, f, h1, _⟩ := h.srtK hk
  exact (Array.getElem?_eq_some_iff.1 h1).1
theorem NR.ne (h : NR W φ g nd kv) {φ2 : Nat → Nat} {g2 : Nat} {nd2 : Nd} {kv2 : Value} (h2 : NR W φ2 g2 nd2 kv2) : kv.ownBlock ≠ some g2 := by
  intro e
  obtain ⟨lab, pre, pp, pv, hv, lf, h1, _, _, _, h5⟩ := h
  obtain ⟨lab', pre', pp', pv', hv', lf', h1', _⟩ := h2
  obtain ⟨C, hC⟩ := own_typed h5 g2 e
  rw [h1'] at hC
  cases hC
theorem DR.move {o : Option Dat} {pp : ByteArray} {pv hv : Value} (h : DR W o pp pv hv) (hm : ∀ k, k < W.heap.size → ¬ Srt W k → W'.heap[k]? = W.heap[k]?) : DR W' o pp pv hv := by
  have key : ∀ (e : TypeId) n v xs, e ≠ 52 → e ≠ 46 → W.ownsRow 0 e 1 v n xs → W'.ownsRow 0 e 1 v n xs := fun e n v xs h1 h2 ho => own_move ho fun k hk => by
    obtain ⟨C, hC⟩ := own_typed ho k hk
    refine hm k (Array.getElem?_eq_some_iff.1 hC).1 ?_
    rintro ⟨C', e', f', h3, h4⟩
    rw [hC] at h3
    cases h3
    exact h4.elim h1 h2
  cases o with
  | none => exact h
  | some d =>
    obtain ⟨h1, h2, xs, h3, h4⟩ := h
    exact ⟨h1, key _ _ _ _ (by decide) (by decide) h2, xs, h3, key _ _ _ _ (by decide) (by decide) h4.1, h4.2⟩
theorem DR.slices {o : Option Dat} {pp : ByteArray} {pv hv : Value} (h : DR W o pp pv hv) : (∃ A n c, hv = .slice A n c) ∧ ∃ A n c, pv = .slice A n c := by
  have key : ∀ {e : TypeId} {v : Value} {n : Nat} {xs : List Value}, W.ownsRow 0 e 1 v n xs → ∃ A n c, v = .slice A n c := fun {e v n xs} h => by
    rcases h.2 with ⟨e, _⟩ | ⟨g, cap, cur, e, _⟩
    · exact ⟨_, _, _, e⟩
    · exact ⟨_, _, _, e⟩
  cases o with
  | none => exact ⟨⟨_, _, _, h.1⟩, h.2⟩
  | some d =>
    obtain ⟨_, h2, xs, _, h4⟩ := h
    exact ⟨key h2, key h4.1⟩
theorem NR.move (h : NR W φ g nd kv) (hg : W'.heap[g]? = W.heap[g]?) (hk : ∀ k, kv.ownBlock = some k → W'.heap[k]? = W.heap[k]?) (hm : ∀ k, k < W.heap.size → ¬ Srt W k → W'.heap[k]? = W.heap[k]?) : NR W' φ g nd kv := by
  obtain ⟨lab, pre, pp, pv, hv, lf, h1, h2, h3, h4, h5⟩ := h
  exact ⟨lab, pre, pp, pv, hv, lf, hg.trans h1, h2, h3, h4.move hm, own_move h5 hk⟩
theorem NR.phi (h : NR W φ g nd kv) (hφ : ∀ x, nd.par = some x ∨ Ch nd x → φ' x = φ x) : NR W φ' g nd kv := by
  obtain ⟨lab, pre, pp, pv, hv, lf, h1, h2, h3, h4, h5⟩ := h
  have e1 : nd.par.map φ' = nd.par.map φ := by
    cases hp : nd.par with
    | none => rfl
    | some x => rw [Option.map_some, Option.map_some, hφ x (.inl hp)]
  have e2 : nd.pc.map φ' = nd.pc.map φ := by
    cases hp : nd.pc with
    | none => rfl
    | some x => rw [Option.map_some, Option.map_some, hφ x (.inr (.inr (.inl hp)))]
  have e3 : nd.ac.map φ' = nd.ac.map φ := by
    cases hp : nd.ac with
    | none => rfl
    | some x => rw [Option.map_some, Option.map_some, hφ x (.inr (.inr (.inr hp)))]
  have e4 : nd.kids.map φ' = nd.kids.map φ := List.map_congr_left fun x hx => hφ x (.inr (.inl hx))
  refine ⟨lab, pre, pp, pv, hv, lf, ?_, h2, h3, h4, by rw [e4]; exact h5⟩
  unfold ncell at h1 ⊢
  rw [e1, e2, e3]
  exact h1
theorem HT.phi (h : HT W t φ K) (hφ : ∀ b nd x, t b = some nd → x = b ∨ nd.par = some x ∨ Ch nd x → φ' x = φ x) : HT W t φ' K := by
  have e : ∀ b, t b ≠ none → φ' b = φ b := fun b hb => by
    cases hq : t b with
    | none => exact absurd hq hb
    | some nd => exact hφ b nd b hq (.inl rfl)
  refine ⟨fun a b ha hb hab => h.inj a b ha hb (by rw [← e a ha, ← e b hb]; exact hab), fun b nd hb => ?_, h.sep⟩
  rw [e b (by rw [hb]; simp)]
  exact (h.node b nd hb).phi fun x hx => hφ b nd x hb (.inr hx)
def del (t : Tb) (b : Nat) : Tb := fun x => if x = b then none else t x
theorem del_some {b x : Nat} (h : del t b x = some nd) : x ≠ b ∧ t x = some nd := by
  unfold del at h
  by_cases e : x = b
  · rw [if_pos e] at h; cases h
  · rw [if_neg e] at h; exact ⟨e, h⟩
theorem del_ne {b x : Nat} (h : del t b x ≠ none) : x ≠ b ∧ t x ≠ none := by
  unfold del at h
  by_cases e : x = b
  · rw [if_pos e] at h; exact absurd rfl h
  · rw [if_neg e] at h; exact ⟨e, h⟩
theorem HT.drop (h : HT W t φ K) (b : Nat) : HT W (del t b) φ K :=
  ⟨fun x y hx hy e => h.inj x y (del_ne hx).2 (del_ne hy).2 e, fun x nd hx => h.node x nd (del_some hx).2, fun x y k hx hy hne => h.sep x y k (del_ne hx).2 (del_ne hy).2 hne⟩
def Away (t : Tb) (φ : Nat → Nat) (K : Nat → Value) (g : Nat) (kv : Value) : Prop := (∀ a, t a ≠ none → φ a ≠ g) ∧ ∀ a k, t a ≠ none → (K a).ownBlock = some k → kv.ownBlock ≠ some k
theorem HT.away (h : HT W t φ K) {b : Nat} (hb : t b = some nd) : Away (del t b) φ K (φ b) (K b) :=
  ⟨fun a ha e => (del_ne ha).1 (h.inj a b (del_ne ha).2 (by rw [hb]; simp) e), fun a k ha hk => h.sep a b k (del_ne ha).2 (by rw [hb]; simp) (del_ne ha).1 hk⟩
theorem HT.add (h : HT W t φ K) {b : Nat} (hn : NR W φ (φ b) nd kv) (ha : Away (del t b) φ K (φ b) kv) : HT W (put t b nd) φ (fun x => if x = b then kv else K x) := by
  have P : ∀ x, put t b nd x = if x = b then some nd else t x := fun x => rfl
  have dn : ∀ {x}, x ≠ b → t x ≠ none → del t b x ≠ none := fun {x} h1 h2 => by unfold del; rw [if_neg h1]; exact h2
  have pn : ∀ {x}, put t b nd x ≠ none → x = b ∨ (x ≠ b ∧ t x ≠ none) := fun {x} hx => by
    rw [P] at hx
    by_cases e : x = b
    · exact .inl e
    · rw [if_neg e] at hx; exact .inr ⟨e, hx⟩
  refine ⟨fun x y hx hy e => ?_, fun x m hx => ?_, fun x y k hx hy hne hk => ?_⟩
  · rcases pn hx with rfl | ⟨h1, h2⟩
    · rcases pn hy with h3 | ⟨h3, h4⟩
      · exact h3.symm
      · exact absurd e.symm (ha.1 y (dn h3 h4))
    · rcases pn hy with rfl | ⟨h3, h4⟩
      · exact absurd e (ha.1 x (dn h1 h2))
      · exact h.inj x y h2 h4 e
  · rw [P] at hx
    by_cases e : x = b
    · rw [if_pos e] at hx; cases hx
      subst e
      rw [if_pos rfl]; exact hn
    · rw [if_neg e] at hx
      rw [if_neg e]; exact h.node x m hx
  · rcases pn hx with rfl | ⟨h1, h2⟩
    · rw [if_pos rfl] at hk
      rcases pn hy with h3 | ⟨h3, h4⟩
      · exact absurd h3.symm hne
      · rw [if_neg h3]
        intro e
        exact ha.2 y k (dn h3 h4) e hk
    · rw [if_neg h1] at hk
      rcases pn hy with rfl | ⟨h3, h4⟩
      · rw [if_pos rfl]
        exact ha.2 x k (dn h1 h2) hk
      · rw [if_neg h3]; exact h.sep x y k h2 h4 hne hk
theorem HT.only {S : Nat → Prop} (h : HT W t φ K) (ho : Only S W W') (hs : ∀ k, k < W.heap.size → S k → Srt W k ∧ ¬ Own t φ K k) : HT W' t φ K := by
  refine ⟨h.inj, fun b nd hb => ?_, h.sep⟩
  have hn := h.node b nd hb
  have hb' : t b ≠ none := by rw [hb]; simp
  refine hn.move (ho.block _ hn.lt fun e => (hs _ hn.lt e).2 ⟨b, hb', .inl rfl⟩) (fun k hk => ho.block k (hn.ltK hk) fun e => (hs _ (hn.ltK hk) e).2 ⟨b, hb', .inr hk⟩) fun k hk hns => ho.block k hk fun e => hns (hs k hk e).1
theorem Own.lt (h : HT W t φ K) {k : Nat} (hk : Own t φ K k) : k < W.heap.size := by
  obtain ⟨b, hb, e⟩ := hk
  cases hq : t b with
  | none => exact absurd hq hb
  | some nd => rcases e with e | e; exact e ▸ (h.node b nd hq).lt; exact (h.node b nd hq).ltK e
theorem Own.srt (h : HT W t φ K) {k : Nat} (hk : Own t φ K k) : Srt W k := by
  obtain ⟨b, hb, e⟩ := hk
  cases hq : t b with
  | none => exact absurd hq hb
  | some nd => rcases e with e | e; exact e ▸ (h.node b nd hq).srt; exact (h.node b nd hq).srtK e
theorem HT.below (h : HT W t φ K) (hb : Below W.heap.size W W') : HT W' t φ K := h.only (Only.of_below (S := fun _ => False) hb) fun _ _ e => e.elim
theorem NR.obj (h : NR W φ g nd kv) : ∃ lab pre pp pv hv lf, OBJ W g 52 (ncell φ nd lab pre pp kv pv hv lf) [] ∧ pre.data.toList = nd.pre ∧ (∀ c r, nd.pre = c :: r → lab = (c.toNat : Int)) ∧ DR W nd.d pp pv hv ∧
    W.ownsRow 0 46 1 kv nd.kids.length (encs (fun b => Value.pointer (some ⟨b, 0, none⟩)) (nd.kids.map φ)) := by
  obtain ⟨lab, pre, pp, pv, hv, lf, h1, h2⟩ := h
  exact ⟨lab, pre, pp, pv, hv, lf, ⟨h1, fun i b l hi => by simp at hi, fun i j l m v u k hi => by simp at hi⟩, h2⟩
theorem OBJ.nr {lab : Int} {pre pp : ByteArray} {pv hv : Value} {lf : Bool} (h : OBJ W g 52 (ncell φ nd lab pre pp kv pv hv lf) []) (h2 : pre.data.toList = nd.pre) (h3 : ∀ c r, nd.pre = c :: r → lab = (c.toNat : Int)) (h4 : DR W nd.d pp pv hv)
    (h5 : W.ownsRow 0 46 1 kv nd.kids.length (encs (fun b => Value.pointer (some ⟨b, 0, none⟩)) (nd.kids.map φ))) : NR W φ g nd kv := ⟨lab, pre, pp, pv, hv, lf, h.heap, h2, h3, h4, h5⟩
end
end Go.Proofs.Ytekjffooblcmnaa.Rh
end
section
namespace Go.Proofs.Ytekjffooblcmnaa.Q
open Go.RowKit Go.Proofs.YtekjffooblcmnaaW.PrintWords Go.Proofs.YtekjffooblcmnaaW.PrintLast Go.Proofs.YtekjffooblcmnaaW.PrintMore
open Go.Proofs.YtekjffooblcmnaaKit (L size_L)
open Go.Proofs.Ytekjffooblcmnaa.SpA (toI toI_length toI_append)
open Go.Proofs.Ytekjffooblcmnaa.Ob
open Go.Proofs.Ytekjffooblcmnaa.Rh (ptr NR HT Own Srt ncell)
open Go.Proofs.Ytekjffooblcmnaa.Rt (Nd Dat Tb Ch)
set_option linter.unusedVariables false
set_option linter.unusedSimpArgs false
def NewNode (w : World) (pre : ByteArray) (vals : Int → Bool → List Value) (e : Ending) (w' : World) : Prop := ∃ lab lf, e = .returned (.pointer (some ⟨w.heap.size, 0, none⟩)) ∧ OBJ w' w.heap.size 52 (vals lab lf) [] ∧ Below w.heap.size w w' ∧ (∀ c r, pre.data.toList = c :: r → lab = (c.toNat : Int)) ∧ w.heap.size < w'.heap.size
theorem obj_new (w : World) (T : TypeId) (vals : List Value) : OBJ (w.alloc (.cells vals.toArray T)) w.heap.size T vals [] := ⟨heap_alloc_new w _, fun i b l hi => by simp at hi, fun i j l m v u k hi => by simp at hi⟩
theorem head_byte {pre : ByteArray} (h : 0 < pre.size) : ∀ c r, pre.data.toList = c :: r → ((pre[0]'h).toNat : Int) = (c.toNat : Int) := fun c r e => by
  have h1 : pre.data.toList[0]? = some c := by rw [e]; rfl
  have h2 : pre[0]'h = c := by
    have h3 : pre.data[0]? = some (pre.data[0]'h) := Array.getElem?_eq_getElem h
    rw [Array.getElem?_toList, h3] at h1
    exact Option.some.inj h1
  rw [h2]
set_option maxHeartbeats 8000000 in
set_option maxRecDepth 100000 in
theorem newNode_calls (w : World) (k : Int) (pre pp : ByteArray) (p pc ac : Option Addr) (A B C : Option Addr) (n m q c d f : Nat) (h : 0 < pre.size) :
    Calls Try.prog 24 #[.int .u8 k, .string pre, .pointer p, .slice A n c, .slice B m d, .string pp, .slice C q f, .pointer pc, .pointer ac] w
      (NewNode w pre fun lab lf => [.int .u8 k, .int .u8 lab, .string pre, .pointer p, .slice A n c, .string pp, .slice C q f, .slice B m d, .pointer pc, .pointer ac, .bool lf]) := by
  have hnil := fun W : World => Lib.run_eql_slice_nil (P := Try.prog) W 49 46 A n c 0 0 Try.underlying49
  rcases A with _ | A <;> rcases pc with _ | pc <;> rcases ac with _ | ac
  all_goals (
    go_enter Try.func24, Try.ntmps24
    go_wp2
    go_ret
    exact ⟨_, _, rfl, obj_new w _ _, below_alloc (Below.refl _ _) _, head_byte h, by simp⟩)
end Go.Proofs.Ytekjffooblcmnaa.Q
end
section
namespace Go.Proofs.Ytekjffooblcmnaa.Q
open Go.RowKit Go.Proofs.YtekjffooblcmnaaW.PrintWords Go.Proofs.YtekjffooblcmnaaW.PrintLast Go.Proofs.YtekjffooblcmnaaW.PrintMore
open Go.Proofs.YtekjffooblcmnaaKit (L size_L)
open Go.Proofs.Ytekjffooblcmnaa.SpA (toI toI_length toI_append)
open Go.Proofs.Ytekjffooblcmnaa.Ob
open Go.Proofs.Ytekjffooblcmnaa.Rh (ptr NR HT Own Srt ncell)
open Go.Proofs.Ytekjffooblcmnaa.Rt (Nd Dat Tb Ch)
set_option linter.unusedVariables false
set_option linter.unusedSimpArgs false
def natV : Value → Nat
  | .int _ x => x.toNat
  | _ => 0
theorem wrap_succ {i n : Nat} (h : i < n) (hn : n ≤ 2147483647) : wrap64 ((i : Int) + 1) = ((i + 1 : Nat) : Int) := by unfold wrap64; omega
theorem kids_form {w : World} {kv : Value} {l : List Nat} (h : w.ownsRow 0 46 1 kv l.length (encs (fun b => Value.pointer (some ⟨b, 0, none⟩)) l)) :
    ∃ A c, kv = .slice A l.length c ∧ l.length ≤ c ∧ ∀ (i : Nat) (x : Nat), l[i]? = some x → ∃ g, A = some ⟨g, 0, none⟩ ∧ w.cell? ⟨g, i, none⟩ = some (.pointer (some ⟨x, 0, none⟩)) := by
  rcases id h.2 with ⟨e, hn⟩ | ⟨g, cap, cur, e, hb, hg, hc, _⟩
  · refine ⟨none, 0, by rw [e, hn], by omega, fun i x hx => ?_⟩
    rw [List.length_eq_zero_iff.1 hn] at hx
    simp at hx
  · refine ⟨some ⟨g, 0, none⟩, cap, e, hc, fun i x hx => ⟨g, rfl, ?_⟩⟩
    have h1 := h.cells (g := g) (by rw [e]; rfl) i (.pointer (some ⟨x, 0, none⟩)) (by simp [encs, hx])
    rwa [show (Addr.add ⟨g, 0, none⟩ i : Addr) = ⟨g, i, none⟩ by unfold Addr.add; by_cases hj0 : i = 0 <;> simp [hj0]] at h1
theorem kidL_of {t : Tb} {nd : Nd} {c : UInt8} {i : Nat} (h : ∀ x ∈ nd.kids.take i, Go.Proofs.Ytekjffooblcmnaa.Rt.headIs t c x = false) (hi : i < nd.kids.length) (hc : Go.Proofs.Ytekjffooblcmnaa.Rt.headIs t c nd.kids[i] = true) : Go.Proofs.Ytekjffooblcmnaa.Rt.kidL t nd c = some nd.kids[i] := by
  unfold Go.Proofs.Ytekjffooblcmnaa.Rt.kidL Go.Proofs.Ytekjffooblcmnaa.Rt.kid
  have e : nd.kids = nd.kids.take i ++ nd.kids[i] :: nd.kids.drop (i + 1) := by rw [← List.drop_eq_getElem_cons hi, List.take_append_drop]
  have h1 : nd.kids.find? (Go.Proofs.Ytekjffooblcmnaa.Rt.headIs t c) = some nd.kids[i] := by
    rw [List.find?_eq_some_iff_append]
    exact ⟨hc, _, _, e, fun x hx => by rw [h x hx]; rfl⟩
  rw [h1]
variable [Go.Proofs.Ytekjffooblcmnaa.Rh.Blk]
set_option maxHeartbeats 8000000 in
set_option maxRecDepth 100000 in
theorem childL_calls (w : World) {t : Tb} {φ : Nat → Nat} {K : Nat → Value} (h : HT w t φ K) {b : Nat} {nd : Nd} (hb : t b = some nd) (hk : ∀ x ∈ nd.kids, ∃ m, t x = some m ∧ m.pre ≠ []) (c : UInt8) (hn : nd.kids.length ≤ 2147483647) :
    Calls Try.prog 25 #[.pointer (some ⟨φ b, 0, none⟩), .int .u8 (c.toNat : Int)] w (fun e w' => e = .returned (ptr ((Go.Proofs.Ytekjffooblcmnaa.Rt.kidL t nd c).map φ)) ∧ w' = w) := by
  obtain ⟨lab, pre, pp, pv, hv, lf, hO, _, _, _, hrow⟩ := (h.node b nd hb).obj
  have c4 := hO.cell 4 _ rfl
  have c8 := hO.cell 8 _ rfl
  have c9 := hO.cell 9 _ rfl
  rw [← List.length_map (f := φ)] at hrow
  obtain ⟨A, cap, hkv, hcap, hcells⟩ := kids_form hrow
  rw [List.length_map] at hkv
  rw [hkv] at c4
  have HC := Aside0.mk hcells
  have HH := Aside0.mk h
  have HN := Aside0.mk hn
  have HK := Aside0.mk hk
  clear hrow hcells hcap hkv hO hn hk h
  unfold ptr at c8 c9
  obtain ⟨pa, hpa⟩ : ∃ pa, pa = (nd.pc.map φ).map fun b => (⟨b, 0, none⟩ : Addr) := ⟨_, rfl⟩
  obtain ⟨qa, hqa⟩ : ∃ qa, qa = (nd.ac.map φ).map fun b => (⟨b, 0, none⟩ : Addr) := ⟨_, rfl⟩
  rw [← hpa] at c8
  rw [← hqa] at c9
  have HPA := Aside0.mk hpa
  have HQA := Aside0.mk hqa
  clear hpa hqa
  obtain ⟨n, hnl⟩ : ∃ n, n = nd.kids.length := ⟨_, rfl⟩
  rw [← hnl] at c4
  have HNL := Aside0.mk hnl
  clear hnl
  go_enter Try.func25, Try.ntmps25
  go_wp2
  go_loopw [6, 12] (fun v6 v12 wr => ∃ i : Nat, v12 = .int .i64 (i : Int) ∧ wr = w ∧ Aside0 (i ≤ n) ∧ Aside0 (∀ x ∈ nd.kids.take i, Go.Proofs.Ytekjffooblcmnaa.Rt.headIs t c x = false)) (fun _ v12 _ => n - natV v12)
  case atStart => exact ⟨0, rfl, rfl, ⟨Nat.zero_le _⟩, ⟨by simp⟩⟩
  case round =>
    obtain ⟨i, rfl, rfl, HI, HNO⟩ := hrel
    by_cases hi : i < n
    · have b2 : decide ((i : Int) < (n : Int)) = true := decide_eq_true (by omega)
      have p1 : (0 ≤ (i : Int)) = True := eq_true (by omega)
      have q1 : ((i : Int) < (n : Int)) = True := eq_true (by omega)
      have hi2 : i < nd.kids.length := by rw [← HNL.out]; exact hi
      have wx := wrap_succ hi (by rw [HNL.out]; exact HN.out)
      obtain ⟨g, rfl, f1⟩ := HC.out i (φ nd.kids[i]) (by rw [List.getElem?_map, List.getElem?_eq_getElem hi2]; rfl)
      obtain ⟨m, hm1, hm2⟩ := HK.out nd.kids[i] (List.getElem_mem hi2)
      obtain ⟨lab2, pre2, pp2, pv2, hv2, lf2, hO2, _, hl2, _, _⟩ := (HH.out.node _ m hm1).obj
      have f2 := hO2.cell 1 _ rfl
      cases hp : m.pre with
      | nil => exact absurd hp hm2
      | cons y r =>
      have hlab : lab2 = (y.toNat : Int) := hl2 y r hp
      subst hlab
      have hhd : Go.Proofs.Ytekjffooblcmnaa.Rt.headIs t c nd.kids[i] = (y == c) := by unfold Go.Proofs.Ytekjffooblcmnaa.Rt.headIs; rw [hm1]; simp [hp]
      obtain ⟨bx, hbx⟩ : ∃ bx, bx = φ nd.kids[i] := ⟨_, rfl⟩
      rw [← hbx] at f1 f2
      have HT1 : Aside0 (nd.kids.take (i + 1) = nd.kids.take i ++ [nd.kids[i]]) := ⟨by rw [List.take_add_one, List.getElem?_eq_getElem hi2]; rfl⟩
      by_cases hy : y = c
      · subst hy
        have bb : (((y.toNat : Int)) == (y.toNat : Int)) = true := beq_self_eq_true _
        have HR : Aside0 (Go.Proofs.Ytekjffooblcmnaa.Rt.kidL t nd y = some nd.kids[i]) := ⟨kidL_of HNO.out hi2 (by rw [hhd]; simp)⟩
        have HBX := Aside0.mk hbx
        clear hbx hhd hm1 hm2 hp hO2 hl2
        go_wp2
        go_ret
        exact ⟨by rw [HR.out, HBX.out]; rfl, rfl⟩
      · have bb : (((y.toNat : Int)) == (c.toNat : Int)) = false := beq_eq_false_iff_ne.2 (fun e => hy (UInt8.toNat_inj.1 (Int.ofNat_inj.1 e)))
        have HR : Aside0 (∀ x ∈ nd.kids.take (i + 1), Go.Proofs.Ytekjffooblcmnaa.Rt.headIs t c x = false) := ⟨fun x hx => by
          rw [HT1.out] at hx
          rcases List.mem_append.1 hx with hx | hx
          · exact HNO.out x hx
          · rw [List.mem_singleton.1 hx, hhd]; simpa using hy⟩
        clear hbx hhd hm1 hm2 hp hO2 hl2
        go_wp2
        go_roundw
        case measure => simp only [natV]; try rw [wx]
                        omega
        case rel => exact ⟨i + 1, by first | rfl | rw [← wx], by trivial, ⟨by omega⟩, HR⟩
    · have b2 : decide ((i : Int) < (n : Int)) = false := decide_eq_false (by omega)
      have HR : Aside0 (Go.Proofs.Ytekjffooblcmnaa.Rt.kid t nd c = none) := ⟨by
        have h1 := HNO.out
        rw [List.take_of_length_le (by have := HNL.out; omega)] at h1
        exact List.find?_eq_none.2 fun x hx => by rw [h1 x hx]; decide⟩
      by_cases c58 : c = 58
      · subst c58
        have b58 : (((58 : UInt8).toNat : Int) == 58) = true := rfl
        go_wp2
        go_ret
        exact ⟨by unfold Go.Proofs.Ytekjffooblcmnaa.Rt.kidL; rw [HR.out]; simp only [if_true]; unfold ptr; rw [← HPA.out]; rfl, rfl⟩
      · have b58 : ((c.toNat : Int) == 58) = false := beq_eq_false_iff_ne.2 (fun e => c58 (UInt8.toNat_inj.1 (Int.ofNat_inj.1 e)))
        by_cases c42 : c = 42
        · subst c42
          have b42 : (((42 : UInt8).toNat : Int) == 42) = true := rfl
          go_wp2
          go_ret
          exact ⟨by unfold Go.Proofs.Ytekjffooblcmnaa.Rt.kidL; rw [HR.out]; simp only [if_neg (show ¬ (42 : UInt8) = 58 by decide), if_true]; unfold ptr; rw [← HQA.out]; rfl, rfl⟩
        · have b42 : ((c.toNat : Int) == 42) = false := beq_eq_false_iff_ne.2 (fun e => c42 (UInt8.toNat_inj.1 (Int.ofNat_inj.1 e)))
          go_wp2
          go_ret
          exact ⟨by unfold Go.Proofs.Ytekjffooblcmnaa.Rt.kidL; rw [HR.out]; simp only [if_neg c58, if_neg c42]; rfl, rfl⟩
end Go.Proofs.Ytekjffooblcmnaa.Q
end
section
namespace Go.Proofs.Ytekjffooblcmnaa.Rh
open Go.RowKit Go.Proofs.YtekjffooblcmnaaW.PrintWords Go.Proofs.YtekjffooblcmnaaW.PrintLast Go.Proofs.YtekjffooblcmnaaW.PrintMore
open Go.Proofs.Ytekjffooblcmnaa.Ob (Only OBJ)
open Go.Proofs.Ytekjffooblcmnaa.Rt (Nd Dat Tb Ch put)
set_option linter.unusedVariables false
set_option linter.unusedSimpArgs false
variable [Go.Proofs.Ytekjffooblcmnaa.Rh.Blk]
structure Got (w W' : World) (t t' : Tb) (φ φ' : Nat → Nat) (K K' : Nat → Value) : Prop where
  ht : HT W' t' φ' K'
  on : Only (Own t φ K) w W'
  new : ∀ k, Own t' φ' K' k → Own t φ K k ∨ w.heap.size ≤ k
  same : ∀ b, t b ≠ none → φ' b = φ b
section
variable {w w1 w2 W W' : World} {t : Tb} {φ φ' : Nat → Nat} {K : Nat → Value} {g : Nat} {nd : Nd} {kv : Value}
theorem HT.join (h : HT w t φ K) {b : Nat} (hb : t b = none) (ho : Only (fun j => j = φ b) w W') (hs : ∃ C f, w.heap[φ b]? = some (.cells C 52 f)) (hp : ∀ a, t a ≠ none → φ a ≠ φ b) (hn : NR W' φ (φ b) nd kv) (hk : ∀ a k, t a ≠ none → (K a).ownBlock = some k → kv.ownBlock ≠ some k) :
    HT W' (put t b nd) φ (fun x => if x = b then kv else K x) := by
  obtain ⟨C0, f0, hs⟩ := hs
  have hne : ∀ a m k, t a = some m → (K a).ownBlock = some k → k ≠ φ b := fun a m k ha hak e => by
    obtain ⟨_, _, _, _, _, _, _, _, _, _, hrow⟩ := h.node a m ha
    obtain ⟨C', hC'⟩ := own_typed hrow _ hak
    rw [e, hs] at hC'
    cases hC'
  have h1 : HT W' t φ K := by
    refine ⟨h.inj, fun a m ha => ?_, h.sep⟩
    have hna := h.node a m ha
    have ha' : t a ≠ none := by rw [ha]; simp
    exact hna.move (ho.block _ hna.lt (hp a ha')) (fun k hk' => ho.block k (hna.ltK hk') (hne a m k ha hk')) fun k hk' hns => ho.block k hk' fun e => hns (by rw [e]; exact ⟨_, _, _, hs, .inl rfl⟩)
  have hd : del t b = t := by
    funext x
    unfold del
    by_cases e : x = b
    · rw [if_pos e, e, hb]
    · rw [if_neg e]
  exact h1.add hn (by rw [hd]; exact ⟨hp, hk⟩)
theorem DR.below {o : Option Dat} {pp : ByteArray} {pv hv : Value} (h : DR w o pp pv hv) (hb : Below w.heap.size w W) : DR W o pp pv hv := h.move fun k hk _ => hb.block k hk
theorem DR.only {S : Nat → Prop} {o : Option Dat} {pp : ByteArray} {pv hv : Value} (h : DR w o pp pv hv) (ho : Only S w W) (hs : ∀ k, k < w.heap.size → S k → Srt w k) : DR W o pp pv hv := h.move fun k hk hn => ho.block k hk fun e => hn (hs k hk e)
theorem del_put (t : Tb) (b : Nat) (n : Nd) : put (del t b) b n = put t b n := by
  funext x
  unfold put del
  by_cases e : x = b
  · rw [if_pos e, if_pos e]
  · rw [if_neg e, if_neg e, if_neg e]
theorem del_none (t : Tb) (b : Nat) : del t b b = none := if_pos rfl
theorem got_set (h : HT w t φ K) {cur : Nat} (hb : t cur = some nd) {o : Option Dat} {pp : ByteArray} {pv hv : Value} (hd : DR w o pp pv hv) :
    Got w (((w.setCell ⟨φ cur, 7, none⟩ hv).setCell ⟨φ cur, 5, none⟩ (.string pp)).setCell ⟨φ cur, 6, none⟩ pv) t (put t cur { nd with d := o }) φ φ K K := by
  obtain ⟨lab, pre, pp0, pv0, hv0, lf, hO, h2, h3, h4, h5⟩ := (h.node cur nd hb).obj
  have hg := (h.node cur nd hb).lt
  have k1 := hO.put (by decide) 7 (by simp [ncell]) hv (fun l e => by simp at e)
  have k2 := k1.put (by decide) 5 (by simp [ncell]) (.string pp) (fun l e => by simp at e)
  have k3 := k2.put (by decide) 6 (by simp [ncell]) pv (fun l e => by simp at e)
  have on : Only (fun j => j = φ cur) w (((w.setCell ⟨φ cur, 7, none⟩ hv).setCell ⟨φ cur, 5, none⟩ (.string pp)).setCell ⟨φ cur, 6, none⟩ pv) := (((Only.refl (fun j => j = φ cur) w).set (.inl rfl) _ _).set (.inl rfl) _ _).set (.inl rfl) _ _
  generalize (((w.setCell ⟨φ cur, 7, none⟩ hv).setCell ⟨φ cur, 5, none⟩ (.string pp)).setCell ⟨φ cur, 6, none⟩ pv) = W' at k3 on ⊢
  have hsrt : ∀ k, k < w.heap.size → k = φ cur → Srt w k := fun k _ e => e ▸ (h.node cur nd hb).srt
  have hne : (K cur).ownBlock ≠ some (φ cur) := (h.node cur nd hb).ne (h.node cur nd hb)
  have nr : NR W' φ (φ cur) { nd with d := o } (K cur) := OBJ.nr (nd := { nd with d := o }) k3 h2 h3 (hd.only on hsrt) (own_move h5 fun k hk => on.block k ((h.node cur nd hb).ltK hk) (fun e => hne (e ▸ hk)))
  have hx := (h.drop cur).join (del_none t cur) on ⟨_, _, hO.heap⟩ (h.away hb).1 nr (h.away hb).2
  have hK : (fun x => if x = cur then K cur else K x) = K := by
    funext x
    by_cases e : x = cur
    · rw [if_pos e, e]
    · rw [if_neg e]
  rw [del_put, hK] at hx
  have own : ∀ k, Own (put t cur { nd with d := o }) φ K k → Own t φ K k := fun k ⟨b, h1, h2⟩ => by
    by_cases e : b = cur
    · subst e; exact ⟨b, by rw [hb]; simp, h2⟩
    · exact ⟨b, by unfold put at h1; rwa [if_neg e] at h1, h2⟩
  exact ⟨hx, on.mono fun k _ e => ⟨cur, by rw [hb]; simp, .inl e.symm⟩, fun k hk => .inl (own k hk), fun _ _ => rfl⟩
theorem got_par (h : HT w t φ K) {x p : Nat} {m : Nd} (hx : t x = some m) : HT (w.setCell ⟨φ x, 3, none⟩ (.pointer (some ⟨φ p, 0, none⟩))) (put t x { m with par := some p }) φ K ∧ Only (fun j => j = φ x) w (w.setCell ⟨φ x, 3, none⟩ (.pointer (some ⟨φ p, 0, none⟩))) := by
  obtain ⟨lab, pre, pp0, pv0, hv0, lf, hO, h2, h3, h4, h5⟩ := (h.node x m hx).obj
  have k1 := hO.put (by decide) 3 (by simp [ncell]) (.pointer (some ⟨φ p, 0, none⟩)) (fun l e => by simp at e)
  have on : Only (fun j => j = φ x) w (w.setCell ⟨φ x, 3, none⟩ (.pointer (some ⟨φ p, 0, none⟩))) := (Only.refl (fun j => j = φ x) w).set (.inl rfl) _ _
  generalize w.setCell ⟨φ x, 3, none⟩ (.pointer (some ⟨φ p, 0, none⟩)) = W' at k1 on ⊢
  have hsrt : ∀ k, k < w.heap.size → k = φ x → Srt w k := fun k _ e => e ▸ (h.node x m hx).srt
  have hne : (K x).ownBlock ≠ some (φ x) := (h.node x m hx).ne (h.node x m hx)
  have nr : NR W' φ (φ x) { m with par := some p } (K x) := OBJ.nr (nd := { m with par := some p }) k1 h2 h3 (h4.only on hsrt) (own_move h5 fun k hk => on.block k ((h.node x m hx).ltK hk) (fun e => hne (e ▸ hk)))
  have hj := (h.drop x).join (del_none t x) on ⟨_, _, hO.heap⟩ (h.away hx).1 nr (h.away hx).2
  have hK : (fun y => if y = x then K x else K y) = K := by
    funext y
    by_cases e : y = x
    · rw [if_pos e, e]
    · rw [if_neg e]
  rw [del_put, hK] at hj
  exact ⟨hj, on⟩
def setPar (t : Tb) (l : List Nat) (p : Nat) : Tb := fun x => if x ∈ l then (t x).map fun m => { m with par := some p } else t x
theorem setPar_nil (t : Tb) (p : Nat) : setPar t [] p = t := by
  funext x
  exact if_neg (by simp)
theorem setPar_some {l : List Nat} {p x : Nat} {m : Nd} (h : t x = some m) : ∃ m', setPar t l p x = some m' ∧ { m' with par := some p } = { m with par := some p } := by
  unfold setPar
  by_cases e : x ∈ l
  · rw [if_pos e, h]; exact ⟨_, rfl, rfl⟩
  · rw [if_neg e]; exact ⟨m, h, rfl⟩
theorem setPar_put {l : List Nat} {p x : Nat} {m m' : Nd} (h : t x = some m) (h' : setPar t l p x = some m') (e : { m' with par := some p } = { m with par := some p }) : put (setPar t l p) x { m' with par := some p } = setPar t (l ++ [x]) p := by
  funext y
  unfold put
  by_cases ey : y = x
  · subst ey
    rw [if_pos rfl]
    unfold setPar
    rw [if_pos (by simp), h, e]
    rfl
  · rw [if_neg ey]
    unfold setPar
    have : y ∈ l ++ [x] ↔ y ∈ l := by simp [ey]
    by_cases em : y ∈ l
    · rw [if_pos em, if_pos (this.2 em)]
    · rw [if_neg em, if_neg (fun q => em (this.1 q))]
theorem got_par' {l : List Nat} {p : Nat} (h : HT w (setPar t l p) φ K) {x : Nat} {m : Nd} (hx : t x = some m) : HT (w.setCell ⟨φ x, 3, none⟩ (.pointer (some ⟨φ p, 0, none⟩))) (setPar t (l ++ [x]) p) φ K ∧ Only (fun j => j = φ x) w (w.setCell ⟨φ x, 3, none⟩ (.pointer (some ⟨φ p, 0, none⟩))) := by
  obtain ⟨m', h1, h2⟩ := setPar_some (l := l) (p := p) hx
  have h3 := got_par h (p := p) h1
  rwa [setPar_put hx h1 h2] at h3
theorem got_new (h : HT w t φ K) {cur n1 g1 : Nat} {N nd' : Nd} {K1 kv' : Value} (hb : t cur = some nd) (hn1 : t n1 = none) (hcl : ∀ b m x, t b = some m → x = b ∨ m.par = some x ∨ Ch m x → x ≠ n1)
    (b1 : Below w.heap.size w w1) (hg1 : w.heap.size ≤ g1) (o1 : NR w1 (fun x => if x = n1 then g1 else φ x) g1 N K1) (hK1 : K1.ownBlock = none)
    (on : Only (fun j => j = φ cur ∨ (K cur).ownBlock = some j) w1 W) (nr : NR W (fun x => if x = n1 then g1 else φ x) (φ cur) nd' kv') (hat : kv'.ownBlock = (K cur).ownBlock ∨ ∃ b, kv'.ownBlock = some b ∧ w1.heap.size ≤ b) :
    Got w W t (put (put t n1 N) cur nd') φ (fun x => if x = n1 then g1 else φ x) K (fun x => if x = cur then kv' else if x = n1 then K1 else K x) := by
  have hcn : cur ≠ n1 := fun e => by rw [e, hn1] at hb; cases hb
  generalize hφ1 : (fun x => if x = n1 then g1 else φ x) = φ1 at o1 nr ⊢
  have f1 : φ1 n1 = g1 := by rw [← hφ1]; exact if_pos rfl
  have f2 : ∀ x, x ≠ n1 → φ1 x = φ x := fun x hx => by rw [← hφ1]; exact if_neg hx
  have tn : ∀ x, t x ≠ none → x ≠ n1 := fun x hx e => hx (by rw [e]; exact hn1)
  have h1 : HT w1 t φ1 K := (h.below b1).phi fun b m x hbm hx => f2 x (hcl b m x hbm hx)
  have ltw : ∀ a, t a ≠ none → φ a < w.heap.size := fun a ha => by
    cases hq : t a with
    | none => exact absurd hq ha
    | some m => exact (h.node a m hq).lt
  have d1 : HT w1 (del t cur) φ1 K := h1.drop cur
  have a1 : HT w1 (put (del t cur) n1 N) φ1 (fun x => if x = n1 then K1 else K x) := d1.add (by rw [f1]; exact o1) (by
    refine ⟨fun a ha e => ?_, fun a k _ _ e => by rw [hK1] at e; cases e⟩
    obtain ⟨h2, h3⟩ := del_ne ha
    obtain ⟨h4, h5⟩ := del_ne h3
    rw [f1, f2 a h2] at e
    have := ltw a h5
    omega)
  have aw := h1.away hb
  rw [f2 cur hcn] at aw
  have hcur1 := h1.node cur nd hb
  rw [f2 cur hcn] at hcur1
  have hne := hcur1.ne hcur1
  have e2 : HT W (put (del t cur) n1 N) φ1 (fun x => if x = n1 then K1 else K x) := a1.only on fun k hk hs => by
    refine ⟨?_, ?_⟩
    · rcases hs with rfl | hs
      · exact hcur1.srt
      · exact hcur1.srtK hs
    · rintro ⟨b, hb1, hb2⟩
      have hbb : b = n1 ∨ (b ≠ n1 ∧ del t cur b ≠ none) := by
        by_cases e : b = n1
        · exact .inl e
        · exact .inr ⟨e, by unfold put at hb1; rwa [if_neg e] at hb1⟩
      rcases hbb with rfl | ⟨hbn, hbd⟩
      · simp only [if_true] at hb2
        rw [hK1, f1] at hb2
        rcases hb2 with hb2 | hb2
        · rcases hs with rfl | hs
          · have := ltw cur (by rw [hb]; simp); omega
          · have := (h.node cur nd hb).ltK hs; omega
        · cases hb2
      · simp only [if_neg hbn] at hb2
        obtain ⟨hbc, hbt⟩ := del_ne hbd
        rcases hb2 with hb2 | hb2
        · rcases hs with rfl | hs
          · exact aw.1 b hbd hb2
          · cases hq : t b with
            | none => exact hbt hq
            | some m => exact hcur1.ne (h1.node b m hq) (by rw [hs, hb2])
        · rcases hs with rfl | hs
          · cases hq : t b with
            | none => exact hbt hq
            | some m => exact (h1.node b m hq).ne hcur1 hb2
          · exact h1.sep b cur k hbt (by rw [hb]; simp) hbc hb2 hs
  obtain ⟨_, _, _, _, _, _, hO, _⟩ := id nr
  have e3 := e2.join (b := cur) (nd := nd') (kv := kv') (W' := W) (by unfold put; rw [if_neg hcn]; exact del_none t cur) (Only.refl _ _) (by rw [f2 cur hcn]; exact ⟨_, _, hO⟩) (fun a ha e => by
      rw [f2 cur hcn] at e
      by_cases ea : a = n1
      · rw [ea, f1] at e
        have := ltw cur (by rw [hb]; simp); omega
      · exact aw.1 a (by unfold put at ha; rwa [if_neg ea] at ha) e) (by rw [f2 cur hcn]; exact nr) (fun a k ha hk e => by
      by_cases ea : a = n1
      · simp only [if_pos ea] at hk; rw [hK1] at hk; cases hk
      · simp only [if_neg ea] at hk
        have ha2 : del t cur a ≠ none := by unfold put at ha; rwa [if_neg ea] at ha
        rcases hat with q | ⟨b, q1, q2⟩
        · exact aw.2 a k ha2 hk (q ▸ e)
        · rw [q1] at e; cases e
          cases hq : t a with
          | none => exact (del_ne ha2).2 hq
          | some m => have := (h1.node a m hq).ltK hk; omega)
  have eT : put (put (del t cur) n1 N) cur nd' = put (put t n1 N) cur nd' := by
    funext x
    unfold put del
    by_cases e : x = cur
    · rw [if_pos e, if_pos e]
    · rw [if_neg e, if_neg e, if_neg e]
  rw [eT] at e3
  have hsz : w.heap.size ≤ w1.heap.size := b1.size
  refine ⟨e3, ?_, ?_, fun b hb => f2 b (tn b hb)⟩
  · exact (Only.of_below (S := Own t φ K) b1).trans on fun i hi hs => ⟨cur, by rw [hb]; simp, hs.imp Eq.symm id⟩
  · rintro k ⟨b, hb1, hb2⟩
    by_cases ec : b = cur
    · subst ec
      simp only [if_true] at hb2
      rw [f2 b hcn] at hb2
      rcases hb2 with hb2 | hb2
      · exact .inl ⟨b, by rw [hb]; simp, .inl hb2⟩
      · rcases hat with q | ⟨c, q1, q2⟩
        · exact .inl ⟨b, by rw [hb]; simp, .inr (q ▸ hb2)⟩
        · rw [q1] at hb2; cases hb2
          exact .inr (Nat.le_trans hsz q2)
    · simp only [if_neg ec] at hb2
      by_cases en : b = n1
      · simp only [if_pos en] at hb2
        rw [en, f1, hK1] at hb2
        rcases hb2 with hb2 | hb2
        · exact .inr (hb2 ▸ hg1)
        · cases hb2
      · simp only [if_neg en] at hb2
        rw [f2 b en] at hb2
        exact .inl ⟨b, by unfold put at hb1; rw [if_neg ec, if_neg en] at hb1; exact hb1, hb2⟩
end
end Go.Proofs.Ytekjffooblcmnaa.Rh
end
section
namespace Go.Proofs.Ytekjffooblcmnaa.Rh
open Go.RowKit Go.Proofs.YtekjffooblcmnaaW.PrintWords Go.Proofs.YtekjffooblcmnaaW.PrintLast Go.Proofs.YtekjffooblcmnaaW.PrintMore
open Go.Proofs.Ytekjffooblcmnaa.Ob (Only OBJ)
open Go.Proofs.Ytekjffooblcmnaa.Rt (Nd Dat Tb Ch put)
set_option linter.unusedVariables false
set_option linter.unusedSimpArgs false
variable [Go.Proofs.Ytekjffooblcmnaa.Rh.Blk]
section
variable {w w1 w2 W W' : World} {t t1 t2 : Tb} {φ φ' φ1 φ2 : Nat → Nat} {K K1 K2 : Nat → Value} {g : Nat} {nd : Nd} {kv : Value}
theorem Got.trans (h1 : Got w w1 t t1 φ φ1 K K1) (h2 : Got w1 w2 t1 t2 φ1 φ2 K1 K2) (hd : ∀ x, t x ≠ none → t1 x ≠ none) : Got w w2 t t2 φ φ2 K K2 :=
  ⟨h2.ht, h1.on.trans h2.on fun i hi hs => (h1.new i hs).elim id (fun q => by omega), fun k hk => by
    rcases h2.new k hk with q | q
    · exact h1.new k q
    · exact .inr (Nat.le_trans h1.on.size q), fun b hb => (h2.same b (hd b hb)).trans (h1.same b hb)⟩
theorem Got.refl (h : HT w t φ K) : Got w w t t φ φ K K := ⟨h, Only.refl _ _, fun k hk => .inl hk, fun _ _ => rfl⟩
theorem Got.from_ (h : Got w1 w2 t t1 φ φ1 K K1) (hb : Below w.heap.size w w1) : Got w w2 t t1 φ φ1 K K1 :=
  ⟨h.ht, (Only.of_below (S := Own t φ K) hb).trans h.on fun i _ hs => hs, fun k hk => (h.new k hk).imp id (fun q => Nat.le_trans hb.size q), h.same⟩
theorem Got.to_ (h : Got w w1 t t1 φ φ1 K K1) (hb : Below w1.heap.size w1 w2) : Got w w2 t t1 φ φ1 K K1 :=
  ⟨h.ht.below hb, h.on.trans (Only.of_below (S := fun _ => False) hb) fun i _ hs => hs.elim, h.new, h.same⟩
theorem got_cells (h : HT w t φ K) {cur : Nat} (hb : t cur = some nd) {nd' : Nd} {lab : Int} {pre pp : ByteArray} {pv hv : Value} {lf : Bool} (on : Only (fun j => j = φ cur) w W) (o : OBJ W (φ cur) 52 (ncell φ nd' lab pre pp (K cur) pv hv lf) [])
    (h2 : pre.data.toList = nd'.pre) (h3 : ∀ c r, nd'.pre = c :: r → lab = (c.toNat : Int)) (hd : DR w nd'.d pp pv hv) (hk : nd'.kids = nd.kids) : Got w W t (put t cur nd') φ φ K K := by
  obtain ⟨_, _, _, _, _, _, hO, _, _, _, h5⟩ := (h.node cur nd hb).obj
  have hsrt : ∀ k, k < w.heap.size → k = φ cur → Srt w k := fun k _ e => e ▸ (h.node cur nd hb).srt
  have hne : (K cur).ownBlock ≠ some (φ cur) := (h.node cur nd hb).ne (h.node cur nd hb)
  have nr : NR W φ (φ cur) nd' (K cur) := OBJ.nr (nd := nd') o h2 h3 (hd.only on hsrt) (by rw [hk]; exact own_move h5 fun k hk => on.block k ((h.node cur nd hb).ltK hk) (fun e => hne (e ▸ hk)))
  have hx := (h.drop cur).join (del_none t cur) on ⟨_, _, hO.heap⟩ (h.away hb).1 nr (h.away hb).2
  have hK : (fun x => if x = cur then K cur else K x) = K := by
    funext x
    by_cases e : x = cur
    · rw [if_pos e, e]
    · rw [if_neg e]
  rw [del_put, hK] at hx
  refine ⟨hx, on.mono fun k _ e => ⟨cur, by rw [hb]; simp, .inl e.symm⟩, fun k ⟨b, h1, h2⟩ => .inl ?_, fun _ _ => rfl⟩
  by_cases e : b = cur
  · subst e; exact ⟨b, by rw [hb]; simp, h2⟩
  · exact ⟨b, by unfold put at h1; rwa [if_neg e] at h1, h2⟩
theorem split_base (h : HT w t φ K) {cur n1 g1 : Nat} {N : Nd} (hb : t cur = some nd) (hn1 : t n1 = none) (hcl : ∀ b m x, t b = some m → x = b ∨ m.par = some x ∨ Ch m x → x ≠ n1)
    (b1 : Below w.heap.size w w1) (hg1 : w.heap.size ≤ g1) (o1 : NR w1 (fun x => if x = n1 then g1 else φ x) g1 N (K cur)) :
    HT w1 (put (del t cur) n1 N) (fun x => if x = n1 then g1 else φ x) (fun x => if x = n1 then K cur else K x) := by
  have hcn : cur ≠ n1 := fun e => by rw [e, hn1] at hb; cases hb
  generalize hφ1 : (fun x => if x = n1 then g1 else φ x) = φ1 at o1 ⊢
  have f1 : φ1 n1 = g1 := by rw [← hφ1]; exact if_pos rfl
  have f2 : ∀ x, x ≠ n1 → φ1 x = φ x := fun x hx => by rw [← hφ1]; exact if_neg hx
  have h1 : HT w1 t φ1 K := (h.below b1).phi fun b m x hbm hx => f2 x (hcl b m x hbm hx)
  have aw := h1.away hb
  refine (h1.drop cur).add (by rw [f1]; exact o1) ⟨fun a ha e => ?_, fun a k ha hk e => ?_⟩
  · obtain ⟨h2, h3⟩ := del_ne ha
    obtain ⟨h4, h5⟩ := del_ne h3
    rw [f1, f2 a h2] at e
    cases hq : t a with
    | none => exact h5 hq
    | some m => have := (h.node a m hq).lt; omega
  · exact aw.2 a k (del_ne ha).2 hk e
theorem got_split (h : HT w t φ K) {cur n1 g1 : Nat} {N C : Nd} {L : List Nat} {kv' : Value} (hb : t cur = some nd) (hn1 : t n1 = none) (hcl : ∀ b m x, t b = some m → x = b ∨ m.par = some x ∨ Ch m x → x ≠ n1) (hL : ∀ x ∈ L, x ≠ cur ∧ t x ≠ none)
    (b1 : Below w.heap.size w w1) (hg1 : w.heap.size ≤ g1)
    (h2 : HT w2 (setPar (put (del t cur) n1 N) L n1) (fun x => if x = n1 then g1 else φ x) (fun x => if x = n1 then K cur else K x)) (on2 : Only (fun j => ∃ x ∈ L, (fun x => if x = n1 then g1 else φ x) x = j) w1 w2)
    (on3 : Only (fun j => j = φ cur) w2 W) (nr : NR W (fun x => if x = n1 then g1 else φ x) (φ cur) C kv') (hs : ∃ D f, w2.heap[φ cur]? = some (.cells D 52 f)) (hat : ∀ k, kv'.ownBlock = some k → w2.heap.size ≤ k) :
    Got w W t (put (setPar (put (del t cur) n1 N) L n1) cur C) φ (fun x => if x = n1 then g1 else φ x) K (fun x => if x = cur then kv' else if x = n1 then K cur else K x) := by
  have hcn : cur ≠ n1 := fun e => by rw [e, hn1] at hb; cases hb
  generalize hφ1 : (fun x => if x = n1 then g1 else φ x) = φ1 at h2 on2 nr ⊢
  have f1 : φ1 n1 = g1 := by rw [← hφ1]; exact if_pos rfl
  have f2 : ∀ x, x ≠ n1 → φ1 x = φ x := fun x hx => by rw [← hφ1]; exact if_neg hx
  have tn : ∀ x, t x ≠ none → x ≠ n1 := fun x hx e => hx (by rw [e]; exact hn1)
  have ltw : ∀ a, t a ≠ none → φ a < w.heap.size := fun a ha => by
    cases hq : t a with
    | none => exact absurd hq ha
    | some m => exact (h.node a m hq).lt
  have hct : t cur ≠ none := by rw [hb]; simp
  have T : ∀ a, setPar (put (del t cur) n1 N) L n1 a ≠ none → a = n1 ∨ (a ≠ n1 ∧ a ≠ cur ∧ t a ≠ none) := fun a ha => by
    by_cases e : a = n1
    · exact .inl e
    · have h3 : put (del t cur) n1 N a ≠ none := by
        intro q
        unfold setPar at ha
        rw [q] at ha
        split at ha <;> exact ha rfl
      unfold put at h3
      rw [if_neg e] at h3
      exact .inr ⟨e, del_ne h3⟩
  have s12 : w.heap.size ≤ w2.heap.size := Nat.le_trans b1.size on2.size
  have e3 := h2.join (b := cur) (nd := C) (kv := kv') (W' := W) (by
      cases hq : setPar (put (del t cur) n1 N) L n1 cur with
      | none => rfl
      | some m => rcases T cur (by rw [hq]; simp) with e | e; exact absurd e hcn; exact absurd rfl e.2.1) (by rw [f2 cur hcn]; exact on3) (by rw [f2 cur hcn]; exact hs) (fun a ha e => by
      rw [f2 cur hcn] at e
      rcases T a ha with rfl | ⟨h3, h4, h5⟩
      · rw [f1] at e; have := ltw cur hct; omega
      · rw [f2 a h3] at e
        exact h4 (h.inj a cur h5 hct e)) (by rw [f2 cur hcn]; exact nr) (fun a k ha hk e => by
      have h6 := hat k e
      cases hq : setPar (put (del t cur) n1 N) L n1 a with
      | none => exact ha hq
      | some m => have := (h2.node a m hq).ltK hk; omega)
  refine ⟨e3, ?_, ?_, fun b hb => f2 b (tn b hb)⟩
  · refine ((Only.of_below (S := Own t φ K) b1).trans on2 fun i hi ⟨x, hx, hxi⟩ => ?_).trans on3 fun i hi e => ⟨cur, hct, .inl e.symm⟩
    obtain ⟨h3, h4⟩ := hL x hx
    have hxi : φ1 x = i := hxi
    rw [f2 x (tn x h4)] at hxi
    exact ⟨x, h4, .inl hxi⟩
  · rintro k ⟨b, hb1, hb2⟩
    by_cases ec : b = cur
    · subst ec
      simp only [if_true] at hb2
      rw [f2 b hcn] at hb2
      rcases hb2 with hb2 | hb2
      · exact .inl ⟨b, hct, .inl hb2⟩
      · exact .inr (Nat.le_trans s12 (hat k hb2))
    · simp only [if_neg ec] at hb2
      have hb3 : setPar (put (del t cur) n1 N) L n1 b ≠ none := by unfold put at hb1; rw [if_neg ec] at hb1; exact hb1
      rcases T b hb3 with rfl | ⟨h3, h4, h5⟩
      · simp only [if_true] at hb2
        rw [f1] at hb2
        rcases hb2 with hb2 | hb2
        · exact .inr (hb2 ▸ hg1)
        · exact .inl ⟨cur, hct, .inr hb2⟩
      · simp only [if_neg h3] at hb2
        rw [f2 b h3] at hb2
        exact .inl ⟨b, h5, hb2⟩
theorem split_table {cur n1 : Nat} {N C : Nd} {L : List Nat} (hb : t cur = some nd) (hn1 : t n1 = none) (hL : ∀ x, x ∈ L ↔ Ch nd x) (hch : ∀ x, Ch nd x → x ≠ cur ∧ t x ≠ none) :
    put (setPar (put (del t cur) n1 N) L n1) cur C = put (put (Rt.rep t nd n1) n1 N) cur C := by
  have hcn : cur ≠ n1 := fun e => by rw [e, hn1] at hb; cases hb
  funext x
  unfold put
  by_cases e : x = cur
  · rw [if_pos e, if_pos e]
  · rw [if_neg e, if_neg e]
    unfold setPar
    by_cases e1 : x = n1
    · have : x ∉ L := fun q => (hch x ((hL x).1 q)).2 (by rw [e1]; exact hn1)
      rw [if_neg this, if_pos e1]
      exact if_pos e1
    · rw [if_neg e1]
      have e2 : (fun x => if x = n1 then some N else del t cur x) x = t x := by
        show (if x = n1 then some N else del t cur x) = t x
        rw [if_neg e1]
        exact if_neg e
      rw [e2]
      unfold Rt.rep
      have hx : x ∈ L ↔ (x ∈ nd.kids ∨ nd.pc = some x ∨ nd.ac = some x) := hL x
      by_cases q : x ∈ L
      · rw [if_pos q, if_pos (hx.1 q)]
      · rw [if_neg q, if_neg (fun r => q (hx.2 r))]
end
end Go.Proofs.Ytekjffooblcmnaa.Rh
end
section
namespace Go.Proofs.Ytekjffooblcmnaa.Q
set_option linter.unusedSimpArgs false
open Go.RowKit Go.Proofs.YtekjffooblcmnaaW.PrintWords Go.Proofs.YtekjffooblcmnaaW.PrintLast Go.Proofs.YtekjffooblcmnaaW.PrintMore
open Go.Proofs.Ytekjffooblcmnaa.Cd
set_option linter.unusedVariables false
noncomputable def iF : Code := (Try.f22.body).getD .skip
noncomputable def iL : Code := lpc iF
noncomputable def iA : Code := thn 61 iL
noncomputable def iE : Code := els 61 iL
noncomputable def iB : Code := thn 113 iL
noncomputable def iG : Code := els 113 iL
noncomputable def iC : Code := thn 301 iL
noncomputable def iD : Code := els 301 iL
noncomputable def i4 : Code := fst (ins iL)
noncomputable def i5 : Code := fst (snd (ins iL))
noncomputable def i6 : Code := fst (snd (snd (ins iL)))
noncomputable def i7 : Code := fst (snd (snd (snd (ins iL))))
noncomputable def i8 : Code := fst (snd (snd (snd (snd (ins iL)))))
noncomputable def i2 : Code := fst (snd (snd (snd (snd (snd (ins iL))))))
noncomputable def i12 : Code := fst (fst (snd (snd (snd (snd (snd (snd (ins iL))))))))
noncomputable def i21 : Code := fst iE
noncomputable def i51 : Code := fst iG
set_option maxRecDepth 1000000 in
theorem iL_eq : iL = .block 1 (.seq i4 (.seq i5 (.seq i6 (.seq i7 (.seq i8 (.seq i2 (.seq (.seq i12 (.cond (.tmp 61) iA (.seq i21 (.cond (.tmp 113) iB (.seq i51 (.cond (.tmp 301) iC iD)))))) .ret))))))) := by rfl
set_option maxRecDepth 1000000 in
theorem frame393 (x : Nat → Value) : ((List.range 393).map x).toArray = #[x 0, x 1, x 2, x 3, x 4, x 5, x 6, x 7, x 8, x 9, x 10, x 11, x 12, x 13, x 14, x 15, x 16, x 17, x 18, x 19, x 20, x 21, x 22, x 23, x 24, x 25, x 26, x 27, x 28, x 29, x 30, x 31, x 32, x 33, x 34, x 35, x 36, x 37, x 38, x 39, x 40, x 41, x 42, x 43, x 44, x 45, x 46, x 47, x 48, x 49, x 50, x 51, x 52, x 53, x 54, x 55, x 56, x 57, x 58, x 59, x 60, x 61, x 62, x 63, x 64, x 65, x 66, x 67, x 68, x 69, x 70, x 71, x 72, x 73, x 74, x 75, x 76, x 77, x 78, x 79, x 80, x 81, x 82, x 83, x 84, x 85, x 86, x 87, x 88, x 89, x 90, x 91, x 92, x 93, x 94, x 95, x 96, x 97, x 98, x 99, x 100, x 101, x 102, x 103, x 104, x 105, x 106, x 107, x 108, x 109, x 110, x 111, x 112, x 113, x 114, x 115, x 116, x 117, x 118, x 119, x 120, x 121, x 122, x 123, x 124, x 125, x 126, x 127, x 128, x 129, x 130, x 131, x 132, x 133, x 134, x 135, x 136, x 137, x 138, x 139, x 140, x 141, x 142, x 143, x 144, x 145, x 146, x 147, x 148, x 149, x 150, x 151, x 152, x 153, x 154, x 155, x 156, x 157, x 158, x 159, x 160, x 161, x 162, x 163, x 164, x 165, x 166, x 167, x 168, x 169, x 170, x 171, x 172, x 173, x 174, x 175, x 176, x 177, x 178, x 179, x 180, x 181, x 182, x 183, x 184, x 185, x 186, x 187, x 188, x 189, x 190, x 191, x 192, x 193, x 194, x 195, x 196, x 197, x 198, x 199, x 200, x 201, x 202, x 203, x 204, x 205, x 206, x 207, x 208, x 209, x 210, x 211, x 212, x 213, x 214, x 215, x 216, x 217, x 218, x 219, x 220, x 221, x 222, x 223, x 224, x 225, x 226, x 227, x 228, x 229, x 230, x 231, x 232, x 233, x 234, x 235, x 236, x 237, x 238, x 239, x 240, x 241, x 242, x 243, x 244, x 245, x 246, x 247, x 248, x 249, x 250, x 251, x 252, x 253, x 254, x 255, x 256, x 257, x 258, x 259, x 260, x 261, x 262, x 263, x 264, x 265, x 266, x 267, x 268, x 269, x 270, x 271, x 272, x 273, x 274, x 275, x 276, x 277, x 278, x 279, x 280, x 281, x 282, x 283, x 284, x 285, x 286, x 287, x 288, x 289, x 290, x 291, x 292, x 293, x 294, x 295, x 296, x 297, x 298, x 299, x 300, x 301, x 302, x 303, x 304, x 305, x 306, x 307, x 308, x 309, x 310, x 311, x 312, x 313, x 314, x 315, x 316, x 317, x 318, x 319, x 320, x 321, x 322, x 323, x 324, x 325, x 326, x 327, x 328, x 329, x 330, x 331, x 332, x 333, x 334, x 335, x 336, x 337, x 338, x 339, x 340, x 341, x 342, x 343, x 344, x 345, x 346, x 347, x 348, x 349, x 350, x 351, x 352, x 353, x 354, x 355, x 356, x 357, x 358, x 359, x 360, x 361, x 362, x 363, x 364, x 365, x 366, x 367, x 368, x 369, x 370, x 371, x 372, x 373, x 374, x 375, x 376, x 377, x 378, x 379, x 380, x 381, x 382, x 383, x 384, x 385, x 386, x 387, x 388, x 389, x 390, x 391, x 392] := by rfl
end Go.Proofs.Ytekjffooblcmnaa.Q
end
section
namespace Go.Proofs.Ytekjffooblcmnaa.Q
open Go.RowKit Go.Proofs.YtekjffooblcmnaaW.PrintWords Go.Proofs.YtekjffooblcmnaaW.PrintLast Go.Proofs.YtekjffooblcmnaaW.PrintMore
open Go.Proofs.YtekjffooblcmnaaKit (L size_L)
open Go.Proofs.Ytekjffooblcmnaa.Cd
open Go.Proofs.Ytekjffooblcmnaa.SpA (toI toI_length toI_append)
open Go.Proofs.Ytekjffooblcmnaa.Ob
open Go.Proofs.Ytekjffooblcmnaa.Rh (ptr NR HT Own Srt ncell Got DR)
open Go.Proofs.Ytekjffooblcmnaa.Rt (Nd Dat Tb Ch Str lcp Inv)
set_option linter.unusedVariables false
set_option linter.unusedSimpArgs false
set_option maxHeartbeats 16000000 in
set_option maxRecDepth 1000000 in
theorem iD_wp (x : Nat → Value) (gr k hn hc pn pc : Nat) (s pp : ByteArray) (H P : Option Addr) (g : Nat) (w : World) (vals : List Value) (A7 : Option Addr) (n7 m7 : Nat) (hO : OBJ w g 52 vals []) (hv5 : ∃ v, vals[5]? = some v) (hv6 : ∃ v, vals[6]? = some v) (hv7 : vals[7]? = some (.slice A7 n7 m7)) (Q : Exit → Act → World → Prop)
    (hp : A7.isSome → H.isSome → ∀ a' u pv w', a'.defers = [] → Below w.heap.size w w' → Q (.panic [{ v := .iface u pv, recovered := false }]) a' w')
    (hq : A7 = none → H.isSome → ∀ a', a'.defers = [] → Q .normal a' (((w.setCell ⟨g, 7, none⟩ (.slice H hn hc)).setCell ⟨g, 5, none⟩ (.string pp)).setCell ⟨g, 6, none⟩ (.slice P pn pc)))
    (hs : H = none → ∀ a', a'.defers = [] → Q .normal a' w) (hsz : pp.size ≤ 1000000) :
    Code.wp Try.prog iD Q ⟨#[.pointer (some ⟨gr, 0, none⟩), .string s, .slice H hn hc, .int .u8 (k : Int), .string pp, .slice P pn pc, x 6, x 7, x 8, x 9, x 10, x 11, .pointer (some ⟨g, 0, none⟩), x 13, x 14, x 15, x 16, x 17, x 18, x 19, x 20, x 21, x 22, x 23, x 24, x 25, x 26, x 27, x 28, x 29, x 30, x 31, x 32, x 33, x 34, x 35, x 36, x 37, x 38, x 39, x 40, x 41, x 42, x 43, x 44, x 45, x 46, x 47, x 48, x 49, x 50, x 51, x 52, x 53, x 54, x 55, x 56, x 57, x 58, x 59, x 60, x 61, x 62, x 63, x 64, x 65, x 66, x 67, x 68, x 69, x 70, x 71, x 72, x 73, x 74, x 75, x 76, x 77, x 78, x 79, x 80, x 81, x 82, x 83, x 84, x 85, x 86, x 87, x 88, x 89, x 90, x 91, x 92, x 93, x 94, x 95, x 96, x 97, x 98, x 99, x 100, x 101, x 102, x 103, x 104, x 105, x 106, x 107, x 108, x 109, x 110, x 111, x 112, x 113, x 114, x 115, x 116, x 117, x 118, x 119, x 120, x 121, x 122, x 123, x 124, x 125, x 126, x 127, x 128, x 129, x 130, x 131, x 132, x 133, x 134, x 135, x 136, x 137, x 138, x 139, x 140, x 141, x 142, x 143, x 144, x 145, x 146, x 147, x 148, x 149, x 150, x 151, x 152, x 153, x 154, x 155, x 156, x 157, x 158, x 159, x 160, x 161, x 162, x 163, x 164, x 165, x 166, x 167, x 168, x 169, x 170, x 171, x 172, x 173, x 174, x 175, x 176, x 177, x 178, x 179, x 180, x 181, x 182, x 183, x 184, x 185, x 186, x 187, x 188, x 189, x 190, x 191, x 192, x 193, x 194, x 195, x 196, x 197, x 198, x 199, x 200, x 201, x 202, x 203, x 204, x 205, x 206, x 207, x 208, x 209, x 210, x 211, x 212, x 213, x 214, x 215, x 216, x 217, x 218, x 219, x 220, x 221, x 222, x 223, x 224, x 225, x 226, x 227, x 228, x 229, x 230, x 231, x 232, x 233, x 234, x 235, x 236, x 237, x 238, x 239, x 240, x 241, x 242, x 243, x 244, x 245, x 246, x 247, x 248, x 249, x 250, x 251, x 252, x 253, x 254, x 255, x 256, x 257, x 258, x 259, x 260, x 261, x 262, x 263, x 264, x 265, x 266, x 267, x 268, x 269, x 270, x 271, x 272, x 273, x 274, x 275, x 276, x 277, x 278, x 279, x 280, x 281, x 282, x 283, x 284, x 285, x 286, x 287, x 288, x 289, x 290, x 291, x 292, x 293, x 294, x 295, x 296, x 297, x 298, x 299, x 300, x 301, x 302, x 303, x 304, x 305, x 306, x 307, x 308, x 309, x 310, x 311, x 312, x 313, x 314, x 315, x 316, x 317, x 318, x 319, x 320, x 321, x 322, x 323, x 324, x 325, x 326, x 327, x 328, x 329, x 330, x 331, x 332, x 333, x 334, x 335, x 336, x 337, x 338, x 339, x 340, x 341, x 342, x 343, x 344, x 345, x 346, x 347, x 348, x 349, x 350, x 351, x 352, x 353, x 354, x 355, x 356, x 357, x 358, x 359, x 360, x 361, x 362, x 363, x 364, x 365, x 366, x 367, x 368, x 369, x 370, x 371, x 372, x 373, x 374, x 375, x 376, x 377, x 378, x 379, x 380, x 381, x 382, x 383, x 384, x 385, x 386, x 387, x 388, x 389, x 390, x 391, x 392], []⟩ w := by
  obtain ⟨v5, hv5⟩ := hv5
  obtain ⟨v6, hv6⟩ := hv6
  have c5 := hO.cell 5 _ hv5
  have c6 := hO.cell 6 _ hv6
  have c7 := hO.cell 7 _ hv7
  have z5 := hO.fz 5
  have z6 := hO.fz 6
  have z7 := hO.fz 7
  have hnil := fun (W : World) (A : Option Addr) (n c : Nat) => run_neq_slice_nil (P := Try.prog) (w := W) 50 3 A n c Try.underlying50
  have HS := Aside0.mk hs
  have HQ := Aside0.mk hq
  have HP := Aside0.mk hp
  clear hO hv5 hv6 hv7 hs hq hp
  rcases A7 with _ | A7 <;> rcases H with _ | H
  all_goals (
    conv => arg 2; whnf
    go_wp2)
  · exact HS.out (by trivial) _ rfl
  · exact HQ.out (by trivial) (by trivial) _ rfl
  · exact HS.out (by trivial) _ rfl
  all_goals first
    | (exfalso; rename_i h; simp [ByteArray.size_append] at h; omega)
    | exact HP.out (by trivial) (by trivial) _ _ _ _ rfl (Below.refl _ _)
end Go.Proofs.Ytekjffooblcmnaa.Q
end
section
namespace Go.Proofs.Ytekjffooblcmnaa.Q
set_option linter.unusedSimpArgs false
open Go.RowKit Go.Proofs.YtekjffooblcmnaaW.PrintWords Go.Proofs.YtekjffooblcmnaaW.PrintLast Go.Proofs.YtekjffooblcmnaaW.PrintMore
open Go.Proofs.Ytekjffooblcmnaa.Ob
open Go.Proofs.Ytekjffooblcmnaa.Rh (pK)
set_option linter.unusedVariables false
theorem infoNode : (Try.prog.info? 46).map (fun i => (i.zero, i.size, i.bytes)) = some (some (.pointer none), 1, 8) := by kernel_rfl
abbrev pE : Nat → Value := fun b => Value.pointer (some ⟨b, 0, none⟩)
section
variable {ops : Array Oper} {rest : List Oper} {o : Oper} {a : Act} {Q : Exit → Act → World → Prop} {W : World}
theorem app_PV (hgd : o.guard = none) (s x : Operand) (ho : o.op = .call { callee := .builtin .append, args := #[s, x], argTypes := #[49, 49] })
    (v : Value) (l : List Nat) (b : Nat) (A : Option Addr) (c : Nat) (hs : a.eval s = v) (hx : a.eval x = .slice A 1 c) (hv : W.ownsRow 0 46 1 v l.length (encs pE l)) (hm : Kd.C pK W A 1 [b]) (hl : l.length ≤ 1000000)
    (h : ∀ v1 W1, W1.ownsRow 0 46 1 v1 (l ++ [b]).length (encs pE (l ++ [b])) → Only (fun j => v.ownBlock = some j) W W1 → (v1.ownBlock = v.ownBlock ∨ ∃ b, v1.ownBlock = some b ∧ W.heap.size ≤ b) → wpList Try.prog ops Q rest (a.put o.dst v1) W1) : wpList Try.prog ops Q (o :: rest) a W := by
  refine Kd.R_append_rows pK (w0 := W) 0 hgd s x 49 46 (.pointer none) 8 ho Try.underlying49 infoNode rfl (by decide) (by omega) v l [b] A 1 c (fun _ => True) (fun _ => False) hs hx (Kd.R_of_own hv (fun _ _ => trivial)) hm (fun _ _ h => h) (fun _ h => h.elim) (fun _ _ => trivial) (Below.refl _ _) (Nat.zero_le _) (by omega) ?_
  intro v1 w1 hr _ hg hat
  refine h v1 w1 ?_ (Only.of_grown hg) hat
  obtain ⟨h1, h2⟩ := Kd.own_of_R hr
  refine ⟨h1, h2.imp id ?_⟩
  rintro ⟨g, cap, cur, e, _, r⟩
  exact ⟨g, cap, cur, e, Nat.zero_le _, r⟩
end
theorem one_C {w : World} {g b : Nat} (h : w.cell? ⟨g, 0, none⟩ = some (pE b)) : Kd.C pK w (some ⟨g, 0, none⟩) 1 [b] := by
  refine Kd.C_of_reads (enc := pE) (d := b) (h1 := fun _ => rfl) ⟨rfl, by omega, fun _ => ⟨_, rfl, fun j hj => ?_⟩⟩
  obtain rfl : j = 0 := by omega
  exact h
end Go.Proofs.Ytekjffooblcmnaa.Q
end
section
namespace Go.Proofs.Ytekjffooblcmnaa.Rh
open Go.RowKit Go.Proofs.YtekjffooblcmnaaW.PrintWords Go.Proofs.YtekjffooblcmnaaW.PrintLast Go.Proofs.YtekjffooblcmnaaW.PrintMore
open Go.Proofs.Ytekjffooblcmnaa.Ob (Only OBJ)
open Go.Proofs.Ytekjffooblcmnaa.Rt (Nd Dat Tb Ch put)
set_option linter.unusedVariables false
set_option linter.unusedSimpArgs false
variable [Go.Proofs.Ytekjffooblcmnaa.Rh.Blk]
def ph1 (φ : Nat → Nat) (n1 g1 : Nat) : Nat → Nat := fun x => if x = n1 then g1 else φ x
theorem ph1_self (φ : Nat → Nat) (n1 g1 : Nat) : ph1 φ n1 g1 n1 = g1 := if_pos rfl
theorem ph1_ne (φ : Nat → Nat) {n1 x : Nat} (g1 : Nat) (h : x ≠ n1) : ph1 φ n1 g1 x = φ x := if_neg h
section
variable {w w1 w2 W W' W3 : World} {t : Tb} {φ : Nat → Nat} {K : Nat → Value} {nd N : Nd} {cur n1 g1 : Nat}
theorem own_set {kv : Value} {n : Nat} {xs : List Value} (h : W.ownsRow 0 46 1 kv n xs) {g : Nat} {vals : List Value} (hO : OBJ W g 52 vals []) (j : Nat) (u : Value) : (W.setCell ⟨g, j, none⟩ u).ownsRow 0 46 1 kv n xs :=
  own_move h fun k hk => Below.heap_setCell _ _ _ _ (fun e => by
    obtain ⟨C, hC⟩ := own_typed h k hk
    have e : k = g := e
    rw [e, hO.heap] at hC
    cases hC)
theorem got_kid (h : HT w t φ K) (hb : t cur = some nd) (hn1 : t n1 = none) (hcl : ∀ b m x, t b = some m → x = b ∨ m.par = some x ∨ Ch m x → x ≠ n1) (b1 : Below w.heap.size w w1) (hg1 : w.heap.size ≤ g1) (o1 : NR w1 (ph1 φ n1 g1) g1 N (.slice none 0 0))
    (b2 : Below w1.heap.size w1 w2) {v1 : Value} (row : W3.ownsRow 0 46 1 v1 (nd.kids.map φ ++ [g1]).length (encs (fun b => Value.pointer (some ⟨b, 0, none⟩)) (nd.kids.map φ ++ [g1]))) (on : Only (fun j => (K cur).ownBlock = some j) w2 W3) (hat : v1.ownBlock = (K cur).ownBlock ∨ ∃ b, v1.ownBlock = some b ∧ w2.heap.size ≤ b) (lf : Bool) :
    ∃ K', Got w ((W3.setCell ⟨φ cur, 4, none⟩ v1).setCell ⟨φ cur, 10, none⟩ (.bool lf)) t (put (put t n1 N) cur { nd with kids := nd.kids ++ [n1] }) φ (ph1 φ n1 g1) K K' := by
  have hcn : cur ≠ n1 := fun e => by rw [e, hn1] at hb; cases hb
  have hphi : HT w t (ph1 φ n1 g1) K := h.phi fun b m x hbm hx => ph1_ne φ g1 (hcl b m x hbm hx)
  have n0 := hphi.node cur nd hb
  rw [ph1_ne φ g1 hcn] at n0
  have hne := n0.ne n0
  have n1' : NR w1 (ph1 φ n1 g1) (φ cur) nd (K cur) := n0.move (b1.block _ n0.lt) (fun k hk => b1.block k (n0.ltK hk)) fun k hk _ => b1.block k hk
  have n2' : NR w2 (ph1 φ n1 g1) (φ cur) nd (K cur) := n1'.move (b2.block _ n1'.lt) (fun k hk => b2.block k (n1'.ltK hk)) fun k hk _ => b2.block k hk
  obtain ⟨lab, pre, pp, pv, hv, lf0, hO, e2, e3, e4, _⟩ := n2'.obj
  have hO3 : OBJ W3 (φ cur) 52 _ [] := hO.move (on.block _ hO.lt hne) (fun i l v k hi => by simp at hi)
  have k1 := hO3.put (by decide) 4 (by simp [ncell]) v1 (fun l e => by simp at e)
  have k2 := k1.put (by decide) 10 (by simp [ncell]) (.bool lf) (fun l e => by simp at e)
  have dr : DR ((W3.setCell ⟨φ cur, 4, none⟩ v1).setCell ⟨φ cur, 10, none⟩ (.bool lf)) nd.d pp pv hv := (e4.only on (fun k hk hs => n2'.srtK hs)).only ((((Only.refl (fun j => j = φ cur) W3).set (.inl rfl) 4 v1).set (.inl rfl) 10 (.bool lf))) (fun k _ e => e ▸ ⟨_, _, _, hO3.heap, .inl rfl⟩)
  have row2 := own_set (own_set row hO3 4 v1) k1 10 (.bool lf)
  have hmap : (nd.kids ++ [n1]).map (ph1 φ n1 g1) = nd.kids.map φ ++ [g1] := by
    rw [List.map_append, List.map_singleton, ph1_self]
    congr 1
    exact List.map_congr_left fun x hx => ph1_ne φ g1 (hcl cur nd x hb (.inr (.inr (.inl hx))))
  have nr : NR ((W3.setCell ⟨φ cur, 4, none⟩ v1).setCell ⟨φ cur, 10, none⟩ (.bool lf)) (ph1 φ n1 g1) (φ cur) { nd with kids := nd.kids ++ [n1] } v1 := OBJ.nr (nd := { nd with kids := nd.kids ++ [n1] }) k2 e2 e3 dr (by
    have hl : (nd.kids ++ [n1]).length = (nd.kids.map φ ++ [g1]).length := by simp
    show World.ownsRow _ 0 46 1 v1 (nd.kids ++ [n1]).length (encs _ ((nd.kids ++ [n1]).map _))
    rw [hmap, hl]
    exact row2)
  refine ⟨_, got_new h hb hn1 hcl b1 hg1 o1 rfl ?_ nr ?_⟩
  · exact ((((Only.of_below (S := fun j => j = φ cur ∨ (K cur).ownBlock = some j) b2).trans on (fun i _ hs => .inr hs)).set (.inl (.inl rfl)) _ _).set (.inl (.inl rfl)) _ _)
  · exact hat.imp id (fun ⟨b, q1, q2⟩ => ⟨b, q1, Nat.le_trans b2.size q2⟩)
theorem got_one (h : HT w t φ K) (hb : t cur = some nd) (hn1 : t n1 = none) (hcl : ∀ b m x, t b = some m → x = b ∨ m.par = some x ∨ Ch m x → x ≠ n1) (b1 : Below w.heap.size w w1) (hg1 : w.heap.size ≤ g1) (o1 : NR w1 (ph1 φ n1 g1) g1 N (.slice none 0 0)) (lf p : Bool) :
    ∃ K', Got w ((w1.setCell ⟨φ cur, if p then 8 else 9, none⟩ (.pointer (some ⟨g1, 0, none⟩))).setCell ⟨φ cur, 10, none⟩ (.bool lf)) t (put (put t n1 N) cur (if p then { nd with pc := some n1 } else { nd with ac := some n1 })) φ (ph1 φ n1 g1) K K' := by
  have hcn : cur ≠ n1 := fun e => by rw [e, hn1] at hb; cases hb
  have hphi : HT w t (ph1 φ n1 g1) K := h.phi fun b m x hbm hx => ph1_ne φ g1 (hcl b m x hbm hx)
  have n0 := hphi.node cur nd hb
  rw [ph1_ne φ g1 hcn] at n0
  have n1' : NR w1 (ph1 φ n1 g1) (φ cur) nd (K cur) := n0.move (b1.block _ n0.lt) (fun k hk => b1.block k (n0.ltK hk)) fun k hk _ => b1.block k hk
  obtain ⟨lab, pre, pp, pv, hv, lf0, hO, e2, e3, e4, e5⟩ := n1'.obj
  have k1 := hO.put (by decide) (if p then 8 else 9) (by cases p <;> simp [ncell]) (.pointer (some ⟨g1, 0, none⟩)) (fun l e => by simp at e)
  have k2 := k1.put (by decide) 10 (by simp [ncell]) (.bool lf) (fun l e => by simp at e)
  have dr : DR ((w1.setCell ⟨φ cur, if p then 8 else 9, none⟩ (.pointer (some ⟨g1, 0, none⟩))).setCell ⟨φ cur, 10, none⟩ (.bool lf)) nd.d pp pv hv := e4.only ((((Only.refl (fun j => j = φ cur) w1).set (.inl rfl) _ _).set (.inl rfl) 10 (.bool lf))) (fun k _ e => e ▸ ⟨_, _, _, hO.heap, .inl rfl⟩)
  have row2 := own_set (own_set e5 hO (if p then 8 else 9) (.pointer (some ⟨g1, 0, none⟩))) k1 10 (.bool lf)
  have nr : NR ((w1.setCell ⟨φ cur, if p then 8 else 9, none⟩ (.pointer (some ⟨g1, 0, none⟩))).setCell ⟨φ cur, 10, none⟩ (.bool lf)) (ph1 φ n1 g1) (φ cur) (if p then { nd with pc := some n1 } else { nd with ac := some n1 }) (K cur) := by
    have e6 : ptr (some (ph1 φ n1 g1 n1)) = .pointer (some ⟨g1, 0, none⟩) := by rw [ph1_self]; rfl
    cases p
    · exact OBJ.nr (nd := { nd with ac := some n1 }) (lab := lab) (pre := pre) (pp := pp) (pv := pv) (hv := hv) (lf := lf) (by
        have : ncell (ph1 φ n1 g1) { nd with ac := some n1 } lab pre pp (K cur) pv hv lf = ((ncell (ph1 φ n1 g1) nd lab pre pp (K cur) pv hv lf0).set 9 (.pointer (some ⟨g1, 0, none⟩))).set 10 (.bool lf) := by
          unfold ncell
          simp only [Option.map_some, e6]
          rfl
        rw [this]; exact k2) e2 e3 dr row2
    · exact OBJ.nr (nd := { nd with pc := some n1 }) (lab := lab) (pre := pre) (pp := pp) (pv := pv) (hv := hv) (lf := lf) (by
        have : ncell (ph1 φ n1 g1) { nd with pc := some n1 } lab pre pp (K cur) pv hv lf = ((ncell (ph1 φ n1 g1) nd lab pre pp (K cur) pv hv lf0).set 8 (.pointer (some ⟨g1, 0, none⟩))).set 10 (.bool lf) := by
          unfold ncell
          simp only [Option.map_some, e6]
          rfl
        rw [this]; exact k2) e2 e3 dr row2
  exact ⟨_, got_new h hb hn1 hcl b1 hg1 o1 rfl (((Only.refl (fun j => j = φ cur ∨ (K cur).ownBlock = some j) w1).set (.inl (.inl rfl)) _ _).set (.inl (.inl rfl)) _ _) nr (.inl rfl)⟩
end
end Go.Proofs.Ytekjffooblcmnaa.Rh
end
section
namespace Go.Proofs.Ytekjffooblcmnaa.Q
open Go.RowKit Go.Proofs.YtekjffooblcmnaaW.PrintWords Go.Proofs.YtekjffooblcmnaaW.PrintLast Go.Proofs.YtekjffooblcmnaaW.PrintMore
open Go.Proofs.YtekjffooblcmnaaKit (L size_L)
open Go.Proofs.Ytekjffooblcmnaa.Cd
open Go.Proofs.Ytekjffooblcmnaa.SpA (toI toI_length toI_append)
open Go.Proofs.Ytekjffooblcmnaa.Ob
open Go.Proofs.Ytekjffooblcmnaa.Rh (ptr NR HT Own Srt ncell Got DR)
open Go.Proofs.Ytekjffooblcmnaa.Rt (Nd Dat Tb Ch Str lcp Inv)
set_option linter.unusedVariables false
set_option linter.unusedSimpArgs false
variable [Go.Proofs.Ytekjffooblcmnaa.Rh.Blk]
open Go.Proofs.Ytekjffooblcmnaa.Rh (ph1 got_kid got_one)
def PF (gr k hn hc pn pc : Nat) (s pp : ByteArray) (H P : Option Addr) (a : Act) : Prop := a.tmps.size = 393 ∧ a.defers = [] ∧ a.tmps.getD 0 undef = .pointer (some ⟨gr, 0, none⟩) ∧ a.tmps.getD 1 undef = .string s ∧ a.tmps.getD 2 undef = .slice H hn hc ∧ a.tmps.getD 3 undef = .int .u8 (k : Int) ∧ a.tmps.getD 4 undef = .string pp ∧ a.tmps.getD 5 undef = .slice P pn pc
theorem L_drop (sb : ByteArray) (i : Nat) : L (sb.extract i sb.size) = (L sb).drop i := by
  rw [Go.Proofs.YtekjffooblcmnaaKit.L_extract, List.take_of_length_le (by rw [List.length_drop, size_L]; omega)]
theorem kids_some {w : World} {kv : Value} {l : List Nat} {b : Nat} (h : w.ownsRow 0 46 1 kv (l ++ [b]).length (encs pE (l ++ [b]))) : ∃ g c, kv = .slice (some ⟨g, 0, none⟩) (l ++ [b]).length c := by
  rcases id h.2 with ⟨e, hn⟩ | ⟨g, cap, cur, e, _⟩
  · simp at hn
  · exact ⟨g, cap, e⟩
set_option maxHeartbeats 16000000 in
set_option maxRecDepth 1000000 in
theorem iC_wp (x : Nat → Value) (gr k hn hc pn pc : Nat) (s pp : ByteArray) (H P : Option Addr) (w : World) {t : Tb} {φ : Nat → Nat} {K : Nat → Value} (h : HT w t φ K) {cur n1 : Nat} {nd : Nd} (hb : t cur = some nd) (hk : ∀ x ∈ nd.kids, ∃ m, t x = some m ∧ m.pre ≠ []) (hkn : nd.kids.length ≤ 1000000) (hn1 : t n1 = none) (hcl : ∀ b m x, t b = some m → x = b ∨ m.par = some x ∨ Ch m x → x ≠ n1) (sb : ByteArray) (i : Nat) (hi : i < sb.size) (hsz : sb.size ≤ 1000000) (hk3 : k = 0 ∨ k = 1 ∨ k = 2) {o : Option Dat} (hd : DR w o pp (.slice P pn pc) (.slice H hn hc)) (Q : Exit → Act → World → Prop) (c : UInt8) (r : Str) (hcr : (L sb).drop i = c :: r)
    (hgo : ∀ b, Go.Proofs.Ytekjffooblcmnaa.Rt.kidL t nd c = some b → ∀ a', PF gr k hn hc pn pc s pp H P a' → a'.tmps.getD 12 undef = .pointer (some ⟨φ b, 0, none⟩) → a'.tmps.getD 13 undef = .string (sb.extract i sb.size) → Q (.exit 1) a' w)
    (hnew : Go.Proofs.Ytekjffooblcmnaa.Rt.kidL t nd c = none → ∀ a' W' φ' K', a'.defers = [] → Got w W' t (Rt.put (Rt.put t n1 ⟨k, (L sb).drop i, some cur, [], none, none, o⟩) cur (if k = 0 then { nd with kids := nd.kids ++ [n1] } else if k = 1 then { nd with pc := some n1 } else { nd with ac := some n1 })) φ φ' K K' → Q .normal a' W') :
    Code.wp Try.prog iC Q ⟨#[.pointer (some ⟨gr, 0, none⟩), .string s, .slice H hn hc, .int .u8 (k : Int), .string pp, .slice P pn pc, x 6, x 7, x 8, x 9, x 10, x 11, .pointer (some ⟨φ cur, 0, none⟩), .string sb, x 14, x 15, .int .i64 (i : Int), x 17, x 18, x 19, x 20, x 21, x 22, x 23, x 24, x 25, x 26, x 27, x 28, x 29, x 30, x 31, x 32, x 33, x 34, x 35, x 36, x 37, x 38, x 39, x 40, x 41, x 42, x 43, x 44, x 45, x 46, x 47, x 48, x 49, x 50, x 51, x 52, x 53, x 54, x 55, x 56, x 57, x 58, x 59, x 60, x 61, x 62, x 63, x 64, x 65, x 66, x 67, x 68, x 69, x 70, x 71, x 72, x 73, x 74, x 75, x 76, x 77, x 78, x 79, x 80, x 81, x 82, x 83, x 84, x 85, x 86, x 87, x 88, x 89, x 90, x 91, x 92, x 93, x 94, x 95, x 96, x 97, x 98, x 99, x 100, x 101, x 102, x 103, x 104, x 105, x 106, x 107, x 108, x 109, x 110, x 111, x 112, x 113, x 114, x 115, x 116, x 117, x 118, x 119, x 120, x 121, x 122, x 123, x 124, x 125, x 126, x 127, x 128, x 129, x 130, x 131, x 132, x 133, x 134, x 135, x 136, x 137, x 138, x 139, x 140, x 141, x 142, x 143, x 144, x 145, x 146, x 147, x 148, x 149, x 150, x 151, x 152, x 153, x 154, x 155, x 156, x 157, x 158, x 159, x 160, x 161, x 162, x 163, x 164, x 165, x 166, x 167, x 168, x 169, x 170, x 171, x 172, x 173, x 174, x 175, x 176, x 177, x 178, x 179, x 180, x 181, x 182, x 183, x 184, x 185, x 186, x 187, x 188, x 189, x 190, x 191, x 192, x 193, x 194, x 195, x 196, x 197, x 198, x 199, x 200, x 201, x 202, x 203, x 204, x 205, x 206, x 207, x 208, x 209, x 210, x 211, x 212, x 213, x 214, x 215, x 216, x 217, x 218, x 219, x 220, x 221, x 222, x 223, x 224, x 225, x 226, x 227, x 228, x 229, x 230, x 231, x 232, x 233, x 234, x 235, x 236, x 237, x 238, x 239, x 240, x 241, x 242, x 243, x 244, x 245, x 246, x 247, x 248, x 249, x 250, x 251, x 252, x 253, x 254, x 255, x 256, x 257, x 258, x 259, x 260, x 261, x 262, x 263, x 264, x 265, x 266, x 267, x 268, x 269, x 270, x 271, x 272, x 273, x 274, x 275, x 276, x 277, x 278, x 279, x 280, x 281, x 282, x 283, x 284, x 285, x 286, x 287, x 288, x 289, x 290, x 291, x 292, x 293, x 294, x 295, x 296, x 297, x 298, x 299, x 300, x 301, x 302, x 303, x 304, x 305, x 306, x 307, x 308, x 309, x 310, x 311, x 312, x 313, x 314, x 315, x 316, x 317, x 318, x 319, x 320, x 321, x 322, x 323, x 324, x 325, x 326, x 327, x 328, x 329, x 330, x 331, x 332, x 333, x 334, x 335, x 336, x 337, x 338, x 339, x 340, x 341, x 342, x 343, x 344, x 345, x 346, x 347, x 348, x 349, x 350, x 351, x 352, x 353, x 354, x 355, x 356, x 357, x 358, x 359, x 360, x 361, x 362, x 363, x 364, x 365, x 366, x 367, x 368, x 369, x 370, x 371, x 372, x 373, x 374, x 375, x 376, x 377, x 378, x 379, x 380, x 381, x 382, x 383, x 384, x 385, x 386, x 387, x 388, x 389, x 390, x 391, x 392], []⟩ w := by
  have hcn : cur ≠ n1 := fun e => by rw [e, hn1] at hb; cases hb
  have p0 : (0 ≤ (i : Int)) = True := eq_true (by omega)
  have p1 : ((i : Int) < (sb.size : Int)) = True := eq_true (by omega)
  have p2 : ((i : Int) ≤ (sb.size : Int)) = True := eq_true (by omega)
  have p3 : ((0 : Int) < ((sb.size - i : Nat) : Int)) = True := eq_true (by omega)
  have hx0 : 0 < (sb.extract i sb.size).size := by rw [ByteArray.size_extract]; omega
  have hbyte : (sb.extract i sb.size)[0] = c := by
    have h1 := head_byte hx0 c r (by show L (sb.extract i sb.size) = _; rw [L_drop]; exact hcr)
    exact UInt8.toNat_inj.1 (Int.ofNat_inj.1 h1)
  have n0 := h.node cur nd hb
  obtain ⟨lab, pre, pp0, pv0, hv0, lf0, hO, _, _, _, hrow⟩ := n0.obj
  have HN0 := Aside0.mk n0
  have HO := Aside0.mk hO
  have HROW := Aside0.mk hrow
  have HH := Aside0.mk h
  have HK := Aside0.mk hk
  have HB := Aside0.mk hb
  have HKN := Aside0.mk hkn
  have HN1 := Aside0.mk hn1
  have HCL := Aside0.mk hcl
  have HI := Aside0.mk hi
  have HSZ := Aside0.mk hsz
  have HD := Aside0.mk hd
  have HCR := Aside0.mk hcr
  have HGO := Aside0.mk hgo
  have HNEW := Aside0.mk hnew
  have HCN := Aside0.mk hcn
  have HBY := Aside0.mk hbyte
  have HK3 := Aside0.mk hk3
  clear h hk hkn hn1 hcl hsz hd hcr hgo hnew hcn hbyte hO hrow n0 hb hk3
  conv => arg 2; whnf
  go_wp2_with (fail)
  refine (childL_calls _ HH.out HB.out HK.out _ (by have := HKN.out; omega)).mono ?_
  rintro e w' ⟨rfl, rfl⟩
  simp only [HBY.out]
  obtain ⟨kc, hkc⟩ : ∃ o, o = Go.Proofs.Ytekjffooblcmnaa.Rt.kidL t nd c := ⟨_, rfl⟩
  rw [← hkc]
  have HKC := Aside0.mk hkc
  clear hkc
  cases kc with
  | some b =>
    have e1 : ptr ((some b).map φ) = .pointer (some ⟨φ b, 0, none⟩) := rfl
    rw [e1]
    clear e1
    go_wp2_with (fail)
    exact HGO.out b HKC.out.symm _ ⟨rfl, rfl, rfl, rfl, rfl, rfl, rfl, rfl⟩ rfl rfl
  | none =>
    have e1 : ptr ((none : Option Nat).map φ) = .pointer none := rfl
    rw [e1]
    clear e1
    go_wp2_with (fail)
    refine (newNode_calls _ _ _ _ _ _ _ _ _ _ _ _ _ _ _ _ (by rw [ByteArray.size_extract]; omega)).mono ?_
    rintro e w1 ⟨lb, lf, rfl, o1, b1, hlb, hs1⟩
    have O1 := HO.out.below b1
    obtain ⟨AK, cK, hkv, _, _⟩ := kids_form (l := nd.kids.map φ) (by have := HROW.out; rwa [← List.length_map (f := φ)] at this)
    rw [List.length_map] at hkv
    obtain ⟨pa, hpa⟩ : ∃ pa, pa = ptr (nd.pc.map φ) := ⟨_, rfl⟩
    obtain ⟨qa, hqa⟩ : ∃ qa, qa = ptr (nd.ac.map φ) := ⟨_, rfl⟩
    have c4 := O1.cell 4 _ rfl
    have c8 := O1.cell 8 _ rfl
    have c9 := O1.cell 9 _ rfl
    have c10 := O1.cell 10 _ rfl
    have z4 := O1.fz 4
    have z8 := O1.fz 8
    have z9 := O1.fz 9
    have z10 := O1.fz 10
    rw [hkv] at c4
    have hnil := fun (W : World) (A : Option Addr) (n c : Nat) => Lib.run_eql_slice_nil (P := Try.prog) W 49 46 A n c 0 0 Try.underlying49
    have o2 : NR w1 (ph1 φ n1 w'.heap.size) w'.heap.size ⟨k, (L sb).drop i, some cur, [], none, none, o⟩ (.slice none 0 0) := Go.Proofs.Ytekjffooblcmnaa.Rh.OBJ.nr (nd := ⟨k, (L sb).drop i, some cur, [], none, none, o⟩) (lab := lb) (pre := sb.extract i sb.size) (pp := pp) (pv := .slice P pn pc) (hv := .slice H hn hc) (lf := lf) (by
      have : ncell (ph1 φ n1 w'.heap.size) ⟨k, (L sb).drop i, some cur, [], none, none, o⟩ lb (sb.extract i sb.size) pp (.slice none 0 0) (.slice P pn pc) (.slice H hn hc) lf = [.int .u8 (k : Int), .int .u8 lb, .string (sb.extract i sb.size), .pointer (some ⟨φ cur, 0, none⟩), .slice none 0 0, .string pp, .slice P pn pc, .slice H hn hc, .pointer none, .pointer none, .bool lf] := by
        unfold ncell
        simp only [Option.map_some, Go.Proofs.Ytekjffooblcmnaa.Rh.ph1_ne φ w'.heap.size HCN.out]
        rfl
      rw [this]; exact o1) (L_drop sb i) (fun c r e => hlb c r (by show L (sb.extract i sb.size) = _; rw [L_drop]; exact e)) (HD.out.below b1) (World.ownsRow_nil _ _ _ _)
    have O2 := Aside0.mk o2
    have OC := Aside0.mk O1
    have B1 := Aside0.mk b1
    have HKV := Aside0.mk hkv
    have HS1 := Aside0.mk hs1
    clear o2 o1 hlb O1 b1 hkv hs1
    rcases HK3.out with rfl | rfl | rfl
    · clear c8 c9 c10 z4 z8 z9 z10
      go_wp2_with ((with_reducible refine gate_builtin (b := .append) (xs := #[.tmp 326, .tmp 328]) rfl ?_); at_builtin; refine app_PV rfl (.tmp 326) (.tmp 328) rfl (.slice AK nd.kids.length cK) (nd.kids.map φ) w'.heap.size _ _ rfl rfl (by rw [← HKV.out, List.length_map]; exact own_move HROW.out fun k hk => (below_alloc B1.out _).block k (HN0.out.ltK hk)) (one_C (by unfold World.cell?; rw [heap_alloc_new]; rfl)) (by rw [List.length_map]; exact HKN.out) ?_; intro v1 W3 hr hon hat; obtain ⟨g3, c3, rfl⟩ := kids_some hr; have hne : (Value.slice AK nd.kids.length cK).ownBlock ≠ some (φ cur) := (by rw [← HKV.out]; exact HN0.out.ne HN0.out); have hO3 := (OC.out.below (below_alloc (Below.refl _ _) _)).move (hon.block _ (OC.out.below (below_alloc (Below.refl _ _) _)).lt hne) (fun i l v k hi => by simp at hi); have d4 := hO3.cell 4 _ rfl; have d10 := hO3.cell 10 _ rfl; have y4 := hO3.fz 4; have y10 := hO3.fz 10; have HR := Aside0.mk hr; have HON := Aside0.mk hon; have HAT := Aside0.mk hat; clear hr hon hat hne hO3 c4)
      obtain ⟨K', hG⟩ := got_kid HH.out HB.out HN1.out HCL.out B1.out (Nat.le_refl _) O2.out (below_alloc (Below.refl _ _) _) (v1 := .slice (some ⟨g3, 0, none⟩) (nd.kids.length + 1) c3) (by simpa using HR.out) (by rw [HKV.out]; exact HON.out) (by rw [HKV.out]; exact HAT.out) false
      exact HNEW.out HKC.out.symm _ _ _ _ rfl hG
    · have hK := Aside0.mk (got_one HH.out HB.out HN1.out HCL.out B1.out (Nat.le_refl _) O2.out false true)
      rcases AK with _ | AK
      all_goals (
        go_wp2_with (fail)
        obtain ⟨K', hG⟩ := hK.out
        exact HNEW.out HKC.out.symm _ _ _ _ rfl hG)
    · have hK := Aside0.mk (fun lf => got_one HH.out HB.out HN1.out HCL.out B1.out (Nat.le_refl _) O2.out lf false)
      unfold ptr at c8
      generalize (nd.pc.map φ).map (fun b => (⟨b, 0, none⟩ : Addr)) = pv8 at c8
      rcases AK with _ | AK <;> rcases pv8 with _ | pv8
      all_goals (
        go_wp2_with (fail)
        obtain ⟨K', hG⟩ := hK.out _
        exact HNEW.out HKC.out.symm _ _ _ _ rfl hG)
end Go.Proofs.Ytekjffooblcmnaa.Q
end
section
namespace Go.Proofs.Ytekjffooblcmnaa.Q
open Go.RowKit Go.Proofs.YtekjffooblcmnaaW.PrintWords Go.Proofs.YtekjffooblcmnaaW.PrintLast Go.Proofs.YtekjffooblcmnaaW.PrintMore
open Go.Proofs.YtekjffooblcmnaaKit (L size_L)
open Go.Proofs.Ytekjffooblcmnaa.Cd
open Go.Proofs.Ytekjffooblcmnaa.SpA (toI toI_length toI_append)
open Go.Proofs.Ytekjffooblcmnaa.Ob
open Go.Proofs.Ytekjffooblcmnaa.Rh (ptr NR HT Own Srt ncell Got DR)
open Go.Proofs.Ytekjffooblcmnaa.Rt (Nd Dat Tb Ch Str lcp Inv)
set_option linter.unusedVariables false
set_option linter.unusedSimpArgs false
variable [Go.Proofs.Ytekjffooblcmnaa.Rh.Blk]
open Go.Proofs.Ytekjffooblcmnaa.Rh (ph1 got_kid got_one)
noncomputable def iB22 : Code := fst iB
noncomputable def iB23 : Code := fst (snd iB)
noncomputable def iB28 : Code := fst (snd (snd iB))
noncomputable def iB30 : Code := fst (snd (snd (snd iB)))
noncomputable def iBr : Code := snd (snd (snd (snd iB)))
set_option maxRecDepth 1000000 in
theorem iB_eq : iB = .seq iB22 (.seq iB23 (.seq iB28 (.seq iB30 iBr))) := by rfl
def PG (gr k hn hc pn pc : Nat) (s pp : ByteArray) (H P : Option Addr) (gc : Nat) (sb : ByteArray) (i : Nat) (v18 : Value) (a : Act) : Prop := PF gr k hn hc pn pc s pp H P a ∧ a.tmps.getD 12 undef = .pointer (some ⟨gc, 0, none⟩) ∧ a.tmps.getD 13 undef = .string sb ∧ a.tmps.getD 14 undef = .int .i64 (sb.size : Int) ∧ a.tmps.getD 16 undef = .int .i64 (i : Int) ∧ a.tmps.getD 18 undef = v18
set_option maxHeartbeats 4000000 in
set_option maxRecDepth 1000000 in
theorem PG.lit {gr k hn hc pn pc : Nat} {s pp : ByteArray} {H P : Option Addr} {gc : Nat} {sb : ByteArray} {i : Nat} {v18 : Value} {a : Act} (h : PG gr k hn hc pn pc s pp H P gc sb i v18 a) : ∃ x : Nat → Value, a = ⟨#[.pointer (some ⟨gr, 0, none⟩), .string s, .slice H hn hc, .int .u8 (k : Int), .string pp, .slice P pn pc, x 6, x 7, x 8, x 9, x 10, x 11, .pointer (some ⟨gc, 0, none⟩), .string sb, .int .i64 (sb.size : Int), x 15, .int .i64 (i : Int), x 17, v18, x 19, x 20, x 21, x 22, x 23, x 24, x 25, x 26, x 27, x 28, x 29, x 30, x 31, x 32, x 33, x 34, x 35, x 36, x 37, x 38, x 39, x 40, x 41, x 42, x 43, x 44, x 45, x 46, x 47, x 48, x 49, x 50, x 51, x 52, x 53, x 54, x 55, x 56, x 57, x 58, x 59, x 60, x 61, x 62, x 63, x 64, x 65, x 66, x 67, x 68, x 69, x 70, x 71, x 72, x 73, x 74, x 75, x 76, x 77, x 78, x 79, x 80, x 81, x 82, x 83, x 84, x 85, x 86, x 87, x 88, x 89, x 90, x 91, x 92, x 93, x 94, x 95, x 96, x 97, x 98, x 99, x 100, x 101, x 102, x 103, x 104, x 105, x 106, x 107, x 108, x 109, x 110, x 111, x 112, x 113, x 114, x 115, x 116, x 117, x 118, x 119, x 120, x 121, x 122, x 123, x 124, x 125, x 126, x 127, x 128, x 129, x 130, x 131, x 132, x 133, x 134, x 135, x 136, x 137, x 138, x 139, x 140, x 141, x 142, x 143, x 144, x 145, x 146, x 147, x 148, x 149, x 150, x 151, x 152, x 153, x 154, x 155, x 156, x 157, x 158, x 159, x 160, x 161, x 162, x 163, x 164, x 165, x 166, x 167, x 168, x 169, x 170, x 171, x 172, x 173, x 174, x 175, x 176, x 177, x 178, x 179, x 180, x 181, x 182, x 183, x 184, x 185, x 186, x 187, x 188, x 189, x 190, x 191, x 192, x 193, x 194, x 195, x 196, x 197, x 198, x 199, x 200, x 201, x 202, x 203, x 204, x 205, x 206, x 207, x 208, x 209, x 210, x 211, x 212, x 213, x 214, x 215, x 216, x 217, x 218, x 219, x 220, x 221, x 222, x 223, x 224, x 225, x 226, x 227, x 228, x 229, x 230, x 231, x 232, x 233, x 234, x 235, x 236, x 237, x 238, x 239, x 240, x 241, x 242, x 243, x 244, x 245, x 246, x 247, x 248, x 249, x 250, x 251, x 252, x 253, x 254, x 255, x 256, x 257, x 258, x 259, x 260, x 261, x 262, x 263, x 264, x 265, x 266, x 267, x 268, x 269, x 270, x 271, x 272, x 273, x 274, x 275, x 276, x 277, x 278, x 279, x 280, x 281, x 282, x 283, x 284, x 285, x 286, x 287, x 288, x 289, x 290, x 291, x 292, x 293, x 294, x 295, x 296, x 297, x 298, x 299, x 300, x 301, x 302, x 303, x 304, x 305, x 306, x 307, x 308, x 309, x 310, x 311, x 312, x 313, x 314, x 315, x 316, x 317, x 318, x 319, x 320, x 321, x 322, x 323, x 324, x 325, x 326, x 327, x 328, x 329, x 330, x 331, x 332, x 333, x 334, x 335, x 336, x 337, x 338, x 339, x 340, x 341, x 342, x 343, x 344, x 345, x 346, x 347, x 348, x 349, x 350, x 351, x 352, x 353, x 354, x 355, x 356, x 357, x 358, x 359, x 360, x 361, x 362, x 363, x 364, x 365, x 366, x 367, x 368, x 369, x 370, x 371, x 372, x 373, x 374, x 375, x 376, x 377, x 378, x 379, x 380, x 381, x 382, x 383, x 384, x 385, x 386, x 387, x 388, x 389, x 390, x 391, x 392], []⟩ := by
  obtain ⟨⟨h1, h2, a0, a1, a2, a3, a4, a5⟩, a12, a13, a14, a16, a18⟩ := h
  obtain ⟨x, e, hx⟩ := frame 393 a h1 h2
  rw [← hx _ (by decide)] at a0 a1 a2 a3 a4 a5 a12 a13 a14 a16 a18
  refine ⟨x, ?_⟩
  rw [e, frame393, a0, a1, a2, a3, a4, a5, a12, a13, a14, a16, a18]
set_option maxHeartbeats 16000000 in
set_option maxRecDepth 1000000 in
theorem iB22_wp {gr k hn hc pn pc : Nat} {s pp : ByteArray} {H P : Option Addr} (w : World) {t : Tb} {φ : Nat → Nat} {K : Nat → Value} (h : HT w t φ K) {cur n1 : Nat} {nd : Nd} (hb : t cur = some nd) (hn1 : t n1 = none) (hcl : ∀ b m x, t b = some m → x = b ∨ m.par = some x ∨ Ch m x → x ≠ n1) (sb : ByteArray) (i : Nat) (v18 : Value) (hi : i < nd.pre.length) (hsz : nd.pre.length ≤ 1000000) (Q : Exit → Act → World → Prop) {a : Act} (ha : PG gr k hn hc pn pc s pp H P (φ cur) sb i v18 a)
    (hq : ∀ a' w1, PG gr k hn hc pn pc s pp H P (φ cur) sb i (.pointer (some ⟨w.heap.size, 0, none⟩)) a' → Below w.heap.size w w1 → NR w1 (ph1 φ n1 w.heap.size) w.heap.size { nd with pre := nd.pre.drop i, par := some cur } (K cur) → Q .normal a' w1) :
    Code.wp Try.prog iB22 Q a w := by
  have hcn : cur ≠ n1 := fun e => by rw [e, hn1] at hb; cases hb
  have n0 := h.node cur nd hb
  obtain ⟨lab, pre, pp0, pv0, hv0, lf0, hO, hpre, hlab, hDR, hrow⟩ := n0.obj
  obtain ⟨⟨A7, n7, m7, rfl⟩, A6, n6, m6, rfl⟩ := hDR.slices
  obtain ⟨AK, cK, hkv, _, _⟩ := kids_form (l := nd.kids.map φ) (by rwa [← List.length_map (f := φ)] at hrow)
  rw [List.length_map] at hkv
  have hps : pre.size = nd.pre.length := by rw [← hpre]; exact (size_L pre).symm
  rw [← hps] at hi hsz
  clear hps
  have c0 := hO.cell 0 _ rfl
  have c2 := hO.cell 2 _ rfl
  have c4 := hO.cell 4 _ rfl
  have c5 := hO.cell 5 _ rfl
  have c6 := hO.cell 6 _ rfl
  have c7 := hO.cell 7 _ rfl
  have c8 := hO.cell 8 _ rfl
  have c9 := hO.cell 9 _ rfl
  rw [hkv] at c4
  unfold ptr at c8 c9
  obtain ⟨p8, hp8⟩ : ∃ p, p = (nd.pc.map φ).map fun b => (⟨b, 0, none⟩ : Addr) := ⟨_, rfl⟩
  obtain ⟨p9, hp9⟩ : ∃ p, p = (nd.ac.map φ).map fun b => (⟨b, 0, none⟩ : Addr) := ⟨_, rfl⟩
  rw [← hp8] at c8
  rw [← hp9] at c9
  have q0 : (0 ≤ (i : Int)) = True := eq_true (by omega)
  have q1 : ((i : Int) ≤ (pre.size : Int)) = True := eq_true (by omega)
  have hpx : 0 < (pre.extract i pre.size).size := by rw [ByteArray.size_extract]; omega
  have hsl : ∀ W : World, (Instr.slice 9 (.string pre) (some (.int .i64 (i : Int))) none none).run Try.prog W = .ok (.string (pre.extract i pre.size)) W := fun W => by
    have := run_slice_string_l (P := Try.prog) (w := W) (t := 9) (s := pre) Try.underlying9 .i64 (i : Int) (by omega) (by omega)
    simpa using this
  have HQ := Aside0.mk hq
  have HH := Aside0.mk h
  have HB := Aside0.mk hb
  have HN1 := Aside0.mk hn1
  have HCL := Aside0.mk hcl
  have HCN := Aside0.mk hcn
  have HPRE := Aside0.mk hpre
  have HDR := Aside0.mk hDR
  have HROW := Aside0.mk hrow
  have HKV := Aside0.mk hkv
  have HP8 := Aside0.mk hp8
  have HP9 := Aside0.mk hp9
  have HPX := Aside0.mk hpx
  clear hq h hb hn1 hcl hcn hpre hDR hrow hkv hp8 hp9 hpx hlab n0 hO
  obtain ⟨x, rfl⟩ := ha.lit
  clear ha
  conv => arg 2; whnf
  go_still_tail 35, (by kernel_rfl)
  change wpList _ _ _ _ _ w.drew
  have hdr : Below w.heap.size w w.drew := below_drew1 (Below.refl _ _)
  have hsz0 : w.drew.heap.size = w.heap.size := rfl
  generalize w.drew = W2 at hdr hsz0 ⊢
  have HDRW := Aside0.mk hdr
  have HSZW := Aside0.mk hsz0
  clear hdr hsz0
  go_wp2_with (fail)
  refine (newNode_calls _ _ _ _ _ _ _ _ _ _ _ _ _ _ _ _ HPX.out).mono ?_
  rintro e w1 ⟨lb, lf, rfl, o1, b1, hlb, hs1⟩
  have hsz := HSZW.out
  rw [hsz] at o1 b1 ⊢
  have b2 : Below w.heap.size w w1 := HDRW.out.trans b1
  have nr : NR w1 (ph1 φ n1 w.heap.size) w.heap.size { nd with pre := nd.pre.drop i, par := some cur } (K cur) := Go.Proofs.Ytekjffooblcmnaa.Rh.OBJ.nr (nd := { nd with pre := nd.pre.drop i, par := some cur }) (lab := lb) (pre := pre.extract i pre.size) (pp := pp0) (pv := .slice A6 n6 m6) (hv := .slice A7 n7 m7) (lf := lf) (by
    have e1 : nd.pc.map (ph1 φ n1 w.heap.size) = nd.pc.map φ := by
      cases hp : nd.pc with
      | none => rfl
      | some y => rw [Option.map_some, Option.map_some, Go.Proofs.Ytekjffooblcmnaa.Rh.ph1_ne φ _ (HCL.out cur nd y HB.out (.inr (.inr (.inr (.inl hp)))))]
    have e2 : nd.ac.map (ph1 φ n1 w.heap.size) = nd.ac.map φ := by
      cases hp : nd.ac with
      | none => rfl
      | some y => rw [Option.map_some, Option.map_some, Go.Proofs.Ytekjffooblcmnaa.Rh.ph1_ne φ _ (HCL.out cur nd y HB.out (.inr (.inr (.inr (.inr hp)))))]
    have : ncell (ph1 φ n1 w.heap.size) { nd with pre := nd.pre.drop i, par := some cur } lb (pre.extract i pre.size) pp0 (K cur) (.slice A6 n6 m6) (.slice A7 n7 m7) lf = [.int .u8 (nd.kind : Int), .int .u8 lb, .string (pre.extract i pre.size), .pointer (some ⟨φ cur, 0, none⟩), .slice AK nd.kids.length cK, .string pp0, .slice A6 n6 m6, .slice A7 n7 m7, .pointer p8, .pointer p9, .bool lf] := by
      unfold ncell
      simp only [Option.map_some, Go.Proofs.Ytekjffooblcmnaa.Rh.ph1_ne φ w.heap.size HCN.out, e1, e2, HKV.out, HP8.out, HP9.out]
      rfl
    rw [this]; exact o1) (by show L (pre.extract i pre.size) = nd.pre.drop i; rw [L_drop, show L pre = nd.pre from HPRE.out]) (fun c r e => hlb c r (by show L (pre.extract i pre.size) = _; rw [L_drop, show L pre = nd.pre from HPRE.out]; exact e)) (HDR.out.below b2) (by
    have e3 : nd.kids.map (ph1 φ n1 w.heap.size) = nd.kids.map φ := List.map_congr_left fun y hy => Go.Proofs.Ytekjffooblcmnaa.Rh.ph1_ne φ _ (HCL.out cur nd y HB.out (.inr (.inr (.inl hy))))
    show World.ownsRow _ 0 46 1 (K cur) nd.kids.length (encs _ (nd.kids.map (ph1 φ n1 w.heap.size)))
    rw [e3]
    exact own_move HROW.out fun k hk => b2.block k (by
      obtain ⟨C, hC⟩ := own_typed HROW.out k hk
      exact (Array.getElem?_eq_some_iff.1 hC).1))
  have HNR := Aside0.mk nr
  have HB2 := Aside0.mk b2
  clear o1 b1 hlb hs1 hsz b2 nr
  go_wp2_with (fail)
  exact HQ.out _ _ ⟨⟨rfl, rfl, rfl, rfl, rfl, rfl, rfl, rfl⟩, rfl, rfl, rfl, rfl, rfl⟩ HB2.out HNR.out
end Go.Proofs.Ytekjffooblcmnaa.Q
end
section
namespace Go.Proofs.Ytekjffooblcmnaa.Q
open Go.RowKit Go.Proofs.YtekjffooblcmnaaW.PrintWords Go.Proofs.YtekjffooblcmnaaW.PrintLast Go.Proofs.YtekjffooblcmnaaW.PrintMore
open Go.Proofs.YtekjffooblcmnaaKit (L size_L)
open Go.Proofs.Ytekjffooblcmnaa.Cd
open Go.Proofs.Ytekjffooblcmnaa.SpA (toI toI_length toI_append)
open Go.Proofs.Ytekjffooblcmnaa.Ob
open Go.Proofs.Ytekjffooblcmnaa.Rh (ptr NR HT Own Srt ncell Got DR)
open Go.Proofs.Ytekjffooblcmnaa.Rt (Nd Dat Tb Ch Str lcp Inv)
set_option linter.unusedVariables false
set_option linter.unusedSimpArgs false
variable [Go.Proofs.Ytekjffooblcmnaa.Rh.Blk]
open Go.Proofs.Ytekjffooblcmnaa.Rh (ph1 setPar got_par' setPar_nil)
theorem setPar_self {T0 : Tb} {n1 : Nat} {nd : Nd} (h : T0 n1 = some nd) (l : List Nat) (hl : n1 ∉ l) : setPar T0 l n1 n1 = some nd := by
  unfold setPar
  rw [if_neg hl, h]
set_option maxHeartbeats 16000000 in
set_option maxRecDepth 1000000 in
theorem iB23_wp {gr k hn hc pn pc : Nat} {s pp : ByteArray} {H P : Option Addr} (w : World) {T0 : Tb} {φ : Nat → Nat} {K : Nat → Value} (h : HT w T0 φ K) {n1 : Nat} {nd : Nd} (hn1 : T0 n1 = some nd) (gc : Nat) (vals : List Value) (hO : OBJ w gc 52 vals []) (h4 : vals[4]? = some (K n1)) (hk : ∀ x ∈ nd.kids, x ≠ n1 ∧ T0 x ≠ none) (hkn : nd.kids.length ≤ 1000000) (sb : ByteArray) (i : Nat) (Q : Exit → Act → World → Prop) {a : Act} (ha : PG gr k hn hc pn pc s pp H P gc sb i (.pointer (some ⟨φ n1, 0, none⟩)) a)
    (hq : ∀ a' w', PG gr k hn hc pn pc s pp H P gc sb i (.pointer (some ⟨φ n1, 0, none⟩)) a' → HT w' (setPar T0 nd.kids n1) φ K → Only (fun j => ∃ x ∈ nd.kids, φ x = j) w w' → Q .normal a' w') :
    Code.wp Try.prog iB23 Q a w := by
  have row0 : ∀ W l, n1 ∉ l → HT W (setPar T0 l n1) φ K → ∃ A c, K n1 = .slice A nd.kids.length c ∧ ∀ (i : Nat) (x : Nat), (nd.kids.map φ)[i]? = some x → ∃ g, A = some ⟨g, 0, none⟩ ∧ W.cell? ⟨g, i, none⟩ = some (.pointer (some ⟨x, 0, none⟩)) := fun W l hl hW => by
    obtain ⟨_, _, _, _, _, _, _, _, _, _, hrow⟩ := (hW.node n1 nd (setPar_self hn1 l hl)).obj
    rw [← List.length_map (f := φ)] at hrow
    obtain ⟨A, c, e, _, hc⟩ := kids_form hrow
    rw [List.length_map] at e
    exact ⟨A, c, e, hc⟩
  obtain ⟨A, c, hkv, _⟩ := row0 w [] (by simp) (by rw [setPar_nil]; exact h)
  have c4 := hO.cell 4 _ h4
  rw [hkv] at c4
  have HROW := Aside0.mk row0
  have HH := Aside0.mk h
  have HN1 := Aside0.mk hn1
  have HK := Aside0.mk hk
  have HKN := Aside0.mk hkn
  have HKV := Aside0.mk hkv
  have HQ := Aside0.mk hq
  obtain ⟨n, hnl⟩ : ∃ n, n = nd.kids.length := ⟨_, rfl⟩
  rw [← hnl] at c4
  have HNL := Aside0.mk hnl
  clear row0 h hn1 hk hkn hkv hq hnl hO h4
  obtain ⟨x, rfl⟩ := ha.lit
  clear ha
  conv => arg 2; whnf
  go_wp2
  go_loopw [20, 155] (fun v20 v155 wr => ∃ j : Nat, v155 = .int .i64 (j : Int) ∧ Aside0 (j ≤ n) ∧ Aside0 (HT wr (setPar T0 (nd.kids.take j) n1) φ K) ∧ Aside0 (Only (fun q => ∃ x ∈ nd.kids.take j, φ x = q) w wr)) (fun _ v155 _ => n - natV v155)
  case atStart => exact ⟨0, rfl, ⟨Nat.zero_le _⟩, ⟨by rw [List.take_zero, setPar_nil]; exact HH.out⟩, ⟨Only.refl _ _⟩⟩
  case round =>
    obtain ⟨j, rfl, HJ, HT1, HON⟩ := hrel
    by_cases hj : j < n
    · have b2 : decide ((j : Int) < (n : Int)) = true := decide_eq_true (by omega)
      have p1 : (0 ≤ (j : Int)) = True := eq_true (by omega)
      have q1 : ((j : Int) < (n : Int)) = True := eq_true (by omega)
      have hj2 : j < nd.kids.length := by rw [← HNL.out]; exact hj
      have wx := wrap_succ hj (by have := HNL.out; have := HKN.out; omega)
      have hnl : n1 ∉ nd.kids.take j := fun e => (HK.out n1 (List.mem_of_mem_take e)).1 rfl
      obtain ⟨A', c', hkv', hcl⟩ := HROW.out _ _ hnl HT1.out
      rw [HKV.out] at hkv'
      obtain ⟨rfl, _, rfl⟩ := Value.slice.inj hkv'
      obtain ⟨g, rfl, f1⟩ := hcl j (φ nd.kids[j]) (by rw [List.getElem?_map, List.getElem?_eq_getElem hj2]; rfl)
      obtain ⟨m, hm⟩ : ∃ m, T0 nd.kids[j] = some m := by
        cases hq : T0 nd.kids[j] with
        | none => exact absurd hq (HK.out _ (List.getElem_mem hj2)).2
        | some m => exact ⟨m, rfl⟩
      obtain ⟨m', hm', _⟩ := Go.Proofs.Ytekjffooblcmnaa.Rh.setPar_some (l := nd.kids.take j) (p := n1) hm
      obtain ⟨_, _, _, _, _, _, hO2, _⟩ := (HT1.out.node _ m' hm').obj
      have f2 := hO2.cell 3 _ rfl
      have z2 := hO2.fz 3
      have hg := got_par' HT1.out hm
      have hT : nd.kids.take (j + 1) = nd.kids.take j ++ [nd.kids[j]] := by rw [List.take_add_one, List.getElem?_eq_getElem hj2]; rfl
      rw [← hT] at hg
      have HG := Aside0.mk hg
      have HT2 := Aside0.mk hT
      obtain ⟨bx, hbx⟩ : ∃ bx, bx = φ nd.kids[j] := ⟨_, rfl⟩
      rw [← hbx] at f1 f2 z2
      have HBX := Aside0.mk hbx
      clear hbx hm hm' hO2 hnl hkv' hcl hg hT
      go_wp2
      go_roundw
      case measure => simp only [natV]; try rw [wx]
                      omega
      case rel => exact ⟨j + 1, by first | rfl | rw [← wx], ⟨by omega⟩, ⟨by rw [HBX.out]; exact HG.out.1⟩, ⟨(HON.out.mono fun k _ hk => hk.imp fun x hx => ⟨by rw [HT2.out]; exact List.mem_append_left _ hx.1, hx.2⟩).trans (by rw [HBX.out]; exact HG.out.2) fun k _ e => ⟨nd.kids[j], by rw [HT2.out]; exact List.mem_append_right _ (List.mem_singleton.2 rfl), Eq.symm e⟩⟩⟩
    · have b2 : decide ((j : Int) < (n : Int)) = false := decide_eq_false (by omega)
      have e : nd.kids.take j = nd.kids := List.take_of_length_le (by have := HNL.out; omega)
      have HE := Aside0.mk e
      clear e
      go_wp2
      exact HQ.out _ _ ⟨⟨rfl, rfl, rfl, rfl, rfl, rfl, rfl, rfl⟩, rfl, rfl, rfl, rfl, rfl⟩ (by have := HT1.out; rwa [HE.out] at this) (by have := HON.out; rwa [HE.out] at this)
end Go.Proofs.Ytekjffooblcmnaa.Q
end
section
namespace Go.Proofs.Ytekjffooblcmnaa.Q
open Go.RowKit Go.Proofs.YtekjffooblcmnaaW.PrintWords Go.Proofs.YtekjffooblcmnaaW.PrintLast Go.Proofs.YtekjffooblcmnaaW.PrintMore
open Go.Proofs.YtekjffooblcmnaaKit (L size_L)
open Go.Proofs.Ytekjffooblcmnaa.Cd
open Go.Proofs.Ytekjffooblcmnaa.SpA (toI toI_length toI_append)
open Go.Proofs.Ytekjffooblcmnaa.Ob
open Go.Proofs.Ytekjffooblcmnaa.Rh (ptr NR HT Own Srt ncell Got DR)
open Go.Proofs.Ytekjffooblcmnaa.Rt (Nd Dat Tb Ch Str lcp Inv)
set_option linter.unusedVariables false
set_option linter.unusedSimpArgs false
variable [Go.Proofs.Ytekjffooblcmnaa.Rh.Blk]
open Go.Proofs.Ytekjffooblcmnaa.Rh (ph1 setPar got_par' setPar_nil setPar_some)
set_option maxHeartbeats 16000000 in
set_option maxRecDepth 1000000 in
theorem iB28_wp {gr k hn hc pn pc : Nat} {s pp : ByteArray} {H P : Option Addr} (w : World) {T0 : Tb} {φ : Nat → Nat} {K : Nat → Value} {l : List Nat} {n1 : Nat} (h : HT w (setPar T0 l n1) φ K) (gc : Nat) (vals : List Value) (hO : OBJ w gc 52 vals []) (oc : Option Nat) (h4 : vals[8]? = some (ptr (oc.map φ))) (hk : ∀ x, oc = some x → T0 x ≠ none) (sb : ByteArray) (i : Nat) (Q : Exit → Act → World → Prop) {a : Act} (ha : PG gr k hn hc pn pc s pp H P gc sb i (.pointer (some ⟨φ n1, 0, none⟩)) a)
    (hq : ∀ a' w', PG gr k hn hc pn pc s pp H P gc sb i (.pointer (some ⟨φ n1, 0, none⟩)) a' → HT w' (setPar T0 (l ++ oc.toList) n1) φ K → Only (fun j => ∃ x ∈ oc.toList, φ x = j) w w' → Q .normal a' w') :
    Code.wp Try.prog iB28 Q a w := by
  have c4 := hO.cell 8 _ h4
  have HH := Aside0.mk h
  have HK := Aside0.mk hk
  have HQ := Aside0.mk hq
  clear h hk hq hO h4
  obtain ⟨x, rfl⟩ := ha.lit
  clear ha
  cases oc with
  | none =>
    have e1 : ptr ((none : Option Nat).map φ) = .pointer none := rfl
    rw [e1] at c4
    clear e1
    conv => arg 2; whnf
    go_wp2
    exact HQ.out _ _ ⟨⟨rfl, rfl, rfl, rfl, rfl, rfl, rfl, rfl⟩, rfl, rfl, rfl, rfl, rfl⟩ (by rw [Option.toList_none, List.append_nil]; exact HH.out) (Only.refl _ _)
  | some y =>
    have e1 : ptr ((some y : Option Nat).map φ) = .pointer (some ⟨φ y, 0, none⟩) := rfl
    rw [e1] at c4
    clear e1
    obtain ⟨m, hm⟩ : ∃ m, T0 y = some m := by
      cases hq : T0 y with
      | none => exact absurd hq (HK.out _ rfl)
      | some m => exact ⟨m, rfl⟩
    obtain ⟨m', hm', _⟩ := setPar_some (l := l) (p := n1) hm
    obtain ⟨_, _, _, _, _, _, hO2, _⟩ := (HH.out.node _ m' hm').obj
    have f2 := hO2.cell 3 _ rfl
    have z2 := hO2.fz 3
    have hg := got_par' HH.out hm
    have HG := Aside0.mk hg
    clear hm hm' hO2 hg
    conv => arg 2; whnf
    go_wp2
    exact HQ.out _ _ ⟨⟨rfl, rfl, rfl, rfl, rfl, rfl, rfl, rfl⟩, rfl, rfl, rfl, rfl, rfl⟩ HG.out.1 (HG.out.2.mono fun k _ e => ⟨y, by simp, Eq.symm e⟩)
set_option maxHeartbeats 16000000 in
set_option maxRecDepth 1000000 in
theorem iB30_wp {gr k hn hc pn pc : Nat} {s pp : ByteArray} {H P : Option Addr} (w : World) {T0 : Tb} {φ : Nat → Nat} {K : Nat → Value} {l : List Nat} {n1 : Nat} (h : HT w (setPar T0 l n1) φ K) (gc : Nat) (vals : List Value) (hO : OBJ w gc 52 vals []) (oc : Option Nat) (h4 : vals[9]? = some (ptr (oc.map φ))) (hk : ∀ x, oc = some x → T0 x ≠ none) (sb : ByteArray) (i : Nat) (Q : Exit → Act → World → Prop) {a : Act} (ha : PG gr k hn hc pn pc s pp H P gc sb i (.pointer (some ⟨φ n1, 0, none⟩)) a)
    (hq : ∀ a' w', PG gr k hn hc pn pc s pp H P gc sb i (.pointer (some ⟨φ n1, 0, none⟩)) a' → HT w' (setPar T0 (l ++ oc.toList) n1) φ K → Only (fun j => ∃ x ∈ oc.toList, φ x = j) w w' → Q .normal a' w') :
    Code.wp Try.prog iB30 Q a w := by
  have c4 := hO.cell 9 _ h4
  have HH := Aside0.mk h
  have HK := Aside0.mk hk
  have HQ := Aside0.mk hq
  clear h hk hq hO h4
  obtain ⟨x, rfl⟩ := ha.lit
  clear ha
  cases oc with
  | none =>
    have e1 : ptr ((none : Option Nat).map φ) = .pointer none := rfl
    rw [e1] at c4
    clear e1
    conv => arg 2; whnf
    go_wp2
    exact HQ.out _ _ ⟨⟨rfl, rfl, rfl, rfl, rfl, rfl, rfl, rfl⟩, rfl, rfl, rfl, rfl, rfl⟩ (by rw [Option.toList_none, List.append_nil]; exact HH.out) (Only.refl _ _)
  | some y =>
    have e1 : ptr ((some y : Option Nat).map φ) = .pointer (some ⟨φ y, 0, none⟩) := rfl
    rw [e1] at c4
    clear e1
    obtain ⟨m, hm⟩ : ∃ m, T0 y = some m := by
      cases hq : T0 y with
      | none => exact absurd hq (HK.out _ rfl)
      | some m => exact ⟨m, rfl⟩
    obtain ⟨m', hm', _⟩ := setPar_some (l := l) (p := n1) hm
    obtain ⟨_, _, _, _, _, _, hO2, _⟩ := (HH.out.node _ m' hm').obj
    have f2 := hO2.cell 3 _ rfl
    have z2 := hO2.fz 3
    have hg := got_par' HH.out hm
    have HG := Aside0.mk hg
    clear hm hm' hO2 hg
    conv => arg 2; whnf
    go_wp2
    exact HQ.out _ _ ⟨⟨rfl, rfl, rfl, rfl, rfl, rfl, rfl, rfl⟩, rfl, rfl, rfl, rfl, rfl⟩ HG.out.1 (HG.out.2.mono fun k _ e => ⟨y, by simp, Eq.symm e⟩)
end Go.Proofs.Ytekjffooblcmnaa.Q
end
section
namespace Go.Proofs.Ytekjffooblcmnaa.Q
open Go.RowKit Go.Proofs.YtekjffooblcmnaaW.PrintWords Go.Proofs.YtekjffooblcmnaaW.PrintLast Go.Proofs.YtekjffooblcmnaaW.PrintMore
open Go.Proofs.YtekjffooblcmnaaKit (L size_L)
open Go.Proofs.Ytekjffooblcmnaa.Cd
open Go.Proofs.Ytekjffooblcmnaa.SpA (toI toI_length toI_append)
open Go.Proofs.Ytekjffooblcmnaa.Ob
open Go.Proofs.Ytekjffooblcmnaa.Rh (ptr NR HT Own Srt ncell Got DR)
open Go.Proofs.Ytekjffooblcmnaa.Rt (Nd Dat Tb Ch Str lcp Inv)
set_option linter.unusedVariables false
set_option linter.unusedSimpArgs false
variable [Go.Proofs.Ytekjffooblcmnaa.Rh.Blk]
open Go.Proofs.Ytekjffooblcmnaa.Rh (ph1 setPar)
noncomputable def r32 : Code := fst (iBr)
noncomputable def r33 : Code := fst (snd (iBr))
noncomputable def r34 : Code := fst (snd (snd (iBr)))
noncomputable def r35 : Code := fst (snd (snd (snd (iBr))))
noncomputable def r36 : Code := fst (snd (snd (snd (snd (iBr)))))
noncomputable def r37 : Code := fst (snd (snd (snd (snd (snd (iBr))))))
noncomputable def r38 : Code := fst (snd (snd (snd (snd (snd (snd (iBr)))))))
noncomputable def r39 : Code := fst (snd (snd (snd (snd (snd (snd (snd (iBr))))))))
noncomputable def r40 : Code := fst (snd (snd (snd (snd (snd (snd (snd (snd (iBr)))))))))
noncomputable def r41 : Code := fst (snd (snd (snd (snd (snd (snd (snd (snd (snd (iBr))))))))))
noncomputable def r42 : Code := fst (snd (snd (snd (snd (snd (snd (snd (snd (snd (snd (iBr)))))))))))
noncomputable def rCc : Code := fst (snd (snd (snd (snd (snd (snd (snd (snd (snd (snd (snd (iBr))))))))))))
noncomputable def r50 : Code := snd (snd (snd (snd (snd (snd (snd (snd (snd (snd (snd (snd (iBr))))))))))))
noncomputable def r43 : Code := fst rCc
noncomputable def iBs : Code := thn 241 rCc
noncomputable def iBt : Code := els 241 rCc
noncomputable def r44 : Code := fst iBs
noncomputable def r45 : Code := fst (snd iBs)
noncomputable def r46 : Code := fst (snd (snd iBs))
noncomputable def r47 : Code := snd (snd (snd iBs))
noncomputable def r48 : Code := fst iBt
noncomputable def r49 : Code := snd iBt
set_option maxRecDepth 1000000 in
theorem iBr_eq : iBr = .seq r32 (.seq r33 (.seq r34 (.seq r35 (.seq r36 (.seq r37 (.seq r38 (.seq r39 (.seq r40 (.seq r41 (.seq r42 (.seq (.seq r43 (.cond (.tmp 241) (.seq r44 (.seq r45 (.seq r46 r47))) (.seq r48 r49))) r50))))))))))) := by rfl
set_option maxHeartbeats 16000000 in
set_option maxRecDepth 1000000 in
theorem r32_wp {gr k hn hc pn pc : Nat} {s pp : ByteArray} {H P : Option Addr} (w : World) (gc : Nat) (vals : List Value) (hO : OBJ w gc 52 vals []) (v18 : Value) (hf : 0 < vals.length) (sb : ByteArray) (i : Nat) (Q : Exit → Act → World → Prop) {a : Act} (ha : PG gr k hn hc pn pc s pp H P gc sb i v18 a)
    (hq : ∀ a', PG gr k hn hc pn pc s pp H P gc sb i v18 a' → Q .normal a' (w.setCell ⟨gc, 0, none⟩ (.int .u8 0))) : Code.wp Try.prog r32 Q a w := by
  obtain ⟨v0, hv0⟩ : ∃ v, vals[0]? = some v := ⟨_, List.getElem?_eq_getElem hf⟩
  have c4 := hO.cell 0 _ hv0
  have z4 := hO.fz 0
  clear hv0
  have HQ := Aside0.mk hq
  clear hq hO hf
  obtain ⟨x, rfl⟩ := ha.lit
  clear ha
  conv => arg 2; whnf
  go_wp2
  exact HQ.out _ ⟨⟨rfl, rfl, rfl, rfl, rfl, rfl, rfl, rfl⟩, rfl, rfl, rfl, rfl, rfl⟩
set_option maxHeartbeats 16000000 in
set_option maxRecDepth 1000000 in
theorem r33_wp {gr k hn hc pn pc : Nat} {s pp : ByteArray} {H P : Option Addr} (w : World) (gc : Nat) (vals : List Value) (hO : OBJ w gc 52 vals []) (v18 : Value) (hf : 1 < vals.length) (sb : ByteArray) (i : Nat) (pre : ByteArray) (h2 : vals[2]? = some (.string pre)) (hp : 0 < pre.size) (Q : Exit → Act → World → Prop) {a : Act} (ha : PG gr k hn hc pn pc s pp H P gc sb i v18 a)
    (hq : ∀ a', PG gr k hn hc pn pc s pp H P gc sb i v18 a' → Q .normal a' (w.setCell ⟨gc, 1, none⟩ (.int .u8 (((pre[0]'hp).toNat : Nat) : Int)))) : Code.wp Try.prog r33 Q a w := by
  obtain ⟨v0, hv0⟩ : ∃ v, vals[1]? = some v := ⟨_, List.getElem?_eq_getElem hf⟩
  have c4 := hO.cell 1 _ hv0
  have z4 := hO.fz 1
  clear hv0
  have c2 := hO.cell 2 _ h2
  have p1 : ((0 : Int) < (pre.size : Int)) = True := eq_true (by omega)
  clear h2
  have HQ := Aside0.mk hq
  clear hq hO hf
  obtain ⟨x, rfl⟩ := ha.lit
  clear ha
  conv => arg 2; whnf
  go_wp2
  exact HQ.out _ ⟨⟨rfl, rfl, rfl, rfl, rfl, rfl, rfl, rfl⟩, rfl, rfl, rfl, rfl, rfl⟩
set_option maxHeartbeats 16000000 in
set_option maxRecDepth 1000000 in
theorem r34_wp {gr k hn hc pn pc : Nat} {s pp : ByteArray} {H P : Option Addr} (w : World) (gc : Nat) (vals : List Value) (hO : OBJ w gc 52 vals []) (v18 : Value) (hf : 2 < vals.length) (sb : ByteArray) (i : Nat) (pre : ByteArray) (h2 : vals[2]? = some (.string pre)) (hi : i ≤ pre.size) (Q : Exit → Act → World → Prop) {a : Act} (ha : PG gr k hn hc pn pc s pp H P gc sb i v18 a)
    (hq : ∀ a', PG gr k hn hc pn pc s pp H P gc sb i v18 a' → Q .normal a' (w.setCell ⟨gc, 2, none⟩ (.string (pre.extract 0 i)))) : Code.wp Try.prog r34 Q a w := by
  obtain ⟨v0, hv0⟩ : ∃ v, vals[2]? = some v := ⟨_, List.getElem?_eq_getElem hf⟩
  have c4 := hO.cell 2 _ hv0
  have z4 := hO.fz 2
  clear hv0
  clear c4
  have c2 := hO.cell 2 _ h2
  have hsl : ∀ W : World, (Instr.slice 9 (.string pre) none (some (.int .i64 (i : Int))) none).run Try.prog W = .ok (.string (pre.extract 0 i)) W := fun W => by
    have := run_slice_string_h (P := Try.prog) (w := W) (t := 9) (s := pre) Try.underlying9 .i64 (i : Int) (by omega) (by omega)
    simpa using this
  clear h2
  have HQ := Aside0.mk hq
  clear hq hO hf
  obtain ⟨x, rfl⟩ := ha.lit
  clear ha
  conv => arg 2; whnf
  go_wp2
  exact HQ.out _ ⟨⟨rfl, rfl, rfl, rfl, rfl, rfl, rfl, rfl⟩, rfl, rfl, rfl, rfl, rfl⟩
set_option maxHeartbeats 16000000 in
set_option maxRecDepth 1000000 in
theorem r35_wp {gr k hn hc pn pc : Nat} {s pp : ByteArray} {H P : Option Addr} (w : World) (gc : Nat) (vals : List Value) (hO : OBJ w gc 52 vals []) (v18 : Value) (hf : 4 < vals.length) (sb : ByteArray) (i : Nat) (Q : Exit → Act → World → Prop) {a : Act} (ha : PG gr k hn hc pn pc s pp H P gc sb i v18 a)
    (hq : ∀ a', PG gr k hn hc pn pc s pp H P gc sb i v18 a' → Q .normal a' (w.setCell ⟨gc, 4, none⟩ (.slice none 0 0))) : Code.wp Try.prog r35 Q a w := by
  obtain ⟨v0, hv0⟩ : ∃ v, vals[4]? = some v := ⟨_, List.getElem?_eq_getElem hf⟩
  have c4 := hO.cell 4 _ hv0
  have z4 := hO.fz 4
  clear hv0
  have HQ := Aside0.mk hq
  clear hq hO hf
  obtain ⟨x, rfl⟩ := ha.lit
  clear ha
  conv => arg 2; whnf
  go_wp2
  exact HQ.out _ ⟨⟨rfl, rfl, rfl, rfl, rfl, rfl, rfl, rfl⟩, rfl, rfl, rfl, rfl, rfl⟩
set_option maxHeartbeats 16000000 in
set_option maxRecDepth 1000000 in
theorem r36_wp {gr k hn hc pn pc : Nat} {s pp : ByteArray} {H P : Option Addr} (w : World) (gc : Nat) (vals : List Value) (hO : OBJ w gc 52 vals []) (v18 : Value) (hf : 7 < vals.length) (sb : ByteArray) (i : Nat) (Q : Exit → Act → World → Prop) {a : Act} (ha : PG gr k hn hc pn pc s pp H P gc sb i v18 a)
    (hq : ∀ a', PG gr k hn hc pn pc s pp H P gc sb i v18 a' → Q .normal a' (w.setCell ⟨gc, 7, none⟩ (.slice none 0 0))) : Code.wp Try.prog r36 Q a w := by
  obtain ⟨v0, hv0⟩ : ∃ v, vals[7]? = some v := ⟨_, List.getElem?_eq_getElem hf⟩
  have c4 := hO.cell 7 _ hv0
  have z4 := hO.fz 7
  clear hv0
  have HQ := Aside0.mk hq
  clear hq hO hf
  obtain ⟨x, rfl⟩ := ha.lit
  clear ha
  conv => arg 2; whnf
  go_wp2
  exact HQ.out _ ⟨⟨rfl, rfl, rfl, rfl, rfl, rfl, rfl, rfl⟩, rfl, rfl, rfl, rfl, rfl⟩
set_option maxHeartbeats 16000000 in
set_option maxRecDepth 1000000 in
theorem r37_wp {gr k hn hc pn pc : Nat} {s pp : ByteArray} {H P : Option Addr} (w : World) (gc : Nat) (vals : List Value) (hO : OBJ w gc 52 vals []) (v18 : Value) (hf : 5 < vals.length) (sb : ByteArray) (i : Nat) (Q : Exit → Act → World → Prop) {a : Act} (ha : PG gr k hn hc pn pc s pp H P gc sb i v18 a)
    (hq : ∀ a', PG gr k hn hc pn pc s pp H P gc sb i v18 a' → Q .normal a' (w.setCell ⟨gc, 5, none⟩ (.string ByteArray.empty))) : Code.wp Try.prog r37 Q a w := by
  obtain ⟨v0, hv0⟩ : ∃ v, vals[5]? = some v := ⟨_, List.getElem?_eq_getElem hf⟩
  have c4 := hO.cell 5 _ hv0
  have z4 := hO.fz 5
  clear hv0
  have HQ := Aside0.mk hq
  clear hq hO hf
  obtain ⟨x, rfl⟩ := ha.lit
  clear ha
  conv => arg 2; whnf
  go_wp2
  exact HQ.out _ ⟨⟨rfl, rfl, rfl, rfl, rfl, rfl, rfl, rfl⟩, rfl, rfl, rfl, rfl, rfl⟩
set_option maxHeartbeats 16000000 in
set_option maxRecDepth 1000000 in
theorem r38_wp {gr k hn hc pn pc : Nat} {s pp : ByteArray} {H P : Option Addr} (w : World) (gc : Nat) (vals : List Value) (hO : OBJ w gc 52 vals []) (v18 : Value) (hf : 6 < vals.length) (sb : ByteArray) (i : Nat) (Q : Exit → Act → World → Prop) {a : Act} (ha : PG gr k hn hc pn pc s pp H P gc sb i v18 a)
    (hq : ∀ a', PG gr k hn hc pn pc s pp H P gc sb i v18 a' → Q .normal a' (w.setCell ⟨gc, 6, none⟩ (.slice none 0 0))) : Code.wp Try.prog r38 Q a w := by
  obtain ⟨v0, hv0⟩ : ∃ v, vals[6]? = some v := ⟨_, List.getElem?_eq_getElem hf⟩
  have c4 := hO.cell 6 _ hv0
  have z4 := hO.fz 6
  clear hv0
  have HQ := Aside0.mk hq
  clear hq hO hf
  obtain ⟨x, rfl⟩ := ha.lit
  clear ha
  conv => arg 2; whnf
  go_wp2
  exact HQ.out _ ⟨⟨rfl, rfl, rfl, rfl, rfl, rfl, rfl, rfl⟩, rfl, rfl, rfl, rfl, rfl⟩
set_option maxHeartbeats 16000000 in
set_option maxRecDepth 1000000 in
theorem r39_wp {gr k hn hc pn pc : Nat} {s pp : ByteArray} {H P : Option Addr} (w : World) (gc : Nat) (vals : List Value) (hO : OBJ w gc 52 vals []) (v18 : Value) (hf : 8 < vals.length) (sb : ByteArray) (i : Nat) (Q : Exit → Act → World → Prop) {a : Act} (ha : PG gr k hn hc pn pc s pp H P gc sb i v18 a)
    (hq : ∀ a', PG gr k hn hc pn pc s pp H P gc sb i v18 a' → Q .normal a' (w.setCell ⟨gc, 8, none⟩ (.pointer none))) : Code.wp Try.prog r39 Q a w := by
  obtain ⟨v0, hv0⟩ : ∃ v, vals[8]? = some v := ⟨_, List.getElem?_eq_getElem hf⟩
  have c4 := hO.cell 8 _ hv0
  have z4 := hO.fz 8
  clear hv0
  have HQ := Aside0.mk hq
  clear hq hO hf
  obtain ⟨x, rfl⟩ := ha.lit
  clear ha
  conv => arg 2; whnf
  go_wp2
  exact HQ.out _ ⟨⟨rfl, rfl, rfl, rfl, rfl, rfl, rfl, rfl⟩, rfl, rfl, rfl, rfl, rfl⟩
set_option maxHeartbeats 16000000 in
set_option maxRecDepth 1000000 in
theorem r40_wp {gr k hn hc pn pc : Nat} {s pp : ByteArray} {H P : Option Addr} (w : World) (gc : Nat) (vals : List Value) (hO : OBJ w gc 52 vals []) (v18 : Value) (hf : 9 < vals.length) (sb : ByteArray) (i : Nat) (Q : Exit → Act → World → Prop) {a : Act} (ha : PG gr k hn hc pn pc s pp H P gc sb i v18 a)
    (hq : ∀ a', PG gr k hn hc pn pc s pp H P gc sb i v18 a' → Q .normal a' (w.setCell ⟨gc, 9, none⟩ (.pointer none))) : Code.wp Try.prog r40 Q a w := by
  obtain ⟨v0, hv0⟩ : ∃ v, vals[9]? = some v := ⟨_, List.getElem?_eq_getElem hf⟩
  have c4 := hO.cell 9 _ hv0
  have z4 := hO.fz 9
  clear hv0
  have HQ := Aside0.mk hq
  clear hq hO hf
  obtain ⟨x, rfl⟩ := ha.lit
  clear ha
  conv => arg 2; whnf
  go_wp2
  exact HQ.out _ ⟨⟨rfl, rfl, rfl, rfl, rfl, rfl, rfl, rfl⟩, rfl, rfl, rfl, rfl, rfl⟩
set_option maxHeartbeats 16000000 in
set_option maxRecDepth 1000000 in
theorem r41_wp {gr k hn hc pn pc : Nat} {s pp : ByteArray} {H P : Option Addr} (w : World) (gc : Nat) (vals : List Value) (hO : OBJ w gc 52 vals []) (v18 : Value) (hf : 10 < vals.length) (sb : ByteArray) (i : Nat) (Q : Exit → Act → World → Prop) {a : Act} (ha : PG gr k hn hc pn pc s pp H P gc sb i v18 a)
    (hq : ∀ a', PG gr k hn hc pn pc s pp H P gc sb i v18 a' → Q .normal a' (w.setCell ⟨gc, 10, none⟩ (.bool false))) : Code.wp Try.prog r41 Q a w := by
  obtain ⟨v0, hv0⟩ : ∃ v, vals[10]? = some v := ⟨_, List.getElem?_eq_getElem hf⟩
  have c4 := hO.cell 10 _ hv0
  have z4 := hO.fz 10
  clear hv0
  have HQ := Aside0.mk hq
  clear hq hO hf
  obtain ⟨x, rfl⟩ := ha.lit
  clear ha
  conv => arg 2; whnf
  go_wp2
  exact HQ.out _ ⟨⟨rfl, rfl, rfl, rfl, rfl, rfl, rfl, rfl⟩, rfl, rfl, rfl, rfl, rfl⟩
set_option maxHeartbeats 16000000 in
set_option maxRecDepth 1000000 in
theorem r44_wp {gr k hn hc pn pc : Nat} {s pp : ByteArray} {H P : Option Addr} (w : World) (gc : Nat) (vals : List Value) (hO : OBJ w gc 52 vals []) (v18 : Value) (hf : 0 < vals.length) (sb : ByteArray) (i : Nat) (Q : Exit → Act → World → Prop) {a : Act} (ha : PG gr k hn hc pn pc s pp H P gc sb i v18 a)
    (hq : ∀ a', PG gr k hn hc pn pc s pp H P gc sb i v18 a' → Q .normal a' (w.setCell ⟨gc, 0, none⟩ (.int .u8 (k : Int)))) : Code.wp Try.prog r44 Q a w := by
  obtain ⟨v0, hv0⟩ : ∃ v, vals[0]? = some v := ⟨_, List.getElem?_eq_getElem hf⟩
  have c4 := hO.cell 0 _ hv0
  have z4 := hO.fz 0
  clear hv0
  have HQ := Aside0.mk hq
  clear hq hO hf
  obtain ⟨x, rfl⟩ := ha.lit
  clear ha
  conv => arg 2; whnf
  go_wp2
  exact HQ.out _ ⟨⟨rfl, rfl, rfl, rfl, rfl, rfl, rfl, rfl⟩, rfl, rfl, rfl, rfl, rfl⟩
set_option maxHeartbeats 16000000 in
set_option maxRecDepth 1000000 in
theorem r45_wp {gr k hn hc pn pc : Nat} {s pp : ByteArray} {H P : Option Addr} (w : World) (gc : Nat) (vals : List Value) (hO : OBJ w gc 52 vals []) (v18 : Value) (hf : 7 < vals.length) (sb : ByteArray) (i : Nat) (Q : Exit → Act → World → Prop) {a : Act} (ha : PG gr k hn hc pn pc s pp H P gc sb i v18 a)
    (hq : ∀ a', PG gr k hn hc pn pc s pp H P gc sb i v18 a' → Q .normal a' (w.setCell ⟨gc, 7, none⟩ (.slice H hn hc))) : Code.wp Try.prog r45 Q a w := by
  obtain ⟨v0, hv0⟩ : ∃ v, vals[7]? = some v := ⟨_, List.getElem?_eq_getElem hf⟩
  have c4 := hO.cell 7 _ hv0
  have z4 := hO.fz 7
  clear hv0
  have HQ := Aside0.mk hq
  clear hq hO hf
  obtain ⟨x, rfl⟩ := ha.lit
  clear ha
  conv => arg 2; whnf
  go_wp2
  exact HQ.out _ ⟨⟨rfl, rfl, rfl, rfl, rfl, rfl, rfl, rfl⟩, rfl, rfl, rfl, rfl, rfl⟩
set_option maxHeartbeats 16000000 in
set_option maxRecDepth 1000000 in
theorem r46_wp {gr k hn hc pn pc : Nat} {s pp : ByteArray} {H P : Option Addr} (w : World) (gc : Nat) (vals : List Value) (hO : OBJ w gc 52 vals []) (v18 : Value) (hf : 5 < vals.length) (sb : ByteArray) (i : Nat) (Q : Exit → Act → World → Prop) {a : Act} (ha : PG gr k hn hc pn pc s pp H P gc sb i v18 a)
    (hq : ∀ a', PG gr k hn hc pn pc s pp H P gc sb i v18 a' → Q .normal a' (w.setCell ⟨gc, 5, none⟩ (.string pp))) : Code.wp Try.prog r46 Q a w := by
  obtain ⟨v0, hv0⟩ : ∃ v, vals[5]? = some v := ⟨_, List.getElem?_eq_getElem hf⟩
  have c4 := hO.cell 5 _ hv0
  have z4 := hO.fz 5
  clear hv0
  have HQ := Aside0.mk hq
  clear hq hO hf
  obtain ⟨x, rfl⟩ := ha.lit
  clear ha
  conv => arg 2; whnf
  go_wp2
  exact HQ.out _ ⟨⟨rfl, rfl, rfl, rfl, rfl, rfl, rfl, rfl⟩, rfl, rfl, rfl, rfl, rfl⟩
set_option maxHeartbeats 16000000 in
set_option maxRecDepth 1000000 in
theorem r47_wp {gr k hn hc pn pc : Nat} {s pp : ByteArray} {H P : Option Addr} (w : World) (gc : Nat) (vals : List Value) (hO : OBJ w gc 52 vals []) (v18 : Value) (hf : 6 < vals.length) (sb : ByteArray) (i : Nat) (Q : Exit → Act → World → Prop) {a : Act} (ha : PG gr k hn hc pn pc s pp H P gc sb i v18 a)
    (hq : ∀ a', PG gr k hn hc pn pc s pp H P gc sb i v18 a' → Q .normal a' (w.setCell ⟨gc, 6, none⟩ (.slice P pn pc))) : Code.wp Try.prog r47 Q a w := by
  obtain ⟨v0, hv0⟩ : ∃ v, vals[6]? = some v := ⟨_, List.getElem?_eq_getElem hf⟩
  have c4 := hO.cell 6 _ hv0
  have z4 := hO.fz 6
  clear hv0
  have HQ := Aside0.mk hq
  clear hq hO hf
  obtain ⟨x, rfl⟩ := ha.lit
  clear ha
  conv => arg 2; whnf
  go_wp2
  exact HQ.out _ ⟨⟨rfl, rfl, rfl, rfl, rfl, rfl, rfl, rfl⟩, rfl, rfl, rfl, rfl, rfl⟩
end Go.Proofs.Ytekjffooblcmnaa.Q
end
