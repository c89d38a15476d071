/- A row of arguments of which one is being read: its key, its value, the scanner. -/
import Derived.Test.YtipmmjbjgbfgjaaAr2
import Derived.Deep.RegionWith
namespace Go.Proofs.Ytipmmjbjgbfgjaa.Q
open Go.RowKit Go.Proofs.YtipmmjbjgbfgjaaW.PrintWords Go.Proofs.YtipmmjbjgbfgjaaW.PrintLast Go.Proofs.YtipmmjbjgbfgjaaW.PrintMore
open Go.Proofs.Ytipmmjbjgbfgjaa.SpA (toI toI_length toI_append)
set_option linter.unusedVariables false
set_option linter.unusedSimpArgs false
/-- A key's row and a value's row, apart from each other, all above b. -/
def CUR (w : World) (b : Nat) (k v : Value) (key val : List UInt8) : Prop := ∃ D : Nat → Prop, Kd.R (Kd.int .u8) 5 w b (fun j => ¬ D j) k (toI key) ∧ Kd.R (Kd.int .u8) 5 w b D v (toI val)
/-- The text that is still to be read, as a cut of the whole text. -/
def SQ (w : World) (gt : Nat) (L q : List UInt8) (v : Value) : Prop := ∃ p off c, L = p ++ q ∧ v = .slice (some ⟨gt, off, none⟩) q.length c ∧ q.length ≤ c ∧ (q = [] ∨ off = p.length) ∧ BR w gt 5 L
section
variable {w w' : World} {g n b : Nat} {es : List AE} {e : AE}
theorem AB.at_ (h : AB w g (es.set n e)) (hn : n < es.length) : w.cell? ⟨g, n * 3, none⟩ = some e.k ∧ w.cell? ⟨g, n * 3 + 1, none⟩ = some e.v ∧ w.cell? ⟨g, n * 3 + 2, none⟩ = some (.bool e.b) := by
  have hl : n < (es.set n e).length := by simpa using hn
  have h1 := h.cellK n (n * 3) (by omega) hl
  have h2 := h.cellV n (n * 3) (by omega) hl
  have h3 := h.cellB n (n * 3) (by omega) hl
  simp only [List.getElem_set_self] at h1 h2 h3
  exact ⟨h1, h2, h3⟩
theorem AB.putK (h : AB w g (es.set n e)) (hn : n < es.length) (u : Value) : AB (w.setCell ⟨g, n * 3, none⟩ u) g (es.set n ⟨u, e.v, e.b⟩) := by
  have h1 := h.setK n (n * 3) (by omega) (by simpa using hn) u
  simpa only [List.getElem_set_self, List.set_set] using h1
theorem AB.putV (h : AB w g (es.set n e)) (hn : n < es.length) (u : Value) : AB (w.setCell ⟨g, n * 3 + 1, none⟩ u) g (es.set n ⟨e.k, u, e.b⟩) := by
  have h1 := h.setV n (n * 3) (by omega) (by simpa using hn) u
  simpa only [List.getElem_set_self, List.set_set] using h1
theorem AB.putB (h : AB w g (es.set n e)) (hn : n < es.length) (x : Bool) : AB (w.setCell ⟨g, n * 3 + 2, none⟩ (.bool x)) g (es.set n ⟨e.k, e.v, x⟩) := by
  have h1 := h.setB n (n * 3) (by omega) (by simpa using hn) x
  simpa only [List.getElem_set_self, List.set_set] using h1
end
/-- A number's value. -/
def natV : Value → Nat
  | .int _ x => x.toNat
  | _ => 0
/-- What holds while an argument is read. -/
structure NY (w0 wr : World) (g gs gt n b : Nat) (es : List AE) (L : List UInt8) (sv k v : Value) (bb : Bool) (key val : List UInt8) : Prop where
  ab : AB wr g (es.set n ⟨k, v, bb⟩)
  cur : CUR wr b k v key val
  ob : OB wr gs 99 sv
  br : BR wr gt 5 L
  on : OnlS (fun j => j = g ∨ j = gs ∨ b ≤ j) w0 wr
/-- The blocks of rows of bytes that a call may turn. -/
def P5 (w : World) (b : Nat) (D : Nat → Prop) (j : Nat) : Prop := D j ∧ b ≤ j ∧ ∃ cells, w.heap[j]? = some (.cells cells 5 (0, 0))
section
variable {w w1 : World} {b : Nat} {D X : Nat → Prop} {k v k' v' : Value} {key val : List UInt8}
theorem R_P5 {xs : List Int} (h : Kd.R (Kd.int .u8) 5 w b D v xs) : Kd.R (Kd.int .u8) 5 w b (P5 w b D) v xs := Kd.R_mono (Kd.R_bound h) fun j hj => by
  obtain ⟨h1, h2, h3, q, hq, hc⟩ := hj
  have hq5 : q = 5 := by simpa [Kd.E, Kd.int, Kd.scalar] using hq
  subst hq5
  exact ⟨h1, h2, hc⟩
theorem AB.on5 {g : Nat} {es : List AE} (h : AB w g es) (ho : OnlS (P5 w b X) w w1) : AB w1 g es := h.move (ho.block g h.lt (fun hp => by obtain ⟨C, hC, _⟩ := h; obtain ⟨_, _, C', hC'⟩ := hp; rw [hC] at hC'; cases hC'))
theorem OB.on5 {g : Nat} {u : Value} (h : OB w g 99 u) (ho : OnlS (P5 w b X) w w1) : OB w1 g 99 u := h.move (ho.block g h.lt (fun hp => by obtain ⟨_, _, C', hC'⟩ := hp; unfold OB at h; rw [h] at hC'; cases hC'))
theorem BR.on5 {g : Nat} {l : List UInt8} (h : BR w g 5 l) (hg : g < b) (ho : OnlS (P5 w b X) w w1) : BR w1 g 5 l := h.heap (ho.block g h.lt (fun hp => by have := hp.2.1; omega))
theorem cur_of_key (hv : Kd.R (Kd.int .u8) 5 w b D v (toI val)) (ho : OnlS (P5 w b (fun j => ¬ D j)) w w1) (hk : Kd.R (Kd.int .u8) 5 w1 b (fun j => P5 w b (fun j => ¬ D j) j ∨ w.heap.size ≤ j) k' (toI key)) : CUR w1 b k' v key val := by
  refine ⟨fun j => D j ∧ j < w.heap.size, Kd.R_mono hk fun j hj hd => ?_, ?_⟩
  · rcases hj with hj | hj
    · exact hj.1 hd.1
    · omega
  · exact Kd.R_step (Kd.R_mono (Kd.R_bound hv) fun j hj => ⟨hj.1, hj.2.2.1⟩) fun j hj hl => ho.block j hl fun hp => hp.1 hj.1
theorem cur_of_val (hk : Kd.R (Kd.int .u8) 5 w b (fun j => ¬ D j) k (toI key)) (ho : OnlS (P5 w b D) w w1) (hv : Kd.R (Kd.int .u8) 5 w1 b (fun j => P5 w b D j ∨ w.heap.size ≤ j) v' (toI val)) : CUR w1 b k v' key val := by
  refine ⟨fun j => D j ∨ w.heap.size ≤ j, ?_, Kd.R_mono hv fun j hj => hj.imp (fun h => h.1) id⟩
  exact Kd.R_mono (Kd.R_step (Kd.R_mono (Kd.R_bound hk) fun j hj => (⟨hj.1, hj.2.2.1⟩ : ¬ D j ∧ j < w.heap.size)) fun j hj hl => ho.block j hl fun hp => hj.1 hp.1) fun j hj h2 => h2.elim hj.1 (fun h3 => by have := hj.2; omega)
theorem CUR.setA {g : Nat} {es : List AE} (h : CUR w b k v key val) (ha : AB w g es) (j : Nat) (u : Value) : CUR (w.setCell ⟨g, j, none⟩ u) b k v key val := by
  obtain ⟨D, h1, h2⟩ := h
  obtain ⟨C, hC, _⟩ := ha
  exact ⟨D, Kd.R_set h1 hC (by decide) _ _, Kd.R_set h2 hC (by decide) _ _⟩
theorem CUR.setO {g : Nat} {s : Value} (h : CUR w b k v key val) (ha : OB w g 99 s) (j : Nat) (u : Value) : CUR (w.setCell ⟨g, j, none⟩ u) b k v key val := by
  obtain ⟨D, h1, h2⟩ := h
  exact ⟨D, Kd.R_set h1 ha (by decide) _ _, Kd.R_set h2 ha (by decide) _ _⟩
theorem AB.ne_OB {g gs : Nat} {es : List AE} {s : Value} (h : AB w g es) (ho : OB w gs 99 s) : gs ≠ g := fun e => by subst e; obtain ⟨C, hC, _⟩ := h; unfold OB at ho; rw [hC] at ho; cases ho
theorem AB.ne_BR {g gt : Nat} {es : List AE} {l : List UInt8} (h : AB w g es) (ho : BR w gt 5 l) : gt ≠ g := fun e => by subst e; obtain ⟨C, hC, _⟩ := h; obtain ⟨C', _, _, hC', _⟩ := ho.out; rw [hC] at hC'; cases hC'
theorem OB.ne_BR {g gt : Nat} {s : Value} {l : List UInt8} (h : OB w g 99 s) (ho : BR w gt 5 l) : gt ≠ g := fun e => by subst e; obtain ⟨C', _, _, hC', _⟩ := ho.out; unfold OB at h; rw [h] at hC'; cases hC'
end
theorem BR.mid {w : World} {g : Nat} {e : TypeId} {L a r : List UInt8} {x : UInt8} (h : BR w g e L) (hL : L = a ++ x :: r) (o : Nat) (ho : o = a.length) : w.cell? ⟨g, o, none⟩ = some (.int .u8 (x.toNat : Int)) := by
  subst hL ho
  have := h.cell a.length (by simp)
  rw [this, List.getElem_append_right (Nat.le_refl _)]
  simp
section
variable {w0 wr : World} {g gs gt n b : Nat} {es : List AE} {L q : List UInt8} {sv k v : Value} {bb : Bool} {key val : List UInt8}
theorem NY.storeK (h : NY w0 wr g gs gt n b es L sv k v bb key val) (hn : n < es.length) (hgt : gt < b) {D : Nat → Prop} (hv : Kd.R (Kd.int .u8) 5 wr b D v (toI val)) {w1 : World} (ho : OnlS (P5 wr b (fun j => ¬ D j)) wr w1) {k' : Value} {key' : List UInt8} (hR : Kd.R (Kd.int .u8) 5 w1 b (fun j => P5 wr b (fun j => ¬ D j) j ∨ wr.heap.size ≤ j) k' (toI key')) :
    NY w0 (w1.setCell ⟨g, n * 3, none⟩ k') g gs gt n b es L sv k' v bb key' val := by
  have ha := h.ab.on5 ho
  have hob := h.ob.on5 ho
  have hbr := h.br.on5 hgt ho
  exact ⟨ha.putK hn k', (cur_of_key hv ho hR).setA ha _ _, hob.move (Below.heap_setCell _ _ _ _ (ha.ne_OB hob)), hbr.heap (Below.heap_setCell _ _ _ _ (ha.ne_BR hbr)),
    OnlS.set (S := fun j => j = g ∨ j = gs ∨ b ≤ j) (h.on.trans' ho fun j _ hp => .inr (.inr hp.2.1)) (.inl (.inl rfl)) _ _⟩
theorem NY.storeV (h : NY w0 wr g gs gt n b es L sv k v bb key val) (hn : n < es.length) (hgt : gt < b) {D : Nat → Prop} (hk : Kd.R (Kd.int .u8) 5 wr b (fun j => ¬ D j) k (toI key)) {w1 : World} (ho : OnlS (P5 wr b D) wr w1) {v' : Value} {val' : List UInt8} (hR : Kd.R (Kd.int .u8) 5 w1 b (fun j => P5 wr b D j ∨ wr.heap.size ≤ j) v' (toI val')) :
    NY w0 (w1.setCell ⟨g, n * 3 + 1, none⟩ v') g gs gt n b es L sv k v' bb key val' := by
  have ha := h.ab.on5 ho
  have hob := h.ob.on5 ho
  have hbr := h.br.on5 hgt ho
  exact ⟨ha.putV hn v', (cur_of_val hk ho hR).setA ha _ _, hob.move (Below.heap_setCell _ _ _ _ (ha.ne_OB hob)), hbr.heap (Below.heap_setCell _ _ _ _ (ha.ne_BR hbr)),
    OnlS.set (S := fun j => j = g ∨ j = gs ∨ b ≤ j) (h.on.trans' ho fun j _ hp => .inr (.inr hp.2.1)) (.inl (.inl rfl)) _ _⟩
theorem NY.sameV (h : NY w0 wr g gs gt n b es L sv k v bb key val) (hn : n < es.length) : NY w0 (wr.setCell ⟨g, n * 3 + 1, none⟩ v) g gs gt n b es L sv k v bb key val :=
  ⟨h.ab.putV hn v, h.cur.setA h.ab _ _, h.ob.move (Below.heap_setCell _ _ _ _ (h.ab.ne_OB h.ob)), h.br.heap (Below.heap_setCell _ _ _ _ (h.ab.ne_BR h.br)), OnlS.set (S := fun j => j = g ∨ j = gs ∨ b ≤ j) h.on (.inl (.inl rfl)) _ _⟩
theorem NY.setB (h : NY w0 wr g gs gt n b es L sv k v bb key val) (hn : n < es.length) (x : Bool) : NY w0 (wr.setCell ⟨g, n * 3 + 2, none⟩ (.bool x)) g gs gt n b es L sv k v x key val :=
  ⟨h.ab.putB hn x, h.cur.setA h.ab _ _, h.ob.move (Below.heap_setCell _ _ _ _ (h.ab.ne_OB h.ob)), h.br.heap (Below.heap_setCell _ _ _ _ (h.ab.ne_BR h.br)), OnlS.set (S := fun j => j = g ∨ j = gs ∨ b ≤ j) h.on (.inl (.inl rfl)) _ _⟩
theorem NY.setS (h : NY w0 wr g gs gt n b es L sv k v bb key val) (x : Value) : NY w0 (wr.setCell ⟨gs, 0, none⟩ x) g gs gt n b es L x k v bb key val :=
  ⟨h.ab.move (Below.heap_setCell _ _ _ _ (fun e => h.ab.ne_OB h.ob e.symm)), h.cur.setO h.ob _ _, h.ob.set x, h.br.heap (Below.heap_setCell _ _ _ _ (h.ob.ne_BR h.br)), OnlS.set (S := fun j => j = g ∨ j = gs ∨ b ≤ j) h.on (.inl (.inr (.inl rfl))) _ _⟩
theorem NY.drewN (h : NY w0 wr g gs gt n b es L sv k v bb key val) (m : Nat) : NY w0 (wr.drewN m) g gs gt n b es L sv k v bb key val :=
  ⟨h.ab.heap rfl, by obtain ⟨D, h1, h2⟩ := h.cur; exact ⟨D, Kd.R_drewN h1 m, Kd.R_drewN h2 m⟩, h.ob, h.br.heap rfl, h.on.drewN m⟩
theorem NY.drew (h : NY w0 wr g gs gt n b es L sv k v bb key val) : NY w0 wr.drew g gs gt n b es L sv k v bb key val :=
  ⟨h.ab.heap rfl, by obtain ⟨D, h1, h2⟩ := h.cur; exact ⟨D, Kd.R_drew h1, Kd.R_drew h2⟩, h.ob, h.br.heap rfl, h.on.drew⟩
end
/-- A cut's rest. -/
theorem cutRest {P : Program} {t e : TypeId} {i : TypeInfo} (ht : P.underlying t = some (.slice e)) (hi : P.info? e = some i) (hsz : i.size = 1) (gt off n c j m : Nat) (x : Int) (hx : x = (j : Int)) (hj : j ≤ n) (hm : m = n - j) :
    ∃ off', (∀ W : World, (Instr.slice t (.slice (some ⟨gt, off, none⟩) n c) (some (.int .i64 x)) none none).run P W = .ok (.slice (some ⟨gt, off', none⟩) m (c - j)) W) ∧ (off' = off + j ∨ (off' = off ∧ c = j)) := by
  subst hm
  by_cases hc : c = j
  · refine ⟨off, fun W => ?_, .inr ⟨rfl, hc⟩⟩
    have h := cut_from (P := P) t e .i64 ht hi 1 hsz (some ⟨gt, off, none⟩) n c x (by omega) (by omega) W
    rwa [show x.toNat = j by omega, if_pos hc] at h
  · refine ⟨off + j, fun W => ?_, .inl rfl⟩
    have h := cut_from (P := P) t e .i64 ht hi 1 hsz (some ⟨gt, off, none⟩) n c x (by omega) (by omega) W
    rwa [show x.toNat = j by omega, if_neg hc, Nat.mul_one, Option.map_some, addr_add'] at h
/-- A cut's middle. -/
theorem cutMid {P : Program} {t e : TypeId} {i : TypeInfo} (ht : P.underlying t = some (.slice e)) (hi : P.info? e = some i) (hsz : i.size = 1) (gt off n c lo hh off' m : Nat) (x y : Int) (hx : x = (lo : Int)) (hy : y = (hh : Int)) (h1 : lo ≤ hh) (h2 : hh ≤ n) (h3 : n ≤ c) (h4 : lo < c) (ho : off' = off + lo) (hm : m = hh - lo) :
    ∀ W : World, (Instr.slice t (.slice (some ⟨gt, off, none⟩) n c) (some (.int .i64 x)) (some (.int .i64 y)) none).run P W = .ok (.slice (some ⟨gt, off', none⟩) m (c - lo)) W := by
  intro W
  have h := cut_mid (P := P) t e .i64 .i64 ht hi 1 hsz (some ⟨gt, off, none⟩) n c x y (by omega) (by omega) (by omega) h3 W
  rwa [show x.toNat = lo by omega, show y.toNat = hh by omega, if_neg (by omega), Nat.mul_one, Option.map_some, addr_add', ← ho, ← hm] at h
theorem while_of {c : UInt8} {a : List UInt8} (h : c ∉ a) (b : List UInt8) : (a ++ c :: b).takeWhile (· != c) = a ∧ (a ++ c :: b).dropWhile (· != c) = c :: b := by
  have hp : ∀ x ∈ a, (x != c) = true := fun x hx => bne_iff_ne.2 (fun e => h (by rw [← e]; exact hx))
  rw [List.takeWhile_append_of_pos hp, List.dropWhile_append_of_pos hp]
  simp
theorem while_all {c : UInt8} {a : List UInt8} (h : c ∉ a) : a.takeWhile (· != c) = a ∧ a.dropWhile (· != c) = [] := by
  have hp : ∀ x ∈ a, (x != c) = true := fun x hx => bne_iff_ne.2 (fun e => h (by rw [← e]; exact hx))
  have h1 := List.takeWhile_append_of_pos (l₂ := []) hp
  have h2 := List.dropWhile_append_of_pos (l₂ := []) hp
  rw [List.append_nil] at h1 h2
  exact ⟨by rw [h1]; simp, by rw [h2]; rfl⟩
theorem split_in {q qa qb p1 r1 : List UInt8} {x y : UInt8} (h1 : q = qa ++ x :: qb) (h2 : q = p1 ++ y :: r1) (hl : p1.length < qa.length) : ∃ r2, qa = p1 ++ y :: r2 ∧ r1 = r2 ++ x :: qb := by
  have h := h1.symm.trans h2
  rcases List.append_eq_append_iff.1 h with ⟨a, ha, hb⟩ | ⟨a, ha, hb⟩
  · have : p1.length = qa.length + a.length := by rw [ha]; simp
    omega
  · cases a with
    | nil => rw [ha] at hl; simp at hl
    | cons z t =>
      have e := List.cons.inj hb
      refine ⟨t, by rw [ha, e.1], e.2⟩
def SQS (gt : Nat) (L q : List UInt8) (v : Value) : Prop := ∃ p off c, L = p ++ q ∧ v = .slice (some ⟨gt, off, none⟩) q.length c ∧ q.length ≤ c ∧ (q = [] ∨ off = p.length)
end Go.Proofs.Ytipmmjbjgbfgjaa.Q
