/- The next argument of a query: argsScanner.next. -/
import Derived.Test.YtjklempjljikpaaAr2
import Derived.Deep.RegionWith
namespace Go.Proofs.Ytjklempjljikpaa.Q
open Go.RowKit Go.Proofs.YtjklempjljikpaaW.PrintWords Go.Proofs.YtjklempjljikpaaW.PrintLast Go.Proofs.YtjklempjljikpaaW.PrintMore
open Go.Proofs.Ytjklempjljikpaa.SpA (toI toI_length toI_append decP)
set_option linter.unusedVariables false
set_option linter.unusedSimpArgs false
/-- A key's row and a value's row, apart from each other, all above b. -/
def CUR (w : World) (b : Nat) (k v : Value) (key val : List UInt8) : Prop := ∃ D : Nat → Prop, Kd.R (Kd.int .u8) 5 w b (fun j => ¬ D j) k (toI key) ∧ Kd.R (Kd.int .u8) 5 w b D v (toI val)
/-- The text that is still to be read, as a cut of the whole text. -/
def SQ (w : World) (gt : Nat) (L q : List UInt8) (v : Value) : Prop := ∃ p off c, L = p ++ q ∧ v = .slice (some ⟨gt, off, none⟩) q.length c ∧ q.length ≤ c ∧ (q = [] ∨ off = p.length) ∧ BR w gt 5 L
section
variable {w w' : World} {g n b : Nat} {es : List AE} {e : AE}
theorem AB.at_ (h : AB w g (es.set n e)) (hn : n < es.length) : w.cell? ⟨g, n * 3, none⟩ = some e.k ∧ w.cell? ⟨g, n * 3 + 1, none⟩ = some e.v ∧ w.cell? ⟨g, n * 3 + 2, none⟩ = some (.bool e.b) := by
  have hl : n < (es.set n e).length := by simpa using hn
  have h1 := h.cellK n (n * 3) (by omega) hl
  have h2 := h.cellV n (n * 3) (by omega) hl
  have h3 := h.cellB n (n * 3) (by omega) hl
  simp only [List.getElem_set_self] at h1 h2 h3
  exact ⟨h1, h2, h3⟩
theorem AB.putK (h : AB w g (es.set n e)) (hn : n < es.length) (u : Value) : AB (w.setCell ⟨g, n * 3, none⟩ u) g (es.set n ⟨u, e.v, e.b⟩) := by
  have h1 := h.setK n (n * 3) (by omega) (by simpa using hn) u
  simpa only [List.getElem_set_self, List.set_set] using h1
theorem AB.putV (h : AB w g (es.set n e)) (hn : n < es.length) (u : Value) : AB (w.setCell ⟨g, n * 3 + 1, none⟩ u) g (es.set n ⟨e.k, u, e.b⟩) := by
  have h1 := h.setV n (n * 3) (by omega) (by simpa using hn) u
  simpa only [List.getElem_set_self, List.set_set] using h1
theorem AB.putB (h : AB w g (es.set n e)) (hn : n < es.length) (x : Bool) : AB (w.setCell ⟨g, n * 3 + 2, none⟩ (.bool x)) g (es.set n ⟨e.k, e.v, x⟩) := by
  have h1 := h.setB n (n * 3) (by omega) (by simpa using hn) x
  simpa only [List.getElem_set_self, List.set_set] using h1
end
/-- A number's value. -/
def natV : Value → Nat
  | .int _ x => x.toNat
  | _ => 0
/-- What holds while an argument is read. -/
structure NY (w0 wr : World) (g gs gt n b : Nat) (es : List AE) (L : List UInt8) (sv k v : Value) (bb : Bool) (key val : List UInt8) : Prop where
  ab : AB wr g (es.set n ⟨k, v, bb⟩)
  cur : CUR wr b k v key val
  ob : OB wr gs 66 sv
  br : BR wr gt 5 L
  on : OnlS (fun j => j = g ∨ j = gs ∨ b ≤ j) w0 wr
/-- Where the reading of an argument stands. -/
structure NX (w0 wr : World) (g gs gt n b : Nat) (es : List AE) (L q : List UInt8) (sv : Value) (i : Nat) (ik : Bool) (kk : Nat) (k v : Value) (key : List UInt8) : Prop where
  ny : NY w0 wr g gs gt n b es L sv k v false key []
  hi : i ≤ q.length
  no : (38 : UInt8) ∉ q.take i
  st : (ik = true ∧ key = [] ∧ kk = 0 ∧ (61 : UInt8) ∉ q.take i) ∨ (ik = false ∧ ∃ p1 r1, q = p1 ++ 61 :: r1 ∧ (61 : UInt8) ∉ p1 ∧ p1.length < i ∧ kk = p1.length + 1 ∧ key = decP p1)
theorem NX.step {w0 wr : World} {g gs gt n b : Nat} {es : List AE} {L q : List UInt8} {sv : Value} {i : Nat} {ik : Bool} {kk : Nat} {k v : Value} {key : List UInt8} (h : NX w0 wr g gs gt n b es L q sv i ik kk k v key) (hi : i < q.length) (h38 : q[i] ≠ 38) (h61 : ik = true → q[i] ≠ 61) : NX w0 wr g gs gt n b es L q sv (i + 1) ik kk k v key := by
  have hno : ∀ c : UInt8, c ∉ q.take i → q[i] ≠ c → c ∉ q.take (i + 1) := fun c h1 h2 => by
    rw [List.take_add_one, List.getElem?_eq_getElem hi]
    simp only [Option.toList_some, List.mem_append, List.mem_singleton, not_or]
    exact ⟨h1, fun e => h2 e.symm⟩
  refine ⟨h.ny, hi, hno 38 h.no h38, ?_⟩
  rcases h.st with ⟨e1, e2, e3, e4⟩ | ⟨e1, p1, r1, e2, e3, e4, e5⟩
  · exact .inl ⟨e1, e2, e3, hno 61 e4 (h61 e1)⟩
  · exact .inr ⟨e1, p1, r1, e2, e3, by omega, e5⟩
/-- The blocks of rows of bytes that a call may turn. -/
def P5 (w : World) (b : Nat) (D : Nat → Prop) (j : Nat) : Prop := D j ∧ b ≤ j ∧ ∃ cells, w.heap[j]? = some (.cells cells 5 (0, 0))
section
variable {w w1 : World} {b : Nat} {D X : Nat → Prop} {k v k' v' : Value} {key val : List UInt8}
theorem R_P5 {xs : List Int} (h : Kd.R (Kd.int .u8) 5 w b D v xs) : Kd.R (Kd.int .u8) 5 w b (P5 w b D) v xs := Kd.R_mono (Kd.R_bound h) fun j hj => by
  obtain ⟨h1, h2, h3, q, hq, hc⟩ := hj
  have hq5 : q = 5 := by simpa [Kd.E, Kd.int, Kd.scalar] using hq
  subst hq5
  exact ⟨h1, h2, hc⟩
theorem AB.on5 {g : Nat} {es : List AE} (h : AB w g es) (ho : OnlS (P5 w b X) w w1) : AB w1 g es := h.move (ho.block g h.lt (fun hp => by obtain ⟨C, hC, _⟩ := h; obtain ⟨_, _, C', hC'⟩ := hp; rw [hC] at hC'; cases hC'))
theorem OB.on5 {g : Nat} {u : Value} (h : OB w g 66 u) (ho : OnlS (P5 w b X) w w1) : OB w1 g 66 u := h.move (ho.block g h.lt (fun hp => by obtain ⟨_, _, C', hC'⟩ := hp; unfold OB at h; rw [h] at hC'; cases hC'))
theorem BR.on5 {g : Nat} {l : List UInt8} (h : BR w g 5 l) (hg : g < b) (ho : OnlS (P5 w b X) w w1) : BR w1 g 5 l := h.heap (ho.block g h.lt (fun hp => by have := hp.2.1; omega))
theorem cur_of_key (hv : Kd.R (Kd.int .u8) 5 w b D v (toI val)) (ho : OnlS (P5 w b (fun j => ¬ D j)) w w1) (hk : Kd.R (Kd.int .u8) 5 w1 b (fun j => P5 w b (fun j => ¬ D j) j ∨ w.heap.size ≤ j) k' (toI key)) : CUR w1 b k' v key val := by
  refine ⟨fun j => D j ∧ j < w.heap.size, Kd.R_mono hk fun j hj hd => ?_, ?_⟩
  · rcases hj with hj | hj
    · exact hj.1 hd.1
    · omega
  · exact Kd.R_step (Kd.R_mono (Kd.R_bound hv) fun j hj => ⟨hj.1, hj.2.2.1⟩) fun j hj hl => ho.block j hl fun hp => hp.1 hj.1
theorem cur_of_val (hk : Kd.R (Kd.int .u8) 5 w b (fun j => ¬ D j) k (toI key)) (ho : OnlS (P5 w b D) w w1) (hv : Kd.R (Kd.int .u8) 5 w1 b (fun j => P5 w b D j ∨ w.heap.size ≤ j) v' (toI val)) : CUR w1 b k v' key val := by
  refine ⟨fun j => D j ∨ w.heap.size ≤ j, ?_, Kd.R_mono hv fun j hj => hj.imp (fun h => h.1) id⟩
  exact Kd.R_mono (Kd.R_step (Kd.R_mono (Kd.R_bound hk) fun j hj => (⟨hj.1, hj.2.2.1⟩ : ¬ D j ∧ j < w.heap.size)) fun j hj hl => ho.block j hl fun hp => hj.1 hp.1) fun j hj h2 => h2.elim hj.1 (fun h3 => by have := hj.2; omega)
theorem CUR.setA {g : Nat} {es : List AE} (h : CUR w b k v key val) (ha : AB w g es) (j : Nat) (u : Value) : CUR (w.setCell ⟨g, j, none⟩ u) b k v key val := by
  obtain ⟨D, h1, h2⟩ := h
  obtain ⟨C, hC, _⟩ := ha
  exact ⟨D, Kd.R_set h1 hC (by decide) _ _, Kd.R_set h2 hC (by decide) _ _⟩
theorem CUR.setO {g : Nat} {s : Value} (h : CUR w b k v key val) (ha : OB w g 66 s) (j : Nat) (u : Value) : CUR (w.setCell ⟨g, j, none⟩ u) b k v key val := by
  obtain ⟨D, h1, h2⟩ := h
  exact ⟨D, Kd.R_set h1 ha (by decide) _ _, Kd.R_set h2 ha (by decide) _ _⟩
theorem AB.ne_OB {g gs : Nat} {es : List AE} {s : Value} (h : AB w g es) (ho : OB w gs 66 s) : gs ≠ g := fun e => by subst e; obtain ⟨C, hC, _⟩ := h; unfold OB at ho; rw [hC] at ho; cases ho
theorem AB.ne_BR {g gt : Nat} {es : List AE} {l : List UInt8} (h : AB w g es) (ho : BR w gt 5 l) : gt ≠ g := fun e => by subst e; obtain ⟨C, hC, _⟩ := h; obtain ⟨C', _, _, hC', _⟩ := ho.out; rw [hC] at hC'; cases hC'
theorem OB.ne_BR {g gt : Nat} {s : Value} {l : List UInt8} (h : OB w g 66 s) (ho : BR w gt 5 l) : gt ≠ g := fun e => by subst e; obtain ⟨C', _, _, hC', _⟩ := ho.out; unfold OB at h; rw [h] at hC'; cases hC'
end
theorem dec_at (wr W : World) (hW : W.heap = wr.heap ∧ W.os = wr.os ∧ W.tape = wr.tape ∧ W.output = wr.output) (b : Nat) (hb : b ≤ wr.heap.size) (X : Nat → Prop) (v : Value) (hR : Kd.R (Kd.int .u8) 5 wr b (P5 wr b X) v (toI [])) (gt : Nat) (hgt : gt < b) (pa qa ra : List UInt8) (hbr : BR wr gt 5 (pa ++ qa ++ ra)) (hlen : (pa ++ qa ++ ra).length ≤ 2147483647) (o : Nat) (ho : o = pa.length) (c : Nat) (hc : qa.length ≤ c) :
    Calls Try.prog 67 #[v, .slice (some ⟨gt, o, none⟩) qa.length c] W fun e w' => ∃ v', e = .returned v' ∧ Kd.R (Kd.int .u8) 5 w' b (fun j => P5 wr b X j ∨ wr.heap.size ≤ j) v' (toI (decP qa)) ∧ OnlS (P5 wr b X) wr w' := by
  obtain ⟨h1, h2, h3, h4⟩ := hW
  subst ho
  have hl : (pa ++ qa).length ≤ 4611686018427387904 := by simp only [List.length_append] at hlen ⊢; omega
  refine (dec_calls W b (by rw [h1]; exact hb) (P5 wr b X) v (Kd.R_move hR fun k _ => by rw [h1]) (some ⟨gt, pa.length, none⟩) c qa (by simp only [List.length_append] at hlen; omega) hc fun W' hk => ?_).mono ?_
  · refine BR.C (BR.pre (q := ra) (hbr.heap ?_)) hl
    rw [hk.2 gt (by rw [h1]; exact hbr.lt) (fun hp => by have := hp.2.1; omega), h1]
  · rintro e w' ⟨v', rfl, hr, ho⟩
    rw [h1] at hr
    exact ⟨v', rfl, hr, ho.os.trans h2, ho.tape.trans h3, ho.output.trans h4, by have := ho.size; rwa [h1] at this, fun k hk hn => by have := ho.block k (by rw [h1]; exact hk) hn; rwa [h1] at this⟩
theorem BR.mid {w : World} {g : Nat} {e : TypeId} {L a r : List UInt8} {x : UInt8} (h : BR w g e L) (hL : L = a ++ x :: r) (o : Nat) (ho : o = a.length) : w.cell? ⟨g, o, none⟩ = some (.int .u8 (x.toNat : Int)) := by
  subst hL ho
  have := h.cell a.length (by simp)
  rw [this, List.getElem_append_right (Nat.le_refl _)]
  simp
section
variable {w0 wr : World} {g gs gt n b : Nat} {es : List AE} {L q : List UInt8} {sv k v : Value} {bb : Bool} {key val : List UInt8}
theorem NY.storeK (h : NY w0 wr g gs gt n b es L sv k v bb key val) (hn : n < es.length) (hgt : gt < b) {D : Nat → Prop} (hv : Kd.R (Kd.int .u8) 5 wr b D v (toI val)) {w1 : World} (ho : OnlS (P5 wr b (fun j => ¬ D j)) wr w1) {k' : Value} {key' : List UInt8} (hR : Kd.R (Kd.int .u8) 5 w1 b (fun j => P5 wr b (fun j => ¬ D j) j ∨ wr.heap.size ≤ j) k' (toI key')) :
    NY w0 (w1.setCell ⟨g, n * 3, none⟩ k') g gs gt n b es L sv k' v bb key' val := by
  have ha := h.ab.on5 ho
  have hob := h.ob.on5 ho
  have hbr := h.br.on5 hgt ho
  exact ⟨ha.putK hn k', (cur_of_key hv ho hR).setA ha _ _, hob.move (Below.heap_setCell _ _ _ _ (ha.ne_OB hob)), hbr.heap (Below.heap_setCell _ _ _ _ (ha.ne_BR hbr)),
    OnlS.set (S := fun j => j = g ∨ j = gs ∨ b ≤ j) (h.on.trans' ho fun j _ hp => .inr (.inr hp.2.1)) (.inl (.inl rfl)) _ _⟩
theorem NY.storeV (h : NY w0 wr g gs gt n b es L sv k v bb key val) (hn : n < es.length) (hgt : gt < b) {D : Nat → Prop} (hk : Kd.R (Kd.int .u8) 5 wr b (fun j => ¬ D j) k (toI key)) {w1 : World} (ho : OnlS (P5 wr b D) wr w1) {v' : Value} {val' : List UInt8} (hR : Kd.R (Kd.int .u8) 5 w1 b (fun j => P5 wr b D j ∨ wr.heap.size ≤ j) v' (toI val')) :
    NY w0 (w1.setCell ⟨g, n * 3 + 1, none⟩ v') g gs gt n b es L sv k v' bb key val' := by
  have ha := h.ab.on5 ho
  have hob := h.ob.on5 ho
  have hbr := h.br.on5 hgt ho
  exact ⟨ha.putV hn v', (cur_of_val hk ho hR).setA ha _ _, hob.move (Below.heap_setCell _ _ _ _ (ha.ne_OB hob)), hbr.heap (Below.heap_setCell _ _ _ _ (ha.ne_BR hbr)),
    OnlS.set (S := fun j => j = g ∨ j = gs ∨ b ≤ j) (h.on.trans' ho fun j _ hp => .inr (.inr hp.2.1)) (.inl (.inl rfl)) _ _⟩
theorem NY.sameV (h : NY w0 wr g gs gt n b es L sv k v bb key val) (hn : n < es.length) : NY w0 (wr.setCell ⟨g, n * 3 + 1, none⟩ v) g gs gt n b es L sv k v bb key val :=
  ⟨h.ab.putV hn v, h.cur.setA h.ab _ _, h.ob.move (Below.heap_setCell _ _ _ _ (h.ab.ne_OB h.ob)), h.br.heap (Below.heap_setCell _ _ _ _ (h.ab.ne_BR h.br)), OnlS.set (S := fun j => j = g ∨ j = gs ∨ b ≤ j) h.on (.inl (.inl rfl)) _ _⟩
theorem NY.setB (h : NY w0 wr g gs gt n b es L sv k v bb key val) (hn : n < es.length) (x : Bool) : NY w0 (wr.setCell ⟨g, n * 3 + 2, none⟩ (.bool x)) g gs gt n b es L sv k v x key val :=
  ⟨h.ab.putB hn x, h.cur.setA h.ab _ _, h.ob.move (Below.heap_setCell _ _ _ _ (h.ab.ne_OB h.ob)), h.br.heap (Below.heap_setCell _ _ _ _ (h.ab.ne_BR h.br)), OnlS.set (S := fun j => j = g ∨ j = gs ∨ b ≤ j) h.on (.inl (.inl rfl)) _ _⟩
theorem NY.setS (h : NY w0 wr g gs gt n b es L sv k v bb key val) (x : Value) : NY w0 (wr.setCell ⟨gs, 0, none⟩ x) g gs gt n b es L x k v bb key val :=
  ⟨h.ab.move (Below.heap_setCell _ _ _ _ (fun e => h.ab.ne_OB h.ob e.symm)), h.cur.setO h.ob _ _, h.ob.set x, h.br.heap (Below.heap_setCell _ _ _ _ (h.ob.ne_BR h.br)), OnlS.set (S := fun j => j = g ∨ j = gs ∨ b ≤ j) h.on (.inl (.inr (.inl rfl))) _ _⟩
theorem NY.drewN (h : NY w0 wr g gs gt n b es L sv k v bb key val) (m : Nat) : NY w0 (wr.drewN m) g gs gt n b es L sv k v bb key val :=
  ⟨h.ab.heap rfl, by obtain ⟨D, h1, h2⟩ := h.cur; exact ⟨D, Kd.R_drewN h1 m, Kd.R_drewN h2 m⟩, h.ob, h.br.heap rfl, h.on.drewN m⟩
theorem NY.drew (h : NY w0 wr g gs gt n b es L sv k v bb key val) : NY w0 wr.drew g gs gt n b es L sv k v bb key val :=
  ⟨h.ab.heap rfl, by obtain ⟨D, h1, h2⟩ := h.cur; exact ⟨D, Kd.R_drew h1, Kd.R_drew h2⟩, h.ob, h.br.heap rfl, h.on.drew⟩
theorem NX.goK {kk : Nat} {qa qb : List UInt8} (h : NX w0 wr g gs gt n b es L q sv qa.length true kk k v key) (hq : q = qa ++ 61 :: qb) {w1 : World} {k' : Value} (hny : NY w0 w1 g gs gt n b es L sv k' v false (decP qa) []) :
    NX w0 w1 g gs gt n b es L q sv (qa.length + 1) false (qa.length + 1) k' v (decP qa) := by
  have h61 : (61 : UInt8) ∉ qa := by
    rcases h.st with ⟨_, _, _, h4⟩ | ⟨e1, _⟩
    · rwa [hq, List.take_left] at h4
    · cases e1
  have h38 : (38 : UInt8) ∉ qa := by have := h.no; rwa [hq, List.take_left] at this
  refine ⟨hny, by rw [hq]; simp, ?_, .inr ⟨rfl, qa, qb, hq, h61, Nat.lt_succ_self _, rfl, rfl⟩⟩
  rw [hq, List.take_append, List.take_of_length_le (by omega), show qa.length + 1 - qa.length = 1 by omega]
  simp [h38]
end
/-- A cut's rest. -/
theorem cutRest {P : Program} {t e : TypeId} {i : TypeInfo} (ht : P.underlying t = some (.slice e)) (hi : P.info? e = some i) (hsz : i.size = 1) (gt off n c j m : Nat) (x : Int) (hx : x = (j : Int)) (hj : j ≤ n) (hm : m = n - j) :
    ∃ off', (∀ W : World, (Instr.slice t (.slice (some ⟨gt, off, none⟩) n c) (some (.int .i64 x)) none none).run P W = .ok (.slice (some ⟨gt, off', none⟩) m (c - j)) W) ∧ (off' = off + j ∨ (off' = off ∧ c = j)) := by
  subst hm
  by_cases hc : c = j
  · refine ⟨off, fun W => ?_, .inr ⟨rfl, hc⟩⟩
    have h := cut_from (P := P) t e .i64 ht hi 1 hsz (some ⟨gt, off, none⟩) n c x (by omega) (by omega) W
    rwa [show x.toNat = j by omega, if_pos hc] at h
  · refine ⟨off + j, fun W => ?_, .inl rfl⟩
    have h := cut_from (P := P) t e .i64 ht hi 1 hsz (some ⟨gt, off, none⟩) n c x (by omega) (by omega) W
    rwa [show x.toNat = j by omega, if_neg hc, Nat.mul_one, Option.map_some, addr_add'] at h
/-- A cut's middle. -/
theorem cutMid {P : Program} {t e : TypeId} {i : TypeInfo} (ht : P.underlying t = some (.slice e)) (hi : P.info? e = some i) (hsz : i.size = 1) (gt off n c lo hh off' m : Nat) (x y : Int) (hx : x = (lo : Int)) (hy : y = (hh : Int)) (h1 : lo ≤ hh) (h2 : hh ≤ n) (h3 : n ≤ c) (h4 : lo < c) (ho : off' = off + lo) (hm : m = hh - lo) :
    ∀ W : World, (Instr.slice t (.slice (some ⟨gt, off, none⟩) n c) (some (.int .i64 x)) (some (.int .i64 y)) none).run P W = .ok (.slice (some ⟨gt, off', none⟩) m (c - lo)) W := by
  intro W
  have h := cut_mid (P := P) t e .i64 .i64 ht hi 1 hsz (some ⟨gt, off, none⟩) n c x y (by omega) (by omega) (by omega) h3 W
  rwa [show x.toNat = lo by omega, show y.toNat = hh by omega, if_neg (by omega), Nat.mul_one, Option.map_some, addr_add', ← ho, ← hm] at h
/-- What is read of a part: its key, its value, whether it has none. -/
def keyOf (p : List UInt8) : List UInt8 := decP (p.takeWhile (· != 61))
def valOf (p : List UInt8) : List UInt8 := decP ((p.dropWhile (· != 61)).drop 1)
def bareOf (p : List UInt8) : Bool := !p.contains 61
/-- The first part, and what stands behind it. -/
def fstP (q : List UInt8) : List UInt8 := q.takeWhile (· != 38)
def rstP (q : List UInt8) : List UInt8 := (q.dropWhile (· != 38)).drop 1
theorem while_of {c : UInt8} {a : List UInt8} (h : c ∉ a) (b : List UInt8) : (a ++ c :: b).takeWhile (· != c) = a ∧ (a ++ c :: b).dropWhile (· != c) = c :: b := by
  have hp : ∀ x ∈ a, (x != c) = true := fun x hx => bne_iff_ne.2 (fun e => h (by rw [← e]; exact hx))
  rw [List.takeWhile_append_of_pos hp, List.dropWhile_append_of_pos hp]
  simp
theorem while_all {c : UInt8} {a : List UInt8} (h : c ∉ a) : a.takeWhile (· != c) = a ∧ a.dropWhile (· != c) = [] := by
  have hp : ∀ x ∈ a, (x != c) = true := fun x hx => bne_iff_ne.2 (fun e => h (by rw [← e]; exact hx))
  have h1 := List.takeWhile_append_of_pos (l₂ := []) hp
  have h2 := List.dropWhile_append_of_pos (l₂ := []) hp
  rw [List.append_nil] at h1 h2
  exact ⟨by rw [h1]; simp, by rw [h2]; rfl⟩
theorem fst_of {q qa qb : List UInt8} (hq : q = qa ++ 38 :: qb) (h : (38 : UInt8) ∉ qa) : fstP q = qa ∧ rstP q = qb := by
  subst hq
  obtain ⟨h1, h2⟩ := while_of h qb
  unfold fstP rstP
  rw [h1, h2]
  exact ⟨rfl, rfl⟩
theorem fst_all {q : List UInt8} (h : (38 : UInt8) ∉ q) : fstP q = q ∧ rstP q = [] := by
  obtain ⟨h1, h2⟩ := while_all h
  unfold fstP rstP
  rw [h1, h2]
  exact ⟨rfl, rfl⟩
theorem part_bare {p : List UInt8} (h : (61 : UInt8) ∉ p) : keyOf p = decP p ∧ valOf p = [] ∧ bareOf p = true := by
  obtain ⟨h1, h2⟩ := while_all h
  unfold keyOf valOf bareOf
  rw [h1, h2]
  exact ⟨rfl, by simp [decP], by simpa using h⟩
theorem part_two {p p1 r1 : List UInt8} (hp : p = p1 ++ 61 :: r1) (h : (61 : UInt8) ∉ p1) : keyOf p = decP p1 ∧ valOf p = decP r1 ∧ bareOf p = false := by
  subst hp
  obtain ⟨h1, h2⟩ := while_of h r1
  unfold keyOf valOf bareOf
  rw [h1, h2]
  exact ⟨rfl, rfl, by simp⟩
theorem split_in {q qa qb p1 r1 : List UInt8} {x y : UInt8} (h1 : q = qa ++ x :: qb) (h2 : q = p1 ++ y :: r1) (hl : p1.length < qa.length) : ∃ r2, qa = p1 ++ y :: r2 ∧ r1 = r2 ++ x :: qb := by
  have h := h1.symm.trans h2
  rcases List.append_eq_append_iff.1 h with ⟨a, ha, hb⟩ | ⟨a, ha, hb⟩
  · have : p1.length = qa.length + a.length := by rw [ha]; simp
    omega
  · cases a with
    | nil => rw [ha] at hl; simp at hl
    | cons z t =>
      have e := List.cons.inj hb
      refine ⟨t, by rw [ha, e.1], e.2⟩
def NextPost (w : World) (g gs gt n b : Nat) (es : List AE) (L q : List UInt8) (e : Ending) (w' : World) : Prop :=
  e = .returned (.bool true) ∧ OnlS (fun j => j = g ∨ j = gs ∨ b ≤ j) w w' ∧ ∃ k v sv, AB w' g (es.set n ⟨k, v, bareOf (fstP q)⟩) ∧ CUR w' b k v (keyOf (fstP q)) (valOf (fstP q)) ∧ OB w' gs 66 sv ∧ SQ w' gt L (rstP q) sv
def SQS (gt : Nat) (L q : List UInt8) (v : Value) : Prop := ∃ p off c, L = p ++ q ∧ v = .slice (some ⟨gt, off, none⟩) q.length c ∧ q.length ≤ c ∧ (q = [] ∨ off = p.length)
theorem NY.post {w0 wr : World} {g gs gt n b : Nat} {es : List AE} {L q : List UInt8} {sv k v : Value} {bb : Bool} {key val : List UInt8} (h : NY w0 wr g gs gt n b es L sv k v bb key val) (hk : keyOf (fstP q) = key) (hv : valOf (fstP q) = val) (hb : bareOf (fstP q) = bb) (hs : SQS gt L (rstP q) sv) : NextPost w0 g gs gt n b es L q (.returned (.bool true)) wr := by
  obtain ⟨p, off, c, h1, h2, h3, h4⟩ := hs
  refine ⟨rfl, h.on, k, v, sv, ?_, ?_, h.ob, p, off, c, h1, h2, h3, h4, h.br⟩
  · rw [hb]; exact h.ab
  · rw [hk, hv]; exact h.cur
set_option maxHeartbeats 16000000 in
set_option maxRecDepth 100000 in
theorem next_calls (w : World) (g gs gt n b : Nat) (es : List AE) (L q : List UInt8) (sv : Value) (k0 v0 : Value) (b0 : Bool) (hab : AB w g (es.set n ⟨k0, v0, b0⟩)) (hn : n < es.length) (hcur : CUR w b k0 v0 [] []) (hob : OB w gs 66 sv) (hsq : SQ w gt L q sv) (hq : q ≠ []) (hgt : gt < b) (hbs : b ≤ w.heap.size) (hL : L.length ≤ 2147483647) :
    Calls Try.prog 52 #[.pointer (some ⟨gs, 0, none⟩), .pointer (some ⟨g, n * 3, none⟩)] w (NextPost w g gs gt n b es L q) := by
  obtain ⟨p, off, c, hLq, hsv, hqc, hoff, hbr⟩ := hsq
  obtain rfl : off = p.length := hoff.resolve_left hq
  obtain ⟨i0, hi0, _, hsz0, _⟩ := info_parts info5
  have hql : 0 < q.length := List.length_pos_iff.2 hq
  have fs := hob.c0
  rw [hsv] at fs
  have f2 := (hab.at_ hn).2.2
  have z2 := hab.fz (n * 3 + 2)
  have b1 : ((q.length : Int) == 0) = false := beq_eq_false_iff_ne.2 (by omega)
  have hab1 := hab.putB hn false
  have hgs : gs ≠ g := fun e => by subst e; obtain ⟨C, hC, _⟩ := hab; unfold OB at hob; rw [hC] at hob; cases hob
  have hgtg : gt ≠ g := fun e => by subst e; obtain ⟨C, hC, _⟩ := hab; obtain ⟨C', _, _, hC', _⟩ := hbr.out; rw [hC] at hC'; cases hC'
  have hob1 := hob.move (Below.heap_setCell w ⟨g, n * 3 + 2, none⟩ (.bool false) gs hgs)
  have hbr1 := hbr.heap (Below.heap_setCell w ⟨g, n * 3 + 2, none⟩ (.bool false) gt hgtg)
  have hty : ∀ {j}, j = g → ∀ cells, w.heap[j]? ≠ some (.cells cells 5 (0, 0)) := fun {j} e cells hc => by subst e; obtain ⟨C, hC, _⟩ := hab; rw [hC] at hc; cases hc
  have hcur1 : CUR (w.setCell ⟨g, n * 3 + 2, none⟩ (.bool false)) b k0 v0 [] [] := by
    obtain ⟨D, h1, h2⟩ := hcur
    obtain ⟨C, hC, _⟩ := hab
    exact ⟨D, Kd.R_set h1 hC (by decide) _ _, Kd.R_set h2 hC (by decide) _ _⟩
  have HNX : NX w (w.setCell ⟨g, n * 3 + 2, none⟩ (.bool false)) g gs gt n b es L q sv 0 true 0 k0 v0 [] :=
    ⟨⟨hab1, hcur1, hob1, hbr1, OnlS.set (S := fun j => j = g ∨ j = gs ∨ b ≤ j) (OnlS.refl _ _) (.inl (.inl rfl)) _ _⟩, Nat.zero_le _, by simp, .inl ⟨rfl, rfl, rfl, by simp⟩⟩
  have fs1 := hob1.c0
  rw [hsv] at fs1
  have HNX := Aside0.mk HNX
  have HN := Aside0.mk hn
  have HQ := Aside0.mk hq
  have HLQ := Aside0.mk hLq
  have HSV := Aside0.mk hsv
  have HQC := Aside0.mk hqc
  have HGT := Aside0.mk hgt
  have HBS := Aside0.mk hbs
  have HLL := Aside0.mk hL
  have HQL := Aside0.mk hql
  clear hab hn hcur hob hbr hq hLq hsv hqc hgt hbs hL hql hab1 hob1 hbr1 hcur1 hty hoff hgs hgtg
  go_enter Try.func52, Try.ntmps52
  go_wp2
  go_loopw [5, 6, 23] (fun v5 v6 v23 wr => ∃ (i : Nat) (ik : Bool) (kk : Nat) (k v : Value) (key : List UInt8), v5 = .bool ik ∧ v6 = .int .i64 (kk : Int) ∧ v23 = .int .i64 (i : Int) ∧ Aside0 (NX w wr g gs gt n b es L q sv i ik kk k v key)) (fun _ _ v23 _ => q.length - natV v23)
  case atStart => exact ⟨0, true, 0, k0, v0, [], rfl, rfl, rfl, HNX⟩
  case round =>
    obtain ⟨i, ik, kk, k, v, key, rfl, rfl, rfl, HX⟩ := hrel
    clear HNX fs f2 z2 fs1
    have HLQ2 := HLQ.out
    have HQC2 := HQC.out
    have HLL2 := HLL.out
    have HSV2 := HSV.out
    have fs := HX.out.ny.ob.c0
    rw [HSV2] at fs
    have hqL : q.length ≤ 2147483647 := by rw [HLQ2] at HLL2; simp at HLL2; omega
    by_cases hi : i < q.length
    · obtain ⟨qa, x, qb, hqx, rfl⟩ : ∃ qa x qb, q = qa ++ x :: qb ∧ i = qa.length := ⟨q.take i, q[i], q.drop (i + 1), by rw [← List.drop_eq_getElem_cons hi, List.take_append_drop], by rw [List.length_take]; omega⟩
      have hql : q.length = qa.length + (qb.length + 1) := by rw [hqx]; simp
      have b2 : decide ((qa.length : Int) < (q.length : Int)) = true := decide_eq_true (by omega)
      have p1 : (0 ≤ (qa.length : Int)) = True := eq_true (by omega)
      have q1 : ((qa.length : Int) < (q.length : Int)) = True := eq_true (by omega)
      have f1 := HX.out.ny.br.mid (a := p ++ qa) (x := x) (r := qb) (by rw [HLQ2, hqx]; simp) (p.length + qa.length) (by simp)
      have hqg : q[qa.length]'hi = x := by simp [hqx]
      have wx : wrap64 ((qa.length : Int) + 1) = ((qa.length + 1 : Nat) : Int) := by unfold wrap64; omega
      have hnx : x ≠ 38 → (ik = true → x ≠ 61) → NX w wr g gs gt n b es L q sv (qa.length + 1) ik kk k v key := fun h1 h2 => HX.out.step hi (by rw [hqg]; exact h1) (fun e => by rw [hqg]; exact h2 e)
      have HQX := Aside0.mk hqx
      have HQL2 := Aside0.mk hql
      have HI := Aside0.mk hi
      by_cases h61 : x = 61
      · subst h61
        have b61 : (((61 : UInt8).toNat : Int) == 61) = true := rfl
        cases ik with
        | false =>
          have HNX := Aside0.mk (hnx (by decide) (by simp))
          clear hnx hi hql hqx hqg HLQ2 HQC2 HLL2 HSV2
          go_wp2
          go_roundw
          case measure => have h1_ := HQL2.out; simp only [natV]; omega
          case rel => exact ⟨qa.length + 1, false, kk, k, v, key, rfl, rfl, by first | rfl | (rw [← wx]), HNX⟩
        | true =>
          obtain ⟨D, hk, hv⟩ := HX.out.ny.cur
          have hkey : key = [] := by rcases HX.out.st with ⟨_, h2, _⟩ | ⟨h1, _⟩; exact h2; cases h1
          subst hkey
          obtain ⟨Ak, ck, hkv⟩ := Kd.R_slice hk
          have hkv : k = .slice Ak 0 ck := hkv
          obtain ⟨fk0, _, _⟩ := HX.out.ny.ab.at_ HN.out
          have fk : wr.cell? ⟨g, n * 3, none⟩ = some (.slice Ak 0 ck) := by rw [← hkv]; exact fk0
          have HCK := cutUp (P := Try.prog) Try.underlying48 hi0 Ak 0 ck 0 (0 : Int) rfl (Nat.zero_le _)
          have HCQ := cutUp (P := Try.prog) Try.underlying48 hi0 (some ⟨gt, p.length, none⟩) q.length c qa.length (qa.length : Int) rfl (by omega)
          have HK5 : Aside0 (Kd.R (Kd.int .u8) 5 wr b (P5 wr b (fun j => ¬ D j)) (.slice Ak 0 ck) (toI [])) := ⟨by rw [← hkv]; exact R_P5 hk⟩
          have HVD := Aside0.mk hv
          have HQA : Aside0 (qa.length ≤ c) := ⟨by omega⟩
          have hlq3 : L = p ++ qa ++ 61 :: qb := by rw [HLQ2, hqx]; simp
          have HBR : Aside0 (BR wr gt 5 (p ++ qa ++ 61 :: qb)) := ⟨by rw [← hlq3]; exact HX.out.ny.br⟩
          have HLN : Aside0 ((p ++ qa ++ 61 :: qb).length ≤ 2147483647) := ⟨by rw [← hlq3]; exact HLL2⟩
          have HBW : Aside0 (b ≤ wr.heap.size) := ⟨Nat.le_trans HBS.out HX.out.ny.on.size⟩
          clear hnx hi hql hqx hqg HLQ2 HQC2 HLL2 HSV2 hk hv hkv fk0 hlq3
          go_wp2
          go_region_with (go_at_call 67; refine (dec_at wr _ ?hW b HBW.out _ _ HK5.out gt HGT.out p qa _ HBR.out HLN.out _ rfl c HQA.out).mono ?_; (case hW => exact ⟨rfl, rfl, rfl, rfl⟩); rintro e w5 ⟨k5, rfl, hR5, ho5⟩; obtain ⟨A5, c5, rfl⟩ := Kd.R_slice hR5; have ha5 := HX.out.ny.ab.on5 ho5; have f5 := (ha5.at_ HN.out).1; have z5 := ha5.fz (n * 3); have HX5 := Aside0.mk (HX.out.goK HQX.out (HX.out.ny.storeK HN.out HGT.out HVD.out ho5 hR5)); clear hR5 ho5 ha5 fk fs f1 HCK HCQ)
          all_goals go_wp2
          all_goals go_roundw
          all_goals first
            | exact ⟨qa.length + 1, false, qa.length + 1, _, v, decP qa, rfl, by first | rfl | (rw [← wx]), by first | rfl | (rw [← wx]), HX5⟩
            | (have h1_ := HQL2.out; simp only [natV]; try rw [wx]; omega)
      · by_cases h38 : x = 38
        · subst h38
          have b61 : (((38 : UInt8).toNat : Int) == 61) = false := rfl
          have b38 : (((38 : UInt8).toNat : Int) == 38) = true := rfl
          have hno : (38 : UInt8) ∉ qa := by have := HX.out.no; rwa [hqx, List.take_left] at this
          obtain ⟨hf1, hf2⟩ := fst_of hqx hno
          obtain ⟨off', HRS, hoff'⟩ := cutRest (P := Try.prog) Try.underlying48 hi0 hsz0 gt p.length q.length c (qa.length + 1) qb.length ((qa.length : Int) + 1) (by omega) (by omega) (by omega)
          have HSS : Aside0 (SQS gt L (rstP q) (.slice (some ⟨gt, off', none⟩) qb.length (c - (qa.length + 1)))) := ⟨by
            rw [hf2]
            refine ⟨p ++ qa ++ [38], off', c - (qa.length + 1), by rw [HLQ2, hqx]; simp, rfl, by omega, ?_⟩
            rcases hoff' with e | ⟨_, e⟩
            · exact .inr (by rw [e]; simp <;> omega)
            · exact .inl (List.length_eq_zero_iff.1 (by omega))⟩
          obtain ⟨D, hk, hv⟩ := HX.out.ny.cur
          obtain ⟨Av, cv, hvv⟩ := Kd.R_slice hv
          have hvv : v = .slice Av 0 cv := hvv
          subst hvv
          have hne := HX.out.ny.ab.ne_OB HX.out.ny.ob
          have HCV := cutUp (P := Try.prog) Try.underlying48 hi0 Av 0 cv 0 (0 : Int) rfl (Nat.zero_le _)
          have HBW : Aside0 (b ≤ wr.heap.size) := ⟨Nat.le_trans HBS.out HX.out.ny.on.size⟩
          have hlq3 : L = p ++ qa ++ 38 :: qb := by rw [HLQ2, hqx]; simp
          cases ik with
          | true =>
            obtain ⟨hkey, h61a⟩ : key = [] ∧ (61 : UInt8) ∉ qa := by
              rcases HX.out.st with ⟨_, h2, _, h4⟩ | ⟨h1, _⟩
              · exact ⟨h2, by rwa [hqx, List.take_left] at h4⟩
              · cases h1
            subst hkey
            obtain ⟨hp1, hp2, hp3⟩ := part_bare h61a
            obtain ⟨Ak, ck, hkv⟩ := Kd.R_slice hk
            have hkv : k = .slice Ak 0 ck := hkv
            subst hkv
            have fk := (HX.out.ny.ab.at_ HN.out).1
            have HCK := cutUp (P := Try.prog) Try.underlying48 hi0 Ak 0 ck 0 (0 : Int) rfl (Nat.zero_le _)
            have HCQ := cutUp (P := Try.prog) Try.underlying48 hi0 (some ⟨gt, p.length, none⟩) q.length c qa.length (qa.length : Int) rfl (by omega)
            have HK5 := Aside0.mk (R_P5 hk)
            have HVD := Aside0.mk hv
            have HQA : Aside0 (qa.length ≤ c) := ⟨by omega⟩
            have HBR : Aside0 (BR wr gt 5 (p ++ qa ++ 38 :: qb)) := ⟨by rw [← hlq3]; exact HX.out.ny.br⟩
            have HLN : Aside0 ((p ++ qa ++ 38 :: qb).length ≤ 2147483647) := ⟨by rw [← hlq3]; exact HLL2⟩
            have HP : Aside0 (keyOf (fstP q) = decP qa ∧ valOf (fstP q) = [] ∧ bareOf (fstP q) = true) := ⟨by rw [hf1]; exact ⟨hp1, hp2, hp3⟩⟩
            clear hnx hi hql hqx hqg HLQ2 HQC2 HLL2 hk hv hlq3 h61a hp1 hp2 hp3 hf1 hf2 hno hoff' h61
            go_wp2
            go_region_with (go_at_call 67; refine (dec_at wr _ ?hW b HBW.out _ _ HK5.out gt HGT.out p qa _ HBR.out HLN.out _ rfl c HQA.out).mono ?_; (case hW => exact ⟨rfl, rfl, rfl, rfl⟩); rintro e w5 ⟨k5, rfl, hR5, ho5⟩; obtain ⟨A5, c5, rfl⟩ := Kd.R_slice hR5; have ha5 := HX.out.ny.ab.on5 ho5; have hs5 := (HX.out.ny.ob.on5 ho5).c0; rw [HSV.out] at hs5; have zs5 := (HX.out.ny.ob.on5 ho5).fz 0; obtain ⟨f5k, f5v, f5b⟩ := ha5.at_ HN.out; have z5 := ha5.fz (n * 3); have z5v := ha5.fz (n * 3 + 1); have z5b := ha5.fz (n * 3 + 2); have HX5 := Aside0.mk (HX.out.ny.storeK HN.out HGT.out HVD.out ho5 hR5); clear hR5 ho5 ha5 fk fs f1 HCK HCQ)
            all_goals go_wp2
            all_goals go_ret
            all_goals exact (((HX5.out.sameV HN.out).setB HN.out true).setS _).post HP.out.1 HP.out.2.1 HP.out.2.2 HSS.out
          | false =>
            obtain ⟨p1, r1, hq1, h61a, hl1, hkk, hkey⟩ : ∃ p1 r1, q = p1 ++ 61 :: r1 ∧ (61 : UInt8) ∉ p1 ∧ p1.length < qa.length ∧ kk = p1.length + 1 ∧ key = decP p1 := by
              rcases HX.out.st with ⟨h1, _⟩ | ⟨_, h2⟩
              · cases h1
              · exact h2
            subst hkey
            obtain ⟨r2, hqa, hr1⟩ := split_in hqx hq1 hl1
            obtain ⟨hp1, hp2, hp3⟩ := part_two hqa h61a
            have hqal : qa.length = p1.length + (r2.length + 1) := by rw [hqa]; simp
            have fv := (HX.out.ny.ab.at_ HN.out).2.1
            obtain ⟨o5, ho5'⟩ : ∃ o5, o5 = (p ++ p1 ++ [61]).length := ⟨_, rfl⟩
            have HCM := cutMid (P := Try.prog) Try.underlying48 hi0 hsz0 gt p.length q.length c kk qa.length o5 r2.length (kk : Int) (qa.length : Int) rfl rfl (by omega) (by omega) (by omega) (by omega) (by rw [ho5', hkk]; simp <;> omega) (by omega)
            have HO5 := Aside0.mk ho5'
            have HV5 := Aside0.mk (R_P5 hv)
            have HKD := Aside0.mk hk
            have HQA : Aside0 (r2.length ≤ c - kk) := ⟨by omega⟩
            have hlq4 : L = p ++ p1 ++ [61] ++ r2 ++ 38 :: qb := by rw [hlq3, hqa]; simp
            have HBR : Aside0 (BR wr gt 5 (p ++ p1 ++ [61] ++ r2 ++ 38 :: qb)) := ⟨by rw [← hlq4]; exact HX.out.ny.br⟩
            have HLN : Aside0 ((p ++ p1 ++ [61] ++ r2 ++ 38 :: qb).length ≤ 2147483647) := ⟨by rw [← hlq4]; exact HLL2⟩
            have HP : Aside0 (keyOf (fstP q) = decP p1 ∧ valOf (fstP q) = decP r2 ∧ bareOf (fstP q) = false) := ⟨by rw [hf1]; exact ⟨hp1, hp2, hp3⟩⟩
            have c1_ : (0 ≤ (kk : Int)) = True := eq_true (by omega)
            have c2_ : ((kk : Int) ≤ (qa.length : Int)) = True := eq_true (by omega)
            have c3_ : ((qa.length : Int) ≤ (c : Int)) = True := eq_true (by omega)
            clear hnx hi hql hqx hqg HLQ2 HQC2 HLL2 hk hv hlq3 hlq4 h61a hp1 hp2 hp3 hf1 hf2 hno hoff' h61 hq1 hl1 hkk hqa hr1 ho5' hqal
            go_wp2
            go_region_with (go_at_call 67; refine (dec_at wr _ ?hW b HBW.out _ _ HV5.out gt HGT.out (p ++ p1 ++ [61]) r2 _ HBR.out HLN.out _ HO5.out (c - kk) HQA.out).mono ?_; (case hW => exact ⟨rfl, rfl, rfl, rfl⟩); rintro e w5 ⟨k5, rfl, hR5, ho5⟩; obtain ⟨A5, c5, rfl⟩ := Kd.R_slice hR5; have ha5 := HX.out.ny.ab.on5 ho5; have hs5 := (HX.out.ny.ob.on5 ho5).c0; rw [HSV.out] at hs5; have zs5 := (HX.out.ny.ob.on5 ho5).fz 0; obtain ⟨f5k, f5v, f5b⟩ := ha5.at_ HN.out; have z5v := ha5.fz (n * 3 + 1); have HX5 := Aside0.mk (HX.out.ny.storeV HN.out HGT.out HKD.out ho5 hR5); clear hR5 ho5 ha5 fv fs f1 HCV HCM)
            all_goals go_wp2
            all_goals go_ret
            all_goals exact (HX5.out.setS _).post HP.out.1 HP.out.2.1 HP.out.2.2 HSS.out
        · have b61 : ((x.toNat : Int) == 61) = false := beq_eq_false_iff_ne.2 fun e => h61 (UInt8.toNat_inj.1 (by have : (61 : UInt8).toNat = 61 := rfl; omega))
          have b38 : ((x.toNat : Int) == 38) = false := beq_eq_false_iff_ne.2 fun e => h38 (UInt8.toNat_inj.1 (by have : (38 : UInt8).toNat = 38 := rfl; omega))
          have HNX := Aside0.mk (hnx h38 (fun _ => h61))
          clear hnx hi hql hqx hqg HLQ2 HQC2 HLL2 HSV2 h61 h38
          go_wp2
          go_roundw
          case measure => have h1_ := HQL2.out; simp only [natV]; omega
          case rel => exact ⟨qa.length + 1, ik, kk, k, v, key, rfl, rfl, by first | rfl | (rw [← wx]), HNX⟩
    · have hil : i = q.length := by have := HX.out.hi; omega
      subst hil
      have hno : (38 : UInt8) ∉ q := by have := HX.out.no; rwa [List.take_length] at this
      obtain ⟨hf1, hf2⟩ := fst_all hno
      have b2 : decide ((q.length : Int) < (q.length : Int)) = false := decide_eq_false (by omega)
      obtain ⟨off', HRS, hoff'⟩ := cutRest (P := Try.prog) Try.underlying48 hi0 hsz0 gt p.length q.length c q.length 0 (q.length : Int) rfl (by omega) (by omega)
      have HSS : Aside0 (SQS gt L (rstP q) (.slice (some ⟨gt, off', none⟩) 0 (c - q.length))) := ⟨by
        rw [hf2]
        exact ⟨L, off', c - q.length, by simp, rfl, Nat.zero_le _, .inl rfl⟩⟩
      obtain ⟨D, hk, hv⟩ := HX.out.ny.cur
      obtain ⟨Av, cv, hvv⟩ := Kd.R_slice hv
      have hvv : v = .slice Av 0 cv := hvv
      subst hvv
      have hne := HX.out.ny.ab.ne_OB HX.out.ny.ob
      have HCV := cutUp (P := Try.prog) Try.underlying48 hi0 Av 0 cv 0 (0 : Int) rfl (Nat.zero_le _)
      have HBW : Aside0 (b ≤ wr.heap.size) := ⟨Nat.le_trans HBS.out HX.out.ny.on.size⟩
      have d1_ : (0 ≤ (q.length : Int)) = True := eq_true (by omega)
      have d2_ : ((q.length : Int) ≤ (q.length : Int)) = True := eq_true (by omega)
      cases ik with
      | true =>
        obtain ⟨hkey, h61a⟩ : key = [] ∧ (61 : UInt8) ∉ q := by
          rcases HX.out.st with ⟨_, h2, _, h4⟩ | ⟨h1, _⟩
          · exact ⟨h2, by rwa [List.take_length] at h4⟩
          · cases h1
        subst hkey
        obtain ⟨hp1, hp2, hp3⟩ := part_bare h61a
        obtain ⟨Ak, ck, hkv⟩ := Kd.R_slice hk
        have hkv : k = .slice Ak 0 ck := hkv
        subst hkv
        have fk := (HX.out.ny.ab.at_ HN.out).1
        have HCK := cutUp (P := Try.prog) Try.underlying48 hi0 Ak 0 ck 0 (0 : Int) rfl (Nat.zero_le _)
        have HK5 := Aside0.mk (R_P5 hk)
        have HVD := Aside0.mk hv
        have HBR : Aside0 (BR wr gt 5 (p ++ q ++ [])) := ⟨by rw [List.append_nil, ← HLQ2]; exact HX.out.ny.br⟩
        have HLN : Aside0 ((p ++ q ++ []).length ≤ 2147483647) := ⟨by rw [List.append_nil, ← HLQ2]; exact HLL2⟩
        have HP : Aside0 (keyOf (fstP q) = decP q ∧ valOf (fstP q) = [] ∧ bareOf (fstP q) = true) := ⟨by rw [hf1]; exact ⟨hp1, hp2, hp3⟩⟩
        clear hi HLQ2 HQC2 HLL2 hk hv h61a hp1 hp2 hp3 hf1 hf2 hno hoff'
        go_wp2
        go_region_with (go_at_call 67; refine (dec_at wr _ ?hW b HBW.out _ _ HK5.out gt HGT.out p q _ HBR.out HLN.out _ rfl c HQC.out).mono ?_; (case hW => exact ⟨rfl, rfl, rfl, rfl⟩); rintro e w5 ⟨k5, rfl, hR5, ho5⟩; obtain ⟨A5, c5, rfl⟩ := Kd.R_slice hR5; have ha5 := HX.out.ny.ab.on5 ho5; have hs5 := (HX.out.ny.ob.on5 ho5).c0; rw [HSV.out] at hs5; have zs5 := (HX.out.ny.ob.on5 ho5).fz 0; obtain ⟨f5k, f5v, f5b⟩ := ha5.at_ HN.out; have z5 := ha5.fz (n * 3); have z5v := ha5.fz (n * 3 + 1); have z5b := ha5.fz (n * 3 + 2); have HX5 := Aside0.mk (HX.out.ny.storeK HN.out HGT.out HVD.out ho5 hR5); clear hR5 ho5 ha5 fk fs HCK)
        all_goals go_wp2
        all_goals go_region_with (fail)
        all_goals go_wp2
        all_goals go_ret
        all_goals exact (((HX5.out.sameV HN.out).setB HN.out true).setS _).drew.post HP.out.1 HP.out.2.1 HP.out.2.2 HSS.out
      | false =>
        obtain ⟨p1, r1, hq1, h61a, hl1, hkk, hkey⟩ : ∃ p1 r1, q = p1 ++ 61 :: r1 ∧ (61 : UInt8) ∉ p1 ∧ p1.length < q.length ∧ kk = p1.length + 1 ∧ key = decP p1 := by
          rcases HX.out.st with ⟨h1, _⟩ | ⟨_, h2⟩
          · cases h1
          · exact h2
        subst hkey
        obtain ⟨hp1, hp2, hp3⟩ := part_two hq1 h61a
        have hqal : q.length = p1.length + (r1.length + 1) := by rw [hq1]; simp
        have fv := (HX.out.ny.ab.at_ HN.out).2.1
        obtain ⟨o5, HRV, ho5'⟩ := cutRest (P := Try.prog) Try.underlying48 hi0 hsz0 gt p.length q.length c kk r1.length (kk : Int) rfl (by omega) (by omega)
        obtain ⟨pa, ra, hpa, hLp⟩ : ∃ pa ra, o5 = pa.length ∧ L = pa ++ r1 ++ ra := by
          rcases ho5' with e | ⟨e, e2⟩
          · exact ⟨p ++ p1 ++ [61], [], by rw [e, hkk]; simp <;> omega, by rw [HLQ2, hq1]; simp⟩
          · have hr0 : r1 = [] := List.length_eq_zero_iff.1 (by omega)
            exact ⟨p, q, e, by rw [hr0, HLQ2]; simp⟩
        have HO5 := Aside0.mk hpa
        have HV5 := Aside0.mk (R_P5 hv)
        have HKD := Aside0.mk hk
        have HQA : Aside0 (r1.length ≤ c - kk) := ⟨by omega⟩
        have HBR : Aside0 (BR wr gt 5 (pa ++ r1 ++ ra)) := ⟨by rw [← hLp]; exact HX.out.ny.br⟩
        have HLN : Aside0 ((pa ++ r1 ++ ra).length ≤ 2147483647) := ⟨by rw [← hLp]; exact HLL2⟩
        have HP : Aside0 (keyOf (fstP q) = decP p1 ∧ valOf (fstP q) = decP r1 ∧ bareOf (fstP q) = false) := ⟨by rw [hf1]; exact ⟨hp1, hp2, hp3⟩⟩
        have c1_ : (0 ≤ (kk : Int)) = True := eq_true (by omega)
        have c2_ : ((kk : Int) ≤ (q.length : Int)) = True := eq_true (by omega)
        clear hi HLQ2 HQC2 HLL2 hk hv h61a hp1 hp2 hp3 hf1 hf2 hno hoff' hq1 hl1 hkk hqal ho5' hpa hLp
        go_wp2
        go_region_with (go_at_call 67; refine (dec_at wr _ ?hW b HBW.out _ _ HV5.out gt HGT.out pa r1 _ HBR.out HLN.out _ HO5.out (c - kk) HQA.out).mono ?_; (case hW => exact ⟨rfl, rfl, rfl, rfl⟩); rintro e w5 ⟨k5, rfl, hR5, ho5⟩; obtain ⟨A5, c5, rfl⟩ := Kd.R_slice hR5; have ha5 := HX.out.ny.ab.on5 ho5; have hs5 := (HX.out.ny.ob.on5 ho5).c0; rw [HSV.out] at hs5; have zs5 := (HX.out.ny.ob.on5 ho5).fz 0; obtain ⟨f5k, f5v, f5b⟩ := ha5.at_ HN.out; have z5v := ha5.fz (n * 3 + 1); have HX5 := Aside0.mk (HX.out.ny.storeV HN.out HGT.out HKD.out ho5 hR5); clear hR5 ho5 ha5 fv fs HCV HRV)
        all_goals go_wp2
        all_goals go_region_with (fail)
        all_goals go_wp2
        all_goals go_ret
        all_goals exact (HX5.out.setS _).drew.post HP.out.1 HP.out.2.1 HP.out.2.2 HSS.out
end Go.Proofs.Ytjklempjljikpaa.Q
