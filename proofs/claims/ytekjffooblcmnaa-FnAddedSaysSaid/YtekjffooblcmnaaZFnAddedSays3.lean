/- FnAddedSays: the law's function, called with any arguments, returns true and leaves its arguments as they were: every input, no condition. Part 4 of 8. -/
import Derived.Test.YtekjffooblcmnaaZFnAddedSays2
import Derived.Deep.Cut
import Derived.Deep.CutBlock
set_option linter.unusedVariables false
set_option linter.unusedSimpArgs false
set_option linter.unusedSectionVars false
section
namespace Go.Proofs.Ytekjffooblcmnaa.Q
open Go.RowKit Go.Proofs.YtekjffooblcmnaaW.PrintWords Go.Proofs.YtekjffooblcmnaaW.PrintLast Go.Proofs.YtekjffooblcmnaaW.PrintMore
open Go.Proofs.YtekjffooblcmnaaKit (L size_L)
open Go.Proofs.Ytekjffooblcmnaa.Cd
open Go.Proofs.Ytekjffooblcmnaa.SpA (toI toI_length toI_append)
open Go.Proofs.Ytekjffooblcmnaa.Ob
open Go.Proofs.Ytekjffooblcmnaa.Rh (ptr NR HT Own Srt ncell Got DR)
open Go.Proofs.Ytekjffooblcmnaa.Rt (Nd Dat Tb Ch Str lcp Inv)
set_option linter.unusedVariables false
set_option linter.unusedSimpArgs false
variable [Go.Proofs.Ytekjffooblcmnaa.Rh.Blk]
open Go.Proofs.Ytekjffooblcmnaa.Rh (ph1 setPar)
set_option maxHeartbeats 16000000 in
set_option maxRecDepth 1000000 in
theorem r42_wp {gr k hn hc pn pc : Nat} {s pp : ByteArray} {H P : Option Addr} (w : World) (gc g1 : Nat) (vals : List Value) (hO : OBJ w gc 52 vals []) (l : List Nat) (hl : l.length ≤ 1000000) (kv : Value) (h4 : vals[4]? = some kv) (hrow : w.ownsRow 0 46 1 kv l.length (encs pE l)) (sb : ByteArray) (i : Nat) (Q : Exit → Act → World → Prop) {a : Act} (ha : PG gr k hn hc pn pc s pp H P gc sb i (.pointer (some ⟨g1, 0, none⟩)) a)
    (hq : ∀ a' v1 W1, PG gr k hn hc pn pc s pp H P gc sb i (.pointer (some ⟨g1, 0, none⟩)) a' → W1.ownsRow 0 46 1 v1 (l ++ [g1]).length (encs pE (l ++ [g1])) → Only (fun j => kv.ownBlock = some j) w W1 → (v1.ownBlock = kv.ownBlock ∨ ∃ b, v1.ownBlock = some b ∧ w.heap.size ≤ b) → Q .normal a' (W1.setCell ⟨gc, 4, none⟩ v1)) :
    Code.wp Try.prog r42 Q a w := by
  obtain ⟨A, c, rfl, _, _⟩ := kids_form hrow
  have c4 := hO.cell 4 _ h4
  have z4 := hO.fz 4
  have hne : (Value.slice A l.length c).ownBlock ≠ some gc := fun e => by
    obtain ⟨C, hC⟩ := own_typed hrow _ e
    rw [hO.heap] at hC
    cases hC
  have HO := Aside0.mk hO
  have HROW := Aside0.mk hrow
  have HL := Aside0.mk hl
  have HQ := Aside0.mk hq
  have HNE := Aside0.mk hne
  have H4 := Aside0.mk h4
  clear hq hO hrow hl hne h4
  obtain ⟨x, rfl⟩ := ha.lit
  clear ha
  conv => arg 2; whnf
  go_wp2_with ((with_reducible refine gate_builtin (b := .append) (xs := #[.tmp 233, .tmp 235]) rfl ?_); at_builtin; refine app_PV rfl (.tmp 233) (.tmp 235) rfl (.slice A l.length c) l g1 _ _ rfl rfl (own_move HROW.out fun k hk => (below_alloc (Below.refl _ _) _).block k (by obtain ⟨C, hC⟩ := own_typed HROW.out k hk; exact (Array.getElem?_eq_some_iff.1 hC).1)) (one_C (by unfold World.cell?; rw [heap_alloc_new]; rfl)) HL.out ?_; intro v1 W3 hr hon hat; obtain ⟨g3, c3, rfl⟩ := kids_some hr; rw [show (l ++ [g1]).length = l.length + 1 by simp] at hr hat; have hO3 := (HO.out.below (below_alloc (Below.refl _ _) _)).move (hon.block _ (HO.out.below (below_alloc (Below.refl _ _) _)).lt HNE.out) (fun i l v k hi => by simp at hi); have d4 := hO3.cell 4 _ H4.out; have y4 := hO3.fz 4; have HR := Aside0.mk hr; have HON := Aside0.mk hon; have HAT := Aside0.mk hat; clear hr hon hat hO3 c4)
  exact HQ.out _ _ _ ⟨⟨rfl, rfl, rfl, rfl, rfl, rfl, rfl, rfl⟩, rfl, rfl, rfl, rfl, rfl⟩ (by have := HR.out; simpa using this) ((Only.of_below (S := fun j => (Value.slice A l.length c).ownBlock = some j) (below_alloc (Below.refl _ _) _)).trans HON.out (fun i _ hs => hs)) (HAT.out.imp id fun ⟨b, q1, q2⟩ => ⟨b, q1, Nat.le_trans (below_alloc (Below.refl _ _) _).size q2⟩)
set_option maxHeartbeats 16000000 in
set_option maxRecDepth 1000000 in
theorem r49_wp {gr k hn hc pn pc : Nat} {s pp : ByteArray} {H P : Option Addr} (w : World) (gc g1 : Nat) (vals : List Value) (hO : OBJ w gc 52 vals []) (l : List Nat) (hl : l.length ≤ 1000000) (kv : Value) (h4 : vals[4]? = some kv) (hrow : w.ownsRow 0 46 1 kv l.length (encs pE l)) (sb : ByteArray) (i : Nat) (Q : Exit → Act → World → Prop) {a : Act} (ha : PG gr k hn hc pn pc s pp H P gc sb i (.pointer (some ⟨g1, 0, none⟩)) a)
    (hq : ∀ a' v1 W1, PG gr k hn hc pn pc s pp H P gc sb i (.pointer (some ⟨g1, 0, none⟩)) a' → W1.ownsRow 0 46 1 v1 (l ++ [g1]).length (encs pE (l ++ [g1])) → Only (fun j => kv.ownBlock = some j) w W1 → (v1.ownBlock = kv.ownBlock ∨ ∃ b, v1.ownBlock = some b ∧ w.heap.size ≤ b) → Q .normal a' (W1.setCell ⟨gc, 4, none⟩ v1)) :
    Code.wp Try.prog r49 Q a w := by
  obtain ⟨A, c, rfl, _, _⟩ := kids_form hrow
  have c4 := hO.cell 4 _ h4
  have z4 := hO.fz 4
  have hne : (Value.slice A l.length c).ownBlock ≠ some gc := fun e => by
    obtain ⟨C, hC⟩ := own_typed hrow _ e
    rw [hO.heap] at hC
    cases hC
  have HO := Aside0.mk hO
  have HROW := Aside0.mk hrow
  have HL := Aside0.mk hl
  have HQ := Aside0.mk hq
  have HNE := Aside0.mk hne
  have H4 := Aside0.mk h4
  clear hq hO hrow hl hne h4
  obtain ⟨x, rfl⟩ := ha.lit
  clear ha
  conv => arg 2; whnf
  go_wp2_with ((with_reducible refine gate_builtin (b := .append) (xs := #[.tmp 271, .tmp 273]) rfl ?_); at_builtin; refine app_PV rfl (.tmp 271) (.tmp 273) rfl (.slice A l.length c) l g1 _ _ rfl rfl (own_move HROW.out fun k hk => (below_alloc (Below.refl _ _) _).block k (by obtain ⟨C, hC⟩ := own_typed HROW.out k hk; exact (Array.getElem?_eq_some_iff.1 hC).1)) (one_C (by unfold World.cell?; rw [heap_alloc_new]; rfl)) HL.out ?_; intro v1 W3 hr hon hat; obtain ⟨g3, c3, rfl⟩ := kids_some hr; rw [show (l ++ [g1]).length = l.length + 1 by simp] at hr hat; have hO3 := (HO.out.below (below_alloc (Below.refl _ _) _)).move (hon.block _ (HO.out.below (below_alloc (Below.refl _ _) _)).lt HNE.out) (fun i l v k hi => by simp at hi); have d4 := hO3.cell 4 _ H4.out; have y4 := hO3.fz 4; have HR := Aside0.mk hr; have HON := Aside0.mk hon; have HAT := Aside0.mk hat; clear hr hon hat hO3 c4)
  exact HQ.out _ _ _ ⟨⟨rfl, rfl, rfl, rfl, rfl, rfl, rfl, rfl⟩, rfl, rfl, rfl, rfl, rfl⟩ (by have := HR.out; simpa using this) ((Only.of_below (S := fun j => (Value.slice A l.length c).ownBlock = some j) (below_alloc (Below.refl _ _) _)).trans HON.out (fun i _ hs => hs)) (HAT.out.imp id fun ⟨b, q1, q2⟩ => ⟨b, q1, Nat.le_trans (below_alloc (Below.refl _ _) _).size q2⟩)
set_option maxHeartbeats 16000000 in
set_option maxRecDepth 1000000 in
theorem r48_wp {gr k hn hc pn pc : Nat} {s pp : ByteArray} {H P : Option Addr} (w : World) (gc : Nat) (v18 : Value) (φ2 : Nat → Nat) {cur : Nat} (hc2 : φ2 cur = gc) {o : Option Dat} (hd : DR w o pp (.slice P pn pc) (.slice H hn hc)) (sb : ByteArray) (i : Nat) (hi : i < sb.size) (Q : Exit → Act → World → Prop) {a : Act} (ha : PG gr k hn hc pn pc s pp H P gc sb i v18 a)
    (hq : ∀ a' w1, PG gr k hn hc pn pc s pp H P gc sb i (.pointer (some ⟨w.heap.size, 0, none⟩)) a' → Below w.heap.size w w1 → NR w1 φ2 w.heap.size ⟨k, (L sb).drop i, some cur, [], none, none, o⟩ (.slice none 0 0) → w.heap.size < w1.heap.size → Q .normal a' w1) :
    Code.wp Try.prog r48 Q a w := by
  have p0 : (0 ≤ (i : Int)) = True := eq_true (by omega)
  have p2 : ((i : Int) ≤ (sb.size : Int)) = True := eq_true (by omega)
  have HD := Aside0.mk hd
  have HQ := Aside0.mk hq
  have HC2 := Aside0.mk hc2
  have HI := Aside0.mk hi
  clear hd hq hc2
  obtain ⟨x, rfl⟩ := ha.lit
  clear ha
  conv => arg 2; whnf
  go_wp2_with (fail)
  refine (newNode_calls _ _ _ _ _ _ _ _ _ _ _ _ _ _ _ _ (by rw [ByteArray.size_extract]; have := HI.out; omega)).mono ?_
  rintro e w1 ⟨lb, lf, rfl, o1, b1, hlb, hs1⟩
  have o2 : NR w1 φ2 w.heap.size ⟨k, (L sb).drop i, some cur, [], none, none, o⟩ (.slice none 0 0) := Go.Proofs.Ytekjffooblcmnaa.Rh.OBJ.nr (nd := ⟨k, (L sb).drop i, some cur, [], none, none, o⟩) (lab := lb) (pre := sb.extract i sb.size) (pp := pp) (pv := .slice P pn pc) (hv := .slice H hn hc) (lf := lf) (by
      have : ncell φ2 ⟨k, (L sb).drop i, some cur, [], none, none, o⟩ lb (sb.extract i sb.size) pp (.slice none 0 0) (.slice P pn pc) (.slice H hn hc) lf = [.int .u8 (k : Int), .int .u8 lb, .string (sb.extract i sb.size), .pointer (some ⟨gc, 0, none⟩), .slice none 0 0, .string pp, .slice P pn pc, .slice H hn hc, .pointer none, .pointer none, .bool lf] := by
        unfold ncell
        simp only [Option.map_some, HC2.out]
        rfl
      rw [this]; exact o1) (L_drop sb i) (fun c r e => hlb c r (by show L (sb.extract i sb.size) = _; rw [L_drop]; exact e)) (HD.out.below b1) (World.ownsRow_nil _ _ _ _)
  have O2 := Aside0.mk o2
  have B1 := Aside0.mk b1
  have HS1 := Aside0.mk hs1
  clear o1 o2 b1 hlb hs1
  go_wp2_with (fail)
  exact HQ.out _ _ ⟨⟨rfl, rfl, rfl, rfl, rfl, rfl, rfl, rfl⟩, rfl, rfl, rfl, rfl, rfl⟩ B1.out O2.out HS1.out
set_option maxHeartbeats 16000000 in
set_option maxRecDepth 1000000 in
theorem r50_wp {gr k hn hc pn pc : Nat} {s pp : ByteArray} {H P : Option Addr} (w : World) (gc : Nat) (vals : List Value) (hO : OBJ w gc 52 vals []) (v18 : Value) (A : Addr) (n c : Nat) (h4 : vals[4]? = some (.slice (some A) n c)) (hf : 10 < vals.length) (sb : ByteArray) (i : Nat) (Q : Exit → Act → World → Prop) {a : Act} (ha : PG gr k hn hc pn pc s pp H P gc sb i v18 a)
    (hq : ∀ a', a'.defers = [] → Q .normal a' (w.setCell ⟨gc, 10, none⟩ (.bool false))) : Code.wp Try.prog r50 Q a w := by
  obtain ⟨v0, hv0⟩ : ∃ v, vals[10]? = some v := ⟨_, List.getElem?_eq_getElem hf⟩
  have c4 := hO.cell 4 _ h4
  have c10 := hO.cell 10 _ hv0
  have z10 := hO.fz 10
  have hnil := fun (W : World) (A : Option Addr) (n c : Nat) => Lib.run_eql_slice_nil (P := Try.prog) W 49 46 A n c 0 0 Try.underlying49
  have HQ := Aside0.mk hq
  clear hv0 hq hO hf h4
  obtain ⟨x, rfl⟩ := ha.lit
  clear ha
  conv => arg 2; whnf
  go_wp2_with (fail)
  exact HQ.out _ rfl
end Go.Proofs.Ytekjffooblcmnaa.Q
end
section
namespace Go.Proofs.Ytekjffooblcmnaa.Q
open Go.RowKit Go.Proofs.YtekjffooblcmnaaW.PrintWords Go.Proofs.YtekjffooblcmnaaW.PrintLast Go.Proofs.YtekjffooblcmnaaW.PrintMore
open Go.Proofs.YtekjffooblcmnaaKit (L size_L)
open Go.Proofs.Ytekjffooblcmnaa.Cd
open Go.Proofs.Ytekjffooblcmnaa.SpA (toI toI_length toI_append)
open Go.Proofs.Ytekjffooblcmnaa.Ob
open Go.Proofs.Ytekjffooblcmnaa.Rh (ptr NR HT Own Srt ncell Got DR)
open Go.Proofs.Ytekjffooblcmnaa.Rt (Nd Dat Tb Ch Str lcp Inv)
set_option linter.unusedVariables false
set_option linter.unusedSimpArgs false
variable [Go.Proofs.Ytekjffooblcmnaa.Rh.Blk]
open Go.Proofs.Ytekjffooblcmnaa.Rh (ph1 ph1_self ph1_ne setPar del del_ne split_base got_split split_table got_kid own_set)
open Go.Proofs.Ytekjffooblcmnaa.Rt (put rep)
set_option maxHeartbeats 16000000 in
set_option maxRecDepth 1000000 in
theorem r43_wp {gr k hn hc pn pc : Nat} {s pp : ByteArray} {H P : Option Addr} (w : World) (gc : Nat) (v18 : Value) (sb : ByteArray) (i : Nat) (Q : Exit → Act → World → Prop) {a : Act} (ha : PG gr k hn hc pn pc s pp H P gc sb i v18 a)
    (hq : ∀ a', PG gr k hn hc pn pc s pp H P gc sb i v18 a' → a'.eval (.tmp 241) = .bool (decide (i = sb.size)) → Q .normal a' w) : Code.wp Try.prog r43 Q a w := by
  have HQ := Aside0.mk hq
  clear hq
  obtain ⟨x, rfl⟩ := ha.lit
  clear ha
  by_cases he : i = sb.size
  · have hb : (((i : Nat) : Int) == ((sb.size : Nat) : Int)) = true := by simp [he]
    have hd : decide (i = sb.size) = true := decide_eq_true he
    rw [hd] at HQ
    clear he
    conv => arg 2; whnf
    go_wp2
    exact HQ.out _ ⟨⟨rfl, rfl, rfl, rfl, rfl, rfl, rfl, rfl⟩, rfl, rfl, rfl, rfl, rfl⟩ rfl
  · have hb : (((i : Nat) : Int) == ((sb.size : Nat) : Int)) = false := beq_eq_false_iff_ne.2 (fun e => he (by omega))
    have hd : decide (i = sb.size) = false := decide_eq_false he
    rw [hd] at HQ
    clear he
    conv => arg 2; whnf
    go_wp2
    exact HQ.out _ ⟨⟨rfl, rfl, rfl, rfl, rfl, rfl, rfl, rfl⟩, rfl, rfl, rfl, rfl, rfl⟩ rfl
def Cl (t : Tb) (n : Nat) : Prop := ∀ b m x, t b = some m → x = b ∨ m.par = some x ∨ Ch m x → x ≠ n
theorem map_ph1 {φ : Nat → Nat} {n1 g1 : Nat} {o : Option Nat} (h : ∀ x, o = some x → x ≠ n1) : o.map (ph1 φ n1 g1) = o.map φ := by
  cases o with
  | none => rfl
  | some y => rw [Option.map_some, Option.map_some, ph1_ne φ _ (h y rfl)]
theorem got_part (w w1 w4 W : World) {t : Tb} {φ : Nat → Nat} {K : Nat → Value} (h : HT w t φ K) {cur n1 : Nat} {nd N C : Nd} (hb : t cur = some nd) (hn1 : t n1 = none) (cl1 : Cl t n1) (hch : ∀ x, Ch nd x → x ≠ cur ∧ t x ≠ none) (b1 : Below w.heap.size w w1)
    {l : List Nat} (hL : ∀ x, x ∈ l ↔ Ch nd x) (h4 : HT w4 (setPar (put (del t cur) n1 N) l n1) (ph1 φ n1 w.heap.size) (fun x => if x = n1 then K cur else K x)) (on4 : Only (fun j => ∃ x ∈ l, ph1 φ n1 w.heap.size x = j) w1 w4)
    {g0 : Nat} {vals0 : List Value} (o4 : OBJ w4 g0 52 vals0 []) (hg0 : g0 = φ cur) (onW : Only (fun j => j = φ cur) w4 W) {lab : Int} {pre pp : ByteArray} {kv pv hv : Value} {lf : Bool} (oW : OBJ W (φ cur) 52 (ncell (ph1 φ n1 w.heap.size) C lab pre pp kv pv hv lf) [])
    (h2 : pre.data.toList = C.pre) (h3 : ∀ c r, C.pre = c :: r → lab = (c.toNat : Int)) (hd : DR w C.d pp pv hv) (hrow : W.ownsRow 0 46 1 kv C.kids.length (encs pE (C.kids.map (ph1 φ n1 w.heap.size)))) (hat : ∀ k, kv.ownBlock = some k → w4.heap.size ≤ k) :
    Got w W t (put (put (rep t nd n1) n1 N) cur C) φ (ph1 φ n1 w.heap.size) K (fun x => if x = cur then kv else if x = n1 then K cur else K x) := by
  subst hg0
  have n0 := h.node cur nd hb
  have d1 := hd.below b1
  have tn : ∀ x, Ch nd x → x ≠ n1 := fun x hx e => (hch x hx).2 (by rw [e]; exact hn1)
  have d4 : DR w4 C.d pp pv hv := d1.only on4 fun j hj ⟨x, hx, e⟩ => by
    have hc := (hL x).1 hx
    rw [ph1_ne φ _ (tn x hc)] at e
    cases hq : t x with
    | none => exact absurd hq (hch x hc).2
    | some m => exact e ▸ ((h.node x m hq).move (b1.block _ (h.node x m hq).lt) (fun k hk => b1.block k ((h.node x m hq).ltK hk)) (fun k hk _ => b1.block k hk)).srt
  have dW : DR W C.d pp pv hv := d4.only onW fun j hj e => by
    subst e
    exact ⟨_, _, _, o4.heap, .inl rfl⟩
  have nr : NR W (ph1 φ n1 w.heap.size) (φ cur) C kv := Go.Proofs.Ytekjffooblcmnaa.Rh.OBJ.nr oW h2 h3 dW hrow
  have g := got_split (N := N) (C := C) (L := l) (kv' := kv) (g1 := w.heap.size) h hb hn1 cl1 (fun x hx => hch x ((hL x).1 hx)) b1 (Nat.le_refl _) h4 on4 onW nr ⟨_, _, o4.heap⟩ hat
  rw [split_table hb hn1 hL hch] at g
  exact g
end Go.Proofs.Ytekjffooblcmnaa.Q
end
section
namespace Go.Proofs.Ytekjffooblcmnaa.Q
open Go.RowKit Go.Proofs.YtekjffooblcmnaaW.PrintWords Go.Proofs.YtekjffooblcmnaaW.PrintLast Go.Proofs.YtekjffooblcmnaaW.PrintMore
open Go.Proofs.YtekjffooblcmnaaKit (L size_L)
open Go.Proofs.Ytekjffooblcmnaa.Cd
open Go.Proofs.Ytekjffooblcmnaa.SpA (toI toI_length toI_append)
open Go.Proofs.Ytekjffooblcmnaa.Ob
open Go.Proofs.Ytekjffooblcmnaa.Rh (ptr NR HT Own Srt ncell Got DR)
open Go.Proofs.Ytekjffooblcmnaa.Rt (Nd Dat Tb Ch Str lcp Inv)
set_option linter.unusedVariables false
set_option linter.unusedSimpArgs false
variable [Go.Proofs.Ytekjffooblcmnaa.Rh.Blk]
open Go.Proofs.Ytekjffooblcmnaa.Rh (ph1 ph1_self ph1_ne setPar del del_ne split_base got_split split_table got_kid own_set)
open Go.Proofs.Ytekjffooblcmnaa.Rt (put rep)
section
variable {t : Tb} {cur n1 n2 : Nat} {nd N C : Nd}
theorem part_none (hn2 : t n2 = none) (h12 : n1 ≠ n2) (hcn2 : cur ≠ n2) : put (put (rep t nd n1) n1 N) cur C n2 = none := by
  unfold put rep
  rw [if_neg (Ne.symm hcn2), if_neg (Ne.symm h12), hn2]
  split <;> rfl
theorem part_some (hcn : cur ≠ n1) : ∀ x, t x ≠ none → put (put (rep t nd n1) n1 N) cur C x ≠ none := fun x hx => by
  unfold put rep
  split
  · simp
  · split
    · simp
    · split
      · cases hq : t x with
        | none => exact absurd hq hx
        | some m => simp
      · exact hx
theorem part_table {T : Tb} {N2 C2 : Nd} : put (put (put T cur C) n2 N2) cur C2 = put (put T n2 N2) cur C2 := by
  funext x
  unfold put
  by_cases e : x = cur
  · rw [if_pos e, if_pos e]
  · rw [if_neg e, if_neg e, if_neg e]
theorem part_cl {i : Nat} {k : Nat} {pre : Str} (hb : t cur = some nd) (cl : Cl t n2) (h12 : n1 ≠ n2) (hcn2 : cur ≠ n2) (hN : N = { nd with pre := nd.pre.drop i, par := some cur }) : Cl (put (put (rep t nd n1) n1 N) cur ⟨k, pre, nd.par, [n1], none, none, none⟩) n2 := fun b m x hbm hx => by
  unfold put rep at hbm
  split at hbm
  · next e =>
    cases hbm
    rcases hx with hx | hx | hx | hx | hx
    · rw [hx, e]; exact hcn2
    · exact cl cur nd x hb (.inr (.inl hx))
    · have hx : x ∈ [n1] := hx
      rw [List.mem_singleton.1 hx]; exact h12
    · cases hx
    · cases hx
  · split at hbm
    · next e =>
      cases hbm
      rw [hN] at hx
      rcases hx with hx | hx | hx
      · rw [hx, e]; exact h12
      · have hx : some cur = some x := hx
        cases hx; exact hcn2
      · exact cl cur nd x hb (.inr (.inr hx))
    · split at hbm
      · obtain ⟨m0, hm0, e⟩ := Option.map_eq_some_iff.1 hbm
        subst e
        rcases hx with hx | hx | hx
        · exact cl b m0 x hm0 (.inl hx)
        · have hx : some n1 = some x := hx
          cases hx; exact h12
        · exact cl b m0 x hm0 (.inr (.inr hx))
      · exact cl b m x hbm hx
end
set_option maxHeartbeats 4000000 in
theorem iB_wp {gr k hn hc pn pc : Nat} {s pp : ByteArray} {H P : Option Addr} (w : World) {t : Tb} {φ : Nat → Nat} {K : Nat → Value} (h : HT w t φ K) {cur n1 n2 : Nat} {nd : Nd} (hb : t cur = some nd) (hn1 : t n1 = none) (hn2 : t n2 = none) (h12 : n1 ≠ n2) (cl1 : Cl t n1) (cl2 : Cl t n2) (hch : ∀ x, Ch nd x → x ≠ cur ∧ t x ≠ none) (hkn : nd.kids.length ≤ 1000000) (hps : nd.pre.length ≤ 1000000) (sb : ByteArray) (i : Nat) (hi0 : 0 < i) (hi : i < nd.pre.length) (his : i ≤ sb.size) {o : Option Dat} (hd : DR w o pp (.slice P pn pc) (.slice H hn hc)) (v18 : Value) (Q : Exit → Act → World → Prop) {a : Act} (ha : PG gr k hn hc pn pc s pp H P (φ cur) sb i v18 a)
    (hq1 : i = sb.size → ∀ a' W' φ' K', a'.defers = [] → Got w W' t (put (put (rep t nd n1) n1 { nd with pre := nd.pre.drop i, par := some cur }) cur ⟨k, nd.pre.take i, nd.par, [n1], none, none, o⟩) φ φ' K K' → Q .normal a' W')
    (hq2 : i < sb.size → ∀ a' W' φ' K', a'.defers = [] → Got w W' t (put (put (put (rep t nd n1) n1 { nd with pre := nd.pre.drop i, par := some cur }) n2 ⟨k, (L sb).drop i, some cur, [], none, none, o⟩) cur ⟨0, nd.pre.take i, nd.par, [n1, n2], none, none, none⟩) φ φ' K K' → Q .normal a' W') :
    Code.wp Try.prog iB Q a w := by
  have hcn : cur ≠ n1 := fun e => by rw [e, hn1] at hb; cases hb
  have hcn2 : cur ≠ n2 := fun e => by rw [e, hn2] at hb; cases hb
  have hct : t cur ≠ none := by rw [hb]; simp
  have tn : ∀ x, Ch nd x → x ≠ n1 := fun x hx e => (hch x hx).2 (by rw [e]; exact hn1)
  have n0 := h.node cur nd hb
  obtain ⟨lab, pre, pp0, pv0, hv0, lf0, hO, hpre, hlab, hDR, hrow⟩ := n0.obj
  have hps2 : pre.size = nd.pre.length := by rw [← hpre]; exact (size_L pre).symm
  rw [iB_eq]
  refine wp_seq (iB22_wp w h hb hn1 cl1 sb i v18 hi hps _ ha fun a1 w1 ha1 b1 nr1 => ?_)
  show Code.wp Try.prog _ Q a1 w1
  obtain ⟨N, hN⟩ : ∃ N : Nd, N = { nd with pre := nd.pre.drop i, par := some cur } := ⟨_, rfl⟩
  rw [← hN] at nr1 hq1 hq2
  have hT1 := split_base h hb hn1 cl1 b1 (Nat.le_refl _) nr1
  change HT w1 (put (del t cur) n1 N) (ph1 φ n1 w.heap.size) (fun x => if x = n1 then K cur else K x) at hT1
  have hself : put (del t cur) n1 N n1 = some N := if_pos rfl
  have hK1 : (fun x => if x = n1 then K cur else K x) n1 = K cur := if_pos rfl
  have hph : ph1 φ n1 w.heap.size n1 = w.heap.size := ph1_self _ _ _
  have hphc : ph1 φ n1 w.heap.size cur = φ cur := ph1_ne _ _ hcn
  have chT : ∀ x, Ch nd x → x ≠ n1 ∧ put (del t cur) n1 N x ≠ none := fun x hx => ⟨tn x hx, by
    unfold put del
    rw [if_neg (tn x hx), if_neg (hch x hx).1]
    exact (hch x hx).2⟩
  have far : ∀ x, Ch nd x → ph1 φ n1 w.heap.size x ≠ φ cur := fun x hx e => by
    rw [ph1_ne _ _ (tn x hx)] at e
    exact (hch x hx).1 (h.inj x cur (hch x hx).2 hct e)
  have hO1 := hO.below b1
  rw [← hph] at ha1
  have hNk : N.kids = nd.kids := by rw [hN]
  refine wp_seq (iB23_wp w1 hT1 hself (φ cur) _ hO1 (by show _ = some (if n1 = n1 then K cur else K n1); rw [if_pos rfl]; rfl) (fun x hx => chT x (.inl (hNk ▸ hx))) (by rw [hNk]; exact hkn) sb i _ ha1 fun a2 w2 ha2 hT2 on2 => ?_)
  show Code.wp Try.prog _ Q a2 w2
  rw [hNk] at hT2 on2
  have hO2 : OBJ w2 (φ cur) 52 (ncell φ nd lab pre pp0 (K cur) pv0 hv0 lf0) [] := hO1.move (on2.block _ hO1.lt (fun ⟨x, hx, e⟩ => far x (.inl hx) e)) (fun i l v k hi => by simp at hi)
  refine wp_seq (iB28_wp w2 hT2 (φ cur) _ hO2 nd.pc (by rw [map_ph1 (fun x hx => tn x (.inr (.inl hx)))]; rfl) (fun x hx => (chT x (.inr (.inl hx))).2) sb i _ ha2 fun a3 w3 ha3 hT3 on3 => ?_)
  show Code.wp Try.prog _ Q a3 w3
  have hO3 : OBJ w3 (φ cur) 52 (ncell φ nd lab pre pp0 (K cur) pv0 hv0 lf0) [] := hO2.move (on3.block _ hO2.lt (fun ⟨x, hx, e⟩ => far x (.inr (.inl (by simpa using hx))) e)) (fun i l v k hi => by simp at hi)
  refine wp_seq (iB30_wp w3 hT3 (φ cur) _ hO3 nd.ac (by rw [map_ph1 (fun x hx => tn x (.inr (.inr hx)))]; rfl) (fun x hx => (chT x (.inr (.inr hx))).2) sb i _ ha3 fun a4 w4 ha4 hT4 on4 => ?_)
  show Code.wp Try.prog _ Q a4 w4
  have hO4 : OBJ w4 (φ cur) 52 (ncell φ nd lab pre pp0 (K cur) pv0 hv0 lf0) [] := hO3.move (on4.block _ hO3.lt (fun ⟨x, hx, e⟩ => far x (.inr (.inr (by simpa using hx))) e)) (fun i l v k hi => by simp at hi)
  have hL : ∀ x, x ∈ nd.kids ++ nd.pc.toList ++ nd.ac.toList ↔ Ch nd x := fun x => by simp [Ch, or_assoc]
  have onL : Only (fun j => ∃ x ∈ nd.kids ++ nd.pc.toList ++ nd.ac.toList, ph1 φ n1 w.heap.size x = j) w1 w4 := by
    exact ((on2.mono fun k _ ⟨x, hx, e⟩ => ⟨x, List.mem_append_left _ (List.mem_append_left _ hx), e⟩).trans on3 fun k _ ⟨x, hx, e⟩ => ⟨x, List.mem_append_left _ (List.mem_append_right _ hx), e⟩).trans on4 fun k _ ⟨x, hx, e⟩ => ⟨x, List.mem_append_right _ hx, e⟩
  rw [hph] at ha4
  have hp0 : 0 < pre.size := by omega
  have s0 : w4.heap.size ≤ w4.heap.size := Nat.le_refl _
  rw [iBr_eq]
  have f5 : (Only (fun j => j = φ cur) w4 w4) := Only.refl _ _
  refine wp_seq (r32_wp w4 (φ cur) _ hO4 _ (by simp [ncell]) sb i _ ha4 fun b1' g1' => ?_)
  have q1 := hO4.put (by decide) 0 (by simp [ncell]) (.int .u8 0) (fun l e => by simp at e)
  have e1 := f5.set (.inl rfl) 0 (.int .u8 0)
  change OBJ _ _ _ [.int .u8 0, .int .u8 lab, .string pre, ptr (nd.par.map φ), K cur, .string pp0, pv0, hv0, ptr (nd.pc.map φ), ptr (nd.ac.map φ), .bool lf0] [] at q1
  show Code.wp Try.prog _ Q b1' _
  generalize w4.setCell _ _ = W1 at q1 e1 ⊢
  refine wp_seq (r33_wp W1 (φ cur) _ q1 _ (by simp) sb i pre rfl hp0 _ g1' fun b2' g2' => ?_)
  have q2 := q1.put (by decide) 1 (by simp) (.int .u8 (((pre[0]'hp0).toNat : Nat) : Int)) (fun l e => by simp at e)
  have e2 := e1.set (.inl rfl) 1 (.int .u8 (((pre[0]'hp0).toNat : Nat) : Int))
  change OBJ _ _ _ [.int .u8 0, .int .u8 (((pre[0]'hp0).toNat : Nat) : Int), .string pre, ptr (nd.par.map φ), K cur, .string pp0, pv0, hv0, ptr (nd.pc.map φ), ptr (nd.ac.map φ), .bool lf0] [] at q2
  show Code.wp Try.prog _ Q b2' _
  generalize W1.setCell _ _ = W2 at q2 e2 ⊢
  clear q1 e1
  refine wp_seq (r34_wp W2 (φ cur) _ q2 _ (by simp) sb i pre rfl (by omega) _ g2' fun b3' g3' => ?_)
  have q3 := q2.put (by decide) 2 (by simp) (.string (pre.extract 0 i)) (fun l e => by simp at e)
  have e3 := e2.set (.inl rfl) 2 (.string (pre.extract 0 i))
  change OBJ _ _ _ [.int .u8 0, .int .u8 (((pre[0]'hp0).toNat : Nat) : Int), .string (pre.extract 0 i), ptr (nd.par.map φ), K cur, .string pp0, pv0, hv0, ptr (nd.pc.map φ), ptr (nd.ac.map φ), .bool lf0] [] at q3
  show Code.wp Try.prog _ Q b3' _
  generalize W2.setCell _ _ = W3 at q3 e3 ⊢
  clear q2 e2
  obtain ⟨labN, hlabN⟩ : ∃ v, v = ((((pre[0]'hp0).toNat : Nat)) : Int) := ⟨_, rfl⟩
  obtain ⟨preN, hpreN⟩ : ∃ v, v = pre.extract 0 i := ⟨_, rfl⟩
  rw [← hlabN, ← hpreN] at q3
  refine wp_seq (r35_wp W3 (φ cur) _ q3 _ (by simp) sb i _ g3' fun b4' g4' => ?_)
  have q4 := q3.put (by decide) 4 (by simp) (.slice none 0 0) (fun l e => by simp at e)
  have e4 := e3.set (.inl rfl) 4 (.slice none 0 0)
  change OBJ _ _ _ [.int .u8 0, .int .u8 labN, .string preN, ptr (nd.par.map φ), .slice none 0 0, .string pp0, pv0, hv0, ptr (nd.pc.map φ), ptr (nd.ac.map φ), .bool lf0] [] at q4
  show Code.wp Try.prog _ Q b4' _
  generalize W3.setCell _ _ = W4 at q4 e4 ⊢
  clear q3 e3
  refine wp_seq (r36_wp W4 (φ cur) _ q4 _ (by simp) sb i _ g4' fun b5' g5' => ?_)
  have q5 := q4.put (by decide) 7 (by simp) (.slice none 0 0) (fun l e => by simp at e)
  have e5 := e4.set (.inl rfl) 7 (.slice none 0 0)
  change OBJ _ _ _ [.int .u8 0, .int .u8 labN, .string preN, ptr (nd.par.map φ), .slice none 0 0, .string pp0, pv0, .slice none 0 0, ptr (nd.pc.map φ), ptr (nd.ac.map φ), .bool lf0] [] at q5
  show Code.wp Try.prog _ Q b5' _
  generalize W4.setCell _ _ = W5 at q5 e5 ⊢
  clear q4 e4
  refine wp_seq (r37_wp W5 (φ cur) _ q5 _ (by simp) sb i _ g5' fun b6' g6' => ?_)
  have q6 := q5.put (by decide) 5 (by simp) (.string ByteArray.empty) (fun l e => by simp at e)
  have e6 := e5.set (.inl rfl) 5 (.string ByteArray.empty)
  change OBJ _ _ _ [.int .u8 0, .int .u8 labN, .string preN, ptr (nd.par.map φ), .slice none 0 0, .string ByteArray.empty, pv0, .slice none 0 0, ptr (nd.pc.map φ), ptr (nd.ac.map φ), .bool lf0] [] at q6
  show Code.wp Try.prog _ Q b6' _
  generalize W5.setCell _ _ = W6 at q6 e6 ⊢
  clear q5 e5
  refine wp_seq (r38_wp W6 (φ cur) _ q6 _ (by simp) sb i _ g6' fun b7' g7' => ?_)
  have q7 := q6.put (by decide) 6 (by simp) (.slice none 0 0) (fun l e => by simp at e)
  have e7 := e6.set (.inl rfl) 6 (.slice none 0 0)
  change OBJ _ _ _ [.int .u8 0, .int .u8 labN, .string preN, ptr (nd.par.map φ), .slice none 0 0, .string ByteArray.empty, .slice none 0 0, .slice none 0 0, ptr (nd.pc.map φ), ptr (nd.ac.map φ), .bool lf0] [] at q7
  show Code.wp Try.prog _ Q b7' _
  generalize W6.setCell _ _ = W7 at q7 e7 ⊢
  clear q6 e6
  refine wp_seq (r39_wp W7 (φ cur) _ q7 _ (by simp) sb i _ g7' fun b8' g8' => ?_)
  have q8 := q7.put (by decide) 8 (by simp) (.pointer none) (fun l e => by simp at e)
  have e8 := e7.set (.inl rfl) 8 (.pointer none)
  change OBJ _ _ _ [.int .u8 0, .int .u8 labN, .string preN, ptr (nd.par.map φ), .slice none 0 0, .string ByteArray.empty, .slice none 0 0, .slice none 0 0, .pointer none, ptr (nd.ac.map φ), .bool lf0] [] at q8
  show Code.wp Try.prog _ Q b8' _
  generalize W7.setCell _ _ = W8 at q8 e8 ⊢
  clear q7 e7
  refine wp_seq (r40_wp W8 (φ cur) _ q8 _ (by simp) sb i _ g8' fun b9' g9' => ?_)
  have q9 := q8.put (by decide) 9 (by simp) (.pointer none) (fun l e => by simp at e)
  have e9 := e8.set (.inl rfl) 9 (.pointer none)
  change OBJ _ _ _ [.int .u8 0, .int .u8 labN, .string preN, ptr (nd.par.map φ), .slice none 0 0, .string ByteArray.empty, .slice none 0 0, .slice none 0 0, .pointer none, .pointer none, .bool lf0] [] at q9
  show Code.wp Try.prog _ Q b9' _
  generalize W8.setCell _ _ = W9 at q9 e9 ⊢
  clear q8 e8
  refine wp_seq (r41_wp W9 (φ cur) _ q9 _ (by simp) sb i _ g9' fun b10' g10' => ?_)
  have q10 := q9.put (by decide) 10 (by simp) (.bool false) (fun l e => by simp at e)
  have e10 := e9.set (.inl rfl) 10 (.bool false)
  change OBJ _ _ _ [.int .u8 0, .int .u8 labN, .string preN, ptr (nd.par.map φ), .slice none 0 0, .string ByteArray.empty, .slice none 0 0, .slice none 0 0, .pointer none, .pointer none, .bool false] [] at q10
  show Code.wp Try.prog _ Q b10' _
  generalize W9.setCell _ _ = W10 at q10 e10 ⊢
  clear q9 e9
  refine wp_seq (r42_wp W10 (φ cur) w.heap.size _ q10 [] (by simp) (.slice none 0 0) rfl (World.ownsRow_nil _ _ _ _) sb i _ g10' fun b11' v1 V g11' row on hat => ?_)
  show Code.wp Try.prog _ Q b11' _
  have qV := q10.move (on.block _ q10.lt (fun e => by cases e)) (fun i l v k hi => by simp at hi)
  have eV := e10.trans on (fun i _ e => by cases e)
  have row1 := own_set row qV 4 v1
  have q11 := qV.put (by decide) 4 (by simp) v1 (fun l e => by simp at e)
  have e11 := eV.set (.inl rfl) 4 v1
  have hat1 : ∀ k, v1.ownBlock = some k → w4.heap.size ≤ k := fun k hk => by
    rcases hat with e | ⟨b, e, hb⟩
    · rw [e] at hk; cases hk
    · rw [e] at hk; cases hk
      exact Nat.le_trans e10.size hb
  obtain ⟨g3, c3, rfl⟩ := kids_some row
  change OBJ _ _ _ [.int .u8 0, .int .u8 labN, .string preN, ptr (nd.par.map φ), (Value.slice (some ⟨g3, 0, none⟩) ([] ++ [w.heap.size]).length c3), .string ByteArray.empty, .slice none 0 0, .slice none 0 0, .pointer none, .pointer none, .bool false] [] at q11
  generalize hVW : V.setCell _ _ = W11 at q11 e11 row1 ⊢
  clear q10 e10 qV eV row on hat hVW
  have hlN : ∀ c r, nd.pre.take i = c :: r → labN = (c.toNat : Int) := fun c r e => by
    rw [hlabN]
    have h2 := List.take_append_drop i nd.pre
    rw [e] at h2
    exact head_byte hp0 c (r ++ nd.pre.drop i) (hpre.trans h2.symm)
  have hpN : preN.data.toList = nd.pre.take i := by
    rw [hpreN]
    show L (pre.extract 0 i) = _
    rw [Go.Proofs.YtekjffooblcmnaaKit.L_extract]
    simp [show L pre = nd.pre from hpre]
  have hpar : nd.par.map (ph1 φ n1 w.heap.size) = nd.par.map φ := map_ph1 fun x hx => cl1 cur nd x hb (.inr (.inl hx))
  refine wp_seq (wp_seq (r43_wp W11 (φ cur) _ sb i _ g11' fun b12' g12' hev => wp_cond hev ?_))
  by_cases he : i = sb.size
  · rw [decide_eq_true he, if_pos rfl]
    refine wp_seq (r44_wp W11 (φ cur) _ q11 _ (by simp) sb i _ g12' fun b13' g13' => ?_)
    have q12 := q11.put (by decide) 0 (by simp) (.int .u8 (k : Int)) (fun l e => by simp at e)
    have row2 := own_set row1 q11 0 (.int .u8 (k : Int))
    have e12 := e11.set (.inl rfl) 0 (.int .u8 (k : Int))
    change OBJ _ _ _ [.int .u8 (k : Int), .int .u8 labN, .string preN, ptr (nd.par.map φ), (Value.slice (some ⟨g3, 0, none⟩) ([] ++ [w.heap.size]).length c3), .string ByteArray.empty, .slice none 0 0, .slice none 0 0, .pointer none, .pointer none, .bool false] [] at q12
    show Code.wp Try.prog _ _ b13' _
    generalize W11.setCell _ _ = W12 at q12 e12 row2 ⊢
    clear q11 e11 row1
    refine wp_seq (r45_wp W12 (φ cur) _ q12 _ (by simp) sb i _ g13' fun b14' g14' => ?_)
    have q13 := q12.put (by decide) 7 (by simp) (.slice H hn hc) (fun l e => by simp at e)
    have row3 := own_set row2 q12 7 (.slice H hn hc)
    have e13 := e12.set (.inl rfl) 7 (.slice H hn hc)
    change OBJ _ _ _ [.int .u8 (k : Int), .int .u8 labN, .string preN, ptr (nd.par.map φ), (Value.slice (some ⟨g3, 0, none⟩) ([] ++ [w.heap.size]).length c3), .string ByteArray.empty, .slice none 0 0, .slice H hn hc, .pointer none, .pointer none, .bool false] [] at q13
    show Code.wp Try.prog _ _ b14' _
    generalize W12.setCell _ _ = W13 at q13 e13 row3 ⊢
    clear q12 e12 row2
    refine wp_seq (r46_wp W13 (φ cur) _ q13 _ (by simp) sb i _ g14' fun b15' g15' => ?_)
    have q14 := q13.put (by decide) 5 (by simp) (.string pp) (fun l e => by simp at e)
    have row4 := own_set row3 q13 5 (.string pp)
    have e14 := e13.set (.inl rfl) 5 (.string pp)
    change OBJ _ _ _ [.int .u8 (k : Int), .int .u8 labN, .string preN, ptr (nd.par.map φ), (Value.slice (some ⟨g3, 0, none⟩) ([] ++ [w.heap.size]).length c3), .string pp, .slice none 0 0, .slice H hn hc, .pointer none, .pointer none, .bool false] [] at q14
    show Code.wp Try.prog _ _ b15' _
    generalize W13.setCell _ _ = W14 at q14 e14 row4 ⊢
    clear q13 e13 row3
    refine r47_wp W14 (φ cur) _ q14 _ (by simp) sb i _ g15' fun b16' g16' => ?_
    have q15 := q14.put (by decide) 6 (by simp) (.slice P pn pc) (fun l e => by simp at e)
    have row5 := own_set row4 q14 6 (.slice P pn pc)
    have e15 := e14.set (.inl rfl) 6 (.slice P pn pc)
    change OBJ _ _ _ [.int .u8 (k : Int), .int .u8 labN, .string preN, ptr (nd.par.map φ), (Value.slice (some ⟨g3, 0, none⟩) ([] ++ [w.heap.size]).length c3), .string pp, .slice P pn pc, .slice H hn hc, .pointer none, .pointer none, .bool false] [] at q15
    show Code.wp Try.prog r50 _ b16' _
    generalize W14.setCell _ _ = W15 at q15 e15 row5 ⊢
    clear q14 e14 row4
    refine r50_wp W15 (φ cur) _ q15 _ _ _ _ rfl (by simp) sb i _ g16' fun a' hdf => ?_
    have q16 := q15.put (by decide) 10 (by simp) (.bool false) (fun l e => by simp at e)
    have row6 := own_set row5 q15 10 (.bool false)
    have e16 := e15.set (.inl rfl) 10 (.bool false)
    change OBJ _ _ _ [.int .u8 (k : Int), .int .u8 labN, .string preN, ptr (nd.par.map φ), (Value.slice (some ⟨g3, 0, none⟩) ([] ++ [w.heap.size]).length c3), .string pp, .slice P pn pc, .slice H hn hc, .pointer none, .pointer none, .bool false] [] at q16
    refine hq1 he a' _ _ _ hdf (got_part w w1 w4 _ h hb hn1 cl1 hch b1 hL hT4 onL hO4 rfl e16 (C := ⟨k, nd.pre.take i, nd.par, [n1], none, none, o⟩) (lab := labN) (pre := preN) (pp := pp) (kv := Value.slice (some ⟨g3, 0, none⟩) ([] ++ [w.heap.size]).length c3) (pv := .slice P pn pc) (hv := .slice H hn hc) (lf := false) ?_ hpN hlN hd ?_ hat1)
    · have : ncell (ph1 φ n1 w.heap.size) ⟨k, nd.pre.take i, nd.par, [n1], none, none, o⟩ labN preN pp (Value.slice (some ⟨g3, 0, none⟩) ([] ++ [w.heap.size]).length c3) (.slice P pn pc) (.slice H hn hc) false = [.int .u8 (k : Int), .int .u8 labN, .string preN, ptr (nd.par.map φ), (Value.slice (some ⟨g3, 0, none⟩) ([] ++ [w.heap.size]).length c3), .string pp, .slice P pn pc, .slice H hn hc, .pointer none, .pointer none, .bool false] := by
        unfold ncell
        simp only [hpar]
        rfl
      rw [this]; exact q16
    · show World.ownsRow _ 0 46 1 _ [n1].length (encs pE ([n1].map (ph1 φ n1 w.heap.size)))
      rw [List.map_singleton, hph]
      exact row6
  · rw [decide_eq_false he, if_neg (by decide)]
    have hlt : i < sb.size := by omega
    have G1 := got_part w w1 w4 W11 h hb hn1 cl1 hch b1 hL hT4 onL hO4 rfl e11 (C := ⟨0, nd.pre.take i, nd.par, [n1], none, none, none⟩) (lab := labN) (pre := preN) (pp := ByteArray.empty) (kv := Value.slice (some ⟨g3, 0, none⟩) ([] ++ [w.heap.size]).length c3) (pv := .slice none 0 0) (hv := .slice none 0 0) (lf := false) (by
      have : ncell (ph1 φ n1 w.heap.size) ⟨0, nd.pre.take i, nd.par, [n1], none, none, none⟩ labN preN ByteArray.empty (Value.slice (some ⟨g3, 0, none⟩) ([] ++ [w.heap.size]).length c3) (.slice none 0 0) (.slice none 0 0) false = [.int .u8 0, .int .u8 labN, .string preN, ptr (nd.par.map φ), (Value.slice (some ⟨g3, 0, none⟩) ([] ++ [w.heap.size]).length c3), .string ByteArray.empty, .slice none 0 0, .slice none 0 0, .pointer none, .pointer none, .bool false] := by
        unfold ncell
        simp only [hpar]
        rfl
      rw [this]; exact q11) hpN hlN ⟨rfl, _, _, _, rfl⟩ (by
      show World.ownsRow _ 0 46 1 _ [n1].length (encs pE ([n1].map (ph1 φ n1 w.heap.size)))
      rw [List.map_singleton, hph]
      exact row1) hat1
    have hc2 : ph1 (ph1 φ n1 w.heap.size) n2 W11.heap.size cur = φ cur := (ph1_ne _ _ hcn2).trans hphc
    refine wp_seq (r48_wp W11 (φ cur) _ (ph1 (ph1 φ n1 w.heap.size) n2 W11.heap.size) (cur := cur) hc2 (o := o) (hd.only G1.on fun k hk hs => Go.Proofs.Ytekjffooblcmnaa.Rh.Own.srt h hs) sb i hlt _ g12' fun b13' w8 g13' b8 o8 hs8 => ?_)
    show Code.wp Try.prog r49 _ b13' _
    have q12 := q11.below b8
    have row8 := own_move row1 fun k hk => b8.block k (by
      obtain ⟨C, hC⟩ := own_typed row1 k hk
      exact (Array.getElem?_eq_some_iff.1 hC).1)
    refine r49_wp w8 (φ cur) W11.heap.size _ q12 ([] ++ [w.heap.size]) (by simp) _ rfl row8 sb i _ g13' fun b14' v2 W9 g14' row9 on9 hat9 => ?_
    show Code.wp Try.prog r50 _ b14' _
    obtain ⟨g4, c4, rfl⟩ := kids_some row9
    have hne : (Value.slice (some ⟨g3, 0, none⟩) ([] ++ [w.heap.size]).length c3).ownBlock ≠ some (φ cur) := fun e => by
      obtain ⟨C, hC⟩ := own_typed row8 _ e
      rw [q12.heap] at hC
      cases hC
    have q13 := q12.move (on9.block _ q12.lt hne) (fun i l v k hi => by simp at hi)
    have q14 := q13.put (by decide) 4 (by simp) (Value.slice (some ⟨g4, 0, none⟩) (([] ++ [w.heap.size]) ++ [W11.heap.size]).length c4) (fun l e => by simp at e)
    refine r50_wp _ (φ cur) _ q14 _ _ _ _ rfl (by simp) sb i _ g14' fun a' hdf => ?_
    obtain ⟨K2, G2⟩ := got_kid G1.ht (cur := cur) (nd := ⟨0, nd.pre.take i, nd.par, [n1], none, none, none⟩) (n1 := n2) (g1 := W11.heap.size) (if_pos rfl) (part_none hn2 h12 hcn2) (part_cl hb cl2 h12 hcn2 hN) b8 (Nat.le_refl _) o8 (Below.refl _ _) (v1 := Value.slice (some ⟨g4, 0, none⟩) (([] ++ [w.heap.size]) ++ [W11.heap.size]).length c4) (W3 := W9) (by
      show World.ownsRow _ 0 46 1 _ ([n1].map (ph1 φ n1 w.heap.size) ++ [W11.heap.size]).length (encs pE ([n1].map (ph1 φ n1 w.heap.size) ++ [W11.heap.size]))
      rw [List.map_singleton, hph]
      exact row9) (by
      simp only [if_true]
      exact on9) (by
      simp only [if_true]
      exact hat9) false
    have G3 := G1.trans G2 (part_some hcn)
    rw [hphc, part_table] at G3
    exact hq2 hlt a' _ _ _ hdf G3
end Go.Proofs.Ytekjffooblcmnaa.Q
end
section
namespace Go.Proofs.Ytekjffooblcmnaa.Q
open Go.RowKit Go.Proofs.YtekjffooblcmnaaW.PrintWords Go.Proofs.YtekjffooblcmnaaW.PrintLast Go.Proofs.YtekjffooblcmnaaW.PrintMore
open Go.Proofs.YtekjffooblcmnaaKit (L size_L)
open Go.Proofs.Ytekjffooblcmnaa.Cd
open Go.Proofs.Ytekjffooblcmnaa.SpA (toI toI_length toI_append)
open Go.Proofs.Ytekjffooblcmnaa.Ob
open Go.Proofs.Ytekjffooblcmnaa.Rh (ptr NR HT Own Srt ncell Got DR)
open Go.Proofs.Ytekjffooblcmnaa.Rt (Nd Dat Tb Ch Str lcp Inv)
set_option linter.unusedVariables false
set_option linter.unusedSimpArgs false
variable [Go.Proofs.Ytekjffooblcmnaa.Rh.Blk]
open Go.Proofs.Ytekjffooblcmnaa.Rh (got_cells)
open Go.Proofs.Ytekjffooblcmnaa.Rt (put)
noncomputable def r13 : Code := fst iA
noncomputable def r14 : Code := fst (snd iA)
noncomputable def r15 : Code := fst (fst (snd (snd iA)))
noncomputable def iAs : Code := thn 72 iA
noncomputable def r16 : Code := fst iAs
noncomputable def r17 : Code := fst (snd iAs)
noncomputable def r18 : Code := fst (snd (snd iAs))
noncomputable def r19 : Code := snd (snd (snd iAs))
noncomputable def r20 : Code := snd (snd (snd iA))
set_option maxRecDepth 1000000 in
theorem iA_eq : iA = .seq r13 (.seq r14 (.seq (.seq r15 (.cond (.tmp 72) (.seq r16 (.seq r17 (.seq r18 r19))) .skip)) r20)) := by rfl
set_option maxHeartbeats 16000000 in
set_option maxRecDepth 1000000 in
theorem r13_wp {gr k hn hc pn pc : Nat} {s pp : ByteArray} {H P : Option Addr} (w : World) (gc : Nat) (vals : List Value) (hO : OBJ w gc 52 vals []) (v18 : Value) (hf : 1 < vals.length) (sb : ByteArray) (i : Nat) (hp : 0 < sb.size) (Q : Exit → Act → World → Prop) {a : Act} (ha : PG gr k hn hc pn pc s pp H P gc sb i v18 a)
    (hq : ∀ a', PG gr k hn hc pn pc s pp H P gc sb i v18 a' → Q .normal a' (w.setCell ⟨gc, 1, none⟩ (.int .u8 (((sb[0]'hp).toNat : Nat) : Int)))) : Code.wp Try.prog r13 Q a w := by
  obtain ⟨v0, hv0⟩ : ∃ v, vals[1]? = some v := ⟨_, List.getElem?_eq_getElem hf⟩
  have c4 := hO.cell 1 _ hv0
  have z4 := hO.fz 1
  clear hv0
  have p1 : ((0 : Int) < (sb.size : Int)) = True := eq_true (by omega)
  have HQ := Aside0.mk hq
  clear hq hO hf
  obtain ⟨x, rfl⟩ := ha.lit
  clear ha
  conv => arg 2; whnf
  go_wp2
  exact HQ.out _ ⟨⟨rfl, rfl, rfl, rfl, rfl, rfl, rfl, rfl⟩, rfl, rfl, rfl, rfl, rfl⟩
set_option maxHeartbeats 16000000 in
set_option maxRecDepth 1000000 in
theorem r14_wp {gr k hn hc pn pc : Nat} {s pp : ByteArray} {H P : Option Addr} (w : World) (gc : Nat) (vals : List Value) (hO : OBJ w gc 52 vals []) (v18 : Value) (hf : 2 < vals.length) (sb : ByteArray) (i : Nat) (Q : Exit → Act → World → Prop) {a : Act} (ha : PG gr k hn hc pn pc s pp H P gc sb i v18 a)
    (hq : ∀ a', PG gr k hn hc pn pc s pp H P gc sb i v18 a' → Q .normal a' (w.setCell ⟨gc, 2, none⟩ (.string sb))) : Code.wp Try.prog r14 Q a w := by
  obtain ⟨v0, hv0⟩ : ∃ v, vals[2]? = some v := ⟨_, List.getElem?_eq_getElem hf⟩
  have c4 := hO.cell 2 _ hv0
  have z4 := hO.fz 2
  clear hv0
  have HQ := Aside0.mk hq
  clear hq hO hf
  obtain ⟨x, rfl⟩ := ha.lit
  clear ha
  conv => arg 2; whnf
  go_wp2
  exact HQ.out _ ⟨⟨rfl, rfl, rfl, rfl, rfl, rfl, rfl, rfl⟩, rfl, rfl, rfl, rfl, rfl⟩
set_option maxHeartbeats 16000000 in
set_option maxRecDepth 1000000 in
theorem r16_wp {gr k hn hc pn pc : Nat} {s pp : ByteArray} {H P : Option Addr} (w : World) (gc : Nat) (vals : List Value) (hO : OBJ w gc 52 vals []) (v18 : Value) (hf : 0 < vals.length) (sb : ByteArray) (i : Nat) (Q : Exit → Act → World → Prop) {a : Act} (ha : PG gr k hn hc pn pc s pp H P gc sb i v18 a)
    (hq : ∀ a', PG gr k hn hc pn pc s pp H P gc sb i v18 a' → Q .normal a' (w.setCell ⟨gc, 0, none⟩ (.int .u8 (k : Int)))) : Code.wp Try.prog r16 Q a w := by
  obtain ⟨v0, hv0⟩ : ∃ v, vals[0]? = some v := ⟨_, List.getElem?_eq_getElem hf⟩
  have c4 := hO.cell 0 _ hv0
  have z4 := hO.fz 0
  clear hv0
  have HQ := Aside0.mk hq
  clear hq hO hf
  obtain ⟨x, rfl⟩ := ha.lit
  clear ha
  conv => arg 2; whnf
  go_wp2
  exact HQ.out _ ⟨⟨rfl, rfl, rfl, rfl, rfl, rfl, rfl, rfl⟩, rfl, rfl, rfl, rfl, rfl⟩
set_option maxHeartbeats 16000000 in
set_option maxRecDepth 1000000 in
theorem r17_wp {gr k hn hc pn pc : Nat} {s pp : ByteArray} {H P : Option Addr} (w : World) (gc : Nat) (vals : List Value) (hO : OBJ w gc 52 vals []) (v18 : Value) (hf : 7 < vals.length) (sb : ByteArray) (i : Nat) (Q : Exit → Act → World → Prop) {a : Act} (ha : PG gr k hn hc pn pc s pp H P gc sb i v18 a)
    (hq : ∀ a', PG gr k hn hc pn pc s pp H P gc sb i v18 a' → Q .normal a' (w.setCell ⟨gc, 7, none⟩ (.slice H hn hc))) : Code.wp Try.prog r17 Q a w := by
  obtain ⟨v0, hv0⟩ : ∃ v, vals[7]? = some v := ⟨_, List.getElem?_eq_getElem hf⟩
  have c4 := hO.cell 7 _ hv0
  have z4 := hO.fz 7
  clear hv0
  have HQ := Aside0.mk hq
  clear hq hO hf
  obtain ⟨x, rfl⟩ := ha.lit
  clear ha
  conv => arg 2; whnf
  go_wp2
  exact HQ.out _ ⟨⟨rfl, rfl, rfl, rfl, rfl, rfl, rfl, rfl⟩, rfl, rfl, rfl, rfl, rfl⟩
set_option maxHeartbeats 16000000 in
set_option maxRecDepth 1000000 in
theorem r18_wp {gr k hn hc pn pc : Nat} {s pp : ByteArray} {H P : Option Addr} (w : World) (gc : Nat) (vals : List Value) (hO : OBJ w gc 52 vals []) (v18 : Value) (hf : 5 < vals.length) (sb : ByteArray) (i : Nat) (Q : Exit → Act → World → Prop) {a : Act} (ha : PG gr k hn hc pn pc s pp H P gc sb i v18 a)
    (hq : ∀ a', PG gr k hn hc pn pc s pp H P gc sb i v18 a' → Q .normal a' (w.setCell ⟨gc, 5, none⟩ (.string pp))) : Code.wp Try.prog r18 Q a w := by
  obtain ⟨v0, hv0⟩ : ∃ v, vals[5]? = some v := ⟨_, List.getElem?_eq_getElem hf⟩
  have c4 := hO.cell 5 _ hv0
  have z4 := hO.fz 5
  clear hv0
  have HQ := Aside0.mk hq
  clear hq hO hf
  obtain ⟨x, rfl⟩ := ha.lit
  clear ha
  conv => arg 2; whnf
  go_wp2
  exact HQ.out _ ⟨⟨rfl, rfl, rfl, rfl, rfl, rfl, rfl, rfl⟩, rfl, rfl, rfl, rfl, rfl⟩
set_option maxHeartbeats 16000000 in
set_option maxRecDepth 1000000 in
theorem r19_wp {gr k hn hc pn pc : Nat} {s pp : ByteArray} {H P : Option Addr} (w : World) (gc : Nat) (vals : List Value) (hO : OBJ w gc 52 vals []) (v18 : Value) (hf : 6 < vals.length) (sb : ByteArray) (i : Nat) (Q : Exit → Act → World → Prop) {a : Act} (ha : PG gr k hn hc pn pc s pp H P gc sb i v18 a)
    (hq : ∀ a', PG gr k hn hc pn pc s pp H P gc sb i v18 a' → Q .normal a' (w.setCell ⟨gc, 6, none⟩ (.slice P pn pc))) : Code.wp Try.prog r19 Q a w := by
  obtain ⟨v0, hv0⟩ : ∃ v, vals[6]? = some v := ⟨_, List.getElem?_eq_getElem hf⟩
  have c4 := hO.cell 6 _ hv0
  have z4 := hO.fz 6
  clear hv0
  have HQ := Aside0.mk hq
  clear hq hO hf
  obtain ⟨x, rfl⟩ := ha.lit
  clear ha
  conv => arg 2; whnf
  go_wp2
  exact HQ.out _ ⟨⟨rfl, rfl, rfl, rfl, rfl, rfl, rfl, rfl⟩, rfl, rfl, rfl, rfl, rfl⟩
set_option maxHeartbeats 16000000 in
set_option maxRecDepth 1000000 in
theorem r15_wp {gr k hn hc pn pc : Nat} {s pp : ByteArray} {H P : Option Addr} (w : World) (gc : Nat) (v18 : Value) (sb : ByteArray) (i : Nat) (Q : Exit → Act → World → Prop) {a : Act} (ha : PG gr k hn hc pn pc s pp H P gc sb i v18 a)
    (hq : ∀ a', PG gr k hn hc pn pc s pp H P gc sb i v18 a' → a'.eval (.tmp 72) = .bool H.isSome → Q .normal a' w) : Code.wp Try.prog r15 Q a w := by
  have hnil := fun (W : World) (A : Option Addr) (n c : Nat) => run_neq_slice_nil (P := Try.prog) (w := W) 50 3 A n c Try.underlying50
  have HQ := Aside0.mk hq
  clear hq
  obtain ⟨x, rfl⟩ := ha.lit
  clear ha
  rcases H with _ | H
  all_goals (
    conv => arg 2; whnf
    go_wp2
    exact HQ.out _ ⟨⟨rfl, rfl, rfl, rfl, rfl, rfl, rfl, rfl⟩, rfl, rfl, rfl, rfl, rfl⟩ rfl)
set_option maxHeartbeats 16000000 in
set_option maxRecDepth 1000000 in
theorem r20_wp {gr k hn hc pn pc : Nat} {s pp : ByteArray} {H P : Option Addr} (w : World) (gc : Nat) (vals : List Value) (hO : OBJ w gc 52 vals []) (v18 : Value) (A : Option Addr) (n c : Nat) (h4 : vals[4]? = some (.slice A n c)) (p8 p9 : Option Addr) (h8 : vals[8]? = some (.pointer p8)) (h9 : vals[9]? = some (.pointer p9)) (hf : 10 < vals.length) (sb : ByteArray) (i : Nat) (Q : Exit → Act → World → Prop) {a : Act} (ha : PG gr k hn hc pn pc s pp H P gc sb i v18 a)
    (hq : ∀ a' lf, a'.defers = [] → Q .normal a' (w.setCell ⟨gc, 10, none⟩ (.bool lf))) : Code.wp Try.prog r20 Q a w := by
  obtain ⟨v0, hv0⟩ : ∃ v, vals[10]? = some v := ⟨_, List.getElem?_eq_getElem hf⟩
  have c4 := hO.cell 4 _ h4
  have c8 := hO.cell 8 _ h8
  have c9 := hO.cell 9 _ h9
  have c10 := hO.cell 10 _ hv0
  have z10 := hO.fz 10
  have hnil := fun (W : World) (A : Option Addr) (n c : Nat) => Lib.run_eql_slice_nil (P := Try.prog) W 49 46 A n c 0 0 Try.underlying49
  have HQ := Aside0.mk hq
  clear hv0 hq hO hf h4 h8 h9
  obtain ⟨x, rfl⟩ := ha.lit
  clear ha
  rcases A with _ | A <;> rcases p8 with _ | p8
  all_goals (
    conv => arg 2; whnf
    go_wp2_with (fail)
    exact HQ.out _ _ rfl)
end Go.Proofs.Ytekjffooblcmnaa.Q
end
section
namespace Go.Proofs.Ytekjffooblcmnaa.Q
open Go.RowKit Go.Proofs.YtekjffooblcmnaaW.PrintWords Go.Proofs.YtekjffooblcmnaaW.PrintLast Go.Proofs.YtekjffooblcmnaaW.PrintMore
open Go.Proofs.YtekjffooblcmnaaKit (L size_L)
open Go.Proofs.Ytekjffooblcmnaa.Cd
open Go.Proofs.Ytekjffooblcmnaa.SpA (toI toI_length toI_append)
open Go.Proofs.Ytekjffooblcmnaa.Ob
open Go.Proofs.Ytekjffooblcmnaa.Rh (ptr NR HT Own Srt ncell Got DR)
open Go.Proofs.Ytekjffooblcmnaa.Rt (Nd Dat Tb Ch Str lcp Inv)
set_option linter.unusedVariables false
set_option linter.unusedSimpArgs false
variable [Go.Proofs.Ytekjffooblcmnaa.Rh.Blk]
open Go.Proofs.Ytekjffooblcmnaa.Rh (got_cells)
open Go.Proofs.Ytekjffooblcmnaa.Rt (put)
theorem dr_some {w : World} {o : Option Dat} {pp : ByteArray} {pv : Value} {H : Option Addr} {hn hc : Nat} (h : DR w o pp pv (.slice H hn hc)) : H.isSome = o.isSome := by
  cases o with
  | none => obtain ⟨rfl, _⟩ := Value.slice.inj h.1; rfl
  | some d =>
    obtain ⟨_, h2, _⟩ := h
    rcases h2.2 with ⟨e, hn⟩ | ⟨g, cap, cur, e, _⟩
    · simp at hn
    · obtain ⟨rfl, _⟩ := Value.slice.inj e; rfl
set_option maxHeartbeats 4000000 in
theorem iA_wp {gr k hn hc pn pc : Nat} {s pp : ByteArray} {H P : Option Addr} (w : World) {t : Tb} {φ : Nat → Nat} {K : Nat → Value} (h : HT w t φ K) {cur : Nat} {nd : Nd} (hb : t cur = some nd) (sb : ByteArray) (hp0 : 0 < sb.size) (i : Nat) {o : Option Dat} (hd : DR w o pp (.slice P pn pc) (.slice H hn hc)) (v18 : Value) (Q : Exit → Act → World → Prop) {a : Act} (ha : PG gr k hn hc pn pc s pp H P (φ cur) sb i v18 a)
    (hq : ∀ a' W', a'.defers = [] → Got w W' t (put t cur { nd with pre := L sb, kind := if o.isSome then k else nd.kind, d := if o.isSome then o else nd.d }) φ φ K K → Q .normal a' W') :
    Code.wp Try.prog iA Q a w := by
  have n0 := h.node cur nd hb
  obtain ⟨lab, pre, pp0, pv0, hv0, lf0, hO, hpre, hlab, hDR, hrow⟩ := n0.obj
  obtain ⟨AK, cK, hkv, _, _⟩ := kids_form (l := nd.kids.map φ) (by rwa [← List.length_map (f := φ)] at hrow)
  have hH := dr_some hd
  have hl0 : ∀ c r, L sb = c :: r → ((((sb[0]'hp0).toNat : Nat)) : Int) = (c.toNat : Int) := head_byte hp0
  rw [iA_eq]
  have f0 : (Only (fun j => j = φ cur) w w) := Only.refl _ _
  refine wp_seq (r13_wp w (φ cur) _ hO _ (by simp [ncell]) sb i hp0 _ ha fun b1' g1' => ?_)
  have q1 := hO.put (by decide) 1 (by simp [ncell]) (.int .u8 (((sb[0]'hp0).toNat : Nat) : Int)) (fun l e => by simp at e)
  have e1 := f0.set (.inl rfl) 1 (.int .u8 (((sb[0]'hp0).toNat : Nat) : Int))
  obtain ⟨labN, hlabN⟩ : ∃ v, v = ((((sb[0]'hp0).toNat : Nat)) : Int) := ⟨_, rfl⟩
  rw [← hlabN] at q1 e1 hl0 ⊢
  change OBJ _ _ _ [.int .u8 nd.kind, .int .u8 labN, .string pre, ptr (nd.par.map φ), K cur, .string pp0, pv0, hv0, ptr (nd.pc.map φ), ptr (nd.ac.map φ), .bool lf0] [] at q1
  show Code.wp Try.prog _ Q b1' _
  generalize w.setCell _ _ = W1 at q1 e1 ⊢
  refine wp_seq (r14_wp W1 (φ cur) _ q1 _ (by simp) sb i _ g1' fun b2' g2' => ?_)
  have q2 := q1.put (by decide) 2 (by simp) (.string sb) (fun l e => by simp at e)
  have e2 := e1.set (.inl rfl) 2 (.string sb)
  change OBJ _ _ _ [.int .u8 nd.kind, .int .u8 labN, .string sb, ptr (nd.par.map φ), K cur, .string pp0, pv0, hv0, ptr (nd.pc.map φ), ptr (nd.ac.map φ), .bool lf0] [] at q2
  show Code.wp Try.prog _ _ b2' _
  generalize W1.setCell _ _ = W2 at q2 e2 ⊢
  clear q1 e1
  refine wp_seq (wp_seq (r15_wp W2 (φ cur) _ sb i _ g2' fun b2' g2' hev => wp_cond hev ?_))
  by_cases he : H.isSome = true
  · rw [he, if_pos rfl]
    rw [he] at hH
    refine wp_seq (r16_wp W2 (φ cur) _ q2 _ (by simp) sb i _ g2' fun b3' g3' => ?_)
    have q3 := q2.put (by decide) 0 (by simp) (.int .u8 (k : Int)) (fun l e => by simp at e)
    have e3 := e2.set (.inl rfl) 0 (.int .u8 (k : Int))
    change OBJ _ _ _ [.int .u8 (k : Int), .int .u8 labN, .string sb, ptr (nd.par.map φ), K cur, .string pp0, pv0, hv0, ptr (nd.pc.map φ), ptr (nd.ac.map φ), .bool lf0] [] at q3
    show Code.wp Try.prog _ _ b3' _
    generalize W2.setCell _ _ = W3 at q3 e3 ⊢
    clear q2 e2
    refine wp_seq (r17_wp W3 (φ cur) _ q3 _ (by simp) sb i _ g3' fun b4' g4' => ?_)
    have q4 := q3.put (by decide) 7 (by simp) (.slice H hn hc) (fun l e => by simp at e)
    have e4 := e3.set (.inl rfl) 7 (.slice H hn hc)
    change OBJ _ _ _ [.int .u8 (k : Int), .int .u8 labN, .string sb, ptr (nd.par.map φ), K cur, .string pp0, pv0, .slice H hn hc, ptr (nd.pc.map φ), ptr (nd.ac.map φ), .bool lf0] [] at q4
    show Code.wp Try.prog _ _ b4' _
    generalize W3.setCell _ _ = W4 at q4 e4 ⊢
    clear q3 e3
    refine wp_seq (r18_wp W4 (φ cur) _ q4 _ (by simp) sb i _ g4' fun b5' g5' => ?_)
    have q5 := q4.put (by decide) 5 (by simp) (.string pp) (fun l e => by simp at e)
    have e5 := e4.set (.inl rfl) 5 (.string pp)
    change OBJ _ _ _ [.int .u8 (k : Int), .int .u8 labN, .string sb, ptr (nd.par.map φ), K cur, .string pp, pv0, .slice H hn hc, ptr (nd.pc.map φ), ptr (nd.ac.map φ), .bool lf0] [] at q5
    show Code.wp Try.prog _ _ b5' _
    generalize W4.setCell _ _ = W5 at q5 e5 ⊢
    clear q4 e4
    refine r19_wp W5 (φ cur) _ q5 _ (by simp) sb i _ g5' fun b6' g6' => ?_
    have q6 := q5.put (by decide) 6 (by simp) (.slice P pn pc) (fun l e => by simp at e)
    have e6 := e5.set (.inl rfl) 6 (.slice P pn pc)
    change OBJ _ _ _ [.int .u8 (k : Int), .int .u8 labN, .string sb, ptr (nd.par.map φ), K cur, .string pp, .slice P pn pc, .slice H hn hc, ptr (nd.pc.map φ), ptr (nd.ac.map φ), .bool lf0] [] at q6
    show Code.wp Try.prog r20 _ b6' _
    generalize W5.setCell _ _ = W6 at q6 e6 ⊢
    clear q5 e5
    refine r20_wp W6 (φ cur) _ q6 _ AK _ cK (by rw [← hkv]; rfl) _ _ rfl rfl (by simp) sb i _ g6' fun a' lf hdf => ?_
    have qf := q6.put (by decide) 10 (by simp) (.bool lf) (fun l e => by simp at e)
    have ef := e6.set (.inl rfl) 10 (.bool lf)
    change OBJ _ _ _ [.int .u8 (k : Int), .int .u8 labN, .string sb, ptr (nd.par.map φ), K cur, .string pp, .slice P pn pc, .slice H hn hc, ptr (nd.pc.map φ), ptr (nd.ac.map φ), .bool lf] [] at qf
    have G := got_cells h hb (nd' := { nd with pre := L sb, kind := if o.isSome then k else nd.kind, d := if o.isSome then o else nd.d }) (lab := labN) (pre := sb) (pp := pp) (pv := .slice P pn pc) (hv := .slice H hn hc) (lf := lf) ef (by rw [← hH]; exact qf) rfl hl0 (by rw [← hH]; exact hd) rfl
    exact hq a' _ hdf G
  · have he2 : H.isSome = false := by simpa using he
    rw [he2, if_neg (by decide)]
    rw [he2] at hH
    refine wp_skip ?_
    show Code.wp Try.prog r20 _ b2' _
    refine r20_wp W2 (φ cur) _ q2 _ AK _ cK (by rw [← hkv]; rfl) _ _ rfl rfl (by simp) sb i _ g2' fun a' lf hdf => ?_
    have qf := q2.put (by decide) 10 (by simp) (.bool lf) (fun l e => by simp at e)
    have ef := e2.set (.inl rfl) 10 (.bool lf)
    change OBJ _ _ _ [.int .u8 nd.kind, .int .u8 labN, .string sb, ptr (nd.par.map φ), K cur, .string pp0, pv0, hv0, ptr (nd.pc.map φ), ptr (nd.ac.map φ), .bool lf] [] at qf
    have G := got_cells h hb (nd' := { nd with pre := L sb, kind := if o.isSome then k else nd.kind, d := if o.isSome then o else nd.d }) (lab := labN) (pre := sb) (pp := pp0) (pv := pv0) (hv := hv0) (lf := lf) ef (by rw [← hH]; exact qf) rfl hl0 (by rw [← hH]; exact hDR) rfl
    exact hq a' _ hdf G
end Go.Proofs.Ytekjffooblcmnaa.Q
end
section
namespace Go.Proofs.Ytekjffooblcmnaa.Q
open Go.RowKit Go.Proofs.YtekjffooblcmnaaW.PrintWords Go.Proofs.YtekjffooblcmnaaW.PrintLast Go.Proofs.YtekjffooblcmnaaW.PrintMore
open Go.Proofs.YtekjffooblcmnaaKit (L size_L)
open Go.Proofs.Ytekjffooblcmnaa.Cd
open Go.Proofs.Ytekjffooblcmnaa.SpA (toI toI_length toI_append)
open Go.Proofs.Ytekjffooblcmnaa.Ob
open Go.Proofs.Ytekjffooblcmnaa.Rh (ptr NR HT Own Srt ncell Got DR)
open Go.Proofs.Ytekjffooblcmnaa.Rt (Nd Dat Tb Ch Str lcp Inv)
set_option linter.unusedVariables false
set_option linter.unusedSimpArgs false
variable [Go.Proofs.Ytekjffooblcmnaa.Rh.Blk]
def P0 (gr k hn hc pn pc : Nat) (s pp : ByteArray) (H P : Option Addr) (gc : Nat) (sb : ByteArray) (a : Act) : Prop := PF gr k hn hc pn pc s pp H P a ∧ a.tmps.getD 12 undef = .pointer (some ⟨gc, 0, none⟩) ∧ a.tmps.getD 13 undef = .string sb
set_option maxHeartbeats 4000000 in
set_option maxRecDepth 1000000 in
theorem P0.lit {gr k hn hc pn pc : Nat} {s pp : ByteArray} {H P : Option Addr} {gc : Nat} {sb : ByteArray} {a : Act} (h : P0 gr k hn hc pn pc s pp H P gc sb a) : ∃ x : Nat → Value, a = ⟨#[.pointer (some ⟨gr, 0, none⟩), .string s, .slice H hn hc, .int .u8 (k : Int), .string pp, .slice P pn pc, x 6, x 7, x 8, x 9, x 10, x 11, .pointer (some ⟨gc, 0, none⟩), .string sb, x 14, x 15, x 16, x 17, x 18, x 19, x 20, x 21, x 22, x 23, x 24, x 25, x 26, x 27, x 28, x 29, x 30, x 31, x 32, x 33, x 34, x 35, x 36, x 37, x 38, x 39, x 40, x 41, x 42, x 43, x 44, x 45, x 46, x 47, x 48, x 49, x 50, x 51, x 52, x 53, x 54, x 55, x 56, x 57, x 58, x 59, x 60, x 61, x 62, x 63, x 64, x 65, x 66, x 67, x 68, x 69, x 70, x 71, x 72, x 73, x 74, x 75, x 76, x 77, x 78, x 79, x 80, x 81, x 82, x 83, x 84, x 85, x 86, x 87, x 88, x 89, x 90, x 91, x 92, x 93, x 94, x 95, x 96, x 97, x 98, x 99, x 100, x 101, x 102, x 103, x 104, x 105, x 106, x 107, x 108, x 109, x 110, x 111, x 112, x 113, x 114, x 115, x 116, x 117, x 118, x 119, x 120, x 121, x 122, x 123, x 124, x 125, x 126, x 127, x 128, x 129, x 130, x 131, x 132, x 133, x 134, x 135, x 136, x 137, x 138, x 139, x 140, x 141, x 142, x 143, x 144, x 145, x 146, x 147, x 148, x 149, x 150, x 151, x 152, x 153, x 154, x 155, x 156, x 157, x 158, x 159, x 160, x 161, x 162, x 163, x 164, x 165, x 166, x 167, x 168, x 169, x 170, x 171, x 172, x 173, x 174, x 175, x 176, x 177, x 178, x 179, x 180, x 181, x 182, x 183, x 184, x 185, x 186, x 187, x 188, x 189, x 190, x 191, x 192, x 193, x 194, x 195, x 196, x 197, x 198, x 199, x 200, x 201, x 202, x 203, x 204, x 205, x 206, x 207, x 208, x 209, x 210, x 211, x 212, x 213, x 214, x 215, x 216, x 217, x 218, x 219, x 220, x 221, x 222, x 223, x 224, x 225, x 226, x 227, x 228, x 229, x 230, x 231, x 232, x 233, x 234, x 235, x 236, x 237, x 238, x 239, x 240, x 241, x 242, x 243, x 244, x 245, x 246, x 247, x 248, x 249, x 250, x 251, x 252, x 253, x 254, x 255, x 256, x 257, x 258, x 259, x 260, x 261, x 262, x 263, x 264, x 265, x 266, x 267, x 268, x 269, x 270, x 271, x 272, x 273, x 274, x 275, x 276, x 277, x 278, x 279, x 280, x 281, x 282, x 283, x 284, x 285, x 286, x 287, x 288, x 289, x 290, x 291, x 292, x 293, x 294, x 295, x 296, x 297, x 298, x 299, x 300, x 301, x 302, x 303, x 304, x 305, x 306, x 307, x 308, x 309, x 310, x 311, x 312, x 313, x 314, x 315, x 316, x 317, x 318, x 319, x 320, x 321, x 322, x 323, x 324, x 325, x 326, x 327, x 328, x 329, x 330, x 331, x 332, x 333, x 334, x 335, x 336, x 337, x 338, x 339, x 340, x 341, x 342, x 343, x 344, x 345, x 346, x 347, x 348, x 349, x 350, x 351, x 352, x 353, x 354, x 355, x 356, x 357, x 358, x 359, x 360, x 361, x 362, x 363, x 364, x 365, x 366, x 367, x 368, x 369, x 370, x 371, x 372, x 373, x 374, x 375, x 376, x 377, x 378, x 379, x 380, x 381, x 382, x 383, x 384, x 385, x 386, x 387, x 388, x 389, x 390, x 391, x 392], []⟩ := by
  obtain ⟨⟨h1, h2, a0, a1, a2, a3, a4, a5⟩, a12, a13⟩ := h
  obtain ⟨x, e, hx⟩ := frame 393 a h1 h2
  rw [← hx _ (by decide)] at a0 a1 a2 a3 a4 a5 a12 a13
  refine ⟨x, ?_⟩
  rw [e, frame393, a0, a1, a2, a3, a4, a5, a12, a13]
def P1 (gr k hn hc pn pc : Nat) (s pp : ByteArray) (H P : Option Addr) (gc : Nat) (sb : ByteArray) (a : Act) : Prop := PF gr k hn hc pn pc s pp H P a ∧ a.tmps.getD 12 undef = .pointer (some ⟨gc, 0, none⟩) ∧ a.tmps.getD 13 undef = .string sb ∧ a.tmps.getD 14 undef = .int .i64 (sb.size : Int)
set_option maxHeartbeats 4000000 in
set_option maxRecDepth 1000000 in
theorem P1.lit {gr k hn hc pn pc : Nat} {s pp : ByteArray} {H P : Option Addr} {gc : Nat} {sb : ByteArray} {a : Act} (h : P1 gr k hn hc pn pc s pp H P gc sb a) : ∃ x : Nat → Value, a = ⟨#[.pointer (some ⟨gr, 0, none⟩), .string s, .slice H hn hc, .int .u8 (k : Int), .string pp, .slice P pn pc, x 6, x 7, x 8, x 9, x 10, x 11, .pointer (some ⟨gc, 0, none⟩), .string sb, .int .i64 (sb.size : Int), x 15, x 16, x 17, x 18, x 19, x 20, x 21, x 22, x 23, x 24, x 25, x 26, x 27, x 28, x 29, x 30, x 31, x 32, x 33, x 34, x 35, x 36, x 37, x 38, x 39, x 40, x 41, x 42, x 43, x 44, x 45, x 46, x 47, x 48, x 49, x 50, x 51, x 52, x 53, x 54, x 55, x 56, x 57, x 58, x 59, x 60, x 61, x 62, x 63, x 64, x 65, x 66, x 67, x 68, x 69, x 70, x 71, x 72, x 73, x 74, x 75, x 76, x 77, x 78, x 79, x 80, x 81, x 82, x 83, x 84, x 85, x 86, x 87, x 88, x 89, x 90, x 91, x 92, x 93, x 94, x 95, x 96, x 97, x 98, x 99, x 100, x 101, x 102, x 103, x 104, x 105, x 106, x 107, x 108, x 109, x 110, x 111, x 112, x 113, x 114, x 115, x 116, x 117, x 118, x 119, x 120, x 121, x 122, x 123, x 124, x 125, x 126, x 127, x 128, x 129, x 130, x 131, x 132, x 133, x 134, x 135, x 136, x 137, x 138, x 139, x 140, x 141, x 142, x 143, x 144, x 145, x 146, x 147, x 148, x 149, x 150, x 151, x 152, x 153, x 154, x 155, x 156, x 157, x 158, x 159, x 160, x 161, x 162, x 163, x 164, x 165, x 166, x 167, x 168, x 169, x 170, x 171, x 172, x 173, x 174, x 175, x 176, x 177, x 178, x 179, x 180, x 181, x 182, x 183, x 184, x 185, x 186, x 187, x 188, x 189, x 190, x 191, x 192, x 193, x 194, x 195, x 196, x 197, x 198, x 199, x 200, x 201, x 202, x 203, x 204, x 205, x 206, x 207, x 208, x 209, x 210, x 211, x 212, x 213, x 214, x 215, x 216, x 217, x 218, x 219, x 220, x 221, x 222, x 223, x 224, x 225, x 226, x 227, x 228, x 229, x 230, x 231, x 232, x 233, x 234, x 235, x 236, x 237, x 238, x 239, x 240, x 241, x 242, x 243, x 244, x 245, x 246, x 247, x 248, x 249, x 250, x 251, x 252, x 253, x 254, x 255, x 256, x 257, x 258, x 259, x 260, x 261, x 262, x 263, x 264, x 265, x 266, x 267, x 268, x 269, x 270, x 271, x 272, x 273, x 274, x 275, x 276, x 277, x 278, x 279, x 280, x 281, x 282, x 283, x 284, x 285, x 286, x 287, x 288, x 289, x 290, x 291, x 292, x 293, x 294, x 295, x 296, x 297, x 298, x 299, x 300, x 301, x 302, x 303, x 304, x 305, x 306, x 307, x 308, x 309, x 310, x 311, x 312, x 313, x 314, x 315, x 316, x 317, x 318, x 319, x 320, x 321, x 322, x 323, x 324, x 325, x 326, x 327, x 328, x 329, x 330, x 331, x 332, x 333, x 334, x 335, x 336, x 337, x 338, x 339, x 340, x 341, x 342, x 343, x 344, x 345, x 346, x 347, x 348, x 349, x 350, x 351, x 352, x 353, x 354, x 355, x 356, x 357, x 358, x 359, x 360, x 361, x 362, x 363, x 364, x 365, x 366, x 367, x 368, x 369, x 370, x 371, x 372, x 373, x 374, x 375, x 376, x 377, x 378, x 379, x 380, x 381, x 382, x 383, x 384, x 385, x 386, x 387, x 388, x 389, x 390, x 391, x 392], []⟩ := by
  obtain ⟨⟨h1, h2, a0, a1, a2, a3, a4, a5⟩, a12, a13, a14⟩ := h
  obtain ⟨x, e, hx⟩ := frame 393 a h1 h2
  rw [← hx _ (by decide)] at a0 a1 a2 a3 a4 a5 a12 a13 a14
  refine ⟨x, ?_⟩
  rw [e, frame393, a0, a1, a2, a3, a4, a5, a12, a13, a14]
def P2 (gr k hn hc pn pc : Nat) (s pp : ByteArray) (H P : Option Addr) (gc : Nat) (sb : ByteArray) (n : Nat) (a : Act) : Prop := PF gr k hn hc pn pc s pp H P a ∧ a.tmps.getD 12 undef = .pointer (some ⟨gc, 0, none⟩) ∧ a.tmps.getD 13 undef = .string sb ∧ a.tmps.getD 14 undef = .int .i64 (sb.size : Int) ∧ a.tmps.getD 15 undef = .int .i64 (n : Int)
set_option maxHeartbeats 4000000 in
set_option maxRecDepth 1000000 in
theorem P2.lit {gr k hn hc pn pc : Nat} {s pp : ByteArray} {H P : Option Addr} {gc : Nat} {sb : ByteArray} {n : Nat} {a : Act} (h : P2 gr k hn hc pn pc s pp H P gc sb n a) : ∃ x : Nat → Value, a = ⟨#[.pointer (some ⟨gr, 0, none⟩), .string s, .slice H hn hc, .int .u8 (k : Int), .string pp, .slice P pn pc, x 6, x 7, x 8, x 9, x 10, x 11, .pointer (some ⟨gc, 0, none⟩), .string sb, .int .i64 (sb.size : Int), .int .i64 (n : Int), x 16, x 17, x 18, x 19, x 20, x 21, x 22, x 23, x 24, x 25, x 26, x 27, x 28, x 29, x 30, x 31, x 32, x 33, x 34, x 35, x 36, x 37, x 38, x 39, x 40, x 41, x 42, x 43, x 44, x 45, x 46, x 47, x 48, x 49, x 50, x 51, x 52, x 53, x 54, x 55, x 56, x 57, x 58, x 59, x 60, x 61, x 62, x 63, x 64, x 65, x 66, x 67, x 68, x 69, x 70, x 71, x 72, x 73, x 74, x 75, x 76, x 77, x 78, x 79, x 80, x 81, x 82, x 83, x 84, x 85, x 86, x 87, x 88, x 89, x 90, x 91, x 92, x 93, x 94, x 95, x 96, x 97, x 98, x 99, x 100, x 101, x 102, x 103, x 104, x 105, x 106, x 107, x 108, x 109, x 110, x 111, x 112, x 113, x 114, x 115, x 116, x 117, x 118, x 119, x 120, x 121, x 122, x 123, x 124, x 125, x 126, x 127, x 128, x 129, x 130, x 131, x 132, x 133, x 134, x 135, x 136, x 137, x 138, x 139, x 140, x 141, x 142, x 143, x 144, x 145, x 146, x 147, x 148, x 149, x 150, x 151, x 152, x 153, x 154, x 155, x 156, x 157, x 158, x 159, x 160, x 161, x 162, x 163, x 164, x 165, x 166, x 167, x 168, x 169, x 170, x 171, x 172, x 173, x 174, x 175, x 176, x 177, x 178, x 179, x 180, x 181, x 182, x 183, x 184, x 185, x 186, x 187, x 188, x 189, x 190, x 191, x 192, x 193, x 194, x 195, x 196, x 197, x 198, x 199, x 200, x 201, x 202, x 203, x 204, x 205, x 206, x 207, x 208, x 209, x 210, x 211, x 212, x 213, x 214, x 215, x 216, x 217, x 218, x 219, x 220, x 221, x 222, x 223, x 224, x 225, x 226, x 227, x 228, x 229, x 230, x 231, x 232, x 233, x 234, x 235, x 236, x 237, x 238, x 239, x 240, x 241, x 242, x 243, x 244, x 245, x 246, x 247, x 248, x 249, x 250, x 251, x 252, x 253, x 254, x 255, x 256, x 257, x 258, x 259, x 260, x 261, x 262, x 263, x 264, x 265, x 266, x 267, x 268, x 269, x 270, x 271, x 272, x 273, x 274, x 275, x 276, x 277, x 278, x 279, x 280, x 281, x 282, x 283, x 284, x 285, x 286, x 287, x 288, x 289, x 290, x 291, x 292, x 293, x 294, x 295, x 296, x 297, x 298, x 299, x 300, x 301, x 302, x 303, x 304, x 305, x 306, x 307, x 308, x 309, x 310, x 311, x 312, x 313, x 314, x 315, x 316, x 317, x 318, x 319, x 320, x 321, x 322, x 323, x 324, x 325, x 326, x 327, x 328, x 329, x 330, x 331, x 332, x 333, x 334, x 335, x 336, x 337, x 338, x 339, x 340, x 341, x 342, x 343, x 344, x 345, x 346, x 347, x 348, x 349, x 350, x 351, x 352, x 353, x 354, x 355, x 356, x 357, x 358, x 359, x 360, x 361, x 362, x 363, x 364, x 365, x 366, x 367, x 368, x 369, x 370, x 371, x 372, x 373, x 374, x 375, x 376, x 377, x 378, x 379, x 380, x 381, x 382, x 383, x 384, x 385, x 386, x 387, x 388, x 389, x 390, x 391, x 392], []⟩ := by
  obtain ⟨⟨h1, h2, a0, a1, a2, a3, a4, a5⟩, a12, a13, a14, a15⟩ := h
  obtain ⟨x, e, hx⟩ := frame 393 a h1 h2
  rw [← hx _ (by decide)] at a0 a1 a2 a3 a4 a5 a12 a13 a14 a15
  refine ⟨x, ?_⟩
  rw [e, frame393, a0, a1, a2, a3, a4, a5, a12, a13, a14, a15]
def P3 (gr k hn hc pn pc : Nat) (s pp : ByteArray) (H P : Option Addr) (gc : Nat) (sb : ByteArray) (n i : Nat) (a : Act) : Prop := PF gr k hn hc pn pc s pp H P a ∧ a.tmps.getD 12 undef = .pointer (some ⟨gc, 0, none⟩) ∧ a.tmps.getD 13 undef = .string sb ∧ a.tmps.getD 14 undef = .int .i64 (sb.size : Int) ∧ a.tmps.getD 15 undef = .int .i64 (n : Int) ∧ a.tmps.getD 16 undef = .int .i64 (i : Int)
set_option maxHeartbeats 4000000 in
set_option maxRecDepth 1000000 in
theorem P3.lit {gr k hn hc pn pc : Nat} {s pp : ByteArray} {H P : Option Addr} {gc : Nat} {sb : ByteArray} {n i : Nat} {a : Act} (h : P3 gr k hn hc pn pc s pp H P gc sb n i a) : ∃ x : Nat → Value, a = ⟨#[.pointer (some ⟨gr, 0, none⟩), .string s, .slice H hn hc, .int .u8 (k : Int), .string pp, .slice P pn pc, x 6, x 7, x 8, x 9, x 10, x 11, .pointer (some ⟨gc, 0, none⟩), .string sb, .int .i64 (sb.size : Int), .int .i64 (n : Int), .int .i64 (i : Int), x 17, x 18, x 19, x 20, x 21, x 22, x 23, x 24, x 25, x 26, x 27, x 28, x 29, x 30, x 31, x 32, x 33, x 34, x 35, x 36, x 37, x 38, x 39, x 40, x 41, x 42, x 43, x 44, x 45, x 46, x 47, x 48, x 49, x 50, x 51, x 52, x 53, x 54, x 55, x 56, x 57, x 58, x 59, x 60, x 61, x 62, x 63, x 64, x 65, x 66, x 67, x 68, x 69, x 70, x 71, x 72, x 73, x 74, x 75, x 76, x 77, x 78, x 79, x 80, x 81, x 82, x 83, x 84, x 85, x 86, x 87, x 88, x 89, x 90, x 91, x 92, x 93, x 94, x 95, x 96, x 97, x 98, x 99, x 100, x 101, x 102, x 103, x 104, x 105, x 106, x 107, x 108, x 109, x 110, x 111, x 112, x 113, x 114, x 115, x 116, x 117, x 118, x 119, x 120, x 121, x 122, x 123, x 124, x 125, x 126, x 127, x 128, x 129, x 130, x 131, x 132, x 133, x 134, x 135, x 136, x 137, x 138, x 139, x 140, x 141, x 142, x 143, x 144, x 145, x 146, x 147, x 148, x 149, x 150, x 151, x 152, x 153, x 154, x 155, x 156, x 157, x 158, x 159, x 160, x 161, x 162, x 163, x 164, x 165, x 166, x 167, x 168, x 169, x 170, x 171, x 172, x 173, x 174, x 175, x 176, x 177, x 178, x 179, x 180, x 181, x 182, x 183, x 184, x 185, x 186, x 187, x 188, x 189, x 190, x 191, x 192, x 193, x 194, x 195, x 196, x 197, x 198, x 199, x 200, x 201, x 202, x 203, x 204, x 205, x 206, x 207, x 208, x 209, x 210, x 211, x 212, x 213, x 214, x 215, x 216, x 217, x 218, x 219, x 220, x 221, x 222, x 223, x 224, x 225, x 226, x 227, x 228, x 229, x 230, x 231, x 232, x 233, x 234, x 235, x 236, x 237, x 238, x 239, x 240, x 241, x 242, x 243, x 244, x 245, x 246, x 247, x 248, x 249, x 250, x 251, x 252, x 253, x 254, x 255, x 256, x 257, x 258, x 259, x 260, x 261, x 262, x 263, x 264, x 265, x 266, x 267, x 268, x 269, x 270, x 271, x 272, x 273, x 274, x 275, x 276, x 277, x 278, x 279, x 280, x 281, x 282, x 283, x 284, x 285, x 286, x 287, x 288, x 289, x 290, x 291, x 292, x 293, x 294, x 295, x 296, x 297, x 298, x 299, x 300, x 301, x 302, x 303, x 304, x 305, x 306, x 307, x 308, x 309, x 310, x 311, x 312, x 313, x 314, x 315, x 316, x 317, x 318, x 319, x 320, x 321, x 322, x 323, x 324, x 325, x 326, x 327, x 328, x 329, x 330, x 331, x 332, x 333, x 334, x 335, x 336, x 337, x 338, x 339, x 340, x 341, x 342, x 343, x 344, x 345, x 346, x 347, x 348, x 349, x 350, x 351, x 352, x 353, x 354, x 355, x 356, x 357, x 358, x 359, x 360, x 361, x 362, x 363, x 364, x 365, x 366, x 367, x 368, x 369, x 370, x 371, x 372, x 373, x 374, x 375, x 376, x 377, x 378, x 379, x 380, x 381, x 382, x 383, x 384, x 385, x 386, x 387, x 388, x 389, x 390, x 391, x 392], []⟩ := by
  obtain ⟨⟨h1, h2, a0, a1, a2, a3, a4, a5⟩, a12, a13, a14, a15, a16⟩ := h
  obtain ⟨x, e, hx⟩ := frame 393 a h1 h2
  rw [← hx _ (by decide)] at a0 a1 a2 a3 a4 a5 a12 a13 a14 a15 a16
  refine ⟨x, ?_⟩
  rw [e, frame393, a0, a1, a2, a3, a4, a5, a12, a13, a14, a15, a16]
def P4 (gr k hn hc pn pc : Nat) (s pp : ByteArray) (H P : Option Addr) (gc : Nat) (sb : ByteArray) (n i m : Nat) (a : Act) : Prop := PF gr k hn hc pn pc s pp H P a ∧ a.tmps.getD 12 undef = .pointer (some ⟨gc, 0, none⟩) ∧ a.tmps.getD 13 undef = .string sb ∧ a.tmps.getD 14 undef = .int .i64 (sb.size : Int) ∧ a.tmps.getD 15 undef = .int .i64 (n : Int) ∧ a.tmps.getD 16 undef = .int .i64 (i : Int) ∧ a.tmps.getD 17 undef = .int .i64 (m : Int)
set_option maxHeartbeats 4000000 in
set_option maxRecDepth 1000000 in
theorem P4.lit {gr k hn hc pn pc : Nat} {s pp : ByteArray} {H P : Option Addr} {gc : Nat} {sb : ByteArray} {n i m : Nat} {a : Act} (h : P4 gr k hn hc pn pc s pp H P gc sb n i m a) : ∃ x : Nat → Value, a = ⟨#[.pointer (some ⟨gr, 0, none⟩), .string s, .slice H hn hc, .int .u8 (k : Int), .string pp, .slice P pn pc, x 6, x 7, x 8, x 9, x 10, x 11, .pointer (some ⟨gc, 0, none⟩), .string sb, .int .i64 (sb.size : Int), .int .i64 (n : Int), .int .i64 (i : Int), .int .i64 (m : Int), x 18, x 19, x 20, x 21, x 22, x 23, x 24, x 25, x 26, x 27, x 28, x 29, x 30, x 31, x 32, x 33, x 34, x 35, x 36, x 37, x 38, x 39, x 40, x 41, x 42, x 43, x 44, x 45, x 46, x 47, x 48, x 49, x 50, x 51, x 52, x 53, x 54, x 55, x 56, x 57, x 58, x 59, x 60, x 61, x 62, x 63, x 64, x 65, x 66, x 67, x 68, x 69, x 70, x 71, x 72, x 73, x 74, x 75, x 76, x 77, x 78, x 79, x 80, x 81, x 82, x 83, x 84, x 85, x 86, x 87, x 88, x 89, x 90, x 91, x 92, x 93, x 94, x 95, x 96, x 97, x 98, x 99, x 100, x 101, x 102, x 103, x 104, x 105, x 106, x 107, x 108, x 109, x 110, x 111, x 112, x 113, x 114, x 115, x 116, x 117, x 118, x 119, x 120, x 121, x 122, x 123, x 124, x 125, x 126, x 127, x 128, x 129, x 130, x 131, x 132, x 133, x 134, x 135, x 136, x 137, x 138, x 139, x 140, x 141, x 142, x 143, x 144, x 145, x 146, x 147, x 148, x 149, x 150, x 151, x 152, x 153, x 154, x 155, x 156, x 157, x 158, x 159, x 160, x 161, x 162, x 163, x 164, x 165, x 166, x 167, x 168, x 169, x 170, x 171, x 172, x 173, x 174, x 175, x 176, x 177, x 178, x 179, x 180, x 181, x 182, x 183, x 184, x 185, x 186, x 187, x 188, x 189, x 190, x 191, x 192, x 193, x 194, x 195, x 196, x 197, x 198, x 199, x 200, x 201, x 202, x 203, x 204, x 205, x 206, x 207, x 208, x 209, x 210, x 211, x 212, x 213, x 214, x 215, x 216, x 217, x 218, x 219, x 220, x 221, x 222, x 223, x 224, x 225, x 226, x 227, x 228, x 229, x 230, x 231, x 232, x 233, x 234, x 235, x 236, x 237, x 238, x 239, x 240, x 241, x 242, x 243, x 244, x 245, x 246, x 247, x 248, x 249, x 250, x 251, x 252, x 253, x 254, x 255, x 256, x 257, x 258, x 259, x 260, x 261, x 262, x 263, x 264, x 265, x 266, x 267, x 268, x 269, x 270, x 271, x 272, x 273, x 274, x 275, x 276, x 277, x 278, x 279, x 280, x 281, x 282, x 283, x 284, x 285, x 286, x 287, x 288, x 289, x 290, x 291, x 292, x 293, x 294, x 295, x 296, x 297, x 298, x 299, x 300, x 301, x 302, x 303, x 304, x 305, x 306, x 307, x 308, x 309, x 310, x 311, x 312, x 313, x 314, x 315, x 316, x 317, x 318, x 319, x 320, x 321, x 322, x 323, x 324, x 325, x 326, x 327, x 328, x 329, x 330, x 331, x 332, x 333, x 334, x 335, x 336, x 337, x 338, x 339, x 340, x 341, x 342, x 343, x 344, x 345, x 346, x 347, x 348, x 349, x 350, x 351, x 352, x 353, x 354, x 355, x 356, x 357, x 358, x 359, x 360, x 361, x 362, x 363, x 364, x 365, x 366, x 367, x 368, x 369, x 370, x 371, x 372, x 373, x 374, x 375, x 376, x 377, x 378, x 379, x 380, x 381, x 382, x 383, x 384, x 385, x 386, x 387, x 388, x 389, x 390, x 391, x 392], []⟩ := by
  obtain ⟨⟨h1, h2, a0, a1, a2, a3, a4, a5⟩, a12, a13, a14, a15, a16, a17⟩ := h
  obtain ⟨x, e, hx⟩ := frame 393 a h1 h2
  rw [← hx _ (by decide)] at a0 a1 a2 a3 a4 a5 a12 a13 a14 a15 a16 a17
  refine ⟨x, ?_⟩
  rw [e, frame393, a0, a1, a2, a3, a4, a5, a12, a13, a14, a15, a16, a17]
set_option maxHeartbeats 16000000 in
set_option maxRecDepth 1000000 in
theorem i4_wp {gr k hn hc pn pc : Nat} {s pp : ByteArray} {H P : Option Addr} (w : World) (gc : Nat) (sb : ByteArray) (Q : Exit → Act → World → Prop) {a : Act} (ha : P0 gr k hn hc pn pc s pp H P gc sb a)
    (hq : ∀ a', P1 gr k hn hc pn pc s pp H P gc sb a' → Q .normal a' w) : Code.wp Try.prog i4 Q a w := by
  have HQ := Aside0.mk hq
  clear hq
  obtain ⟨x, rfl⟩ := ha.lit
  clear ha
  conv => arg 2; whnf
  go_wp2
  exact HQ.out _ ⟨⟨rfl, rfl, rfl, rfl, rfl, rfl, rfl, rfl⟩, rfl, rfl, rfl⟩
set_option maxHeartbeats 16000000 in
set_option maxRecDepth 1000000 in
theorem i5_wp {gr k hn hc pn pc : Nat} {s pp : ByteArray} {H P : Option Addr} (w : World) (gc : Nat) (sb : ByteArray) (pre : ByteArray) (hc2 : w.cell? ⟨gc, 2, none⟩ = some (.string pre)) (Q : Exit → Act → World → Prop) {a : Act} (ha : P1 gr k hn hc pn pc s pp H P gc sb a)
    (hq : ∀ a', P2 gr k hn hc pn pc s pp H P gc sb pre.size a' → Q .normal a' w) : Code.wp Try.prog i5 Q a w := by
  have HQ := Aside0.mk hq
  clear hq
  obtain ⟨x, rfl⟩ := ha.lit
  clear ha
  conv => arg 2; whnf
  go_wp2
  exact HQ.out _ ⟨⟨rfl, rfl, rfl, rfl, rfl, rfl, rfl, rfl⟩, rfl, rfl, rfl, rfl⟩
set_option maxHeartbeats 16000000 in
set_option maxRecDepth 1000000 in
theorem i6_wp {gr k hn hc pn pc : Nat} {s pp : ByteArray} {H P : Option Addr} (w : World) (gc : Nat) (sb : ByteArray) (n : Nat) (Q : Exit → Act → World → Prop) {a : Act} (ha : P2 gr k hn hc pn pc s pp H P gc sb n a)
    (hq : ∀ a', P3 gr k hn hc pn pc s pp H P gc sb n 0 a' → Q .normal a' w) : Code.wp Try.prog i6 Q a w := by
  have HQ := Aside0.mk hq
  clear hq
  obtain ⟨x, rfl⟩ := ha.lit
  clear ha
  conv => arg 2; whnf
  go_wp2
  exact HQ.out _ ⟨⟨rfl, rfl, rfl, rfl, rfl, rfl, rfl, rfl⟩, rfl, rfl, rfl, rfl, rfl⟩
set_option maxHeartbeats 16000000 in
set_option maxRecDepth 1000000 in
theorem i7_wp {gr k hn hc pn pc : Nat} {s pp : ByteArray} {H P : Option Addr} (w : World) (gc : Nat) (sb : ByteArray) (n i : Nat) (Q : Exit → Act → World → Prop) {a : Act} (ha : P3 gr k hn hc pn pc s pp H P gc sb n i a)
    (hq : ∀ a', P4 gr k hn hc pn pc s pp H P gc sb n i n a' → Q .normal a' w) : Code.wp Try.prog i7 Q a w := by
  have HQ := Aside0.mk hq
  clear hq
  obtain ⟨x, rfl⟩ := ha.lit
  clear ha
  conv => arg 2; whnf
  go_wp2
  exact HQ.out _ ⟨⟨rfl, rfl, rfl, rfl, rfl, rfl, rfl, rfl⟩, rfl, rfl, rfl, rfl, rfl, rfl⟩
set_option maxHeartbeats 16000000 in
set_option maxRecDepth 1000000 in
theorem i8_wp {gr k hn hc pn pc : Nat} {s pp : ByteArray} {H P : Option Addr} (w : World) (gc : Nat) (sb : ByteArray) (n i : Nat) (Q : Exit → Act → World → Prop) {a : Act} (ha : P4 gr k hn hc pn pc s pp H P gc sb n i n a)
    (hq : ∀ a', P4 gr k hn hc pn pc s pp H P gc sb n i (min sb.size n) a' → Q .normal a' w) : Code.wp Try.prog i8 Q a w := by
  have HQ := Aside0.mk hq
  clear hq
  obtain ⟨x, rfl⟩ := ha.lit
  clear ha
  by_cases hm : sb.size < n
  · have b41 : decide ((sb.size : Int) < (n : Int)) = true := decide_eq_true (by omega)
    rw [Nat.min_eq_left (by omega)] at HQ
    conv => arg 2; whnf
    go_wp2
    exact HQ.out _ ⟨⟨rfl, rfl, rfl, rfl, rfl, rfl, rfl, rfl⟩, rfl, rfl, rfl, rfl, rfl, rfl⟩
  · have b41 : decide ((sb.size : Int) < (n : Int)) = false := decide_eq_false (by omega)
    rw [Nat.min_eq_right (by omega)] at HQ
    conv => arg 2; whnf
    go_wp2
    exact HQ.out _ ⟨⟨rfl, rfl, rfl, rfl, rfl, rfl, rfl, rfl⟩, rfl, rfl, rfl, rfl, rfl, rfl⟩
theorem lcp_nil (s : Str) : lcp s [] = 0 := by cases s <;> rfl
theorem lcp_step {s r : Str} {j : Nat} {x : UInt8} (hs : s[j]? = some x) (hr : r[j]? = some x) (h : lcp s r = j + lcp (s.drop j) (r.drop j)) : lcp s r = (j + 1) + lcp (s.drop (j + 1)) (r.drop (j + 1)) := by
  obtain ⟨h1, e1⟩ := List.getElem?_eq_some_iff.1 hs
  obtain ⟨h2, e2⟩ := List.getElem?_eq_some_iff.1 hr
  rw [List.drop_eq_getElem_cons h1, List.drop_eq_getElem_cons h2, e1, e2] at h
  rw [h]
  show j + (if x = x then _ else _) = _
  rw [if_pos rfl]
  omega
theorem lcp_stop {s r : Str} {j : Nat} {x y : UInt8} (hs : s[j]? = some x) (hr : r[j]? = some y) (hxy : x ≠ y) (h : lcp s r = j + lcp (s.drop j) (r.drop j)) : lcp s r = j := by
  obtain ⟨h1, e1⟩ := List.getElem?_eq_some_iff.1 hs
  obtain ⟨h2, e2⟩ := List.getElem?_eq_some_iff.1 hr
  rw [List.drop_eq_getElem_cons h1, List.drop_eq_getElem_cons h2, e1, e2] at h
  rw [h]
  show j + (if x = y then _ else _) = _
  rw [if_neg hxy]
  omega
theorem lcp_end {s r : Str} {j : Nat} (hj : s.length ≤ j ∨ r.length ≤ j) (h : lcp s r = j + lcp (s.drop j) (r.drop j)) : lcp s r = j := by
  rcases hj with hj | hj
  · rw [List.drop_eq_nil_of_le hj] at h; rw [h]; show j + 0 = j; omega
  · rw [List.drop_eq_nil_of_le hj, lcp_nil] at h; rw [h]; omega
theorem L_get {s : ByteArray} {j : Nat} (h : j < s.size) : (L s)[j]? = some (s[j]'h) := by
  show s.data.toList[j]? = _
  rw [Array.getElem?_toList]
  exact Array.getElem?_eq_getElem h
set_option maxHeartbeats 16000000 in
set_option maxRecDepth 1000000 in
theorem i2_wp {gr k hn hc pn pc : Nat} {s pp : ByteArray} {H P : Option Addr} (w : World) (gc : Nat) (vals : List Value) (hO : OBJ w gc 52 vals []) (sb pre : ByteArray) (h2 : vals[2]? = some (.string pre)) (hsz : sb.size ≤ 1000000) (Q : Exit → Act → World → Prop) {a : Act} (ha : P4 gr k hn hc pn pc s pp H P gc sb pre.size 0 (min sb.size pre.size) a)
    (hq : ∀ a' w', P3 gr k hn hc pn pc s pp H P gc sb pre.size (lcp (L sb) (L pre)) a' → Below w.heap.size w w' → Q .normal a' w') : Code.wp Try.prog i2 Q a w := by
  have HQ := Aside0.mk hq
  have HO := Aside0.mk hO
  have H2 := Aside0.mk h2
  have HSZ := Aside0.mk hsz
  obtain ⟨m, hm⟩ : ∃ m, m = min sb.size pre.size := ⟨_, rfl⟩
  rw [← hm] at ha
  have HM := Aside0.mk hm
  clear hq hO h2 hsz hm
  obtain ⟨x, rfl⟩ := ha.lit
  clear ha
  conv => arg 2; whnf
  go_wp2
  go_loopw [16] (fun v16 wr => ∃ j : Nat, v16 = .int .i64 (j : Int) ∧ Aside0 (j ≤ m) ∧ Aside0 (lcp (L sb) (L pre) = j + lcp ((L sb).drop j) ((L pre).drop j)) ∧ Aside0 (Below w.heap.size w wr)) (fun v16 _ => m - natV v16)
  case atStart => exact ⟨0, rfl, ⟨Nat.zero_le _⟩, ⟨by simp⟩, ⟨Below.refl _ _⟩⟩
  case round =>
    obtain ⟨j, rfl, HJ, HE, HB⟩ := hrel
    have c2 := (HO.out.below HB.out).cell 2 _ H2.out
    by_cases hj : j < m
    · have b2 : decide ((j : Int) < (m : Int)) = true := decide_eq_true (by omega)
      have hj1 : j < sb.size := by have := HM.out; omega
      have hj2 : j < pre.size := by have := HM.out; omega
      have p1 : (0 ≤ (j : Int)) = True := eq_true (by omega)
      have q1 : ((j : Int) < (sb.size : Int)) = True := eq_true (by omega)
      have q2 : ((j : Int) < (pre.size : Int)) = True := eq_true (by omega)
      have wx := wrap_succ hj (by have := HM.out; have := HSZ.out; omega)
      by_cases hxy : (sb[j]'hj1) = (pre[j]'hj2)
      · have be : ((((sb[j]'hj1).toNat : Nat) : Int) == (((pre[j]'hj2).toNat : Nat) : Int)) = true := by rw [hxy]; exact beq_self_eq_true _
        have HE2 := Aside0.mk (lcp_step (L_get hj1) (by rw [hxy]; exact L_get hj2) HE.out)
        clear hxy
        refine wp_seq (wp_seq ?_)
        go_quiet (fail)
        go_wp2
        go_roundw
        case measure => simp only [natV]; try rw [wx]
                        omega
        case rel => exact ⟨j + 1, by first | rfl | rw [← wx], ⟨by omega⟩, HE2, ⟨pw_below_drewN HB.out _⟩⟩
      · have be : ((((sb[j]'hj1).toNat : Nat) : Int) == (((pre[j]'hj2).toNat : Nat) : Int)) = false := beq_eq_false_iff_ne.2 (fun e => hxy (UInt8.toNat_inj.1 (Int.ofNat_inj.1 e)))
        have HE2 := Aside0.mk (lcp_stop (L_get hj1) (L_get hj2) hxy HE.out)
        clear hxy
        rw [HE2.out] at HQ
        refine wp_seq (wp_seq ?_)
        go_quiet (fail)
        go_wp2
        exact HQ.out _ _ ⟨⟨rfl, rfl, rfl, rfl, rfl, rfl, rfl, rfl⟩, rfl, rfl, rfl, rfl, rfl⟩ (pw_below_drewN HB.out _)
    · have b2 : decide ((j : Int) < (m : Int)) = false := decide_eq_false (by omega)
      have HE2 := Aside0.mk (lcp_end (j := j) (by rw [← size_L, ← size_L]; have := HM.out; have := HJ.out; omega) HE.out)
      rw [HE2.out] at HQ
      refine wp_seq (wp_seq ?_)
      go_quiet (fail)
      go_wp2
      exact HQ.out _ _ ⟨⟨rfl, rfl, rfl, rfl, rfl, rfl, rfl, rfl⟩, rfl, rfl, rfl, rfl, rfl⟩ (pw_below_drewN HB.out _)
end Go.Proofs.Ytekjffooblcmnaa.Q
end
section
namespace Go.Proofs.Ytekjffooblcmnaa.Q
open Go.RowKit Go.Proofs.YtekjffooblcmnaaW.PrintWords Go.Proofs.YtekjffooblcmnaaW.PrintLast Go.Proofs.YtekjffooblcmnaaW.PrintMore
open Go.Proofs.YtekjffooblcmnaaKit (L size_L)
open Go.Proofs.Ytekjffooblcmnaa.Cd
open Go.Proofs.Ytekjffooblcmnaa.SpA (toI toI_length toI_append)
open Go.Proofs.Ytekjffooblcmnaa.Ob
open Go.Proofs.Ytekjffooblcmnaa.Rh (ptr NR HT Own Srt ncell Got DR)
open Go.Proofs.Ytekjffooblcmnaa.Rt (Nd Dat Tb Ch Str lcp Inv)
set_option linter.unusedVariables false
set_option linter.unusedSimpArgs false
variable [Go.Proofs.Ytekjffooblcmnaa.Rh.Blk]
open Go.Proofs.Ytekjffooblcmnaa.Rh (got_set)
open Go.Proofs.Ytekjffooblcmnaa.Rt (put rep ins kidL lcp)
def PC (gr k hn hc pn pc : Nat) (s pp : ByteArray) (H P : Option Addr) (gc : Nat) (sb : ByteArray) (i : Nat) (a : Act) : Prop := PF gr k hn hc pn pc s pp H P a ∧ a.tmps.getD 12 undef = .pointer (some ⟨gc, 0, none⟩) ∧ a.tmps.getD 13 undef = .string sb ∧ a.tmps.getD 16 undef = .int .i64 (i : Int)
set_option maxHeartbeats 4000000 in
set_option maxRecDepth 1000000 in
theorem PC.lit {gr k hn hc pn pc : Nat} {s pp : ByteArray} {H P : Option Addr} {gc : Nat} {sb : ByteArray} {i : Nat} {a : Act} (h : PC gr k hn hc pn pc s pp H P gc sb i a) : ∃ x : Nat → Value, a = ⟨#[.pointer (some ⟨gr, 0, none⟩), .string s, .slice H hn hc, .int .u8 (k : Int), .string pp, .slice P pn pc, x 6, x 7, x 8, x 9, x 10, x 11, .pointer (some ⟨gc, 0, none⟩), .string sb, x 14, x 15, .int .i64 (i : Int), x 17, x 18, x 19, x 20, x 21, x 22, x 23, x 24, x 25, x 26, x 27, x 28, x 29, x 30, x 31, x 32, x 33, x 34, x 35, x 36, x 37, x 38, x 39, x 40, x 41, x 42, x 43, x 44, x 45, x 46, x 47, x 48, x 49, x 50, x 51, x 52, x 53, x 54, x 55, x 56, x 57, x 58, x 59, x 60, x 61, x 62, x 63, x 64, x 65, x 66, x 67, x 68, x 69, x 70, x 71, x 72, x 73, x 74, x 75, x 76, x 77, x 78, x 79, x 80, x 81, x 82, x 83, x 84, x 85, x 86, x 87, x 88, x 89, x 90, x 91, x 92, x 93, x 94, x 95, x 96, x 97, x 98, x 99, x 100, x 101, x 102, x 103, x 104, x 105, x 106, x 107, x 108, x 109, x 110, x 111, x 112, x 113, x 114, x 115, x 116, x 117, x 118, x 119, x 120, x 121, x 122, x 123, x 124, x 125, x 126, x 127, x 128, x 129, x 130, x 131, x 132, x 133, x 134, x 135, x 136, x 137, x 138, x 139, x 140, x 141, x 142, x 143, x 144, x 145, x 146, x 147, x 148, x 149, x 150, x 151, x 152, x 153, x 154, x 155, x 156, x 157, x 158, x 159, x 160, x 161, x 162, x 163, x 164, x 165, x 166, x 167, x 168, x 169, x 170, x 171, x 172, x 173, x 174, x 175, x 176, x 177, x 178, x 179, x 180, x 181, x 182, x 183, x 184, x 185, x 186, x 187, x 188, x 189, x 190, x 191, x 192, x 193, x 194, x 195, x 196, x 197, x 198, x 199, x 200, x 201, x 202, x 203, x 204, x 205, x 206, x 207, x 208, x 209, x 210, x 211, x 212, x 213, x 214, x 215, x 216, x 217, x 218, x 219, x 220, x 221, x 222, x 223, x 224, x 225, x 226, x 227, x 228, x 229, x 230, x 231, x 232, x 233, x 234, x 235, x 236, x 237, x 238, x 239, x 240, x 241, x 242, x 243, x 244, x 245, x 246, x 247, x 248, x 249, x 250, x 251, x 252, x 253, x 254, x 255, x 256, x 257, x 258, x 259, x 260, x 261, x 262, x 263, x 264, x 265, x 266, x 267, x 268, x 269, x 270, x 271, x 272, x 273, x 274, x 275, x 276, x 277, x 278, x 279, x 280, x 281, x 282, x 283, x 284, x 285, x 286, x 287, x 288, x 289, x 290, x 291, x 292, x 293, x 294, x 295, x 296, x 297, x 298, x 299, x 300, x 301, x 302, x 303, x 304, x 305, x 306, x 307, x 308, x 309, x 310, x 311, x 312, x 313, x 314, x 315, x 316, x 317, x 318, x 319, x 320, x 321, x 322, x 323, x 324, x 325, x 326, x 327, x 328, x 329, x 330, x 331, x 332, x 333, x 334, x 335, x 336, x 337, x 338, x 339, x 340, x 341, x 342, x 343, x 344, x 345, x 346, x 347, x 348, x 349, x 350, x 351, x 352, x 353, x 354, x 355, x 356, x 357, x 358, x 359, x 360, x 361, x 362, x 363, x 364, x 365, x 366, x 367, x 368, x 369, x 370, x 371, x 372, x 373, x 374, x 375, x 376, x 377, x 378, x 379, x 380, x 381, x 382, x 383, x 384, x 385, x 386, x 387, x 388, x 389, x 390, x 391, x 392], []⟩ := by
  obtain ⟨⟨h1, h2, a0, a1, a2, a3, a4, a5⟩, a12, a13, a16⟩ := h
  obtain ⟨x, e, hx⟩ := frame 393 a h1 h2
  rw [← hx _ (by decide)] at a0 a1 a2 a3 a4 a5 a12 a13 a16
  refine ⟨x, ?_⟩
  rw [e, frame393, a0, a1, a2, a3, a4, a5, a12, a13, a16]
def PD (gr k hn hc pn pc : Nat) (s pp : ByteArray) (H P : Option Addr) (gc : Nat) (a : Act) : Prop := PF gr k hn hc pn pc s pp H P a ∧ a.tmps.getD 12 undef = .pointer (some ⟨gc, 0, none⟩)
set_option maxHeartbeats 4000000 in
set_option maxRecDepth 1000000 in
theorem PD.lit {gr k hn hc pn pc : Nat} {s pp : ByteArray} {H P : Option Addr} {gc : Nat} {a : Act} (h : PD gr k hn hc pn pc s pp H P gc a) : ∃ x : Nat → Value, a = ⟨#[.pointer (some ⟨gr, 0, none⟩), .string s, .slice H hn hc, .int .u8 (k : Int), .string pp, .slice P pn pc, x 6, x 7, x 8, x 9, x 10, x 11, .pointer (some ⟨gc, 0, none⟩), x 13, x 14, x 15, x 16, x 17, x 18, x 19, x 20, x 21, x 22, x 23, x 24, x 25, x 26, x 27, x 28, x 29, x 30, x 31, x 32, x 33, x 34, x 35, x 36, x 37, x 38, x 39, x 40, x 41, x 42, x 43, x 44, x 45, x 46, x 47, x 48, x 49, x 50, x 51, x 52, x 53, x 54, x 55, x 56, x 57, x 58, x 59, x 60, x 61, x 62, x 63, x 64, x 65, x 66, x 67, x 68, x 69, x 70, x 71, x 72, x 73, x 74, x 75, x 76, x 77, x 78, x 79, x 80, x 81, x 82, x 83, x 84, x 85, x 86, x 87, x 88, x 89, x 90, x 91, x 92, x 93, x 94, x 95, x 96, x 97, x 98, x 99, x 100, x 101, x 102, x 103, x 104, x 105, x 106, x 107, x 108, x 109, x 110, x 111, x 112, x 113, x 114, x 115, x 116, x 117, x 118, x 119, x 120, x 121, x 122, x 123, x 124, x 125, x 126, x 127, x 128, x 129, x 130, x 131, x 132, x 133, x 134, x 135, x 136, x 137, x 138, x 139, x 140, x 141, x 142, x 143, x 144, x 145, x 146, x 147, x 148, x 149, x 150, x 151, x 152, x 153, x 154, x 155, x 156, x 157, x 158, x 159, x 160, x 161, x 162, x 163, x 164, x 165, x 166, x 167, x 168, x 169, x 170, x 171, x 172, x 173, x 174, x 175, x 176, x 177, x 178, x 179, x 180, x 181, x 182, x 183, x 184, x 185, x 186, x 187, x 188, x 189, x 190, x 191, x 192, x 193, x 194, x 195, x 196, x 197, x 198, x 199, x 200, x 201, x 202, x 203, x 204, x 205, x 206, x 207, x 208, x 209, x 210, x 211, x 212, x 213, x 214, x 215, x 216, x 217, x 218, x 219, x 220, x 221, x 222, x 223, x 224, x 225, x 226, x 227, x 228, x 229, x 230, x 231, x 232, x 233, x 234, x 235, x 236, x 237, x 238, x 239, x 240, x 241, x 242, x 243, x 244, x 245, x 246, x 247, x 248, x 249, x 250, x 251, x 252, x 253, x 254, x 255, x 256, x 257, x 258, x 259, x 260, x 261, x 262, x 263, x 264, x 265, x 266, x 267, x 268, x 269, x 270, x 271, x 272, x 273, x 274, x 275, x 276, x 277, x 278, x 279, x 280, x 281, x 282, x 283, x 284, x 285, x 286, x 287, x 288, x 289, x 290, x 291, x 292, x 293, x 294, x 295, x 296, x 297, x 298, x 299, x 300, x 301, x 302, x 303, x 304, x 305, x 306, x 307, x 308, x 309, x 310, x 311, x 312, x 313, x 314, x 315, x 316, x 317, x 318, x 319, x 320, x 321, x 322, x 323, x 324, x 325, x 326, x 327, x 328, x 329, x 330, x 331, x 332, x 333, x 334, x 335, x 336, x 337, x 338, x 339, x 340, x 341, x 342, x 343, x 344, x 345, x 346, x 347, x 348, x 349, x 350, x 351, x 352, x 353, x 354, x 355, x 356, x 357, x 358, x 359, x 360, x 361, x 362, x 363, x 364, x 365, x 366, x 367, x 368, x 369, x 370, x 371, x 372, x 373, x 374, x 375, x 376, x 377, x 378, x 379, x 380, x 381, x 382, x 383, x 384, x 385, x 386, x 387, x 388, x 389, x 390, x 391, x 392], []⟩ := by
  obtain ⟨⟨h1, h2, a0, a1, a2, a3, a4, a5⟩, a12⟩ := h
  obtain ⟨x, e, hx⟩ := frame 393 a h1 h2
  rw [← hx _ (by decide)] at a0 a1 a2 a3 a4 a5 a12
  refine ⟨x, ?_⟩
  rw [e, frame393, a0, a1, a2, a3, a4, a5, a12]
set_option maxHeartbeats 16000000 in
set_option maxRecDepth 1000000 in
theorem i12_wp {gr k hn hc pn pc : Nat} {s pp : ByteArray} {H P : Option Addr} (w : World) (gc : Nat) (sb : ByteArray) (n i : Nat) (Q : Exit → Act → World → Prop) {a : Act} (ha : P3 gr k hn hc pn pc s pp H P gc sb n i a)
    (hq : ∀ a', P3 gr k hn hc pn pc s pp H P gc sb n i a' → a'.eval (.tmp 61) = .bool (decide (i = 0)) → Q .normal a' w) : Code.wp Try.prog i12 Q a w := by
  have HQ := Aside0.mk hq
  clear hq
  obtain ⟨x, rfl⟩ := ha.lit
  clear ha
  by_cases he : i = 0
  · have hb : (((i : Nat) : Int) == 0) = true := by simp [he]
    have hd : decide (i = 0) = true := decide_eq_true he
    rw [hd] at HQ
    clear he hd
    conv => arg 2; whnf
    go_wp2
    exact HQ.out _ ⟨⟨rfl, rfl, rfl, rfl, rfl, rfl, rfl, rfl⟩, rfl, rfl, rfl, rfl, rfl⟩ (by first | rfl | exact congrArg Value.bool (decide_eq_true he))
  · have hb : (((i : Nat) : Int) == 0) = false := beq_eq_false_iff_ne.2 (fun e => he (by omega))
    have hd : decide (i = 0) = false := decide_eq_false he
    rw [hd] at HQ
    clear he hd
    conv => arg 2; whnf
    go_wp2
    exact HQ.out _ ⟨⟨rfl, rfl, rfl, rfl, rfl, rfl, rfl, rfl⟩, rfl, rfl, rfl, rfl, rfl⟩ (by first | rfl | exact congrArg Value.bool (decide_eq_false he))
set_option maxHeartbeats 16000000 in
set_option maxRecDepth 1000000 in
theorem i21_wp {gr k hn hc pn pc : Nat} {s pp : ByteArray} {H P : Option Addr} (w : World) (gc : Nat) (sb : ByteArray) (n i : Nat) (Q : Exit → Act → World → Prop) {a : Act} (ha : P3 gr k hn hc pn pc s pp H P gc sb n i a)
    (hq : ∀ a', P3 gr k hn hc pn pc s pp H P gc sb n i a' → a'.eval (.tmp 113) = .bool (decide (i < n)) → Q .normal a' w) : Code.wp Try.prog i21 Q a w := by
  have HQ := Aside0.mk hq
  clear hq
  obtain ⟨x, rfl⟩ := ha.lit
  clear ha
  by_cases he : i < n
  · have hb : decide ((i : Int) < (n : Int)) = true := decide_eq_true (by omega)
    have hd : decide (i < n) = true := decide_eq_true he
    rw [hd] at HQ
    clear hd
    conv => arg 2; whnf
    go_wp2
    exact HQ.out _ ⟨⟨rfl, rfl, rfl, rfl, rfl, rfl, rfl, rfl⟩, rfl, rfl, rfl, rfl, rfl⟩ (by first | rfl | exact congrArg Value.bool (decide_eq_true he))
  · have hb : decide ((i : Int) < (n : Int)) = false := decide_eq_false (by omega)
    have hd : decide (i < n) = false := decide_eq_false he
    rw [hd] at HQ
    clear hd
    conv => arg 2; whnf
    go_wp2
    exact HQ.out _ ⟨⟨rfl, rfl, rfl, rfl, rfl, rfl, rfl, rfl⟩, rfl, rfl, rfl, rfl, rfl⟩ (by first | rfl | exact congrArg Value.bool (decide_eq_false he))
set_option maxHeartbeats 16000000 in
set_option maxRecDepth 1000000 in
theorem i51_wp {gr k hn hc pn pc : Nat} {s pp : ByteArray} {H P : Option Addr} (w : World) (gc : Nat) (sb : ByteArray) (n i : Nat) (Q : Exit → Act → World → Prop) {a : Act} (ha : P3 gr k hn hc pn pc s pp H P gc sb n i a)
    (hq : ∀ a', P3 gr k hn hc pn pc s pp H P gc sb n i a' → a'.eval (.tmp 301) = .bool (decide (i < sb.size)) → Q .normal a' w) : Code.wp Try.prog i51 Q a w := by
  have HQ := Aside0.mk hq
  clear hq
  obtain ⟨x, rfl⟩ := ha.lit
  clear ha
  by_cases he : i < sb.size
  · have hb : decide ((i : Int) < (sb.size : Int)) = true := decide_eq_true (by omega)
    have hd : decide (i < sb.size) = true := decide_eq_true he
    rw [hd] at HQ
    clear hd
    conv => arg 2; whnf
    go_wp2
    exact HQ.out _ ⟨⟨rfl, rfl, rfl, rfl, rfl, rfl, rfl, rfl⟩, rfl, rfl, rfl, rfl, rfl⟩ (by first | rfl | exact congrArg Value.bool (decide_eq_true he))
  · have hb : decide ((i : Int) < (sb.size : Int)) = false := decide_eq_false (by omega)
    have hd : decide (i < sb.size) = false := decide_eq_false he
    rw [hd] at HQ
    clear hd
    conv => arg 2; whnf
    go_wp2
    exact HQ.out _ ⟨⟨rfl, rfl, rfl, rfl, rfl, rfl, rfl, rfl⟩, rfl, rfl, rfl, rfl, rfl⟩ (by first | rfl | exact congrArg Value.bool (decide_eq_false he))
theorem P3.pg {gr k hn hc pn pc : Nat} {s pp : ByteArray} {H P : Option Addr} {gc : Nat} {sb : ByteArray} {n i : Nat} {a : Act} (h : P3 gr k hn hc pn pc s pp H P gc sb n i a) : PG gr k hn hc pn pc s pp H P gc sb i (a.tmps.getD 18 undef) a :=
  ⟨h.1, h.2.1, h.2.2.1, h.2.2.2.1, h.2.2.2.2.2, rfl⟩
structure Fit (t : Tb) (n1 n2 : Nat) : Prop where
  kids : ∀ b nd, t b = some nd → nd.kids.length ≤ 1000000
  pre : ∀ b nd, t b = some nd → nd.pre.length ≤ 1000000
  f1 : t n1 = none
  f2 : t n2 = none
  ne : n1 ≠ n2
  c1 : Cl t n1
  c2 : Cl t n2
  ch : ∀ b nd x, t b = some nd → Ch nd x → x ≠ b ∧ t x ≠ none
  kid : ∀ b nd x, t b = some nd → x ∈ nd.kids → ∃ m, t x = some m ∧ m.pre ≠ []
theorem lcp_le : ∀ (a b : Str), lcp a b ≤ a.length ∧ lcp a b ≤ b.length
  | [], b => ⟨Nat.le_refl _, Nat.zero_le _⟩
  | x :: a, [] => ⟨Nat.zero_le _, Nat.le_refl _⟩
  | x :: a, y :: b => by
    have h := lcp_le a b
    show (if x = y then lcp a b + 1 else 0) ≤ _ ∧ (if x = y then lcp a b + 1 else 0) ≤ _
    split <;> simp <;> omega
theorem put_self {t : Tb} {b : Nat} {nd : Nd} (h : t b = some nd) : put t b nd = t := by
  funext x
  unfold put
  by_cases e : x = b
  · rw [if_pos e, e, h]
  · rw [if_neg e]
theorem kidL_ch {t : Tb} {nd : Nd} {c : UInt8} {b : Nat} (h : kidL t nd c = some b) : Ch nd b := by
  unfold Go.Proofs.Ytekjffooblcmnaa.Rt.kidL at h
  split at h
  · next q e =>
    cases h
    exact .inl (List.mem_of_find?_eq_some e)
  · split at h
    · exact .inr (.inl h)
    · split at h
      · exact .inr (.inr h)
      · cases h
set_option maxHeartbeats 4000000 in
theorem round_wp {gr k hn hc pn pc : Nat} {s pp : ByteArray} {H P : Option Addr} (w : World) {t t' : Tb} {φ : Nat → Nat} {K : Nat → Value} (h : HT w t φ K) {cur n1 n2 : Nat} {nd : Nd} (hb : t cur = some nd) (F : Fit t n1 n2) (sb : ByteArray) (hp0 : 0 < sb.size) (hsz : sb.size ≤ 1000000) (hk3 : k = 0 ∨ k = 1 ∨ k = 2) {o : Option Dat} (hd : DR w o pp (.slice P pn pc) (.slice H hn hc)) (hpp : pp.size ≤ 1000000) {f : Nat} {bad : Bool} (hin : ins (f + 1) t cur (L sb) k o n1 n2 = some (t', bad)) (Q : Exit → Act → World → Prop) {a : Act} (ha : P0 gr k hn hc pn pc s pp H P (φ cur) sb a)
    (hret : bad = false → ∀ a' W' φ' K', a'.defers = [] → Got w W' t t' φ φ' K K' → Q .ret a' W')
    (hpan : bad = true → ∀ u pv a' W', a'.defers = [] → Below w.heap.size w W' → Q (.panic [{ v := .iface u pv, recovered := false }]) a' W')
    (hnext : ∀ b m sb' a' W', t b = some m → ins f t b (L sb') k o n1 n2 = some (t', bad) → 0 < sb'.size → sb'.size < sb.size → P0 gr k hn hc pn pc s pp H P (φ b) sb' a' → Below w.heap.size w W' → Q .normal a' W') :
    Code.wp Try.prog iL Q a w := by
  have n0 := h.node cur nd hb
  obtain ⟨lab, pre, pp0, pv0, hv0, lf0, hO, hpre, hlab, hDR, hrow⟩ := n0.obj
  have hps : pre.size = nd.pre.length := by rw [← hpre]; exact (size_L pre)
  have hLp : L pre = nd.pre := hpre
  rw [iL_eq]
  refine wp_block ?_
  refine wp_seq (i4_wp w (φ cur) sb _ ha fun a1 g1 => ?_)
  show Code.wp Try.prog _ _ a1 w
  refine wp_seq (i5_wp w (φ cur) sb pre (hO.cell 2 _ rfl) _ g1 fun a2 g2 => ?_)
  show Code.wp Try.prog _ _ a2 w
  refine wp_seq (i6_wp w (φ cur) sb _ _ g2 fun a3 g3 => ?_)
  show Code.wp Try.prog _ _ a3 w
  refine wp_seq (i7_wp w (φ cur) sb _ _ _ g3 fun a4 g4 => ?_)
  show Code.wp Try.prog _ _ a4 w
  refine wp_seq (i8_wp w (φ cur) sb _ _ _ g4 fun a5 g5 => ?_)
  show Code.wp Try.prog _ _ a5 w
  refine wp_seq (i2_wp w (φ cur) _ hO sb pre rfl hsz _ g5 fun a6 w' g6 b6 => ?_)
  show Code.wp Try.prog _ _ a6 w'
  rw [hLp, hps] at g6
  have h' := h.below b6
  have hd' := hd.below b6
  have hO' := hO.below b6
  obtain ⟨i, hi⟩ : ∃ i, i = lcp (L sb) nd.pre := ⟨_, rfl⟩
  have hle := lcp_le (L sb) nd.pre
  rw [← hi] at g6 hle
  rw [← size_L] at hle
  have hin2 : ins (f + 1) t cur (L sb) k o n1 n2 = some (t', bad) := hin
  unfold Go.Proofs.Ytekjffooblcmnaa.Rt.ins at hin
  rw [hb] at hin
  simp only [← hi] at hin
  have fin : ∀ a' W' φ' K', bad = false → a'.defers = [] → Got w' W' t t' φ φ' K K' → (Code.ret).wp Try.prog (Exit.inBlock 1 Q) a' W' := fun a' W' φ' K' e hdf G => wp_ret (hret e a' W' φ' K' hdf (G.from_ b6))
  refine wp_seq (wp_seq (i12_wp w' (φ cur) sb _ i _ g6 fun a7 g7 e7 => wp_cond e7 ?_))
  by_cases c0 : i = 0
  · rw [decide_eq_true c0, if_pos rfl]
    rw [if_pos c0] at hin
    obtain ⟨rfl, rfl⟩ := Prod.mk.inj (Option.some.inj hin)
    exact iA_wp w' h' hb sb hp0 i hd' _ _ g7.pg fun a' W' hdf G => fin a' W' _ _ rfl hdf G
  · rw [decide_eq_false c0, if_neg (by decide)]
    rw [if_neg c0] at hin
    refine wp_seq (i21_wp w' (φ cur) sb _ i _ g7 fun a8 g8 e8 => wp_cond e8 ?_)
    by_cases c1 : i < nd.pre.length
    · rw [decide_eq_true c1, if_pos rfl]
      rw [if_pos c1] at hin
      refine iB_wp w' h' hb F.f1 F.f2 F.ne F.c1 F.c2 (F.ch cur nd · hb) (F.kids cur nd hb) (F.pre cur nd hb) sb i (by omega) c1 hle.1 hd' _ _ g8.pg ?_ ?_
      · intro e a' W' φ' K' hdf G
        rw [if_pos (by rw [e, size_L])] at hin
        obtain ⟨rfl, rfl⟩ := Prod.mk.inj (Option.some.inj hin)
        exact fin a' W' _ _ rfl hdf G
      · intro e a' W' φ' K' hdf G
        rw [if_neg (by rw [← size_L]; omega)] at hin
        obtain ⟨rfl, rfl⟩ := Prod.mk.inj (Option.some.inj hin)
        exact fin a' W' _ _ rfl hdf G
    · rw [decide_eq_false c1, if_neg (by decide)]
      rw [if_neg c1] at hin
      refine wp_seq (i51_wp w' (φ cur) sb _ i _ g8 fun a9 g9 e9 => wp_cond e9 ?_)
      by_cases c2 : i < sb.size
      · rw [decide_eq_true c2, if_pos rfl]
        rw [if_pos (by rw [← size_L]; exact c2)] at hin
        have hdl : ((L sb).drop i).length = sb.size - i := by rw [List.length_drop, ← size_L]
        obtain ⟨c, r, hcr⟩ : ∃ c r, (L sb).drop i = c :: r := by
          cases hq : (L sb).drop i with
          | nil => rw [hq] at hdl; simp at hdl; omega
          | cons c r => exact ⟨c, r, rfl⟩
        simp only [hcr, List.head?_cons] at hin
        obtain ⟨x, ex⟩ := (show PC gr k hn hc pn pc s pp H P (φ cur) sb i a9 from ⟨g9.1, g9.2.1, g9.2.2.1, g9.2.2.2.2.2⟩).lit
        rw [ex]
        refine iC_wp x gr k hn hc pn pc s pp H P w' h' hb (F.kid cur nd · hb) (F.kids cur nd hb) F.f1 F.c1 sb i c2 hsz hk3 hd' _ c r hcr ?_ ?_
        · intro b hkb a' pf s12 s13
          rw [hkb] at hin
          obtain ⟨m, hm⟩ : ∃ m, t b = some m := by
            cases hq : t b with
            | none => exact absurd hq (F.ch cur nd b hb (kidL_ch hkb)).2
            | some m => exact ⟨m, rfl⟩
          show Exit.inBlock 1 Q (.exit 1) a' w'
          refine hnext b m (sb.extract i sb.size) a' w' hm ?_ ?_ ?_ ⟨pf, s12, s13⟩ b6
          · rw [L_drop, hcr]; exact hin
          · rw [ByteArray.size_extract]; omega
          · rw [ByteArray.size_extract]; omega
        · intro hkb a' W' φ' K' hdf G
          rw [hkb] at hin
          obtain ⟨rfl, rfl⟩ := Prod.mk.inj (Option.some.inj hin)
          rw [hcr] at G
          exact fin a' W' _ _ rfl hdf G
      · rw [decide_eq_false c2, if_neg (by decide)]
        rw [if_neg (by rw [← size_L]; exact c2)] at hin
        obtain ⟨⟨A7, n7, m7, rfl⟩, A6, n6, m6, rfl⟩ := hDR.slices
        have hA := dr_some hDR
        have hH := dr_some hd
        obtain ⟨x, ex⟩ := (show PD gr k hn hc pn pc s pp H P (φ cur) a9 from ⟨g9.1, g9.2.1⟩).lit
        rw [ex]
        refine iD_wp x gr k hn hc pn pc s pp H P (φ cur) w' _ A7 n7 m7 hO' ⟨_, rfl⟩ ⟨_, rfl⟩ rfl _ ?_ ?_ ?_ hpp
        · intro hs7 hsH a' u pv W' hdf hbl
          rw [if_pos (by rw [← hA, ← hH, hs7, hsH]; rfl)] at hin
          obtain ⟨rfl, rfl⟩ := Prod.mk.inj (Option.some.inj hin)
          exact hpan rfl u pv a' W' hdf (below_step b6 hbl)
        · intro hs7 hsH a' hdf
          rw [if_neg (by rw [← hA, hs7]; simp)] at hin
          rw [← hH, hsH, if_pos rfl] at hin
          obtain ⟨rfl, rfl⟩ := Prod.mk.inj (Option.some.inj hin)
          exact fin a' _ _ _ rfl hdf (got_set h' hb hd')
        · intro hsH a' hdf
          have ho : o.isSome = false := by rw [← hH, hsH]; rfl
          rw [if_neg (by rw [ho]; simp)] at hin
          rw [ho, if_neg (by decide), put_self hb] at hin
          obtain ⟨rfl, rfl⟩ := Prod.mk.inj (Option.some.inj hin)
          exact fin a' _ _ _ rfl hdf (Go.Proofs.Ytekjffooblcmnaa.Rh.Got.refl h')
end Go.Proofs.Ytekjffooblcmnaa.Q
end
section
namespace Go.Proofs.Ytekjffooblcmnaa.Q
open Go.RowKit Go.Proofs.YtekjffooblcmnaaW.PrintWords Go.Proofs.YtekjffooblcmnaaW.PrintLast Go.Proofs.YtekjffooblcmnaaW.PrintMore
open Go.Proofs.YtekjffooblcmnaaKit (L size_L)
open Go.Proofs.Ytekjffooblcmnaa.Cd
open Go.Proofs.Ytekjffooblcmnaa.SpA (toI toI_length toI_append)
open Go.Proofs.Ytekjffooblcmnaa.Ob
open Go.Proofs.Ytekjffooblcmnaa.Rh (ptr NR HT Own Srt ncell Got DR)
open Go.Proofs.Ytekjffooblcmnaa.Rt (Nd Dat Tb Ch Str lcp Inv)
set_option linter.unusedVariables false
set_option linter.unusedSimpArgs false
variable [Go.Proofs.Ytekjffooblcmnaa.Rh.Blk]
open Go.Proofs.Ytekjffooblcmnaa.Rt (put ins)
def sizeV : Value → Nat
  | .string s => s.size
  | _ => 0
def InsPost (w : World) (t t' : Tb) (φ : Nat → Nat) (K : Nat → Value) (bad : Bool) (e : Ending) (w' : World) : Prop :=
  (bad = true ∧ (∃ u pv, e = .panicked [{ v := .iface u pv, recovered := false }]) ∧ Below w.heap.size w w') ∨ (bad = false ∧ e = .returned (.tuple #[]) ∧ ∃ φ' K', Got w w' t t' φ φ' K K')
def InsInv (t t' : Tb) (φ : Nat → Nat) (k : Nat) (o : Option Dat) (n1 n2 : Nat) (bad : Bool) (w : World) (gr hn hc pn pc : Nat) (s pp : ByteArray) (H P : Option Addr) (a : Act) (w' : World) : Prop :=
  ∃ cur nd sb f, P0 gr k hn hc pn pc s pp H P (φ cur) sb a ∧ t cur = some nd ∧ ins f t cur (L sb) k o n1 n2 = some (t', bad) ∧ 0 < sb.size ∧ sb.size ≤ s.size ∧ Below w.heap.size w w'
set_option maxHeartbeats 16000000 in
set_option maxRecDepth 1000000 in
theorem loop_wp (w : World) {t t' : Tb} {φ : Nat → Nat} {K : Nat → Value} (h : HT w t φ K) {n1 n2 : Nat} (F : Fit t n1 n2) {gr k hn hc pn pc : Nat} {s pp : ByteArray} {H P : Option Addr} (hsz : s.size ≤ 1000000) (hk3 : k = 0 ∨ k = 1 ∨ k = 2) {o : Option Dat} (hd : DR w o pp (.slice P pn pc) (.slice H hn hc)) (hpp : pp.size ≤ 1000000) {bad : Bool} (Q : Exit → Act → World → Prop) {a : Act} {w0 : World} (hI : InsInv t t' φ k o n1 n2 bad w gr hn hc pn pc s pp H P a w0)
    (hret : bad = false → ∀ a' W' φ' K', a'.defers = [] → Got w W' t t' φ φ' K K' → Q .ret a' W')
    (hpan : bad = true → ∀ u pv a' W', a'.defers = [] → Below w.heap.size w W' → Q (.panic [{ v := .iface u pv, recovered := false }]) a' W') :
    Code.wp Try.prog (.loop iL) Q a w0 := by
  refine wp_loop (InsInv t t' φ k o n1 n2 bad w gr hn hc pn pc s pp H P) (fun a _ => sizeV (a.tmps.getD 13 undef)) hI ?_
  rintro a1 w1 ⟨cur, nd, sb, f, p0, hc, hin, h0, hs, hbl⟩
  cases f with
  | zero => cases hin
  | succ f =>
  refine round_wp w1 (h.below hbl) hc F sb h0 (by omega) hk3 (hd.below hbl) hpp hin _ p0 ?_ ?_ ?_
  · intro e a' W' φ' K' hdf G
    exact hret e a' W' φ' K' hdf (G.from_ hbl)
  · intro e u pv a' W' hdf hb2
    exact hpan e u pv a' W' hdf (below_step hbl hb2)
  · intro b m sb' a' W' hm hin' h0' hlt p0' hb2
    refine ⟨⟨b, m, sb', f, p0', hm, hin', h0', by omega, below_step hbl hb2⟩, ?_⟩
    show sizeV (a'.tmps.getD 13 undef) < sizeV (a1.tmps.getD 13 undef)
    rw [p0'.2.2, p0.2.2]
    exact hlt
set_option maxHeartbeats 16000000 in
set_option maxRecDepth 1000000 in
theorem insert_calls (w : World) {t t' : Tb} {φ : Nat → Nat} {K : Nat → Value} (h : HT w t φ K) {n1 n2 : Nat} (F : Fit t n1 n2) (h0 : ∃ nd, t 0 = some nd) (gr : Nat) (hr : w.cell? ⟨gr, 1, none⟩ = some (.pointer (some ⟨φ 0, 0, none⟩))) (s pp : ByteArray) (hs0 : 0 < s.size) (hsz : s.size ≤ 1000000) (hpp : pp.size ≤ 1000000) (k : Nat) (hk3 : k = 0 ∨ k = 1 ∨ k = 2) (o : Option Dat) (H P : Option Addr) (hn hc pn pc : Nat) (hd : DR w o pp (.slice P pn pc) (.slice H hn hc))
    (f : Nat) (bad : Bool) (hi : ins f t 0 (L s) k o n1 n2 = some (t', bad)) :
    Calls Try.prog 22 #[.pointer (some ⟨gr, 0, none⟩), .string s, .slice H hn hc, .int .u8 (k : Int), .string pp, .slice P pn pc] w (InsPost w t t' φ K bad) := by
  obtain ⟨nd, h0⟩ := h0
  have HH := Aside0.mk h
  have HF := Aside0.mk F
  have H0 := Aside0.mk h0
  have HS0 := Aside0.mk hs0
  have HSZ := Aside0.mk hsz
  have HPP := Aside0.mk hpp
  have HK3 := Aside0.mk hk3
  have HD := Aside0.mk hd
  have HI := Aside0.mk hi
  clear h F h0 hs0 hsz hpp hk3 hd hi
  go_enter Try.func22, Try.ntmps22
  go_upto_block 0 with (fail)
  refine wp_block ?_
  change Code.wp Try.prog (.loop iL) _ _ _
  refine loop_wp w HH.out HF.out (gr := gr) (k := k) (hn := hn) (hc := hc) (pn := pn) (pc := pc) (s := s) (pp := pp) (H := H) (P := P) HSZ.out HK3.out HD.out HPP.out _ ⟨0, nd, s, f, ⟨⟨rfl, rfl, rfl, rfl, rfl, rfl, rfl, rfl⟩, rfl, rfl⟩, H0.out, HI.out, HS0.out, Nat.le_refl _, Below.refl _ _⟩ ?_ ?_
  · intro e a' W' φ' K' hdf G
    exact bodyPost_ret (results_none rfl _ _ _) hdf (.inr ⟨e, rfl, φ', K', G⟩)
  · intro e u pv a' W' hdf hb
    exact ⟨hdf, .inl ⟨e, ⟨u, pv, rfl⟩, hb⟩⟩
end Go.Proofs.Ytekjffooblcmnaa.Q
end
