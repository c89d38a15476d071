/- FnUriMade: the law's function, called with any arguments, returns true and leaves its arguments as they were: every input, no condition. Part 9 of 11. -/
import Derived.Test.YtbkeakeldegkeaaZFnUriMade7
import Derived.Test.YtbkeakeldegkeaaZFnUriMade6
import Derived.Deep.RegionWith
import Derived.Test.YtbkeakeldegkeaaZFnUriMade1
section
namespace Go.Proofs.Ytbkeakeldegkeaa.Q
open Go.RowKit Go.Proofs.YtbkeakeldegkeaaW.PrintWords Go.Proofs.YtbkeakeldegkeaaW.PrintLast Go.Proofs.YtbkeakeldegkeaaW.PrintMore
open Go.Proofs.YtbkeakeldegkeaaKit (L size_L)
open Go.Proofs.Ytbkeakeldegkeaa.SpA (toI toI_length toI_append lowU UR SEP quoteP)
open Go.Proofs.Ytbkeakeldegkeaa.Ob
set_option linter.unusedVariables false
set_option linter.unusedSimpArgs false
def RowSet (w : World) (g : Nat) (v0 : Value) (i : Nat) (vals : List Value) (rows : List (Option (Bool × List UInt8))) (l : List UInt8) (e : Ending) (w' : World) : Prop := e = .returned (.tuple #[]) ∧ ∃ A n c, OBJ w' g 54 (vals.set i (.slice A n c)) (rows.set i (some (true, l))) ∧ Only (fun j => j = g ∨ v0.ownBlock = some j) w w' ∧ ∀ k, (Value.slice A n c).ownBlock = some k → v0.ownBlock = some k ∨ w.heap.size ≤ k
set_option maxHeartbeats 8000000 in
set_option maxRecDepth 100000 in
theorem setHash_calls (w : World) (g : Nat) (vals : List Value) (rows : List (Option (Bool × List UInt8))) (l : List UInt8) (A : Option Addr) (n c : Nat) (y : ByteArray) (h : OBJ w g 54 vals rows) (hr : rows[4]? = some (some (true, l))) (hv : vals[4]? = some (.slice A n c)) (hy : y.size ≤ 2147483647) :
    Calls Try.prog 49 #[.pointer (some ⟨g, 0, none⟩), .string y] w (RowSet w g (.slice A n c) 4 vals rows y.data.toList) := by
  obtain ⟨i0, hi0, _, hsz0, _⟩ := info_parts info5
  obtain ⟨u, hu, hb⟩ := h.row 4 true l hr
  rw [hv] at hu
  cases hu
  have c0 := h.cell 4 _ hv
  have HCUT := cut0_run (P := Try.prog) Try.underlying49 hi0 A n c 0 (0 : Int) rfl (Nat.zero_le _)
  have hlen : 4 < vals.length := by rcases Nat.lt_or_ge 4 vals.length with h1 | h1; exact h1; rw [List.getElem?_eq_none h1] at hv; cases hv
  have hrl : 4 < rows.length := by rcases Nat.lt_or_ge 4 rows.length with h1 | h1; exact h1; rw [List.getElem?_eq_none h1] at hr; cases hr
  have hsame : (Value.slice A 0 c).ownBlock = (Value.slice A n c).ownBlock := by cases A <;> rfl
  have H := Aside0.mk h
  have HR := Aside0.mk hr
  have HV := Aside0.mk hv
  have HB := Aside0.mk (BV.cut0 hb.bv)
  have HY := Aside0.mk hy
  have HYL : Aside0 (y.data.toList.length ≤ 2147483647) := ⟨by have e : y.data.toList.length = y.size := (size_L y).symm; omega⟩
  have HLEN := Aside0.mk hlen
  have HRL := Aside0.mk hrl
  have HSAME := Aside0.mk hsame
  clear h hr hv hb hy hi0 hsz0 hlen hrl hsame
  go_enter Try.func49, Try.ntmps49
  go_wp2_with ((with_reducible refine gate_builtin (b := .append) (xs := #[.tmp 9, .tmp 10]) rfl ?_); at_builtin; refine apps_BV rfl (.tmp 9) (.tmp 10) 49 9 rfl Try.underlying49 Try.underlying9 info5 (.slice A 0 c) [] y rfl rfl HB.out (by have := HY.out; simp; omega) ?_; intro v1 w1 h1 h2 h3; obtain ⟨A1, n1, m1, rfl⟩ := h1.form; obtain ⟨h4, h5⟩ := H.out.refill (by decide) 4 HR.out HV.out HSAME.out h2 h3; have c1 := h4.cell 4 _ HV.out; have z1 := h4.fz 4; have H1 := Aside0.mk h1; have H2 := Aside0.mk h2; have H3 := Aside0.mk h3; have H4 := Aside0.mk h4; have H5 := Aside0.mk h5; clear h1 h2 h3 h4 h5)
  go_end0
  have hob : OBJ (w1.setCell ⟨g, 4, none⟩ (.slice A1 n1 m1)) g 54 (vals.set 4 (.slice A1 n1 m1)) (rows.set 4 (some (true, y.data.toList))) := OBJ.restore (by decide) 4 HLEN.out H4.out H5.out (BV.rw (by have := H1.out; rwa [List.nil_append] at this))
  have hon : Only (fun j => j = g ∨ (Value.slice A n c).ownBlock = some j) w (w1.setCell ⟨g, 4, none⟩ (.slice A1 n1 m1)) := Only.set (S := fun j => j = g ∨ (Value.slice A n c).ownBlock = some j) (H2.out.mono fun k _ hk => .inr (by rw [← HSAME.out]; exact hk)) (.inl (.inl rfl)) _ _
  exact ⟨rfl, A1, n1, m1, hob, hon, (fun k hk => by rcases H3.out with e | ⟨b, e, hb⟩; exact .inl (by rw [← HSAME.out, ← e]; exact hk); rw [e] at hk; cases hk; exact .inr hb)⟩
set_option maxHeartbeats 8000000 in
set_option maxRecDepth 100000 in
theorem setUser_calls (w : World) (g : Nat) (vals : List Value) (rows : List (Option (Bool × List UInt8))) (l : List UInt8) (A : Option Addr) (n c : Nat) (y : ByteArray) (h : OBJ w g 54 vals rows) (hr : rows[12]? = some (some (true, l))) (hv : vals[12]? = some (.slice A n c)) (hy : y.size ≤ 2147483647) :
    Calls Try.prog 50 #[.pointer (some ⟨g, 0, none⟩), .string y] w (RowSet w g (.slice A n c) 12 vals rows y.data.toList) := by
  obtain ⟨i0, hi0, _, hsz0, _⟩ := info_parts info5
  obtain ⟨u, hu, hb⟩ := h.row 12 true l hr
  rw [hv] at hu
  cases hu
  have c0 := h.cell 12 _ hv
  have HCUT := cut0_run (P := Try.prog) Try.underlying49 hi0 A n c 0 (0 : Int) rfl (Nat.zero_le _)
  have hlen : 12 < vals.length := by rcases Nat.lt_or_ge 12 vals.length with h1 | h1; exact h1; rw [List.getElem?_eq_none h1] at hv; cases hv
  have hrl : 12 < rows.length := by rcases Nat.lt_or_ge 12 rows.length with h1 | h1; exact h1; rw [List.getElem?_eq_none h1] at hr; cases hr
  have hsame : (Value.slice A 0 c).ownBlock = (Value.slice A n c).ownBlock := by cases A <;> rfl
  have H := Aside0.mk h
  have HR := Aside0.mk hr
  have HV := Aside0.mk hv
  have HB := Aside0.mk (BV.cut0 hb.bv)
  have HY := Aside0.mk hy
  have HYL : Aside0 (y.data.toList.length ≤ 2147483647) := ⟨by have e : y.data.toList.length = y.size := (size_L y).symm; omega⟩
  have HLEN := Aside0.mk hlen
  have HRL := Aside0.mk hrl
  have HSAME := Aside0.mk hsame
  clear h hr hv hb hy hi0 hsz0 hlen hrl hsame
  go_enter Try.func50, Try.ntmps50
  go_wp2_with ((with_reducible refine gate_builtin (b := .append) (xs := #[.tmp 9, .tmp 10]) rfl ?_); at_builtin; refine apps_BV rfl (.tmp 9) (.tmp 10) 49 9 rfl Try.underlying49 Try.underlying9 info5 (.slice A 0 c) [] y rfl rfl HB.out (by have := HY.out; simp; omega) ?_; intro v1 w1 h1 h2 h3; obtain ⟨A1, n1, m1, rfl⟩ := h1.form; obtain ⟨h4, h5⟩ := H.out.refill (by decide) 12 HR.out HV.out HSAME.out h2 h3; have c1 := h4.cell 12 _ HV.out; have z1 := h4.fz 12; have H1 := Aside0.mk h1; have H2 := Aside0.mk h2; have H3 := Aside0.mk h3; have H4 := Aside0.mk h4; have H5 := Aside0.mk h5; clear h1 h2 h3 h4 h5)
  go_end0
  have hob : OBJ (w1.setCell ⟨g, 12, none⟩ (.slice A1 n1 m1)) g 54 (vals.set 12 (.slice A1 n1 m1)) (rows.set 12 (some (true, y.data.toList))) := OBJ.restore (by decide) 12 HLEN.out H4.out H5.out (BV.rw (by have := H1.out; rwa [List.nil_append] at this))
  have hon : Only (fun j => j = g ∨ (Value.slice A n c).ownBlock = some j) w (w1.setCell ⟨g, 12, none⟩ (.slice A1 n1 m1)) := Only.set (S := fun j => j = g ∨ (Value.slice A n c).ownBlock = some j) (H2.out.mono fun k _ hk => .inr (by rw [← HSAME.out]; exact hk)) (.inl (.inl rfl)) _ _
  exact ⟨rfl, A1, n1, m1, hob, hon, (fun k hk => by rcases H3.out with e | ⟨b, e, hb⟩; exact .inl (by rw [← HSAME.out, ← e]; exact hk); rw [e] at hk; cases hk; exact .inr hb)⟩
set_option maxHeartbeats 8000000 in
set_option maxRecDepth 100000 in
theorem setPass_calls (w : World) (g : Nat) (vals : List Value) (rows : List (Option (Bool × List UInt8))) (l : List UInt8) (A : Option Addr) (n c : Nat) (y : ByteArray) (h : OBJ w g 54 vals rows) (hr : rows[13]? = some (some (true, l))) (hv : vals[13]? = some (.slice A n c)) (hy : y.size ≤ 2147483647) :
    Calls Try.prog 51 #[.pointer (some ⟨g, 0, none⟩), .string y] w (RowSet w g (.slice A n c) 13 vals rows y.data.toList) := by
  obtain ⟨i0, hi0, _, hsz0, _⟩ := info_parts info5
  obtain ⟨u, hu, hb⟩ := h.row 13 true l hr
  rw [hv] at hu
  cases hu
  have c0 := h.cell 13 _ hv
  have HCUT := cut0_run (P := Try.prog) Try.underlying49 hi0 A n c 0 (0 : Int) rfl (Nat.zero_le _)
  have hlen : 13 < vals.length := by rcases Nat.lt_or_ge 13 vals.length with h1 | h1; exact h1; rw [List.getElem?_eq_none h1] at hv; cases hv
  have hrl : 13 < rows.length := by rcases Nat.lt_or_ge 13 rows.length with h1 | h1; exact h1; rw [List.getElem?_eq_none h1] at hr; cases hr
  have hsame : (Value.slice A 0 c).ownBlock = (Value.slice A n c).ownBlock := by cases A <;> rfl
  have H := Aside0.mk h
  have HR := Aside0.mk hr
  have HV := Aside0.mk hv
  have HB := Aside0.mk (BV.cut0 hb.bv)
  have HY := Aside0.mk hy
  have HYL : Aside0 (y.data.toList.length ≤ 2147483647) := ⟨by have e : y.data.toList.length = y.size := (size_L y).symm; omega⟩
  have HLEN := Aside0.mk hlen
  have HRL := Aside0.mk hrl
  have HSAME := Aside0.mk hsame
  clear h hr hv hb hy hi0 hsz0 hlen hrl hsame
  go_enter Try.func51, Try.ntmps51
  go_wp2_with ((with_reducible refine gate_builtin (b := .append) (xs := #[.tmp 9, .tmp 10]) rfl ?_); at_builtin; refine apps_BV rfl (.tmp 9) (.tmp 10) 49 9 rfl Try.underlying49 Try.underlying9 info5 (.slice A 0 c) [] y rfl rfl HB.out (by have := HY.out; simp; omega) ?_; intro v1 w1 h1 h2 h3; obtain ⟨A1, n1, m1, rfl⟩ := h1.form; obtain ⟨h4, h5⟩ := H.out.refill (by decide) 13 HR.out HV.out HSAME.out h2 h3; have c1 := h4.cell 13 _ HV.out; have z1 := h4.fz 13; have H1 := Aside0.mk h1; have H2 := Aside0.mk h2; have H3 := Aside0.mk h3; have H4 := Aside0.mk h4; have H5 := Aside0.mk h5; clear h1 h2 h3 h4 h5)
  go_end0
  have hob : OBJ (w1.setCell ⟨g, 13, none⟩ (.slice A1 n1 m1)) g 54 (vals.set 13 (.slice A1 n1 m1)) (rows.set 13 (some (true, y.data.toList))) := OBJ.restore (by decide) 13 HLEN.out H4.out H5.out (BV.rw (by have := H1.out; rwa [List.nil_append] at this))
  have hon : Only (fun j => j = g ∨ (Value.slice A n c).ownBlock = some j) w (w1.setCell ⟨g, 13, none⟩ (.slice A1 n1 m1)) := Only.set (S := fun j => j = g ∨ (Value.slice A n c).ownBlock = some j) (H2.out.mono fun k _ hk => .inr (by rw [← HSAME.out]; exact hk)) (.inl (.inl rfl)) _ _
  exact ⟨rfl, A1, n1, m1, hob, hon, (fun k hk => by rcases H3.out with e | ⟨b, e, hb⟩; exact .inl (by rw [← HSAME.out, ← e]; exact hk); rw [e] at hk; cases hk; exact .inr hb)⟩
set_option maxHeartbeats 8000000 in
set_option maxRecDepth 100000 in
theorem setQuery_calls (w : World) (g : Nat) (vals : List Value) (rows : List (Option (Bool × List UInt8))) (l : List UInt8) (A : Option Addr) (n c : Nat) (y : ByteArray) (h : OBJ w g 54 vals rows) (hr : rows[3]? = some (some (true, l))) (hv : vals[3]? = some (.slice A n c)) (hr8 : ∀ l, rows[8]? ≠ some (some l)) (hv8 : vals[8]? = some (.bool false)) (hy : y.size ≤ 2147483647) :
    Calls Try.prog 48 #[.pointer (some ⟨g, 0, none⟩), .string y] w (RowSet w g (.slice A n c) 3 vals rows y.data.toList) := by
  obtain ⟨i0, hi0, _, hsz0, _⟩ := info_parts info5
  obtain ⟨u, hu, hb⟩ := h.row 3 true l hr
  rw [hv] at hu
  cases hu
  have c0 := h.cell 3 _ hv
  have HCUT := cut0_run (P := Try.prog) Try.underlying49 hi0 A n c 0 (0 : Int) rfl (Nat.zero_le _)
  have hlen : 3 < vals.length := by rcases Nat.lt_or_ge 3 vals.length with h1 | h1; exact h1; rw [List.getElem?_eq_none h1] at hv; cases hv
  have hrl : 3 < rows.length := by rcases Nat.lt_or_ge 3 rows.length with h1 | h1; exact h1; rw [List.getElem?_eq_none h1] at hr; cases hr
  have hsame : (Value.slice A 0 c).ownBlock = (Value.slice A n c).ownBlock := by cases A <;> rfl
  have H := Aside0.mk h
  have HR := Aside0.mk hr
  have HV := Aside0.mk hv
  have HB := Aside0.mk (BV.cut0 hb.bv)
  have HY := Aside0.mk hy
  have HYL : Aside0 (y.data.toList.length ≤ 2147483647) := ⟨by have e : y.data.toList.length = y.size := (size_L y).symm; omega⟩
  have HLEN := Aside0.mk hlen
  have HRL := Aside0.mk hrl
  have HSAME := Aside0.mk hsame
  have HR8 := Aside0.mk hr8
  have HV8 := Aside0.mk hv8
  clear hr8 hv8
  clear h hr hv hb hy hi0 hsz0 hlen hrl hsame
  go_enter Try.func48, Try.ntmps48
  go_wp2_with ((with_reducible refine gate_builtin (b := .append) (xs := #[.tmp 9, .tmp 10]) rfl ?_); at_builtin; refine apps_BV rfl (.tmp 9) (.tmp 10) 49 9 rfl Try.underlying49 Try.underlying9 info5 (.slice A 0 c) [] y rfl rfl HB.out (by have := HY.out; simp; omega) ?_; intro v1 w1 h1 h2 h3; obtain ⟨A1, n1, m1, rfl⟩ := h1.form; obtain ⟨h4, h5⟩ := H.out.refill (by decide) 3 HR.out HV.out HSAME.out h2 h3; have c1 := h4.cell 3 _ HV.out; have z1 := h4.fz 3; have c8 := h4.cell 8 _ HV8.out; have z8 := h4.fz 8; have H1 := Aside0.mk h1; have H2 := Aside0.mk h2; have H3 := Aside0.mk h3; have H4 := Aside0.mk h4; have H5 := Aside0.mk h5; clear h1 h2 h3 h4 h5)
  go_end0
  have hob : OBJ (w1.setCell ⟨g, 3, none⟩ (.slice A1 n1 m1)) g 54 (vals.set 3 (.slice A1 n1 m1)) (rows.set 3 (some (true, y.data.toList))) := OBJ.restore (by decide) 3 HLEN.out H4.out H5.out (BV.rw (by have := H1.out; rwa [List.nil_append] at this))
  have hon : Only (fun j => j = g ∨ (Value.slice A n c).ownBlock = some j) w (w1.setCell ⟨g, 3, none⟩ (.slice A1 n1 m1)) := Only.set (S := fun j => j = g ∨ (Value.slice A n c).ownBlock = some j) (H2.out.mono fun k _ hk => .inr (by rw [← HSAME.out]; exact hk)) (.inl (.inl rfl)) _ _
  have hr8 : ∀ l, (rows.set 3 (some (true, y.data.toList)))[8]? ≠ some (some l) := fun l => by rw [List.getElem?_set, if_neg (by decide)]; exact HR8.out l
  have hv8 : (vals.set 3 (.slice A1 n1 m1))[8]? = some (.bool false) := by rw [List.getElem?_set, if_neg (by decide)]; exact HV8.out
  refine ⟨rfl, A1, n1, m1, OBJ_same hob (by decide) 8 _ hv8, hon.set (.inl (.inl rfl)) _ _, (fun k hk => by rcases H3.out with e | ⟨b, e, hb⟩; exact .inl (by rw [← HSAME.out, ← e]; exact hk); rw [e] at hk; cases hk; exact .inr hb)⟩
set_option maxHeartbeats 8000000 in
set_option maxRecDepth 100000 in
theorem setScheme_calls (w : World) (g : Nat) (vals : List Value) (rows : List (Option (Bool × List UInt8))) (l : List UInt8) (A : Option Addr) (n c : Nat) (y : ByteArray) (h : OBJ w g 54 vals rows) (hr : rows[1]? = some (some (true, l))) (hv : vals[1]? = some (.slice A n c)) (hy : y.size ≤ 2147483647) :
    Calls Try.prog 45 #[.pointer (some ⟨g, 0, none⟩), .string y] w (RowSet w g (.slice A n c) 1 vals rows (y.data.toList.map lowU)) := by
  obtain ⟨i0, hi0, _, hsz0, _⟩ := info_parts info5
  obtain ⟨u, hu, hb⟩ := h.row 1 true l hr
  rw [hv] at hu
  cases hu
  have c0 := h.cell 1 _ hv
  have HCUT := cut0_run (P := Try.prog) Try.underlying49 hi0 A n c 0 (0 : Int) rfl (Nat.zero_le _)
  have hlen : 1 < vals.length := by rcases Nat.lt_or_ge 1 vals.length with h1 | h1; exact h1; rw [List.getElem?_eq_none h1] at hv; cases hv
  have hrl : 1 < rows.length := by rcases Nat.lt_or_ge 1 rows.length with h1 | h1; exact h1; rw [List.getElem?_eq_none h1] at hr; cases hr
  have hsame : (Value.slice A 0 c).ownBlock = (Value.slice A n c).ownBlock := by cases A <;> rfl
  have H := Aside0.mk h
  have HR := Aside0.mk hr
  have HV := Aside0.mk hv
  have HB := Aside0.mk (BV.cut0 hb.bv)
  have HY := Aside0.mk hy
  have HYL : Aside0 (y.data.toList.length ≤ 2147483647) := ⟨by have e : y.data.toList.length = y.size := (size_L y).symm; omega⟩
  have HLEN := Aside0.mk hlen
  have HRL := Aside0.mk hrl
  have HSAME := Aside0.mk hsame
  clear h hr hv hb hy hi0 hsz0 hlen hrl hsame
  go_enter Try.func45, Try.ntmps45
  go_wp2_with (first | ((with_reducible refine gate_builtin (b := .append) (xs := #[.tmp 9, .tmp 10]) rfl ?_); at_builtin; refine apps_BV rfl (.tmp 9) (.tmp 10) 49 9 rfl Try.underlying49 Try.underlying9 info5 (.slice A 0 c) [] y rfl rfl HB.out (by have := HY.out; simp; omega) ?_; intro v1 w1 h1 h2 h3; obtain ⟨A1, n1, m1, rfl⟩ := h1.form; obtain ⟨h4, h5⟩ := H.out.refill (by decide) 1 HR.out HV.out HSAME.out h2 h3; have c1 := h4.cell 1 _ HV.out; have z1 := h4.fz 1; have H1 := Aside0.mk h1; have H2 := Aside0.mk h2; have H3 := Aside0.mk h3; have H4 := Aside0.mk h4; have H5 := Aside0.mk h5; clear h1 h2 h3 h4 h5) | ((with_reducible refine gate_callee (f := 73) rfl ?_); refine goesL_ (some 18) rfl rfl Try.func73 (by kernel_rfl) rfl #[.slice A1 n1 m1] rfl (by (try simp only [List.map_toArray, List.map_cons, List.map_nil]); first | done | rfl) ?_; have hob : OBJ (w1.setCell ⟨g, 1, none⟩ (.slice A1 n1 m1)) g 54 (vals.set 1 (.slice A1 n1 m1)) (rows.set 1 (some (true, y.data.toList))) := OBJ.restore (by decide) 1 HLEN.out H4.out H5.out (BV.rw (by have := H1.out; rwa [List.nil_append] at this)); have hon : Only (fun j => j = g ∨ (Value.slice A n c).ownBlock = some j) w (w1.setCell ⟨g, 1, none⟩ (.slice A1 n1 m1)) := Only.set (S := fun j => j = g ∨ (Value.slice A n c).ownBlock = some j) (H2.out.mono fun k _ hk => .inr (by rw [← HSAME.out]; exact hk)) (.inl (.inl rfl)) _ _; have hv1 : (vals.set 1 (.slice A1 n1 m1))[1]? = some (.slice A1 n1 m1) := List.getElem?_set_self HLEN.out; have hr1 : (rows.set 1 (some (true, y.data.toList)))[1]? = some (some (true, y.data.toList)) := List.getElem?_set_self HRL.out; obtain ⟨u1, hu1, hb1⟩ := hob.row 1 true _ hr1; rw [hv1] at hu1; cases hu1; refine (lowercase_calls _ A1 n1 m1 _ hb1.bv (by have := HYL.out; omega)).mono ?_; rintro e w6 ⟨rfl, hbv, hon2⟩; refine ⟨_, rfl, ?_⟩; have hob2 := OBJ.turn hob (by decide) hr1 hv1 hon2 hbv; rw [List.set_set] at hob2; have HO := Aside0.mk hob2; have HON := Aside0.mk hon; have HON2 := Aside0.mk hon2; clear hob hon hv1 hr1 hb1 hbv hon2 hob2))
  go_end0
  have hown : ∀ k, (Value.slice A1 n1 m1).ownBlock = some k → (Value.slice A n c).ownBlock = some k ∨ w.heap.size ≤ k := (fun k hk => by rcases H3.out with e | ⟨b, e, hb⟩; exact .inl (by rw [← HSAME.out, ← e]; exact hk); rw [e] at hk; cases hk; exact .inr hb)
  exact ⟨rfl, A1, n1, m1, HO.out, HON.out.trans HON2.out (fun k hk e => by rcases hown k e with e2 | e2; exact .inr e2; omega), hown⟩
set_option maxHeartbeats 8000000 in
set_option maxRecDepth 100000 in
theorem setHost_calls (w : World) (g : Nat) (vals : List Value) (rows : List (Option (Bool × List UInt8))) (l : List UInt8) (A : Option Addr) (n c : Nat) (y : ByteArray) (h : OBJ w g 54 vals rows) (hr : rows[5]? = some (some (true, l))) (hv : vals[5]? = some (.slice A n c)) (hy : y.size ≤ 2147483647) :
    Calls Try.prog 46 #[.pointer (some ⟨g, 0, none⟩), .string y] w (RowSet w g (.slice A n c) 5 vals rows (y.data.toList.map lowU)) := by
  obtain ⟨i0, hi0, _, hsz0, _⟩ := info_parts info5
  obtain ⟨u, hu, hb⟩ := h.row 5 true l hr
  rw [hv] at hu
  cases hu
  have c0 := h.cell 5 _ hv
  have HCUT := cut0_run (P := Try.prog) Try.underlying49 hi0 A n c 0 (0 : Int) rfl (Nat.zero_le _)
  have hlen : 5 < vals.length := by rcases Nat.lt_or_ge 5 vals.length with h1 | h1; exact h1; rw [List.getElem?_eq_none h1] at hv; cases hv
  have hrl : 5 < rows.length := by rcases Nat.lt_or_ge 5 rows.length with h1 | h1; exact h1; rw [List.getElem?_eq_none h1] at hr; cases hr
  have hsame : (Value.slice A 0 c).ownBlock = (Value.slice A n c).ownBlock := by cases A <;> rfl
  have H := Aside0.mk h
  have HR := Aside0.mk hr
  have HV := Aside0.mk hv
  have HB := Aside0.mk (BV.cut0 hb.bv)
  have HY := Aside0.mk hy
  have HYL : Aside0 (y.data.toList.length ≤ 2147483647) := ⟨by have e : y.data.toList.length = y.size := (size_L y).symm; omega⟩
  have HLEN := Aside0.mk hlen
  have HRL := Aside0.mk hrl
  have HSAME := Aside0.mk hsame
  clear h hr hv hb hy hi0 hsz0 hlen hrl hsame
  go_enter Try.func46, Try.ntmps46
  go_wp2_with (first | ((with_reducible refine gate_builtin (b := .append) (xs := #[.tmp 9, .tmp 10]) rfl ?_); at_builtin; refine apps_BV rfl (.tmp 9) (.tmp 10) 49 9 rfl Try.underlying49 Try.underlying9 info5 (.slice A 0 c) [] y rfl rfl HB.out (by have := HY.out; simp; omega) ?_; intro v1 w1 h1 h2 h3; obtain ⟨A1, n1, m1, rfl⟩ := h1.form; obtain ⟨h4, h5⟩ := H.out.refill (by decide) 5 HR.out HV.out HSAME.out h2 h3; have c1 := h4.cell 5 _ HV.out; have z1 := h4.fz 5; have H1 := Aside0.mk h1; have H2 := Aside0.mk h2; have H3 := Aside0.mk h3; have H4 := Aside0.mk h4; have H5 := Aside0.mk h5; clear h1 h2 h3 h4 h5) | ((with_reducible refine gate_callee (f := 73) rfl ?_); refine goesL_ (some 18) rfl rfl Try.func73 (by kernel_rfl) rfl #[.slice A1 n1 m1] rfl (by (try simp only [List.map_toArray, List.map_cons, List.map_nil]); first | done | rfl) ?_; have hob : OBJ (w1.setCell ⟨g, 5, none⟩ (.slice A1 n1 m1)) g 54 (vals.set 5 (.slice A1 n1 m1)) (rows.set 5 (some (true, y.data.toList))) := OBJ.restore (by decide) 5 HLEN.out H4.out H5.out (BV.rw (by have := H1.out; rwa [List.nil_append] at this)); have hon : Only (fun j => j = g ∨ (Value.slice A n c).ownBlock = some j) w (w1.setCell ⟨g, 5, none⟩ (.slice A1 n1 m1)) := Only.set (S := fun j => j = g ∨ (Value.slice A n c).ownBlock = some j) (H2.out.mono fun k _ hk => .inr (by rw [← HSAME.out]; exact hk)) (.inl (.inl rfl)) _ _; have hv1 : (vals.set 5 (.slice A1 n1 m1))[5]? = some (.slice A1 n1 m1) := List.getElem?_set_self HLEN.out; have hr1 : (rows.set 5 (some (true, y.data.toList)))[5]? = some (some (true, y.data.toList)) := List.getElem?_set_self HRL.out; obtain ⟨u1, hu1, hb1⟩ := hob.row 5 true _ hr1; rw [hv1] at hu1; cases hu1; refine (lowercase_calls _ A1 n1 m1 _ hb1.bv (by have := HYL.out; omega)).mono ?_; rintro e w6 ⟨rfl, hbv, hon2⟩; refine ⟨_, rfl, ?_⟩; have hob2 := OBJ.turn hob (by decide) hr1 hv1 hon2 hbv; rw [List.set_set] at hob2; have HO := Aside0.mk hob2; have HON := Aside0.mk hon; have HON2 := Aside0.mk hon2; clear hob hon hv1 hr1 hb1 hbv hon2 hob2))
  go_end0
  have hown : ∀ k, (Value.slice A1 n1 m1).ownBlock = some k → (Value.slice A n c).ownBlock = some k ∨ w.heap.size ≤ k := (fun k hk => by rcases H3.out with e | ⟨b, e, hb⟩; exact .inl (by rw [← HSAME.out, ← e]; exact hk); rw [e] at hk; cases hk; exact .inr hb)
  exact ⟨rfl, A1, n1, m1, HO.out, HON.out.trans HON2.out (fun k hk e => by rcases hown k e with e2 | e2; exact .inr e2; omega), hown⟩
def PathSet (w : World) (g : Nat) (v0 : Value) (vals : List Value) (rows : List (Option (Bool × List UInt8))) (l : List UInt8) (e : Ending) (w' : World) : Prop := e = .returned (.tuple #[]) ∧ ∃ A n c B m d, OBJ w' g 54 ((vals.set 0 (.slice A n c)).set 2 (.slice B m d)) ((rows.set 0 (some (true, l))).set 2 (some (false, SpA.norm l))) ∧ Only (fun j => j = g ∨ v0.ownBlock = some j) w w' ∧ (∀ k, (Value.slice A n c).ownBlock = some k → v0.ownBlock = some k ∨ w.heap.size ≤ k) ∧ ∀ k, (Value.slice B m d).ownBlock = some k → w.heap.size ≤ k
set_option maxHeartbeats 8000000 in
set_option maxRecDepth 100000 in
theorem setPath_calls (w : World) (g : Nat) (vals : List Value) (rows : List (Option (Bool × List UInt8))) (l : List UInt8) (A : Option Addr) (n c : Nat) (y : ByteArray) (h : OBJ w g 54 vals rows) (hr : rows[0]? = some (some (true, l))) (hv : vals[0]? = some (.slice A n c)) (hr2 : rows[2]? = some (some (false, []))) (hv2 : vals[2]? = some (.slice none 0 0)) (hy : y.size ≤ 2147483647) :
    Calls Try.prog 47 #[.pointer (some ⟨g, 0, none⟩), .string y] w (PathSet w g (.slice A n c) vals rows y.data.toList) := by
  obtain ⟨i0, hi0, _, hsz0, _⟩ := info_parts info5
  obtain ⟨u, hu, hb⟩ := h.row 0 true l hr
  rw [hv] at hu
  cases hu
  have c0 := h.cell 0 _ hv
  have HCUT := cut0_run (P := Try.prog) Try.underlying49 hi0 A n c 0 (0 : Int) rfl (Nat.zero_le _)
  have hlen : 0 < vals.length := by rcases Nat.lt_or_ge 0 vals.length with h1 | h1; exact h1; rw [List.getElem?_eq_none h1] at hv; cases hv
  have hrl : 0 < rows.length := by rcases Nat.lt_or_ge 0 rows.length with h1 | h1; exact h1; rw [List.getElem?_eq_none h1] at hr; cases hr
  have hsame : (Value.slice A 0 c).ownBlock = (Value.slice A n c).ownBlock := by cases A <;> rfl
  have H := Aside0.mk h
  have HR := Aside0.mk hr
  have HV := Aside0.mk hv
  have HB := Aside0.mk (BV.cut0 hb.bv)
  have HY := Aside0.mk hy
  have HYL : Aside0 (y.data.toList.length ≤ 2147483647) := ⟨by have e : y.data.toList.length = y.size := (size_L y).symm; omega⟩
  have HLEN := Aside0.mk hlen
  have HRL := Aside0.mk hrl
  have HSAME := Aside0.mk hsame
  have HR2 := Aside0.mk hr2
  have HV2 := Aside0.mk hv2
  have HL2 : Aside0 (2 < vals.length) := ⟨by rcases Nat.lt_or_ge 2 vals.length with h1 | h1; exact h1; rw [List.getElem?_eq_none h1] at hv2; cases hv2⟩
  clear hr2 hv2
  clear h hr hv hb hy hi0 hsz0 hlen hrl hsame
  go_enter Try.func47, Try.ntmps47
  go_wp2_with ((with_reducible refine gate_builtin (b := .append) (xs := #[.tmp 9, .tmp 10]) rfl ?_); at_builtin; refine apps_BV rfl (.tmp 9) (.tmp 10) 49 9 rfl Try.underlying49 Try.underlying9 info5 (.slice A 0 c) [] y rfl rfl HB.out (by have := HY.out; simp; omega) ?_; intro v1 w1 h1 h2 h3; obtain ⟨A1, n1, m1, rfl⟩ := h1.form; obtain ⟨h4, h5⟩ := H.out.refill (by decide) 0 HR.out HV.out HSAME.out h2 h3; have c1 := h4.cell 0 _ HV.out; have z1 := h4.fz 0; have c2 := h4.cell 2 _ HV2.out; have z2 := h4.fz 2; have H1 := Aside0.mk h1; have H2 := Aside0.mk h2; have H3 := Aside0.mk h3; have H4 := Aside0.mk h4; have H5 := Aside0.mk h5; clear h1 h2 h3 h4 h5)
  go_region_with (go_at_call 74; have hob : OBJ (w1.setCell ⟨g, 0, none⟩ (.slice A1 n1 m1)) g 54 (vals.set 0 (.slice A1 n1 m1)) (rows.set 0 (some (true, y.data.toList))) := OBJ.restore (by decide) 0 HLEN.out H4.out H5.out (BV.rw (by have := H1.out; rwa [List.nil_append] at this)); have hon : Only (fun j => j = g ∨ (Value.slice A n c).ownBlock = some j) w (w1.setCell ⟨g, 0, none⟩ (.slice A1 n1 m1)) := Only.set (S := fun j => j = g ∨ (Value.slice A n c).ownBlock = some j) (H2.out.mono fun k _ hk => .inr (by rw [← HSAME.out]; exact hk)) (.inl (.inl rfl)) _ _; have hv1 : (vals.set 0 (.slice A1 n1 m1))[0]? = some (.slice A1 n1 m1) := List.getElem?_set_self HLEN.out; have hr1 : (rows.set 0 (some (true, y.data.toList)))[0]? = some (some (true, y.data.toList)) := List.getElem?_set_self HRL.out; have hv2 : (vals.set 0 (.slice A1 n1 m1))[2]? = some (.slice none 0 0) := (by rw [List.getElem?_set, if_neg (by decide)]; exact HV2.out); have hr2 : (rows.set 0 (some (true, y.data.toList)))[2]? = some (some (false, [])) := (by rw [List.getElem?_set, if_neg (by decide)]; exact HR2.out); have hd : Below (w1.setCell ⟨g, 0, none⟩ (.slice A1 n1 m1)).heap.size (w1.setCell ⟨g, 0, none⟩ (.slice A1 n1 m1)) (w1.setCell ⟨g, 0, none⟩ (.slice A1 n1 m1)).drew := below_drew1 (Below.refl _ _); have hvw : VW (fun j => (Value.slice none 0 0).ownBlock = some j) (w1.setCell ⟨g, 0, none⟩ (.slice A1 n1 m1)).drew A1 n1 m1 y.data.toList := OBJ.vw (hob.below hd) 0 hr1 hv1 (fun k _ e => by cases e); refine (normInto_nil _ false A1 n1 m1 y.data.toList ⟨.inl ⟨rfl, rfl⟩, Nat.zero_le _⟩ hvw HYL.out).mono ?_; rintro e w9 ⟨Ap, np, cp, rfl, hrw, hon2, hat⟩; obtain ⟨k4, k5⟩ := (hob.below hd).refill (by decide) 2 hr2 hv2 rfl hon2 hat; have e2 := k4.cell 2 _ hv2; have z2b := k4.fz 2; have K1 := Aside0.mk hrw; have K4 := Aside0.mk k4; have K5 := Aside0.mk k5; have K6 := Aside0.mk (hon.trans ((Only.of_below (S := fun _ => False) hd).trans hon2 (fun k _ e => by cases e)) (fun k _ e => e.elim)); have K7 := Aside0.mk hat; have K8 := Aside0.mk hon.size; clear hob hon hv1 hr1 hv2 hr2 hd hvw hrw hon2 hat k4 k5)
  all_goals go_wp2
  all_goals go_end0
  all_goals (
    refine ⟨rfl, A1, n1, m1, Ap, np, cp, OBJ.restore (by decide) 2 (by rw [List.length_set]; exact HL2.out) K4.out K5.out K1.out, K6.out.set (.inl (.inl rfl)) _ _, (fun k hk => by rcases H3.out with e | ⟨b, e, hb⟩; exact .inl (by rw [← HSAME.out, ← e]; exact hk); rw [e] at hk; cases hk; exact .inr hb), fun k hk => ?_⟩
    rcases K7.out with e | ⟨b, e, hb⟩
    · rw [e] at hk; cases hk
    · rw [e] at hk; cases hk
      exact Nat.le_trans K8.out hb)
end Go.Proofs.Ytbkeakeldegkeaa.Q
end
section
namespace Go.Proofs.Ytbkeakeldegkeaa.Q
open Go.RowKit Go.Proofs.YtbkeakeldegkeaaW.PrintWords Go.Proofs.YtbkeakeldegkeaaW.PrintLast Go.Proofs.YtbkeakeldegkeaaW.PrintMore
open Go.Proofs.YtbkeakeldegkeaaKit (L size_L)
open Go.Proofs.Ytbkeakeldegkeaa.SpA (toI toI_length toI_append lowU UR SEP quoteP norm)
open Go.Proofs.Ytbkeakeldegkeaa.Ob
set_option linter.unusedVariables false
set_option linter.unusedSimpArgs false
structure UM (w W : World) (cs : Array Value) (vals : List Value) (rows : List (Option (Bool × List UInt8))) : Prop where
  be : Below w.heap.size w W
  bx : W.heap[w.heap.size]? = some (.cells cs 27 (0, 0))
  ob : OBJ W (w.heap.size + 1) 54 vals rows
  own : ∀ (i : Nat) l v k, rows[i]? = some (some l) → vals[i]? = some v → v.ownBlock = some k → w.heap.size + 2 ≤ k
  sz : w.heap.size + 2 ≤ W.heap.size
section
variable {w W W1 : World} {cs : Array Value} {vals : List Value} {rows : List (Option (Bool × List UInt8))}
theorem UM.keep (h : UM w W cs vals rows) {S : Nat → Prop} (ho : Only S W W1) (hS : ∀ k, S k → k = w.heap.size + 1 ∨ w.heap.size + 2 ≤ k) : Below w.heap.size w W1 ∧ W1.heap[w.heap.size]? = some (.cells cs 27 (0, 0)) ∧ w.heap.size + 2 ≤ W1.heap.size := by
  have := h.sz
  refine ⟨⟨ho.os.trans h.be.os, ho.tape.trans h.be.tape, ho.output.trans h.be.output, Nat.le_trans h.be.size ho.size, fun k hk => (ho.block k (by omega) (fun e => by rcases hS k e with e | e <;> omega)).trans (h.be.block k hk)⟩, (ho.block _ (by omega) (fun e => by rcases hS _ e with e | e <;> omega)).trans h.bx, Nat.le_trans h.sz ho.size⟩
theorem UM.rowset (h : UM w W cs vals rows) {i : Nat} {m : Bool × List UInt8} {v0 : Value} {l : List UInt8} {e : Ending} (hr : rows[i]? = some (some m)) (hv : vals[i]? = some v0) (hp : RowSet W (w.heap.size + 1) v0 i vals rows l e W1) : e = .returned (.tuple #[]) ∧ ∃ A n c, UM w W1 cs (vals.set i (.slice A n c)) (rows.set i (some (true, l))) := by
  obtain ⟨he, A, n, c, hob, hon, hown⟩ := hp
  obtain ⟨k1, k2, k3⟩ := h.keep hon (fun k hk => by rcases hk with e | e; exact .inl e; exact .inr (h.own i m v0 k hr hv e))
  refine ⟨he, A, n, c, k1, k2, hob, fun j q v k hj hjv hk => ?_, k3⟩
  by_cases e : i = j
  · subst e
    have hlen : i < vals.length := by rcases Nat.lt_or_ge i vals.length with h1 | h1; exact h1; rw [List.getElem?_eq_none h1] at hv; cases hv
    rw [List.getElem?_set_self hlen] at hjv
    cases hjv
    rcases hown k hk with e2 | e2
    · exact h.own i m v0 k hr hv e2
    · exact Nat.le_trans h.sz e2
  · rw [List.getElem?_set_ne e] at hj hjv
    exact h.own j q v k hj hjv hk
theorem UM.pathset (h : UM w W cs vals rows) {m : Bool × List UInt8} {v0 v2 : Value} {l : List UInt8} {e : Ending} (hr : rows[0]? = some (some m)) (hv : vals[0]? = some v0) (hv2 : vals[2]? = some v2) (hp : PathSet W (w.heap.size + 1) v0 vals rows l e W1) : e = .returned (.tuple #[]) ∧ ∃ A n c B m d, UM w W1 cs ((vals.set 0 (.slice A n c)).set 2 (.slice B m d)) ((rows.set 0 (some (true, l))).set 2 (some (false, norm l))) := by
  obtain ⟨he, A, n, c, B, m', d, hob, hon, hown, hown2⟩ := hp
  obtain ⟨k1, k2, k3⟩ := h.keep hon (fun k hk => by rcases hk with e | e; exact .inl e; exact .inr (h.own 0 m v0 k hr hv e))
  refine ⟨he, A, n, c, B, m', d, k1, k2, hob, fun j q v k hj hjv hk => ?_, k3⟩
  have hlen : 0 < vals.length := by rcases Nat.lt_or_ge 0 vals.length with h1 | h1; exact h1; rw [List.getElem?_eq_none h1] at hv; cases hv
  have hlen2 : 2 < vals.length := by rcases Nat.lt_or_ge 2 vals.length with h1 | h1; exact h1; rw [List.getElem?_eq_none h1] at hv2; cases hv2
  by_cases e2 : 2 = j
  · subst e2
    rw [List.getElem?_set_self (by rw [List.length_set]; exact hlen2)] at hjv
    cases hjv
    exact Nat.le_trans h.sz (hown2 k hk)
  · rw [List.getElem?_set_ne e2] at hj hjv
    by_cases e : 0 = j
    · subst e
      rw [List.getElem?_set_self hlen] at hjv
      cases hjv
      rcases hown k hk with e3 | e3
      · exact h.own 0 m v0 k hr hv e3
      · exact Nat.le_trans h.sz e3
    · rw [List.getElem?_set_ne e] at hj hjv
      exact h.own j q v k hj hjv hk
end
theorem um_fresh (w : World) (a0 : ByteArray) (a1 : ByteArray) (a2 : ByteArray) (a3 : ByteArray) (a4 : ByteArray) (a5 : ByteArray) (a6 : ByteArray) (a7 : ByteArray) : UM w ((w.alloc (.cells #[.string a0, .string a1, .string a2, .string a3, .string a4, .string a5, .string a6, .string a7] 27)).alloc (.cells #[.slice none 0 0, .slice none 0 0, .slice none 0 0, .slice none 0 0, .slice none 0 0, .slice none 0 0, .slice none 0 0, .slice none 0 0, .bool false, .bool false, .slice none 0 0, .slice none 0 0, .slice none 0 0, .slice none 0 0] 54)) #[.string a0, .string a1, .string a2, .string a3, .string a4, .string a5, .string a6, .string a7] (urV (.slice none 0 0) (.slice none 0 0) (.slice none 0 0) (.slice none 0 0) (.slice none 0 0) (.slice none 0 0) false false (.slice none 0 0) (.slice none 0 0) (.slice none 0 0) (.slice none 0 0)) (urW false [] [] [] [] [] [] [] [] [] []) := by
  refine ⟨below_alloc (below_alloc (Below.refl _ _) _) _, ?_, ?_, ?_, by simp⟩
  · rw [Below.heap_alloc _ _ _ (by simp)]
    exact heap_alloc_new w _
  · refine urZ_obj ?_
    have := heap_alloc_new (w.alloc (.cells #[.string a0, .string a1, .string a2, .string a3, .string a4, .string a5, .string a6, .string a7] 27)) (.cells #[.slice none 0 0, .slice none 0 0, .slice none 0 0, .slice none 0 0, .slice none 0 0, .slice none 0 0, .slice none 0 0, .slice none 0 0, .bool false, .bool false, .slice none 0 0, .slice none 0 0, .slice none 0 0, .slice none 0 0] 54)
    rw [show (w.alloc (.cells #[.string a0, .string a1, .string a2, .string a3, .string a4, .string a5, .string a6, .string a7] 27)).heap.size = w.heap.size + 1 by simp] at this
    exact this
  · intro i l v k hi hv hk
    have h14 : i < 14 := (List.getElem?_eq_some_iff.1 hv).1
    rcases (by omega : i = 0 ∨ i = 1 ∨ i = 2 ∨ i = 3 ∨ i = 4 ∨ i = 5 ∨ i = 6 ∨ i = 7 ∨ i = 8 ∨ i = 9 ∨ i = 10 ∨ i = 11 ∨ i = 12 ∨ i = 13) with rfl | rfl | rfl | rfl | rfl | rfl | rfl | rfl | rfl | rfl | rfl | rfl | rfl | rfl <;> (cases hv; cases hk)
set_option maxHeartbeats 16000000 in
set_option maxRecDepth 100000 in
theorem uriMade_calls (a0 : ByteArray) (a1 : ByteArray) (a2 : ByteArray) (a3 : ByteArray) (a4 : ByteArray) (a5 : ByteArray) (a6 : ByteArray) (a7 : ByteArray) (w : World) (hz : a0.size ≤ 1000000000 ∧ a1.size ≤ 1000000000 ∧ a2.size ≤ 1000000000 ∧ a4.size ≤ 1000000000 ∧ a5.size ≤ 1000000000 ∧ a6.size ≤ 1000000000 ∧ a7.size ≤ 1000000000) :
    Calls Try.prog 26 #[.agg #[.string a0, .string a1, .string a2, .string a3, .string a4, .string a5, .string a6, .string a7]] w fun e w' => e = .returned (.string ⟨(fullL (a0.data.toList.map lowU) (a1.data.toList.map lowU) false a2.data.toList (norm a2.data.toList) a4.data.toList a5.data.toList).toArray⟩) ∧ Below w.heap.size w w' := by
  have HZ := Aside0.mk hz
  have HNL := Aside0.mk (norm_len2 a2.data.toList)
  have HS := Aside0.mk (um_fresh w a0 a1 a2 a3 a4 a5 a6 a7)
  have b0 := (blk_cell HS.out.bx 0).trans rfl
  clear hz
  go_enter Try.func26, Try.ntmps26
  go_wp2_with (first | ((with_reducible refine gate_callee (f := 45) rfl ?_); refine goesL_ (some 6) rfl rfl Try.func45 (by kernel_rfl) rfl #[.pointer (some ⟨w.heap.size + 1, 0, none⟩), .string a0] rfl (by (try simp only [List.map_toArray, List.map_cons, List.map_nil]); first | done | rfl) ?_; refine (setScheme_calls _ (w.heap.size + 1) (urV (.slice none 0 0) (.slice none 0 0) (.slice none 0 0) (.slice none 0 0) (.slice none 0 0) (.slice none 0 0) false false (.slice none 0 0) (.slice none 0 0) (.slice none 0 0) (.slice none 0 0)) (urW false [] [] [] [] [] [] [] [] [] []) [] none 0 0 a0 HS.out.ob rfl rfl (by have := HZ.out; omega)).mono ?_; rintro e w1 hp; obtain ⟨rfl, A1, n1, c1, hu⟩ := HS.out.rowset rfl rfl hp; refine ⟨_, rfl, ?_⟩; have n0_ : Aside0 (UM w w1 #[.string a0, .string a1, .string a2, .string a3, .string a4, .string a5, .string a6, .string a7] (urV (.slice none 0 0) (.slice A1 n1 c1) (.slice none 0 0) (.slice none 0 0) (.slice none 0 0) (.slice none 0 0) false false (.slice none 0 0) (.slice none 0 0) (.slice none 0 0) (.slice none 0 0)) (urW false [] (a0.data.toList.map lowU) [] [] [] [] [] [] [] [])) := ⟨hu⟩; clear HS hp hu; have HS := n0_; clear n0_; have b1 := (blk_cell HS.out.bx 1).trans rfl) | ((with_reducible refine gate_callee (f := 46) rfl ?_); refine goesL_ (some 9) rfl rfl Try.func46 (by kernel_rfl) rfl #[.pointer (some ⟨w.heap.size + 1, 0, none⟩), .string a1] rfl (by (try simp only [List.map_toArray, List.map_cons, List.map_nil]); first | done | rfl) ?_; refine (setHost_calls _ (w.heap.size + 1) (urV (.slice none 0 0) (.slice A1 n1 c1) (.slice none 0 0) (.slice none 0 0) (.slice none 0 0) (.slice none 0 0) false false (.slice none 0 0) (.slice none 0 0) (.slice none 0 0) (.slice none 0 0)) (urW false [] (a0.data.toList.map lowU) [] [] [] [] [] [] [] []) [] none 0 0 a1 HS.out.ob rfl rfl (by have := HZ.out; omega)).mono ?_; rintro e w2 hp; obtain ⟨rfl, A5, n5, c5, hu⟩ := HS.out.rowset rfl rfl hp; refine ⟨_, rfl, ?_⟩; have n0_ : Aside0 (UM w w2 #[.string a0, .string a1, .string a2, .string a3, .string a4, .string a5, .string a6, .string a7] (urV (.slice none 0 0) (.slice A1 n1 c1) (.slice none 0 0) (.slice none 0 0) (.slice none 0 0) (.slice A5 n5 c5) false false (.slice none 0 0) (.slice none 0 0) (.slice none 0 0) (.slice none 0 0)) (urW false [] (a0.data.toList.map lowU) [] [] [] (a1.data.toList.map lowU) [] [] [] [])) := ⟨hu⟩; clear HS hp hu; have HS := n0_; clear n0_; have b2 := (blk_cell HS.out.bx 2).trans rfl) | ((with_reducible refine gate_callee (f := 47) rfl ?_); refine goesL_ (some 12) rfl rfl Try.func47 (by kernel_rfl) rfl #[.pointer (some ⟨w.heap.size + 1, 0, none⟩), .string a2] rfl (by (try simp only [List.map_toArray, List.map_cons, List.map_nil]); first | done | rfl) ?_; refine (setPath_calls _ (w.heap.size + 1) (urV (.slice none 0 0) (.slice A1 n1 c1) (.slice none 0 0) (.slice none 0 0) (.slice none 0 0) (.slice A5 n5 c5) false false (.slice none 0 0) (.slice none 0 0) (.slice none 0 0) (.slice none 0 0)) (urW false [] (a0.data.toList.map lowU) [] [] [] (a1.data.toList.map lowU) [] [] [] []) [] none 0 0 a2 HS.out.ob rfl rfl rfl rfl (by have := HZ.out; omega)).mono ?_; rintro e w3 hp; obtain ⟨rfl, A0, n0, c0, A2, n2, c2, hu⟩ := HS.out.pathset rfl rfl rfl hp; refine ⟨_, rfl, ?_⟩; have n0_ : Aside0 (UM w w3 #[.string a0, .string a1, .string a2, .string a3, .string a4, .string a5, .string a6, .string a7] (urV (.slice A0 n0 c0) (.slice A1 n1 c1) (.slice A2 n2 c2) (.slice none 0 0) (.slice none 0 0) (.slice A5 n5 c5) false false (.slice none 0 0) (.slice none 0 0) (.slice none 0 0) (.slice none 0 0)) (urW false a2.data.toList (a0.data.toList.map lowU) (norm a2.data.toList) [] [] (a1.data.toList.map lowU) [] [] [] [])) := ⟨hu⟩; clear HS hp hu; have HS := n0_; clear n0_; have b4 := (blk_cell HS.out.bx 4).trans rfl) | ((with_reducible refine gate_callee (f := 48) rfl ?_); refine goesL_ (some 15) rfl rfl Try.func48 (by kernel_rfl) rfl #[.pointer (some ⟨w.heap.size + 1, 0, none⟩), .string a4] rfl (by (try simp only [List.map_toArray, List.map_cons, List.map_nil]); first | done | rfl) ?_; refine (setQuery_calls _ (w.heap.size + 1) (urV (.slice A0 n0 c0) (.slice A1 n1 c1) (.slice A2 n2 c2) (.slice none 0 0) (.slice none 0 0) (.slice A5 n5 c5) false false (.slice none 0 0) (.slice none 0 0) (.slice none 0 0) (.slice none 0 0)) (urW false a2.data.toList (a0.data.toList.map lowU) (norm a2.data.toList) [] [] (a1.data.toList.map lowU) [] [] [] []) [] none 0 0 a4 HS.out.ob rfl rfl (by intro l e; cases e) rfl (by have := HZ.out; omega)).mono ?_; rintro e w4 hp; obtain ⟨rfl, A3, n3, c3, hu⟩ := HS.out.rowset rfl rfl hp; refine ⟨_, rfl, ?_⟩; have n0_ : Aside0 (UM w w4 #[.string a0, .string a1, .string a2, .string a3, .string a4, .string a5, .string a6, .string a7] (urV (.slice A0 n0 c0) (.slice A1 n1 c1) (.slice A2 n2 c2) (.slice A3 n3 c3) (.slice none 0 0) (.slice A5 n5 c5) false false (.slice none 0 0) (.slice none 0 0) (.slice none 0 0) (.slice none 0 0)) (urW false a2.data.toList (a0.data.toList.map lowU) (norm a2.data.toList) a4.data.toList [] (a1.data.toList.map lowU) [] [] [] [])) := ⟨hu⟩; clear HS hp hu; have HS := n0_; clear n0_; have b5 := (blk_cell HS.out.bx 5).trans rfl) | ((with_reducible refine gate_callee (f := 49) rfl ?_); refine goesL_ (some 18) rfl rfl Try.func49 (by kernel_rfl) rfl #[.pointer (some ⟨w.heap.size + 1, 0, none⟩), .string a5] rfl (by (try simp only [List.map_toArray, List.map_cons, List.map_nil]); first | done | rfl) ?_; refine (setHash_calls _ (w.heap.size + 1) (urV (.slice A0 n0 c0) (.slice A1 n1 c1) (.slice A2 n2 c2) (.slice A3 n3 c3) (.slice none 0 0) (.slice A5 n5 c5) false false (.slice none 0 0) (.slice none 0 0) (.slice none 0 0) (.slice none 0 0)) (urW false a2.data.toList (a0.data.toList.map lowU) (norm a2.data.toList) a4.data.toList [] (a1.data.toList.map lowU) [] [] [] []) [] none 0 0 a5 HS.out.ob rfl rfl (by have := HZ.out; omega)).mono ?_; rintro e w5 hp; obtain ⟨rfl, A4, n4, c4, hu⟩ := HS.out.rowset rfl rfl hp; refine ⟨_, rfl, ?_⟩; have n0_ : Aside0 (UM w w5 #[.string a0, .string a1, .string a2, .string a3, .string a4, .string a5, .string a6, .string a7] (urV (.slice A0 n0 c0) (.slice A1 n1 c1) (.slice A2 n2 c2) (.slice A3 n3 c3) (.slice A4 n4 c4) (.slice A5 n5 c5) false false (.slice none 0 0) (.slice none 0 0) (.slice none 0 0) (.slice none 0 0)) (urW false a2.data.toList (a0.data.toList.map lowU) (norm a2.data.toList) a4.data.toList a5.data.toList (a1.data.toList.map lowU) [] [] [] [])) := ⟨hu⟩; clear HS hp hu; have HS := n0_; clear n0_; have b6 := (blk_cell HS.out.bx 6).trans rfl) | ((with_reducible refine gate_callee (f := 50) rfl ?_); refine goesL_ (some 21) rfl rfl Try.func50 (by kernel_rfl) rfl #[.pointer (some ⟨w.heap.size + 1, 0, none⟩), .string a6] rfl (by (try simp only [List.map_toArray, List.map_cons, List.map_nil]); first | done | rfl) ?_; refine (setUser_calls _ (w.heap.size + 1) (urV (.slice A0 n0 c0) (.slice A1 n1 c1) (.slice A2 n2 c2) (.slice A3 n3 c3) (.slice A4 n4 c4) (.slice A5 n5 c5) false false (.slice none 0 0) (.slice none 0 0) (.slice none 0 0) (.slice none 0 0)) (urW false a2.data.toList (a0.data.toList.map lowU) (norm a2.data.toList) a4.data.toList a5.data.toList (a1.data.toList.map lowU) [] [] [] []) [] none 0 0 a6 HS.out.ob rfl rfl (by have := HZ.out; omega)).mono ?_; rintro e w6 hp; obtain ⟨rfl, A12, n12, c12, hu⟩ := HS.out.rowset rfl rfl hp; refine ⟨_, rfl, ?_⟩; have n0_ : Aside0 (UM w w6 #[.string a0, .string a1, .string a2, .string a3, .string a4, .string a5, .string a6, .string a7] (urV (.slice A0 n0 c0) (.slice A1 n1 c1) (.slice A2 n2 c2) (.slice A3 n3 c3) (.slice A4 n4 c4) (.slice A5 n5 c5) false false (.slice none 0 0) (.slice none 0 0) (.slice A12 n12 c12) (.slice none 0 0)) (urW false a2.data.toList (a0.data.toList.map lowU) (norm a2.data.toList) a4.data.toList a5.data.toList (a1.data.toList.map lowU) [] [] a6.data.toList [])) := ⟨hu⟩; clear HS hp hu; have HS := n0_; clear n0_; have b7 := (blk_cell HS.out.bx 7).trans rfl) | ((with_reducible refine gate_callee (f := 51) rfl ?_); refine goesL_ (some 24) rfl rfl Try.func51 (by kernel_rfl) rfl #[.pointer (some ⟨w.heap.size + 1, 0, none⟩), .string a7] rfl (by (try simp only [List.map_toArray, List.map_cons, List.map_nil]); first | done | rfl) ?_; refine (setPass_calls _ (w.heap.size + 1) (urV (.slice A0 n0 c0) (.slice A1 n1 c1) (.slice A2 n2 c2) (.slice A3 n3 c3) (.slice A4 n4 c4) (.slice A5 n5 c5) false false (.slice none 0 0) (.slice none 0 0) (.slice A12 n12 c12) (.slice none 0 0)) (urW false a2.data.toList (a0.data.toList.map lowU) (norm a2.data.toList) a4.data.toList a5.data.toList (a1.data.toList.map lowU) [] [] a6.data.toList []) [] none 0 0 a7 HS.out.ob rfl rfl (by have := HZ.out; omega)).mono ?_; rintro e w7 hp; obtain ⟨rfl, A13, n13, c13, hu⟩ := HS.out.rowset rfl rfl hp; refine ⟨_, rfl, ?_⟩; have n0_ : Aside0 (UM w w7 #[.string a0, .string a1, .string a2, .string a3, .string a4, .string a5, .string a6, .string a7] (urV (.slice A0 n0 c0) (.slice A1 n1 c1) (.slice A2 n2 c2) (.slice A3 n3 c3) (.slice A4 n4 c4) (.slice A5 n5 c5) false false (.slice none 0 0) (.slice none 0 0) (.slice A12 n12 c12) (.slice A13 n13 c13)) (urW false a2.data.toList (a0.data.toList.map lowU) (norm a2.data.toList) a4.data.toList a5.data.toList (a1.data.toList.map lowU) [] [] a6.data.toList a7.data.toList)) := ⟨hu⟩; clear HS hp hu; have HS := n0_; clear n0_) | ((with_reducible refine gate_callee (f := 34) rfl ?_); refine goesL_ (some 25) rfl rfl Try.func34 (by kernel_rfl) rfl #[.pointer (some ⟨w.heap.size + 1, 0, none⟩)] rfl (by (try simp only [List.map_toArray, List.map_cons, List.map_nil]); first | done | rfl) ?_; refine (string_calls _ (w.heap.size + 1) (urV (.slice A0 n0 c0) (.slice A1 n1 c1) (.slice A2 n2 c2) (.slice A3 n3 c3) (.slice A4 n4 c4) (.slice A5 n5 c5) false false (.slice none 0 0) (.slice none 0 0) (.slice A12 n12 c12) (.slice A13 n13 c13)) (urW false a2.data.toList (a0.data.toList.map lowU) (norm a2.data.toList) a4.data.toList a5.data.toList (a1.data.toList.map lowU) [] [] a6.data.toList a7.data.toList) HS.out.ob A0 A1 A2 A3 A4 A5 none none n0 c0 n1 c1 n2 c2 n3 c3 n4 c4 n5 c5 0 0 0 0 true false true true false _ _ _ _ _ _ [] [] rfl rfl rfl rfl rfl rfl rfl rfl rfl rfl rfl rfl rfl rfl rfl rfl rfl rfl (SpA.norm_ne _) (by have := HZ.out; have := HNL.out; simp only [List.length_map, ← size_L]; have e0 : a0.data.toList.length = a0.size := (size_L a0).symm; have e1 : a1.data.toList.length = a1.size := (size_L a1).symm; have e2 : a2.data.toList.length = a2.size := (size_L a2).symm; have e4 : a4.data.toList.length = a4.size := (size_L a4).symm; have e5 : a5.data.toList.length = a5.size := (size_L a5).symm; omega)).mono ?_; rintro e w8 ⟨Af, nf, cf, Aq, nq, cq, rfl, hob, hon, ho1, ho2⟩; refine ⟨_, rfl, ?_⟩; have HF := Aside0.mk (HS.out.keep hon (by rintro k (e | e | e); exact .inl e; cases e; cases e)).1; clear hob hon ho1 ho2))
  go_ret
  exact ⟨rfl, HF.out⟩
end Go.Proofs.Ytbkeakeldegkeaa.Q
end
section
namespace Go.Proofs.Ytbkeakeldegkeaa.Q
open Go.RowKit Go.Proofs.YtbkeakeldegkeaaW.PrintWords Go.Proofs.YtbkeakeldegkeaaW.PrintLast Go.Proofs.YtbkeakeldegkeaaW.PrintMore
attribute [local go_sem] max2_int min2_int max_two min_two max_three min_three max_four min_four
set_option linter.unusedVariables false
set_option linter.unusedSimpArgs false
def impl_UriMade.f (a0_0 : ByteArray) (a0_1 : ByteArray) (a0_2 : ByteArray) (a0_3 : ByteArray) (a0_4 : ByteArray) (a0_5 : ByteArray) (a0_6 : ByteArray) (a0_7 : ByteArray) : Option (ByteArray) := if a0_0.size ≤ 1000000000 ∧ a0_1.size ≤ 1000000000 ∧ a0_2.size ≤ 1000000000 ∧ a0_4.size ≤ 1000000000 ∧ a0_5.size ≤ 1000000000 ∧ a0_6.size ≤ 1000000000 ∧ a0_7.size ≤ 1000000000 then some ⟨(fullL (a0_0.data.toList.map Go.Proofs.Ytbkeakeldegkeaa.SpA.lowU) (a0_1.data.toList.map Go.Proofs.Ytbkeakeldegkeaa.SpA.lowU) false a0_2.data.toList (Go.Proofs.Ytbkeakeldegkeaa.SpA.norm a0_2.data.toList) a0_4.data.toList a0_5.data.toList).toArray⟩ else none
theorem impl_UriMade.calls (a0_0 : ByteArray) (a0_1 : ByteArray) (a0_2 : ByteArray) (a0_3 : ByteArray) (a0_4 : ByteArray) (a0_5 : ByteArray) (a0_6 : ByteArray) (a0_7 : ByteArray) (r : ByteArray) (w : World) (h : impl_UriMade.f a0_0 a0_1 a0_2 a0_3 a0_4 a0_5 a0_6 a0_7 = some r) :
    Calls Try.prog 26 #[.agg #[.string a0_0, .string a0_1, .string a0_2, .string a0_3, .string a0_4, .string a0_5, .string a0_6, .string a0_7]] w fun e w' => e = .returned (.string r) ∧ Below w.heap.size w w' := by
  unfold impl_UriMade.f at h
  split at h
  · rename_i hc
    obtain rfl := Option.some.inj h
    exact uriMade_calls a0_0 a0_1 a0_2 a0_3 a0_4 a0_5 a0_6 a0_7 w hc
  · cases h
end Go.Proofs.Ytbkeakeldegkeaa.Q
end
