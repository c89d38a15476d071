/- FnUriSays: the law's function, called with any arguments, returns true and leaves its arguments as they were: every input, no condition. Part 16 of 16. -/
import Derived.Test.YtbkeakeldegkeaaZFnUriSays8
import Derived.Test.YtbkeakeldegkeaaZFnUriSays9
import Derived.Test.YtbkeakeldegkeaaZFnUriSays10
import Derived.Test.YtbkeakeldegkeaaZFnUriSays1
import Derived.Test.YtbkeakeldegkeaaZFnUriSays12
import Derived.Test.YtbkeakeldegkeaaZFnUriSays13
import Derived.Test.YtbkeakeldegkeaaZFnUriSays14
import Derived.Test.YtbkeakeldegkeaaZFnUriSays7
import Derived.Test.YtbkeakeldegkeaaRows
import Derived.WalkKit
import Derived.ProofKit
import Derived.OpenShut
import Derived.ShutString
import Derived.ChangeOld
import Derived.Below
import Derived.SizedLaws
set_option linter.unusedVariables false
set_option linter.unusedSimpArgs false
section
namespace Go.Proofs.Ytbkeakeldegkeaa.SpA
open Go.RowKit Go.Proofs.Ytbkeakeldegkeaa.Q Go.Proofs.YtbkeakeldegkeaaW.PrintWords Go.Proofs.YtbkeakeldegkeaaW.PrintLast Go.Proofs.YtbkeakeldegkeaaKit
theorem us_index_l (s : ByteArray) (c : UInt8) (hs : s.size ≤ 2147483647) : ∀ (suf pre : List UInt8),L s = pre ++ suf → Ev (fun k => spec_indexOf.l0 k s (c.toNat : Int) (pre.length : Int)) (if c ∈ suf then ((pre.length + (suf.takeWhile (· != c)).length : Nat) : Int) else -1)
 | [],pre,h => Ev.same (Ev.step (f := fun _ => some (-1)) (fun k => by simp only [spec_indexOf.l0];rw [if_neg (sz_not h)]) (Ev.now _)) (by simp)
 | d :: t,pre,h => by
  have hsz : s.size = pre.length + (t.length + 1) := by rw [size_L,h];simp
  have w1 : wrap64 ((pre.length : Int) + 1) = ((pre ++ [d]).length : Int) := wrap_mid h (by omega)
  by_cases hd : (d.toNat : Int) = (c.toNat : Int)
  ·
   have hd' : d = c := UInt8.toNat_inj.1 (by omega)
   subst hd'
   refine Ev.same (Ev.step (f := fun _ => some (pre.length : Int)) (fun k => ?_) (Ev.now _)) (by simp)
   simp only [spec_indexOf.l0]
   rw [if_pos (sz_mid h),if_pos (by omega),bt_mid h,if_pos rfl]
  have hd' : d ≠ c := fun e => hd (by rw [e])
  have ih := us_index_l s c hs t (pre ++ [d]) (mid_next h)
  refine Ev.same (Ev.step (fun k => ?_) ih) ?_
  ·
   simp only [spec_indexOf.l0]
   rw [if_pos (sz_mid h),if_pos (by omega),bt_mid h,if_neg hd,w1]
  by_cases hm : c ∈ t
  ·
   rw [if_pos hm,if_pos (List.mem_cons_of_mem _ hm)]
   simp [List.takeWhile_cons,hd']
   omega
  rw [if_neg hm,if_neg (by simp only [List.mem_cons,not_or];exact ⟨fun e => hd' e.symm,hm⟩)]
theorem us_index (s : ByteArray) (c : UInt8) (hs : s.size ≤ 2147483647) : Ev (fun k => spec_indexOf.f k s (c.toNat : Int)) (if c ∈ L s then (((L s).takeWhile (· != c)).length : Int) else -1) := Ev.same (us_index_l s c hs (L s) [] rfl) (by simp)
theorem us_up {α : Type} {g : Nat → Option α} {r : α} (h : Ev (fun k => g (k + 1)) r) : Ev g r := Ev.step (fun _ => rfl) h
theorem us_idx (s : ByteArray) (c : UInt8) (hs : s.size ≤ 2147483647) : Ev (fun k => spec_indexOf.f k s (c.toNat : Int)) (if c ∈ L s then ((upto c (L s)).length : Int) else -1) := us_index s c hs
theorem us_path (s : ByteArray) (hs : s.size ≤ 2000) : ∃ r,Ev (fun k => spec_CleanPath.f k s) r ∧ (r.2 = 1 → r.1 = bl (norm (L s))) := by
 obtain ⟨b,hb⟩ := sound s (by omega)
 have hl := dec_len (L s).length (L s) (Nat.le_refl _)
 rw [← size_L] at hl
 obtain ⟨r,hr,hr1⟩ := cleaned (bl (dec (L s))) (by rw [size_L,L_bl];omega)
 cases b with
 | false => exact ⟨(⟨#[]⟩,2),Ev.call hb (Ev.neg (by simp) (Ev.now _)),fun e => absurd (show (2 : Int) = 1 from e) (by decide)⟩
 | true => exact ⟨r,Ev.call hb (Ev.pos rfl (Ev.call (decoded s (by omega)) (Ev.call hr (Ev.now _)))),fun e => ext (by rw [hr1 e,L_bl,L_bl,norm_dec])⟩
theorem us_take (s : ByteArray) (n : Nat) : s.extract 0 n = bl ((L s).take n) := ext (by rw [L_extract,L_bl];simp)
theorem us_drop (s : ByteArray) (n : Nat) : s.extract n s.size = bl ((L s).drop n) := ext (by rw [L_extract,L_bl,size_L,List.take_of_length_le (by simp)])
theorem us_mid (s : ByteArray) (a b : Nat) : s.extract a b = bl (((L s).drop a).take (b - a)) := ext (by rw [L_extract,L_bl])
theorem us_size (l : List UInt8) : (bl l).size = l.length := by rw [size_L,L_bl]
theorem us_req0 (x : ByteArray) (hx : x.size ≤ 2000) (b0 b1 b2 b3 h b6 b7 : ByteArray) : ∃ r,Ev (fun k => spec_Uri_request.j0 k x b0 b1 b2 b3 ⟨#[]⟩ h b6 b7) r ∧ (r.2.2.2.2.2.2.2.2 = 1 → r = (b0,b1,bl (norm (upto 63 (L x))),bl (upto 63 (L x)),bl (past 63 (L x)),h,b6,b7,1)) := by
 have hi := us_idx x 63 (by omega)
 have hz : x.size = (L x).length := size_L x
 by_cases hm : (63 : UInt8) ∈ L x
 ·
  rw [if_pos hm] at hi
  obtain ⟨h1,h2,h3,h4,h5,h6,h7⟩ := upto_some hm
  have hw : wrap64 (((upto 63 (L x)).length : Int) + 1) = (((upto 63 (L x)).length + 1 : Nat) : Int) := by rw [wrap_id (by omega) (by omega)];omega
  have e1 : x.extract 0 (((upto 63 (L x)).length : Int)).toNat = bl (upto 63 (L x)) := by rw [Int.toNat_natCast,us_take,h2]
  have e2 : x.extract ((((upto 63 (L x)).length + 1 : Nat) : Int)).toNat x.size = bl (past 63 (L x)) := by rw [Int.toNat_natCast,us_drop,h4]
  obtain ⟨r,hr,hr1⟩ := us_path (bl (upto 63 (L x))) (by rw [us_size];omega)
  refine ⟨(b0,b1,r.1,bl (upto 63 (L x)),bl (past 63 (L x)),h,b6,b7,r.2),?_,fun e => ?_⟩
  ·
   refine us_up ?_
   simp only [spec_Uri_request.j0]
   refine Ev.call hi (Ev.pos (by omega) (Ev.pos (by omega) (Ev.pos (by omega) (Ev.pos (by rw [hw];omega) (Ev.pos (by rw [hw];omega) ?_)))))
   rw [hw,e1,e2]
   exact Ev.call hr (Ev.now _)
  have e' : r.2 = 1 := e
  rw [hr1 e',e',L_bl]
 rw [if_neg hm] at hi
 obtain ⟨r,hr,hr1⟩ := us_path x hx
 refine ⟨(b0,b1,r.1,x,⟨#[]⟩,h,b6,b7,r.2),us_up (by simp only [spec_Uri_request.j0];exact Ev.call hi (Ev.neg (by omega) (Ev.call hr (Ev.now _)))),fun e => ?_⟩
 have e' : r.2 = 1 := e
 rw [hr1 e',e',(upto_none hm).1,past_none hm,bl_L]
 try rfl
theorem us_req (s : ByteArray) (hs : s.size ≤ 2000) (b0 b1 b2 b3 b4 b5 b6 b7 : ByteArray) : ∃ r,Ev (fun k => spec_Uri_request.f k b0 b1 b2 b3 b4 b5 b6 b7 s) r ∧ (r.2.2.2.2.2.2.2.2 = 1 → r = (b0,b1,bl (norm (pathU (L s)).1),bl (pathU (L s)).1,bl (pathU (L s)).2.1,bl (pathU (L s)).2.2,b6,b7,1)) := by
 have hi := us_idx s 35 (by omega)
 have hz : s.size = (L s).length := size_L s
 unfold spec_Uri_request.f
 by_cases hm : (35 : UInt8) ∈ L s
 ·
  rw [if_pos hm] at hi
  obtain ⟨h1,h2,h3,h4,h5,h6,h7⟩ := upto_some hm
  have hw : wrap64 (((upto 35 (L s)).length : Int) + 1) = (((upto 35 (L s)).length + 1 : Nat) : Int) := by rw [wrap_id (by omega) (by omega)];omega
  have e1 : s.extract 0 (((upto 35 (L s)).length : Int)).toNat = bl (upto 35 (L s)) := by rw [Int.toNat_natCast,us_take,h2]
  have e2 : s.extract ((((upto 35 (L s)).length + 1 : Nat) : Int)).toNat s.size = bl (past 35 (L s)) := by rw [Int.toNat_natCast,us_drop,h4]
  obtain ⟨r,hr,hr1⟩ := us_req0 (bl (upto 35 (L s))) (by rw [us_size];omega) b0 b1 b2 b3 (bl (past 35 (L s))) b6 b7
  refine ⟨r,Ev.call hi (Ev.pos (by omega) (Ev.pos (by omega) (Ev.pos (by omega) (Ev.pos (by rw [hw];omega) (Ev.pos (by rw [hw];omega) ?_))))),fun e => ?_⟩
  ·
   rw [hw,e1,e2];exact hr
  rw [hr1 e,L_bl];try rfl
 rw [if_neg hm] at hi
 obtain ⟨r,hr,hr1⟩ := us_req0 s hs b0 b1 b2 b3 ⟨#[]⟩ b6 b7
 refine ⟨r,Ev.call hi (Ev.neg (by omega) hr),fun e => ?_⟩
 rw [hr1 e]
 unfold pathU
 rw [(upto_none hm).1,past_none hm]
 try rfl
theorem us_low (l : List UInt8) : spec_Lower.f (bl l) = if l.length ≤ 140737488355328 then some (bl (l.map lowU)) else none := by
 unfold spec_Lower.f
 rw [us_size]
 try rfl
theorem us_auth0 (x us pa : ByteArray) (hx : x.size ≤ 2000) (hu : us.size ≤ 2000) (hp : pa.size ≤ 2000) (b0 b1 b2 b3 b4 b5 : ByteArray) : ∃ r,Ev (fun k => spec_Uri_authority.j0 k x b0 b1 b2 b3 b4 b5 us pa) r ∧ (r.2.2.2.2.2.2.2.2 = 1 → r = (b0,bl ((L x).map lowU),b2,b3,b4,b5,us,pa,1) ∧ L x ≠ [] ∧ (64 : UInt8) ∉ L x) := by
 by_cases h0 : L x = ([] : List UInt8)
 ·
  exact ⟨(b0,b1,b2,b3,b4,b5,us,pa,2),us_up (by simp only [spec_Uri_authority.j0];exact Ev.pos (by rw [tl];exact h0) (Ev.now _)),fun e => absurd (show (2 : Int) = 1 from e) (by decide)⟩
 have hi := us_idx x 64 (by omega)
 by_cases h1 : (64 : UInt8) ∈ L x
 ·
  rw [if_pos h1] at hi
  exact ⟨(b0,b1,b2,b3,b4,b5,us,pa,2),us_up (by simp only [spec_Uri_authority.j0];exact Ev.neg (by rw [tl];exact h0) (Ev.call hi (Ev.pos (by omega) (Ev.now _)))),fun e => absurd (show (2 : Int) = 1 from e) (by decide)⟩
 rw [if_neg h1] at hi
 have hj := us_idx ((us ++ pa) ++ x) 37 (by rw [size_append,size_append];omega)
 by_cases h2 : (37 : UInt8) ∈ L ((us ++ pa) ++ x)
 ·
  rw [if_pos h2] at hj
  exact ⟨(b0,b1,b2,b3,b4,b5,us,pa,2),us_up (by simp only [spec_Uri_authority.j0];exact Ev.neg (by rw [tl];exact h0) (Ev.call hi (Ev.neg (by omega) (Ev.pos (by omega) (Ev.pos (by omega) (Ev.call hj (Ev.pos (by omega) (Ev.now _)))))))),fun e => absurd (show (2 : Int) = 1 from e) (by decide)⟩
 rw [if_neg h2] at hj
 have hk := us_idx x 91 (by omega)
 by_cases h3 : (91 : UInt8) ∈ L x
 ·
  rw [if_pos h3] at hk
  exact ⟨(b0,b1,b2,b3,b4,b5,us,pa,2),us_up (by simp only [spec_Uri_authority.j0];exact Ev.neg (by rw [tl];exact h0) (Ev.call hi (Ev.neg (by omega) (Ev.pos (by omega) (Ev.pos (by omega) (Ev.call hj (Ev.neg (by omega) (Ev.call hk (Ev.pos (by omega) (Ev.now _)))))))))),fun e => absurd (show (2 : Int) = 1 from e) (by decide)⟩
 rw [if_neg h3] at hk
 have hl := us_idx x 93 (by omega)
 by_cases h4 : (93 : UInt8) ∈ L x
 ·
  rw [if_pos h4] at hl
  exact ⟨(b0,b1,b2,b3,b4,b5,us,pa,2),us_up (by simp only [spec_Uri_authority.j0];exact Ev.neg (by rw [tl];exact h0) (Ev.call hi (Ev.neg (by omega) (Ev.pos (by omega) (Ev.pos (by omega) (Ev.call hj (Ev.neg (by omega) (Ev.call hk (Ev.neg (by omega) (Ev.call hl (Ev.pos (by omega) (Ev.now _)))))))))))),fun e => absurd (show (2 : Int) = 1 from e) (by decide)⟩
 rw [if_neg h4] at hl
 have hlow := us_low (L x)
 rw [bl_L,if_pos (by rw [← size_L];omega)] at hlow
 exact ⟨(b0,bl ((L x).map lowU),b2,b3,b4,b5,us,pa,1),us_up (by simp only [spec_Uri_authority.j0];exact Ev.neg (by rw [tl];exact h0) (Ev.call hi (Ev.neg (by omega) (Ev.pos (by omega) (Ev.pos (by omega) (Ev.call hj (Ev.neg (by omega) (Ev.call hk (Ev.neg (by omega) (Ev.call hl (Ev.neg (by omega) (Ev.call (Ev.some hlow) (Ev.now _))))))))))))),fun _ => ⟨rfl,h0,h1⟩⟩
theorem us_auth (s : ByteArray) (hs : s.size ≤ 2000) (b0 b1 b2 b3 b4 b5 b6 b7 : ByteArray) : ∃ r,Ev (fun k => spec_Uri_authority.f k b0 b1 b2 b3 b4 b5 b6 b7 s) r ∧ (r.2.2.2.2.2.2.2.2 = 1 → r = (b0,bl ((authU (L s)).2.2.map lowU),b2,b3,b4,b5,bl (authU (L s)).1,bl (authU (L s)).2.1,1) ∧ (authU (L s)).2.2 ≠ [] ∧ ((authU (L s)).1 = [] → (64 : UInt8) ∉ L s)) := by
 have hi := us_idx s 64 (by omega)
 have hz : s.size = (L s).length := size_L s
 unfold spec_Uri_authority.f
 by_cases hm : (64 : UInt8) ∈ L s
 ·
  rw [if_pos hm] at hi
  obtain ⟨h1,h2,h3,h4,h5,h6,h7⟩ := upto_some hm
  have e1 : s.extract 0 (((upto 64 (L s)).length : Int)).toNat = bl (upto 64 (L s)) := by rw [Int.toNat_natCast,us_take,h2]
  have hj : Ev (fun k => spec_indexOf.f k (s.extract 0 (((upto 64 (L s)).length : Int)).toNat) ((58 : UInt8).toNat : Int)) (if (58 : UInt8) ∈ upto 64 (L s) then ((upto 58 (upto 64 (L s))).length : Int) else -1) := by
   rw [e1]
   have := us_idx (bl (upto 64 (L s))) 58 (by rw [us_size];omega)
   rwa [L_bl] at this
  by_cases hc : (58 : UInt8) ∈ upto 64 (L s)
  ·
   rw [if_pos hc] at hj
   obtain ⟨k1,k2,k3,k4,k5,k6,k7⟩ := upto_some hc
   by_cases g1 : ((upto 58 (upto 64 (L s))).length : Int) < 1
   ·
    exact ⟨(b0,b1,b2,b3,b4,b5,⟨#[]⟩,⟨#[]⟩,2),Ev.call hi (Ev.pos (by omega) (Ev.pos (by omega) (Ev.pos (by omega) (Ev.call hj (Ev.pos g1 (Ev.now _)))))),fun e => absurd (show (2 : Int) = 1 from e) (by decide)⟩
   by_cases g2 : ((upto 58 (upto 64 (L s))).length : Int) = wrap64 (((upto 64 (L s)).length : Int) - 1)
   ·
    exact ⟨(b0,b1,b2,b3,b4,b5,⟨#[]⟩,⟨#[]⟩,2),Ev.call hi (Ev.pos (by omega) (Ev.pos (by omega) (Ev.pos (by omega) (Ev.call hj (Ev.neg g1 (Ev.pos g2 (Ev.now _))))))),fun e => absurd (show (2 : Int) = 1 from e) (by decide)⟩
   have hw1 : wrap64 (((upto 64 (L s)).length : Int) + 1) = (((upto 64 (L s)).length + 1 : Nat) : Int) := by rw [wrap_id (by omega) (by omega)];omega
   have hw2 : wrap64 (((upto 58 (upto 64 (L s))).length : Int) + 1) = (((upto 58 (upto 64 (L s))).length + 1 : Nat) : Int) := by rw [wrap_id (by omega) (by omega)];omega
   have f1 : s.extract ((((upto 64 (L s)).length + 1 : Nat) : Int)).toNat s.size = bl (past 64 (L s)) := by rw [Int.toNat_natCast,us_drop,h4]
   have f2 : s.extract 0 (((upto 58 (upto 64 (L s))).length : Int)).toNat = bl (upto 58 (upto 64 (L s))) := by
    rw [Int.toNat_natCast,us_take]
    congr 1
    have : (L s).take (upto 58 (upto 64 (L s))).length = ((L s).take (upto 64 (L s)).length).take (upto 58 (upto 64 (L s))).length := by rw [List.take_take,Nat.min_eq_left (by omega)]
    rw [this,h2,k2]
   have f3 : s.extract ((((upto 58 (upto 64 (L s))).length + 1 : Nat) : Int)).toNat (((upto 64 (L s)).length : Int)).toNat = bl (past 58 (upto 64 (L s))) := by
    rw [Int.toNat_natCast,Int.toNat_natCast,us_mid]
    congr 1
    rw [← List.drop_take,h2,k4]
   obtain ⟨r,hr,hr1⟩ := us_auth0 (bl (past 64 (L s))) (bl (upto 58 (upto 64 (L s)))) (bl (past 58 (upto 64 (L s)))) (by rw [us_size];have := past_len 64 (L s);omega) (by rw [us_size];omega) (by rw [us_size];have := past_len 58 (upto 64 (L s));omega) b0 b1 b2 b3 b4 b5
   have ha : authU (L s) = (upto 58 (upto 64 (L s)),past 58 (upto 64 (L s)),past 64 (L s)) := by unfold authU;rw [if_pos hm,if_pos hc]
   refine ⟨r,Ev.call hi (Ev.pos (by omega) (Ev.pos (by omega) (Ev.pos (by omega) (Ev.call hj (Ev.neg g1 (Ev.neg g2 (Ev.pos (by omega) (Ev.pos (by omega) (Ev.pos (by rw [hw2];omega) (Ev.pos (by rw [hw2];omega) (Ev.pos (by rw [hw1];omega) (Ev.pos (by rw [hw1];omega) ?_)))))))))))),fun e => ?_⟩
   ·
    rw [hw1,hw2,f1,f2,f3];exact hr
   obtain ⟨q1,q2,q3⟩ := hr1 e
   rw [L_bl] at q1 q2
   rw [ha]
   exact ⟨q1,q2,fun e0 => by have e0' : upto 58 (upto 64 (L s)) = [] := e0;rw [e0'] at g1;simp at g1⟩
  rw [if_neg hc] at hj
  exact ⟨(b0,b1,b2,b3,b4,b5,⟨#[]⟩,⟨#[]⟩,2),Ev.call hi (Ev.pos (by omega) (Ev.pos (by omega) (Ev.pos (by omega) (Ev.call hj (Ev.pos (by omega) (Ev.now _)))))),fun e => absurd (show (2 : Int) = 1 from e) (by decide)⟩
 rw [if_neg hm] at hi
 obtain ⟨r,hr,hr1⟩ := us_auth0 s ⟨#[]⟩ ⟨#[]⟩ hs (by decide) (by decide) b0 b1 b2 b3 b4 b5
 have ha : authU (L s) = ([],[],L s) := by unfold authU;rw [if_neg hm]
 refine ⟨r,Ev.call hi (Ev.neg (by omega) hr),fun e => ?_⟩
 obtain ⟨q1,q2,q3⟩ := hr1 e
 rw [ha]
 exact ⟨q1,q2,fun _ => hm⟩
theorem us_fair_l (s : ByteArray) (hs : s.size ≤ 140737488351232) : ∀ (suf pre : List UInt8),L s = pre ++ suf → ∃ b,Ev (fun k => spec_fair.l0 k s (pre.length : Int)) b := by
 intro suf
 induction suf with
 | nil => intro pre h;exact ⟨true,Ev.step (f := fun _ => some true) (fun k => by simp only [spec_fair.l0];rw [if_neg (sz_not h)]) (Ev.now _)⟩
 | cons c t ih =>
  intro pre h
  have hbt := bt_mid h
  obtain ⟨b,hb⟩ := ih (pre ++ [c]) (mid_next h)
  by_cases h1 : (c.toNat : Int) ≤ 32
  ·
   exact ⟨false,Ev.step (f := fun _ => some false) (fun k => by simp only [spec_fair.l0];rw [if_pos (sz_mid h),if_pos (by omega),hbt,if_pos h1]) (Ev.now _)⟩
  by_cases h2 : (c.toNat : Int) ≥ 127
  ·
   exact ⟨false,Ev.step (f := fun _ => some false) (fun k => by simp only [spec_fair.l0];rw [if_pos (sz_mid h),if_pos (by omega),hbt,if_neg h1,if_pos h2]) (Ev.now _)⟩
  by_cases h3 : (c.toNat : Int) = 92
  ·
   exact ⟨false,Ev.step (f := fun _ => some false) (fun k => by simp only [spec_fair.l0];rw [if_pos (sz_mid h),if_pos (by omega),hbt,if_neg h1,if_neg h2,if_pos h3]) (Ev.now _)⟩
  exact ⟨b,Ev.step (fun k => by simp only [spec_fair.l0];rw [if_pos (sz_mid h),if_pos (by omega),hbt,if_neg h1,if_neg h2,if_neg h3,wrap_mid h hs]) hb⟩
theorem us_fair (s : ByteArray) (hs : s.size ≤ 140737488351232) : ∃ b,Ev (fun k => spec_fair.f k s) b := us_fair_l s hs (L s) [] rfl
theorem us_until_l (s : ByteArray) (hs : s.size ≤ 140737488351232) : ∀ (suf pre : List UInt8),L s = pre ++ suf → (47 : UInt8) ∉ pre → ∃ n : Nat,Ev (fun k => spec_until.l0 k s (pre.length : Int)) (n : Int) ∧ n ≤ s.size ∧ ((L s)[n]? = some 47 → (upto 47 (L s)).length = n ∧ (47 : UInt8) ∈ L s) := by
 intro suf
 induction suf with
 | nil => intro pre h hp;exact ⟨pre.length,Ev.step (f := fun _ => some (pre.length : Int)) (fun k => by simp only [spec_until.l0];rw [if_neg (sz_not h)]) (Ev.now _),by rw [size_L,h];simp,fun e => by rw [h] at e;simp at e⟩
 | cons c t ih =>
  intro pre h hp
  have hbt := bt_mid h
  have hlt : pre.length ≤ s.size := by rw [size_L,h];simp
  have hat : (L s)[pre.length]? = some c := by rw [h];simp
  by_cases h1 : (c.toNat : Int) = 47
  ·
   have hc : c = 47 := UInt8.toNat_inj.1 (by show c.toNat = 47;omega)
   refine ⟨pre.length,Ev.step (f := fun _ => some (pre.length : Int)) (fun k => by simp only [spec_until.l0];rw [if_pos (sz_mid h),if_pos (by omega),hbt,if_pos h1]) (Ev.now _),hlt,fun _ => ?_⟩
   rw [h,hc,(upto_app hp).1]
   exact ⟨rfl,by simp⟩
  have hc : c ≠ 47 := fun e => h1 (by rw [e];rfl)
  by_cases h2 : (c.toNat : Int) = 63
  ·
   exact ⟨pre.length,Ev.step (f := fun _ => some (pre.length : Int)) (fun k => by simp only [spec_until.l0];rw [if_pos (sz_mid h),if_pos (by omega),hbt,if_neg h1,if_pos h2]) (Ev.now _),hlt,fun e => absurd (Option.some.inj (hat.symm.trans e)) hc⟩
  by_cases h3 : (c.toNat : Int) = 35
  ·
   exact ⟨pre.length,Ev.step (f := fun _ => some (pre.length : Int)) (fun k => by simp only [spec_until.l0];rw [if_pos (sz_mid h),if_pos (by omega),hbt,if_neg h1,if_neg h2,if_pos h3]) (Ev.now _),hlt,fun e => absurd (Option.some.inj (hat.symm.trans e)) hc⟩
  obtain ⟨n,hn,hn1,hn2⟩ := ih (pre ++ [c]) (mid_next h) (by simp only [List.mem_append,List.mem_singleton,not_or];exact ⟨hp,fun e => hc e.symm⟩)
  exact ⟨n,Ev.step (fun k => by simp only [spec_until.l0];rw [if_pos (sz_mid h),if_pos (by omega),hbt,if_neg h1,if_neg h2,if_neg h3,wrap_mid h hs]) hn,hn1,hn2⟩
theorem us_until (s : ByteArray) (hs : s.size ≤ 140737488351232) : ∃ n : Nat,Ev (fun k => spec_until.f k s) (n : Int) ∧ n ≤ s.size ∧ ((L s)[n]? = some 47 → (upto 47 (L s)).length = n ∧ (47 : UInt8) ∈ L s) := us_until_l s hs (L s) [] rfl (by simp)
theorem lastIB_split (l : List UInt8) : (∃ p y,l = p ++ 47 :: y ∧ (47 : UInt8) ∉ y) ∨ (47 : UInt8) ∉ l := by
 induction l with
 | nil => exact .inr (by simp)
 | cons c t ih =>
  rcases ih with ⟨p,y,h,hy⟩|h
  ·
   exact .inl ⟨c :: p,y,by rw [h];rfl,hy⟩
  by_cases hc : c = 47
  ·
   exact .inl ⟨[],t,by rw [hc];rfl,h⟩
  exact .inr (by simp only [List.mem_cons,not_or];exact ⟨fun e => hc e.symm,h⟩)
def us_ok (first : Bool) (c : UInt8) : Bool := isAl c || (!first && isSg c)
set_option maxHeartbeats 4000000 in
theorem us_sch_l0 (s : ByteArray) (hs : s.size ≤ 140737488351232) (n : Nat) (hn : n ≤ s.size) : ∀ (m : Nat) (pre : List UInt8) (suf : List UInt8),suf.length = m → L s = pre ++ suf → pre.length ≤ n → ∃ x : Int,Ev (fun k => spec_schemeOf.l0 k s (n : Int) (pre.length : Int)) x ∧ (x = -1 ∨ x = (n : Int) ∧ ∀ i c,i < n - pre.length → suf[i]? = some c → us_ok (pre.length + i == 0) c = true) := by
 intro m
 induction m with
 | zero =>
  intro pre suf hm h hp
  obtain rfl : suf = [] := List.length_eq_zero_iff.1 hm
  have : n = pre.length := by rw [size_L,h] at hn;simp at hn;omega
  refine ⟨(n : Int),Ev.step (f := fun _ => some (n : Int)) (fun k => by simp only [spec_schemeOf.l0];rw [if_neg (by omega)]) (Ev.now _),.inr ⟨rfl,fun i c hi => by omega⟩⟩
 | succ m ih =>
  intro pre suf hm h hp
  obtain ⟨c,t,rfl⟩ : ∃ c t,suf = c :: t := by cases suf with|nil => cases hm|cons c t => exact ⟨c,t,rfl⟩
  rcases Nat.lt_or_ge pre.length n with hlt|hge
  ·
   have hbt := bt_mid h
   obtain ⟨x,hx,hx1⟩ := ih (pre ++ [c]) t (by simpa using hm) (mid_next h) (by simp;omega)
   have hw := wrap_mid h hs
   have stop : (∀ k,spec_schemeOf.l0 (k + 1) s (n : Int) (pre.length : Int) = some (-1)) → ∃ x : Int,Ev (fun k => spec_schemeOf.l0 k s (n : Int) (pre.length : Int)) x ∧ (x = -1 ∨ x = (n : Int) ∧ ∀ i c',i < n - pre.length → (c :: t)[i]? = some c' → us_ok (pre.length + i == 0) c' = true) := fun hk => ⟨-1,Ev.step (f := fun _ => some (-1)) hk (Ev.now _),.inl rfl⟩
   have go : us_ok (pre.length == 0) c = true → (∀ k,spec_schemeOf.l0 (k + 1) s (n : Int) (pre.length : Int) = spec_schemeOf.l0 k s (n : Int) (wrap64 ((pre.length : Int) + 1))) → ∃ x : Int,Ev (fun k => spec_schemeOf.l0 k s (n : Int) (pre.length : Int)) x ∧ (x = -1 ∨ x = (n : Int) ∧ ∀ i c',i < n - pre.length → (c :: t)[i]? = some c' → us_ok (pre.length + i == 0) c' = true) := fun hok hk => by
    refine ⟨x,Ev.step (fun k => by rw [hk,hw]) hx,hx1.imp id fun ⟨e1,e2⟩ => ⟨e1,fun i c' hi hc' => ?_⟩⟩
    cases i with
    | zero => cases hc';simpa using hok
    | succ i =>
     have := e2 i c' (by simp;omega) (by simpa using hc')
     rw [List.length_append,List.length_singleton] at this
     rw [show pre.length + (i + 1) = pre.length + 1 + i by omega]
     exact this
   have hz0 : ((pre.length : Int) = 0) ↔ (pre.length = 0) := by omega
   have key : ∀ k,spec_schemeOf.l0 (k + 1) s (n : Int) (pre.length : Int) = if us_ok (pre.length == 0) c = true then spec_schemeOf.l0 k s (n : Int) (wrap64 ((pre.length : Int) + 1)) else some (-1) := fun k => by
    have hal : isAl c = (decide (97 ≤ (c.toNat : Int) ∧ (c.toNat : Int) ≤ 122) || decide (65 ≤ (c.toNat : Int) ∧ (c.toNat : Int) ≤ 90)) := by
     unfold isAl
     rw [Bool.eq_iff_iff]
     simp only [Bool.or_eq_true,Bool.and_eq_true,decide_eq_true_eq]
     omega
    have e43 : (c == 43) = decide ((c.toNat : Int) = 43) := by rw [Bool.eq_iff_iff,beq_iff_eq,decide_eq_true_eq];exact ⟨fun e => by rw [e];rfl,fun e => UInt8.toNat_inj.1 (by show c.toNat = 43;omega)⟩
    have e45 : (c == 45) = decide ((c.toNat : Int) = 45) := by rw [Bool.eq_iff_iff,beq_iff_eq,decide_eq_true_eq];exact ⟨fun e => by rw [e];rfl,fun e => UInt8.toNat_inj.1 (by show c.toNat = 45;omega)⟩
    have e46 : (c == 46) = decide ((c.toNat : Int) = 46) := by rw [Bool.eq_iff_iff,beq_iff_eq,decide_eq_true_eq];exact ⟨fun e => by rw [e];rfl,fun e => UInt8.toNat_inj.1 (by show c.toNat = 46;omega)⟩
    have hsg : isSg c = (decide (48 ≤ (c.toNat : Int) ∧ (c.toNat : Int) ≤ 57) || decide ((c.toNat : Int) = 43) || decide ((c.toNat : Int) = 45) || decide ((c.toNat : Int) = 46)) := by
     unfold isSg
     rw [e43,e45,e46]
     congr 3
     rw [Bool.eq_iff_iff]
     simp only [Bool.and_eq_true,decide_eq_true_eq]
     omega
    have hpz : (pre.length == 0) = decide ((pre.length : Int) = 0) := by rw [Bool.eq_iff_iff,beq_iff_eq,decide_eq_true_eq];exact hz0.symm
    simp only [spec_schemeOf.l0]
    rw [if_pos (by omega),if_pos (by omega),if_pos (sz_mid h),hbt]
    unfold us_ok
    rw [hal,hsg,hpz]
    generalize (c.toNat : Int) = v
    generalize (pre.length : Int) = p at *
    generalize spec_schemeOf.l0 k s (n : Int) (wrap64 (p + 1)) = R
    simp only [Bool.or_eq_true,Bool.and_eq_true,Bool.not_eq_true',decide_eq_true_eq,decide_eq_false_iff_not]
    repeat' split
    all_goals first|rfl|omega
   by_cases hok : us_ok (pre.length == 0) c = true
   ·
    exact go hok fun k => by rw [key,if_pos hok]
   exact stop fun k => by rw [key,if_neg hok]
  have : n = pre.length := by omega
  refine ⟨(n : Int),Ev.step (f := fun _ => some (n : Int)) (fun k => by simp only [spec_schemeOf.l0];rw [if_neg (by omega)]) (Ev.now _),.inr ⟨rfl,fun i c hi => by omega⟩⟩
theorem us_schEnd : ∀ (pre suf : List UInt8) (k : Nat),(∀ j c,pre[j]? = some c → us_ok (k + j == 0) c = true) → 0 < k + pre.length → schEnd k (pre ++ 58 :: suf) = some (k + pre.length)
 | [],suf,k,_,hk => by
  rw [List.nil_append,schEnd,if_neg (by decide),if_neg (by decide),if_pos rfl,if_neg (by simp at hk;omega)]
  rfl
 | c :: t,suf,k,h,hk => by
  have h0 := h 0 c rfl
  have ih := us_schEnd t suf (k + 1) (fun j d hj => by have := h (j + 1) d (by simpa using hj);rwa [show k + (j + 1) = k + 1 + j by omega] at this) (by omega)
  rw [List.cons_append,schEnd,ih,List.length_cons,show k + 1 + t.length = k + (t.length + 1) by omega]
  unfold us_ok at h0
  by_cases ha : isAl c = true
  ·
   rw [if_pos ha]
  rw [if_neg ha]
  have ha : isAl c = false := by simpa using ha
  rw [ha,Bool.false_or,Bool.and_eq_true,Nat.add_zero] at h0
  rw [if_pos h0.2,if_neg (by have := h0.1;simp at this;exact this)]
theorem us_scheme (s : ByteArray) (hs : s.size ≤ 2000) : ∃ x : Int,Ev (fun k => spec_schemeOf.f k s) x ∧ (x = -1 ∨ ∃ (i : Nat) (r : List UInt8),x = (i : Int) ∧ 0 < i ∧ schEnd 0 (L s) = some i ∧ i + 3 ≤ s.size ∧ L s = (L s).take i ++ 58 :: 47 :: 47 :: r ∧ (L s).drop (i + 3) = r) := by
 have hi := us_idx s 58 (by omega)
 have hz : s.size = (L s).length := size_L s
 have jt : ∀ x,Ev (fun k => spec_schemeOf.j0 k s x true) (-1) := fun x => Ev.step (f := fun _ => some (-1)) (fun k => by simp only [spec_schemeOf.j0];rw [if_pos trivial]) (Ev.now _)
 unfold spec_schemeOf.f
 by_cases hm : (58 : UInt8) ∈ L s
 ·
  rw [if_pos hm] at hi
  obtain ⟨h1,h2,h3,h4,h5,h6,h7⟩ := upto_some hm
  generalize hn : (upto 58 (L s)).length = n at hi h1 h2 h3 h4
  by_cases g1 : (n : Int) < 1
  ·
   exact ⟨-1,Ev.call hi (Ev.pos g1 (jt _)),.inl rfl⟩
  have w1 : wrap64 ((n : Int) + 1) = ((n + 1 : Nat) : Int) := by rw [wrap_id (by omega) (by omega)];omega
  have w2 : wrap64 ((n : Int) + 2) = ((n + 2 : Nat) : Int) := by rw [wrap_id (by omega) (by omega)];omega
  by_cases g2 : ((n + 2 : Nat) : Int) ≥ (s.size : Int)
  ·
   exact ⟨-1,Ev.call hi (Ev.neg g1 (Ev.pos (by rw [w2];exact g2) (jt _))),.inl rfl⟩
  have b1 := bt_nat s (n + 1) (by omega)
  have b2 := bt_nat s (n + 2) (by omega)
  by_cases g3 : bt s ((n + 1 : Nat) : Int) = 47
  ·
   by_cases g4 : bt s ((n + 2 : Nat) : Int) = 47
   ·
    have hpre : (upto 58 (L s)).length ≤ n := by omega
    obtain ⟨x,hx,hx1⟩ := us_sch_l0 s (by omega) n (by omega) (L s).length [] (L s) rfl rfl (Nat.zero_le _)
    refine ⟨x,Ev.call hi (Ev.neg g1 (Ev.neg (by rw [w2];exact g2) (Ev.pos (by rw [w1];omega) (Ev.pos (by rw [w1];omega) (Ev.pos (by rw [w1];exact g3) (Ev.pos (by rw [w2];omega) (Ev.pos (by rw [w2];omega) ?_))))))),?_⟩
    ·
     rw [w2,g4]
     refine Ev.step (fun k => by simp only [spec_schemeOf.j0];rw [if_neg (by decide)]) ?_
     exact hx
    rcases hx1 with hx1|⟨hx1,hx2⟩
    ·
     exact .inl hx1
    right
    have c1 : (L s)[n + 1]'(by omega) = 47 := UInt8.toNat_inj.1 (by rw [g3] at b1;show _ = 47;omega)
    have c2 : (L s)[n + 2]'(by omega) = 47 := UInt8.toNat_inj.1 (by rw [g4] at b2;show _ = 47;omega)
    have d1 : past 58 (L s) = 47 :: 47 :: (L s).drop (n + 3) := by
     rw [← h4,List.drop_eq_getElem_cons (by omega),c1,List.drop_eq_getElem_cons (by omega),c2]
    have hl : L s = upto 58 (L s) ++ 58 :: 47 :: 47 :: (L s).drop (n + 3) := by rw [← d1];exact h6
    refine ⟨n,(L s).drop (n + 3),hx1,by omega,?_,by omega,by rw [h2];exact hl,rfl⟩
    rw [hl]
    have := us_schEnd (upto 58 (L s)) (47 :: 47 :: (L s).drop (n + 3)) 0 (fun j c hj => by
     have hjn : j < n := by have := (List.getElem?_eq_some_iff.1 hj).1;omega
     have := hx2 j c (by simpa using hjn) (by rw [h6,List.getElem?_append_left (by omega)];exact hj)
     simpa using this) (by omega)
    rw [this,hn,Nat.zero_add]
   refine ⟨-1,Ev.call hi (Ev.neg g1 (Ev.neg (by rw [w2];exact g2) (Ev.pos (by rw [w1];omega) (Ev.pos (by rw [w1];omega) (Ev.pos (by rw [w1];exact g3) (Ev.pos (by rw [w2];omega) (Ev.pos (by rw [w2];omega) ?_))))))),.inl rfl⟩
   rw [w2,show (bt s ((n + 2 : Nat) : Int) != 47) = true from bne_iff_ne.2 g4]
   exact jt _
  exact ⟨-1,Ev.call hi (Ev.neg g1 (Ev.neg (by rw [w2];exact g2) (Ev.pos (by rw [w1];omega) (Ev.pos (by rw [w1];omega) (Ev.neg (by rw [w1];exact g3) (jt _)))))),.inl rfl⟩
 rw [if_neg hm] at hi
 exact ⟨-1,Ev.call hi (Ev.pos (by omega) (jt _)),.inl rfl⟩
def Says (a b : ByteArray) (r : ByteArray × ByteArray × ByteArray × ByteArray × ByteArray × ByteArray × ByteArray × ByteArray × Int) : Prop := r.2.2.2.2.2.2.2.2 = 1 → ∃ u,parseU (L a) (L b) = some u ∧ u.path ≠ [] ∧ u.orig.length ≤ 2000 ∧ r = (bl u.sch,bl u.host,bl u.path,bl u.orig,bl u.query,bl u.hash,bl u.user,bl u.pass,1)
theorem us_ix_no (l : List UInt8) (h : (58 : UInt8) ∉ l) : ix SEP l 0 < 0 := by
 rcases ix_cases SEP (by decide) l with ⟨e,_⟩|⟨x,y,e,_,_⟩
 ·
  omega
 exact absurd (by rw [e];simp [SEP]) h
def us_opn (r : ByteArray × ByteArray × ByteArray × ByteArray × ByteArray × ByteArray × ByteArray × ByteArray × Int) : ByteArray × ByteArray × ByteArray × ByteArray × ByteArray × ByteArray × ByteArray × ByteArray × Int := (r.1,r.2.1,r.2.2.1,r.2.2.2.1,r.2.2.2.2.1,r.2.2.2.2.2.1,r.2.2.2.2.2.2.1,r.2.2.2.2.2.2.2.1,2)
theorem us_j1t (a b : ByteArray) (ha : a.size ≤ 2000) (hb : b.size ≤ 2000) (hne : L a ≠ []) (hc : (L b).any isCtl = false) : ∃ r,Ev (fun k => spec_UriOf.j1 k a b true ⟨#[104,116,116,112]⟩ ⟨#[]⟩ ⟨#[]⟩ ⟨#[]⟩ ⟨#[]⟩ ⟨#[]⟩ ⟨#[]⟩ ⟨#[]⟩) r ∧ Says a b r := by
 obtain ⟨r,hr,hr1⟩ := us_auth a ha ⟨#[104,116,116,112]⟩ ⟨#[]⟩ ⟨#[]⟩ ⟨#[]⟩ ⟨#[]⟩ ⟨#[]⟩ ⟨#[]⟩ ⟨#[]⟩
 by_cases g1 : r.2.2.2.2.2.2.2.2 = 1
 ·
  obtain ⟨q1,q2,q3⟩ := hr1 g1
  subst q1
  by_cases g2 : (bl (authU (L a)).1).toList = ([] : List UInt8)
  ·
   obtain ⟨x,hx,hx1⟩ := us_scheme b hb
   by_cases g3 : x ≥ 0
   ·
    exact ⟨(⟨#[104,116,116,112]⟩,bl ((authU (L a)).2.2.map lowU),⟨#[]⟩,⟨#[]⟩,⟨#[]⟩,⟨#[]⟩,bl (authU (L a)).1,bl (authU (L a)).2.1,2),us_up (by simp only [spec_UriOf.j1];exact Ev.pos trivial (Ev.call hr (Ev.pos g1 (Ev.pos g2 (Ev.call hx (Ev.pos g3 (Ev.now _))))))),fun e => absurd (show (2 : Int) = 1 from e) (by decide)⟩
   have hi := us_idx b 58 (by omega)
   by_cases g4 : (58 : UInt8) ∈ L b
   ·
    rw [if_pos g4] at hi
    exact ⟨(⟨#[104,116,116,112]⟩,bl ((authU (L a)).2.2.map lowU),⟨#[]⟩,⟨#[]⟩,⟨#[]⟩,⟨#[]⟩,bl (authU (L a)).1,bl (authU (L a)).2.1,2),us_up (by simp only [spec_UriOf.j1];exact Ev.pos trivial (Ev.call hr (Ev.pos g1 (Ev.pos g2 (Ev.call hx (Ev.neg g3 (Ev.call hi (Ev.pos (by omega) (Ev.now _))))))))),fun e => absurd (show (2 : Int) = 1 from e) (by decide)⟩
   rw [if_neg g4] at hi
   obtain ⟨q,hq,hq1⟩ := us_req b hb ⟨#[104,116,116,112]⟩ (bl ((authU (L a)).2.2.map lowU)) ⟨#[]⟩ ⟨#[]⟩ ⟨#[]⟩ ⟨#[]⟩ (bl (authU (L a)).1) (bl (authU (L a)).2.1)
   refine ⟨q,us_up (by simp only [spec_UriOf.j1];exact Ev.pos trivial (Ev.call hr (Ev.pos g1 (Ev.pos g2 (Ev.call hx (Ev.neg g3 (Ev.call hi (Ev.neg (by omega) (Ev.call hq (Ev.now _)))))))))),fun e => ?_⟩
   have hq2 := hq1 e
   have hp := parse_rel (L a) (L b) hne (us_ix_no _ g4) hc
   refine ⟨_,hp,parse_path hp hc,?_,?_⟩
   ·
    have := restU_orig_len [] (L a) (L b)
    rw [← size_L] at this
    omega
   rw [hq2];rfl
  exact ⟨(⟨#[104,116,116,112]⟩,bl ((authU (L a)).2.2.map lowU),⟨#[]⟩,⟨#[]⟩,⟨#[]⟩,⟨#[]⟩,bl (authU (L a)).1,bl (authU (L a)).2.1,2),us_up (by simp only [spec_UriOf.j1];exact Ev.pos trivial (Ev.call hr (Ev.pos g1 (Ev.neg g2 (Ev.now _))))),fun e => absurd (show (2 : Int) = 1 from e) (by decide)⟩
 exact ⟨us_opn r,us_up (by simp only [spec_UriOf.j1];exact Ev.pos trivial (Ev.call hr (Ev.neg g1 (Ev.now _)))),fun e => absurd (show (2 : Int) = 1 from e) (by decide)⟩
theorem us_j1f (a b : ByteArray) (ha : a.size ≤ 2000) (hb : b.size ≤ 2000) (hc : (L b).any isCtl = false) : ∃ r,Ev (fun k => spec_UriOf.j1 k a b false ⟨#[104,116,116,112]⟩ ⟨#[]⟩ ⟨#[]⟩ ⟨#[]⟩ ⟨#[]⟩ ⟨#[]⟩ ⟨#[]⟩ ⟨#[]⟩) r ∧ Says a b r := by
 obtain ⟨x,hx,hx1⟩ := us_scheme b hb
 by_cases g1 : x < 0
 ·
  exact ⟨(⟨#[104,116,116,112]⟩,⟨#[]⟩,⟨#[]⟩,⟨#[]⟩,⟨#[]⟩,⟨#[]⟩,⟨#[]⟩,⟨#[]⟩,2),us_up (by simp only [spec_UriOf.j1];exact Ev.neg (by decide) (Ev.call hx (Ev.pos g1 (Ev.now _)))),fun e => absurd (show (2 : Int) = 1 from e) (by decide)⟩
 obtain ⟨i,rest,rfl,hi0,hse,hi3,hl,hdr⟩ := hx1.resolve_left (fun e => g1 (by omega))
 have hz : b.size = (L b).length := size_L b
 have w3 : wrap64 ((i : Int) + 3) = ((i + 3 : Nat) : Int) := by rw [wrap_id (by omega) (by omega)];omega
 have e1 : b.extract 0 ((i : Int)).toNat = bl ((L b).take i) := by rw [Int.toNat_natCast,us_take]
 have e2 : b.extract (((i + 3 : Nat) : Int)).toNat b.size = bl rest := by rw [Int.toNat_natCast,us_drop,hdr]
 have hlow := us_low ((L b).take i)
 rw [if_pos (by rw [List.length_take];omega)] at hlow
 have hrl : rest.length ≤ 2000 := by rw [← hdr,List.length_drop];omega
 obtain ⟨n,hn,hn1,hn2⟩ := us_until (bl rest) (by rw [us_size];omega)
 rw [us_size] at hn1
 rw [L_bl] at hn2
 have e3 : (bl rest).extract 0 ((n : Int)).toNat = bl (rest.take n) := by rw [Int.toNat_natCast,us_take,L_bl]
 have e4 : (bl rest).extract ((n : Int)).toNat (bl rest).size = bl (rest.drop n) := by rw [Int.toNat_natCast,us_drop,L_bl]
 obtain ⟨r,hr,hr1⟩ := us_auth (bl (rest.take n)) (by rw [us_size,List.length_take];omega) (bl (((L b).take i).map lowU)) ⟨#[]⟩ ⟨#[]⟩ ⟨#[]⟩ ⟨#[]⟩ ⟨#[]⟩ ⟨#[]⟩ ⟨#[]⟩
 rw [L_bl] at hr1
 have lz : ((bl rest).size : Int) = (rest.length : Int) := by rw [us_size]
 rw [← e3] at hr
 by_cases g2 : r.2.2.2.2.2.2.2.2 = 1
 ·
  by_cases g3 : (n : Int) = (rest.length : Int)
  ·
   refine ⟨us_opn r,us_up ?_,fun e => absurd (show (2 : Int) = 1 from e) (by decide)⟩
   simp only [spec_UriOf.j1]
   refine Ev.neg (by decide) (Ev.call hx (Ev.neg g1 (Ev.pos (by omega) (Ev.pos (by omega) ?_))))
   rw [e1,w3,e2,lz]
   exact Ev.call (Ev.some hlow) (Ev.pos (by omega) (Ev.pos (by omega) (Ev.call hn (Ev.pos (by omega) (Ev.pos (by omega) (Ev.call hr (Ev.pos g2 (Ev.pos g3 (Ev.now _)))))))))
  have hnlt : n < rest.length := by omega
  by_cases g4 : bt (bl rest) (n : Int) = 47
  ·
   have hb4 := bt_nat (bl rest) n (by rw [L_bl];exact hnlt)
   have h47 : rest[n]? = some 47 := by
    rw [List.getElem?_eq_getElem hnlt]
    congr 1
    have : ((L (bl rest))[n]'(by rw [L_bl];exact hnlt)) = rest[n] := by congr 1
    rw [← this]
    exact UInt8.toNat_inj.1 (by rw [g4] at hb4;show _ = 47;omega)
   obtain ⟨k1,k2⟩ := hn2 h47
   obtain ⟨u1,u2,u3,u4,u5,u6,u7⟩ := upto_some k2
   have ht : rest.take n = upto 47 rest := by rw [← k1];exact u2
   have hd : rest.drop n = 47 :: past 47 rest := by rw [← k1,u3];exact u5
   obtain ⟨q1,q2,q3⟩ := hr1 g2
   obtain ⟨q,hq,hq1⟩ := us_req (bl (rest.drop n)) (by rw [us_size,List.length_drop];omega) (bl (((L b).take i).map lowU)) (bl ((authU (rest.take n)).2.2.map lowU)) ⟨#[]⟩ ⟨#[]⟩ ⟨#[]⟩ ⟨#[]⟩ (bl (authU (rest.take n)).1) (bl (authU (rest.take n)).2.1)
   rw [← e4] at hq
   rw [q1] at hr
   refine ⟨q,us_up ?_,fun e => ?_⟩
   ·
    simp only [spec_UriOf.j1]
    refine Ev.neg (by decide) (Ev.call hx (Ev.neg g1 (Ev.pos (by omega) (Ev.pos (by omega) ?_))))
    rw [e1,w3,e2,lz]
    exact Ev.call (Ev.some hlow) (Ev.pos (by omega) (Ev.pos (by omega) (Ev.call hn (Ev.pos (by omega) (Ev.pos (by omega) (Ev.call hr (Ev.pos rfl (Ev.neg g3 (Ev.pos (by omega) (Ev.pos g4 (Ev.call hq (Ev.now _))))))))))))
   have hq2 := hq1 e
   rw [L_bl] at hq2
   have hix : 0 ≤ ix SEP (L b) 0 := by
    rcases ix_cases SEP (by decide) (L b) with ⟨_,h⟩|⟨x,y,_,h,_⟩
    ·
     exact absurd (show L b = (L b).take i ++ SEP ++ rest by rw [List.append_assoc];exact hl) (h _ _)
    omega
   have hpart : partU (L a) (L b) = some ((L b).take i,upto 47 rest,47 :: past 47 rest) := by
    unfold partU
    rw [hse]
    simp only
    rw [if_neg (by rw [List.length_drop];omega),hdr,if_pos k2,u5]
   have hp : parseU (L a) (L b) = some (restU (((L b).take i).map lowU) (upto 47 rest) (47 :: past 47 rest)) := by
    unfold parseU
    rw [hc]
    simp only [Bool.false_eq_true,if_false]
    rw [if_pos (.inr hix),hpart]
    rfl
   have hsn : ((L b).take i).map lowU ≠ [] := by
    intro e0
    have := congrArg List.length e0
    rw [List.length_map,List.length_take,List.length_nil] at this
    omega
   refine ⟨_,hp,parse_path hp hc,?_,?_⟩
   ·
    have h47l : (47 :: past 47 rest).length ≤ 2000 := by rw [← hd,List.length_drop];omega
    exact Nat.le_trans (restU_orig_len (((L b).take i).map lowU) (upto 47 rest) (47 :: past 47 rest)) h47l
   have hs : UR.sch (restU (((L b).take i).map lowU) (upto 47 rest) (47 :: past 47 rest)) = ((L b).take i).map lowU := by
    unfold UR.sch
    rw [if_neg (show ¬ (restU (((L b).take i).map lowU) (upto 47 rest) (47 :: past 47 rest)).scheme = [] from hsn)]
    rfl
   rw [hs,hq2,ht,hd]
   rfl
  refine ⟨us_opn r,us_up ?_,fun e => absurd (show (2 : Int) = 1 from e) (by decide)⟩
  simp only [spec_UriOf.j1]
  refine Ev.neg (by decide) (Ev.call hx (Ev.neg g1 (Ev.pos (by omega) (Ev.pos (by omega) ?_))))
  rw [e1,w3,e2,lz]
  exact Ev.call (Ev.some hlow) (Ev.pos (by omega) (Ev.pos (by omega) (Ev.call hn (Ev.pos (by omega) (Ev.pos (by omega) (Ev.call hr (Ev.pos g2 (Ev.neg g3 (Ev.pos (by omega) (Ev.neg g4 (Ev.now _)))))))))))
 refine ⟨us_opn r,us_up ?_,fun e => absurd (show (2 : Int) = 1 from e) (by decide)⟩
 simp only [spec_UriOf.j1]
 refine Ev.neg (by decide) (Ev.call hx (Ev.neg g1 (Ev.pos (by omega) (Ev.pos (by omega) ?_))))
 rw [e1,w3,e2,lz]
 exact Ev.call (Ev.some hlow) (Ev.pos (by omega) (Ev.pos (by omega) (Ev.call hn (Ev.pos (by omega) (Ev.pos (by omega) (Ev.call hr (Ev.neg g2 (Ev.now _))))))))
theorem us_uriOf (a b : ByteArray) (ha : a.size ≤ 2000) (hb : b.size ≤ 2000) (hc : (L b).any isCtl = false) : ∃ r,Ev (fun k => spec_UriOf.f k a b) r ∧ Says a b r := by
 obtain ⟨b1,hb1⟩ := us_fair b (by omega)
 obtain ⟨b2,hb2⟩ := us_fair a (by omega)
 have ht : Ev (fun k => spec_UriOf.j0 k a b true ⟨#[104,116,116,112]⟩ ⟨#[]⟩ ⟨#[]⟩ ⟨#[]⟩ ⟨#[]⟩ ⟨#[]⟩ ⟨#[]⟩ ⟨#[]⟩) (⟨#[104,116,116,112]⟩,⟨#[]⟩,⟨#[]⟩,⟨#[]⟩,⟨#[]⟩,⟨#[]⟩,⟨#[]⟩,⟨#[]⟩,2) :=
  Ev.step (fun k => by simp only [spec_UriOf.j0];rw [if_pos trivial]) (Ev.now _)
 unfold spec_UriOf.f
 cases b1 with
 | false => exact ⟨_,Ev.call hb1 (Ev.neg (by decide) ht),fun e => absurd (show (2 : Int) = 1 from e) (by decide)⟩
 | true =>
  cases b2 with
  | false => exact ⟨_,Ev.call hb1 (Ev.pos rfl (Ev.call hb2 ht)),fun e => absurd (show (2 : Int) = 1 from e) (by decide)⟩
  | true =>
   have hf := us_j1f a b ha hb hc
   have hg : ∃ r,Ev (fun k => spec_UriOf.j1 k a b (a.toList != ([] : List UInt8)) ⟨#[104,116,116,112]⟩ ⟨#[]⟩ ⟨#[]⟩ ⟨#[]⟩ ⟨#[]⟩ ⟨#[]⟩ ⟨#[]⟩ ⟨#[]⟩) r ∧ Says a b r := by
    by_cases hn : L a = []
    ·
     rw [show (a.toList != ([] : List UInt8)) = false by rw [tl,hn];rfl];exact hf
    rw [show (a.toList != ([] : List UInt8)) = true by rw [tl];simpa using hn];exact us_j1t a b ha hb hn hc
   have wrap : ∀ {r},Ev (fun k => spec_UriOf.j0 k a b false ⟨#[104,116,116,112]⟩ ⟨#[]⟩ ⟨#[]⟩ ⟨#[]⟩ ⟨#[]⟩ ⟨#[]⟩ ⟨#[]⟩ ⟨#[]⟩) r → Says a b r → ∃ r,Ev (fun k => (spec_fair.f k b).bind fun t386 => (if t386 = true then ((spec_fair.f k a).bind fun t387 => (spec_UriOf.j0 k a b (!t387) ⟨#[104,116,116,112]⟩ ⟨#[]⟩ ⟨#[]⟩ ⟨#[]⟩ ⟨#[]⟩ ⟨#[]⟩ ⟨#[]⟩ ⟨#[]⟩)) else (spec_UriOf.j0 k a b true ⟨#[104,116,116,112]⟩ ⟨#[]⟩ ⟨#[]⟩ ⟨#[]⟩ ⟨#[]⟩ ⟨#[]⟩ ⟨#[]⟩ ⟨#[]⟩))) r ∧ Says a b r := fun {r} h1 h2 => ⟨r,Ev.call hb1 (Ev.pos rfl (Ev.call hb2 h1)),h2⟩
   obtain ⟨rf,hrf,srf⟩ := hf
   obtain ⟨rg,hrg,srg⟩ := hg
   by_cases g1 : (b.size : Int) > 0
   ·
    by_cases g2 : bt b 0 = 47
    ·
     by_cases g3 : (b.size : Int) = 1
     ·
      exact wrap (us_up (by simp only [spec_UriOf.j0];exact Ev.neg (by decide) (Ev.pos g1 (Ev.pos (by omega) (Ev.pos g2 (Ev.pos g3 hrg)))))) srg
     by_cases g4 : bt b 1 = 47
     ·
      exact wrap (us_up (by simp only [spec_UriOf.j0];exact Ev.neg (by decide) (Ev.pos g1 (Ev.pos (by omega) (Ev.pos g2 (Ev.neg g3 (Ev.pos (by omega) (Ev.pos g4 hrf)))))))) srf
     exact wrap (us_up (by simp only [spec_UriOf.j0];exact Ev.neg (by decide) (Ev.pos g1 (Ev.pos (by omega) (Ev.pos g2 (Ev.neg g3 (Ev.pos (by omega) (Ev.neg g4 hrg)))))))) srg
    exact wrap (us_up (by simp only [spec_UriOf.j0];exact Ev.neg (by decide) (Ev.pos g1 (Ev.pos (by omega) (Ev.neg g2 hrf))))) srf
   exact wrap (us_up (by simp only [spec_UriOf.j0];exact Ev.neg (by decide) (Ev.neg g1 hrf))) srf
theorem us_last (l : List UInt8) : (Cl.splitS l).getLast (Cl.splitS_ne l) = lastU l := by
 have key : ∀ (y p : List UInt8),(47 : UInt8) ∉ y → Cl.splitS (p ++ 47 :: y) = Cl.splitS p ++ [y] := fun y p hy => by rw [Cl.splitS_app,Cl.splitS_word y hy]
 rcases lastIB_split l with ⟨p,y,hpy,hy⟩|hno
 ·
  have h1 := key y p hy
  have : (Cl.splitS l).getLast (Cl.splitS_ne l) = y := by
   have h2 : Cl.splitS l = Cl.splitS p ++ [y] := by rw [hpy];exact h1
   simp [h2]
  rw [this,hpy,lastU_some hy]
 have h1 := Cl.splitS_word l hno
 rw [lastU_none hno]
 simp [h1]
end Go.Proofs.Ytbkeakeldegkeaa.SpA
end
section
namespace Go.Proofs.Ytbkeakeldegkeaa.Pure
open Go.RowKit Go.Proofs.Ytbkeakeldegkeaa.Q Go.Proofs.YtbkeakeldegkeaaW.PrintWords Go.Proofs.YtbkeakeldegkeaaW.PrintLast Go.Proofs.YtbkeakeldegkeaaKit Go.Proofs.Ytbkeakeldegkeaa.SpA
theorem ys_last (l : List UInt8) (h : l.length ≤ 100000) : Ev (fun k => spec_LastPart.f k (bl l)) (bl (lastU l)) := by
 have hs := split (bl l) (by rw [us_size];omega)
 rw [L_bl] at hs
 have hl := split_len l
 have hne := Cl.splitS_ne l
 have hpos : 0 < (Cl.splitS l).length := List.length_pos_iff.2 hne
 have hw : wrap64 ((((Cl.splitS l).map bl).length : Int) - 1) = (((Cl.splitS l).length - 1 : Nat) : Int) := by
  rw [List.length_map,wrap_id (by omega) (by omega)];omega
 have hg : rdOf ByteArray.empty ((Cl.splitS l).map bl) (((Cl.splitS l).length - 1 : Nat) : Int) = bl (lastU l) := by
  have h1 := us_last l
  show ((Cl.splitS l).map bl).getD ((((Cl.splitS l).length - 1 : Nat) : Int)).toNat ByteArray.empty = _
  rw [Int.toNat_natCast,← h1,List.getD_eq_getElem?_getD,List.getElem?_map,List.getLast_eq_getElem,List.getElem?_eq_getElem (by omega)]
  rfl
 unfold spec_LastPart.f
 refine Ev.call hs (Ev.pos (by rw [hw];omega) (Ev.pos (by rw [hw,List.length_map];omega) ?_))
 rw [hw,hg]
 exact Ev.now _
theorem ys_true (a b : ByteArray) : Ev (fun k => laws_FnUriSays.j1 k a b true) true :=
 us_up (by simp only [laws_FnUriSays.j1];exact Ev.pos trivial (Ev.now _))
theorem ys_go (a b : ByteArray) (ha : a.size ≤ 2000) (hb : b.size ≤ 2000) (hc : (L b).any isCtl = false) : Ev (fun k => laws_FnUriSays.j1 k a b false) true := by
 obtain ⟨r,hr,hr1⟩ := us_uriOf a b ha hb hc
 refine us_up ?_
 simp only [laws_FnUriSays.j1]
 refine Ev.neg (by decide) (Ev.call hr ?_)
 by_cases g : r.2.2.2.2.2.2.2.2 = 1
 ·
  obtain ⟨u,hp,hpath,ho,rfl⟩ := hr1 g
  have e1 := uriOf_eq a b (by omega) (by omega) hc u hp (by omega)
  have e2 := uriText_eq a b false (by omega) (by omega) hc u hp (by omega)
  have htot := parse_total hp
  rw [← size_L,← size_L] at htot
  refine Ev.pos rfl (Ev.call (Ev.some e1) (Ev.call (Ev.some e2) (Ev.pos rfl (Ev.pos rfl (Ev.pos ?_ (Ev.call (ys_last u.path (by omega)) (Ev.some ?_)))))))
  ·
   simp
  exact congrArg some (beq_self_eq_true _)
 exact Ev.neg g (Ev.now _)
theorem ys_short2 (a b : ByteArray) : Ev (fun k => laws_short.f k [a,b]) (decide (a.size ≤ 2000) && decide (b.size ≤ 2000)) :=
 Ev.same (short_l [a,b] [a,b] (by simp) [a,b] [] rfl) (by simp)
theorem ys_calm2 (a b : ByteArray) (ha : a.size ≤ 140737488351232) (hb : b.size ≤ 140737488351232) : Ev (fun k => laws_calm.f k [a,b]) (!((L a).any isCtl) && !((L b).any isCtl)) :=
 Ev.same (calm_l0 [a,b] (by simp) (by simp;exact ⟨ha,hb⟩) [a,b] [] rfl) (by simp)
theorem FnUriSays : laws_FnUriSays.Pure := by
 intro a b _ _
 have j0t : Ev (fun k => laws_FnUriSays.j0 k a b true) true := us_up (by simp only [laws_FnUriSays.j0];exact Ev.pos trivial (Ev.now _))
 refine Ev.rounds ?_
 unfold laws_FnUriSays.f
 by_cases h : (a.size : Int) > 2147483647
 ·
  exact Ev.pos h j0t
 refine Ev.neg h ?_
 by_cases h2 : (b.size : Int) > 2147483647
 ·
  rw [decide_eq_true h2];exact j0t
 rw [decide_eq_false h2]
 refine us_up ?_
 simp only [laws_FnUriSays.j0]
 refine Ev.neg (by decide) (Ev.call (Ev.some parses) (Ev.pos rfl (Ev.call (ys_short2 a b) ?_)))
 by_cases h3 : (decide (a.size ≤ 2000) && decide (b.size ≤ 2000)) = true
 ·
  rw [h3]
  simp only [Bool.and_eq_true,decide_eq_true_eq] at h3
  refine Ev.pos rfl (Ev.call (ys_calm2 a b (by omega) (by omega)) ?_)
  by_cases h4 : (!((L a).any isCtl) && !((L b).any isCtl)) = true
  ·
   rw [h4]
   simp only [Bool.and_eq_true,Bool.not_eq_true'] at h4
   exact ys_go a b h3.1 h3.2 h4.2
  rw [Bool.eq_false_iff.2 h4];exact ys_true a b
 rw [Bool.eq_false_iff.2 h3];exact Ev.neg (by simp) (ys_true a b)
end Go.Proofs.Ytbkeakeldegkeaa.Pure
end
section
namespace Go.Proofs.Ytbkeakeldegkeaa.fnUriSays
open Go.ChangeShapes Go.WideShapes Go.ChangeAt Go.RowKit
open Go.ChangeMaps (open_string shut_string)
theorem own : ownKnob Try.prog.godebug = none := by kernel_rfl
set_option maxRecDepth 100000 in
theorem lifted (os : Os) (started : os.Started) (H : Type) (enc : TypeId × Value → H) :
 ReturnsInHanded {} Try.checked os 7 .any (Rows.fnUriSaysSpec.pre6 enc Try.prog Try.f7 Rows.fnUriSaysRow.domain false) (Rows.fnUriSaysSpec.post enc Try.prog Try.f7 false true false false) := by
 refine returnsInHanded_of_change_sized (C := Try.checked) own started (by kernel_rfl) Try.func7
  (ChangeSpec.witness6 (enc := enc) (C := Try.checked) false ⟨#[],#[.string ByteArray.empty,.string ByteArray.empty],[]⟩ 8 (by kernel_rfl) (by kernel_rfl) (by kernel_rfl) (by kernel_rfl)) ?_
 intro W base args ds gs before hval0 hW hcnd hsz0 _
 have hsz : (DataW.weightsEach Try.prog (Try.f7.params.toList ++ Rows.fnUriSaysSpec.plain.varTypes Try.prog) (ds ++ gs)).all (· ≤ reachBytes) = true := hsz0
 have hval : ∀ (j : Nat) t v,Try.f7.params[j]? = some t → args[j]? = some v → Value.okWide Try.prog W .any base t v := hval0
 have hW' := hW
 obtain ⟨p,q,hA0,hV,rfl,hfz,hnd⟩ := hW
 have hA : DataW.TrodAll enc Try.prog W 0 (fun _ => true) true Try.f7.params.toList args.toList ds p := hA0
 rw [Try.params7] at hA hval hsz
 obtain ⟨v0,vs0,d0,ds0,p0,q0,hargs,rfl,rfl,h0,r0⟩ := trodAll_cons hA
 obtain ⟨v1,vs1,d1,ds1,p1,q1,rfl,rfl,rfl,h1,r1⟩ := trodAll_cons r0
 obtain ⟨rfl,rfl,rfl⟩ := trodAll_nil r1
 obtain rfl : args = #[v0,v1] := by cases args;simp_all
 obtain ⟨rfl,rfl⟩ := trodVars_none hV
 obtain ⟨a0,rfl,rfl,rfl,y0⟩ := open_string Try.underlying9 (hval 0 9 v0 rfl rfl) h0
 have w0 : a0.size ≤ 140737488351232 := by
  have z := sized_string hsz (j := 0) (t := 9) rfl rfl
  rw [Array.length_toList] at z
  exact z
 obtain ⟨a1,rfl,rfl,rfl,y1⟩ := open_string Try.underlying9 (hval 1 9 v1 rfl rfl) h1
 have w1 : a1.size ≤ 140737488351232 := by
  have z := sized_string hsz (j := 1) (t := 9) rfl rfl
  rw [Array.length_toList] at z
  exact z
 clear hA0 hval0 hsz0 hsz
 refine (Q.laws_FnUriSays.walk Pure.FnUriSays a0 a1 W w0 w1).mono fun e W' ⟨he,bel⟩ => ?_
 subst he
 exact ⟨_,rfl,_,_,_,[],_,[],hW',trodAll_mk1 (shut_bool Try.underlying4 _),(trodAll_cons_mk (shut_string Try.underlying9 y0) (trodAll_cons_mk (shut_string Try.underlying9 y1) trodAll_mk0)),rfl,bel.frame _,fun h => by cases h⟩
theorem over : Rows.fnUriSaysRow.holds Try.pinned (OpenSpec.ofChange Rows.fnUriSaysSpec) :=
 OpenClaim.holds_of_wide 7 Try.f7 rfl rfl rfl rfl rfl rfl rfl ⟨rfl,rfl,rfl,rfl,rfl⟩ rfl rfl rfl rfl rfl (by kernel_rfl) Try.func7 (by kernel_rfl)
  (of_decide_eq_true (by kernel_rfl)) (by unfold Func.isWrapper;first|(rw [if_pos (by decide +kernel)];kernel_rfl)|(rw [if_neg (by decide +kernel)];exact ⟨rfl,rfl⟩))
  (fun os started H enc _ => lifted os started H enc)
theorem proved : Rows.FnUriSaysSaid := over
#print axioms proved
end Go.Proofs.Ytbkeakeldegkeaa.fnUriSays
namespace Go.Proofs.Ytbkeakeldegkeaa
theorem fnUriSays_holds : Rows.FnUriSaysSaid := fnUriSays.proved
end Go.Proofs.Ytbkeakeldegkeaa
end
