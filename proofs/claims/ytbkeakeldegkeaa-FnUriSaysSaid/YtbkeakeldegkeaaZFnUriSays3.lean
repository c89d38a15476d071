/- FnUriSays: the law's function, called with any arguments, returns true and leaves its arguments as they were: every input, no condition. Part 4 of 16. -/
import Derived.Test.YtbkeakeldegkeaaZFnUriSays2
import Derived.Lib.IndexLaws
import Derived.Test.YtbkeakeldegkeaaZFnUriSays1
import Derived.Lib.SlBytesConst
set_option linter.unusedVariables false
set_option linter.unusedSimpArgs false
section
namespace Go.Proofs.Ytbkeakeldegkeaa.Cl
def splitS : List UInt8 → List (List UInt8)
 | [] => [[]]
 | c :: t => if c = 47 then [] :: splitS t else match splitS t with
  | [] => [[c]]
  | h :: r => (c :: h) :: r
theorem splitS_ne : ∀ l,splitS l ≠ []
 | [] => by simp [splitS]
 | c :: t => by
  unfold splitS
  split
  ·
   simp
  split <;> simp
theorem splitS_app (b : List UInt8) : ∀ a,splitS (a ++ 47 :: b) = splitS a ++ splitS b
 | [] => by simp [splitS]
 | c :: t => by
  have ih := splitS_app b t
  by_cases hc : c = 47
  ·
   simp [splitS,hc,ih]
  simp only [List.cons_append,splitS,if_neg hc,ih]
  cases h : splitS t with
  | nil => exact absurd h (splitS_ne t)
  | cons x y => simp
theorem splitS_word : ∀ a : List UInt8,(47 : UInt8) ∉ a → splitS a = [a]
 | [],_ => rfl
 | c :: t,h => by
  have hc : ¬ c = 47 := fun e => h (by simp [e])
  have ih := splitS_word t (fun e => h (by simp [e]))
  simp [splitS,hc,ih]
theorem splitS_free : ∀ (l q : List UInt8),q ∈ splitS l → (47 : UInt8) ∉ q
 | [],q,h => by simp [splitS] at h;simp [h]
 | c :: t,q,h => by
  have ih := splitS_free t
  by_cases hc : c = 47
  ·
   simp only [splitS,if_pos hc,List.mem_cons] at h
   rcases h with h|h
   ·
    simp [h]
   exact ih q h
  cases hs : splitS t with
  | nil => exact absurd hs (splitS_ne t)
  | cons x y =>
   simp only [splitS,if_neg hc,hs,List.mem_cons] at h
   rcases h with h|h
   ·
    have := ih x (by rw [hs];simp)
    rw [h]
    simp only [List.mem_cons,not_or]
    exact ⟨fun e => hc e.symm,this⟩
   exact ih q (by rw [hs];simp [h])
def joinS (S : List (List UInt8)) : List UInt8 := S.flatMap (47 :: ·)
theorem joinS_cons (q : List UInt8) (S : List (List UInt8)) : joinS (q :: S) = 47 :: q ++ joinS S := by simp [joinS]
theorem joinS_nil : joinS [] = [] := rfl
theorem joinS_app (S T : List (List UInt8)) : joinS (S ++ T) = joinS S ++ joinS T := by simp [joinS]
theorem join_split : ∀ l,joinS (splitS l) = 47 :: l
 | [] => by simp [splitS,joinS]
 | c :: t => by
  have ih := join_split t
  by_cases hc : c = 47
  ·
   simp [splitS,hc,joinS_cons,ih]
  cases hs : splitS t with
  | nil => exact absurd hs (splitS_ne t)
  | cons x y =>
   rw [hs,joinS_cons] at ih
   simp only [splitS,if_neg hc,hs,joinS_cons]
   simp at ih ⊢
   exact ih
theorem split_join : ∀ S : List (List UInt8),(∀ q ∈ S,(47 : UInt8) ∉ q) → splitS (joinS S) = [] :: S
 | [],_ => rfl
 | q :: S,h => by
  have ih := split_join S (fun x hx => h x (by simp [hx]))
  rw [joinS_cons]
  cases S with
  | nil => simp [splitS,joinS_nil,splitS_word q (h q (by simp))]
  | cons r R =>
   rw [joinS_cons] at ih ⊢
   have e : (47 : UInt8) :: q ++ (47 :: r ++ joinS R) = (47 :: q) ++ 47 :: (r ++ joinS R) := by simp
   rw [e,splitS_app]
   have e2 : splitS (47 :: (r ++ joinS R)) = [] :: splitS (r ++ joinS R) := by simp [splitS]
   rw [show (47 : UInt8) :: r ++ joinS R = 47 :: (r ++ joinS R) by simp,e2] at ih
   have e3 := List.cons.inj ih
   rw [e3.2]
   simp [splitS,splitS_word q (h q (by simp))]
def stepK (k : List (List UInt8)) (p : List UInt8) : List (List UInt8) := if p = [] ∨ p = [46] then k else if p = [46,46] then k.dropLast else k ++ [p]
def good (q : List UInt8) : Prop := q ≠ [] ∧ q ≠ [46] ∧ q ≠ [46,46]
theorem stepK_good (k : List (List UInt8)) (q : List UInt8) (h : good q) : stepK k q = k ++ [q] := by
 unfold stepK
 rw [if_neg (fun e => e.elim h.1 h.2.1),if_neg h.2.2]
theorem fold_good : ∀ (S k : List (List UInt8)),(∀ q ∈ S,good q) → S.foldl stepK k = k ++ S
 | [],k,_ => by simp
 | q :: S,k,h => by
  rw [List.foldl_cons,stepK_good k q (h q (by simp)),fold_good S _ (fun x hx => h x (by simp [hx]))]
  simp
theorem fold_keeps (P : List UInt8 → Prop) : ∀ (S k : List (List UInt8)),(∀ q ∈ S,P q) → (∀ q ∈ k,P q ∧ good q) → ∀ q ∈ S.foldl stepK k,P q ∧ good q
 | [],_,_,hk => hk
 | p :: S,k,h,hk => by
  rw [List.foldl_cons]
  refine fold_keeps P S _ (fun x hx => h x (by simp [hx])) fun q hq => ?_
  unfold stepK at hq
  split at hq
  ·
   exact hk q hq
  rename_i h1
  split at hq
  ·
   exact hk q (List.dropLast_subset _ hq)
  rename_i h2
  rw [List.mem_append] at hq
  rcases hq with hq|hq
  ·
   exact hk q hq
  have : q = p := by simpa using hq
  subst this
  exact ⟨h q (by simp),fun e => h1 (.inl e),fun e => h1 (.inr e),h2⟩
def keepK (l : List UInt8) : List (List UInt8) := (splitS l).foldl stepK []
def finK (k : List (List UInt8)) (last : List UInt8) : List UInt8 := if last = [46,46] then joinS (k.dropLast ++ [[]]) else joinS (k ++ [last])
def cleanK (l : List UInt8) : List UInt8 := finK ((splitS l).dropLast.foldl stepK []) ((splitS l).getLastD [])
theorem keep_app (a b : List UInt8) : keepK (a ++ 47 :: b) = (splitS b).foldl stepK (keepK a) := by rw [keepK,splitS_app,List.foldl_append];rfl
theorem getLastD_app {α} (d : α) : ∀ (a b : List α),b ≠ [] → (a ++ b).getLastD d = b.getLastD d := by
 intro a b h
 rw [List.getLastD_eq_getLast?,List.getLastD_eq_getLast?,List.getLast?_append]
 cases hb : b.getLast? with
 | none => exact absurd (List.getLast?_eq_none_iff.1 hb) h
 | some x => simp
theorem clean_app (a b : List UInt8) : cleanK (a ++ 47 :: b) = finK ((splitS b).dropLast.foldl stepK (keepK a)) ((splitS b).getLastD []) := by
 rw [cleanK,splitS_app,List.dropLast_append_of_ne_nil (splitS_ne b),List.foldl_append,getLastD_app _ _ _ (splitS_ne b)]
 rfl
theorem clean_dup (a b : List UInt8) : cleanK (a ++ 47 :: 47 :: b) = cleanK (a ++ 47 :: b) := by
 have e : a ++ 47 :: 47 :: b = (a ++ 47 :: []) ++ 47 :: b := by simp
 rw [e,clean_app,clean_app,keep_app]
 simp [splitS,stepK]
theorem clean_dot (a b : List UInt8) : cleanK (a ++ 47 :: 46 :: 47 :: b) = cleanK (a ++ 47 :: b) := by
 have e : a ++ 47 :: 46 :: 47 :: b = (a ++ 47 :: [46]) ++ 47 :: b := by simp
 rw [e,clean_app,clean_app,keep_app]
 simp [splitS,stepK]
theorem clean_up (p x b : List UInt8) (hx : (47 : UInt8) ∉ x) (hg : good x) : cleanK (p ++ 47 :: x ++ 47 :: 46 :: 46 :: 47 :: b) = cleanK (p ++ 47 :: b) := by
 have e : p ++ 47 :: x ++ 47 :: 46 :: 46 :: 47 :: b = ((p ++ 47 :: x) ++ 47 :: [46,46]) ++ 47 :: b := by simp
 rw [e,clean_app,clean_app,keep_app,keep_app,splitS_word x hx]
 have : splitS [46,46] = [[46,46]] := by decide
 rw [this,List.foldl_cons,List.foldl_nil,List.foldl_cons,List.foldl_nil,stepK_good _ _ hg]
 simp [stepK]
theorem clean_up0 (b : List UInt8) : cleanK (47 :: 46 :: 46 :: 47 :: b) = cleanK (47 :: b) := by
 have e : (47 : UInt8) :: 46 :: 46 :: 47 :: b = ([] ++ 47 :: [46,46]) ++ 47 :: b := by simp
 rw [e,clean_app,keep_app,show (47 : UInt8) :: b = [] ++ 47 :: b by simp,clean_app]
 have : splitS [46,46] = [[46,46]] := by decide
 rw [this]
 simp [keepK,splitS,stepK]
structure Free (l : List UInt8) : Prop where
 dup : ∀ a b,l ≠ a ++ 47 :: 47 :: b
 dot : ∀ a b,l ≠ a ++ 47 :: 46 :: 47 :: b
 up : ∀ a b,l ≠ a ++ 47 :: 46 :: 46 :: 47 :: b
theorem Free.part (l a q b : List UInt8) (h : Free l) (e : l = a ++ 47 :: q ++ 47 :: b) : good q := by
 refine ⟨fun hq => h.dup a b ?_,fun hq => h.dot a b ?_,fun hq => h.up a b ?_⟩ <;> (rw [e,hq];simp)
theorem joined_good (S : List (List UInt8)) (b : List UInt8) (h : Free (joinS S ++ 47 :: b)) : ∀ q ∈ S,good q := by
 intro q hq
 obtain ⟨S1,S2,rfl⟩ := List.append_of_mem hq
 rw [joinS_app,joinS_cons] at h
 cases S2 with
 | nil => exact h.part _ (joinS S1) q b (by simp [joinS_nil])
 | cons r R => exact h.part _ (joinS S1) q (r ++ joinS R ++ 47 :: b) (by simp [joinS_cons])
theorem keep_joined (S : List (List UInt8)) (hS : ∀ q ∈ S,(47 : UInt8) ∉ q) (hg : ∀ q ∈ S,good q) : keepK (joinS S) = S := by
 rw [keepK,split_join S hS,List.foldl_cons,fold_good S _ hg]
 simp [stepK]
theorem clean_joined (S : List (List UInt8)) (last : List UInt8) (hS : ∀ q ∈ S,(47 : UInt8) ∉ q) (hg : ∀ q ∈ S,good q) (hl : (47 : UInt8) ∉ last) : cleanK (joinS (S ++ [last])) = finK S last := by
 rw [joinS_app,joinS_cons,joinS_nil]
 rw [show joinS S ++ (47 :: last ++ []) = joinS S ++ 47 :: last by simp,clean_app,splitS_word _ hl,keep_joined S hS hg]
 rfl
theorem clean_stays (l : List UInt8) (h : Free (47 :: l)) (he : ∀ a,47 :: l ≠ a ++ [47,46,46]) : cleanK (47 :: l) = 47 :: l := by
 have hj := join_split l
 have hne := splitS_ne l
 obtain ⟨S,last,hs⟩ : ∃ S last,splitS l = S ++ [last] := ⟨_,_,(List.dropLast_concat_getLast hne).symm⟩
 have hf : ∀ q ∈ S ++ [last],(47 : UInt8) ∉ q := fun q hq => splitS_free l q (hs ▸ hq)
 rw [hs] at hj
 rw [← hj] at h he ⊢
 have hg : ∀ q ∈ S,good q := by
  refine joined_good S last ?_
  rw [joinS_app,joinS_cons,joinS_nil] at h
  simpa using h
 rw [clean_joined S last (fun q hq => hf q (by simp [hq])) hg (hf last (by simp)),finK,if_neg]
 intro e
 exact he (joinS S) (by rw [joinS_app,e,joinS_cons,joinS_nil];simp)
theorem clean_end (p x : List UInt8) (h : Free (p ++ 47 :: x ++ [47,46,46])) (hx : (47 : UInt8) ∉ x) (hp : p = [] ∨ ∃ q,p = 47 :: q) : cleanK (p ++ 47 :: x ++ [47,46,46]) = p ++ [47] := by
 have hgx : good x := h.part _ p x [46,46] rfl
 have hk : joinS (keepK p) = p := by
  rcases hp with rfl|⟨q,rfl⟩
  ·
   rfl
  have hj := join_split q
  have hg : ∀ y ∈ splitS q,good y := joined_good (splitS q) (x ++ [47,46,46]) (by rw [hj];simpa using h)
  rw [← hj,keep_joined _ (splitS_free q) hg]
 rw [show p ++ 47 :: x ++ [47,46,46] = (p ++ 47 :: x) ++ 47 :: [46,46] by simp,clean_app,keep_app,splitS_word x hx]
 have : splitS [46,46] = [[46,46]] := by decide
 rw [this,List.foldl_cons,List.foldl_nil,stepK_good _ _ hgx]
 simp [finK,joinS_app,joinS_cons,joinS_nil,hk]
theorem clean_end0 : cleanK [47,46,46] = [47] := by decide
theorem clean_form (l : List UInt8) : ∃ S last,cleanK l = joinS (S ++ [last]) ∧ (∀ q ∈ S,(47 : UInt8) ∉ q ∧ good q) ∧ (47 : UInt8) ∉ last ∧ last ≠ [46,46] := by
 have hf := fold_keeps (fun q => (47 : UInt8) ∉ q) (splitS l).dropLast [] (fun q hq => splitS_free l q (List.dropLast_subset _ hq)) (by simp)
 unfold cleanK finK
 split
 ·
  exact ⟨_,[],rfl,fun q hq => hf q (List.dropLast_subset _ hq),by simp,by decide⟩
 rename_i h
 refine ⟨_,_,rfl,hf,?_,h⟩
 have hne := splitS_ne l
 rw [List.getLastD_eq_getLast?,List.getLast?_eq_some_getLast hne]
 exact splitS_free l _ (List.getLast_mem hne)
theorem joinS_slash (S : List (List UInt8)) (last : List UInt8) : ∃ t,joinS (S ++ [last]) = 47 :: t := by
 cases S with
 | nil => exact ⟨last,by simp [joinS]⟩
 | cons q S => exact ⟨q ++ joinS (S ++ [last]),by simp [joinS_cons]⟩
theorem clean_slash (l : List UInt8) : ∃ t,cleanK l = 47 :: t := by
 obtain ⟨S,last,e,_⟩ := clean_form l
 rw [e]
 exact joinS_slash S last
theorem shift_free2 (p m b : List UInt8) (h : ∀ a c,p ++ 47 :: m ++ 47 :: b ≠ a ++ 47 :: 47 :: c) : ∀ a c,p ++ 47 :: b ≠ a ++ 47 :: 47 :: c := by
 intro a c e
 rcases List.append_eq_append_iff.1 e with ⟨t,h1,h2⟩|⟨t,h1,h2⟩
 ·
  cases t with
  | nil =>
   simp at h1 h2
   exact h (p ++ 47 :: m) c (by rw [h2])
  | cons x t =>
   simp at h2
   exact h (p ++ 47 :: m ++ 47 :: t) c (by rw [h2.2];simp)
 cases t with
 | nil =>
  simp at h1 h2
  exact h (p ++ 47 :: m) c (by rw [h2])
 | cons x t =>
  simp at h2
  cases t with
  | nil =>
   simp at h2
   refine h a (m ++ 47 :: b) ?_
   rw [h1,← h2.1];simp
  | cons y t =>
   simp at h2
   exact h a (t ++ 47 :: (m ++ 47 :: b)) (by rw [h1,← h2.1,← h2.2.1];simp)
theorem shift_free3 (p m b : List UInt8) (h : ∀ a c,p ++ 47 :: m ++ 47 :: b ≠ a ++ 47 :: 46 :: 47 :: c) : ∀ a c,p ++ 47 :: b ≠ a ++ 47 :: 46 :: 47 :: c := by
 intro a c e
 rcases List.append_eq_append_iff.1 e with ⟨t,h1,h2⟩|⟨t,h1,h2⟩
 ·
  cases t with
  | nil =>
   simp at h1 h2
   exact h (p ++ 47 :: m) c (by rw [h2])
  | cons x t =>
   simp at h2
   exact h (p ++ 47 :: m ++ 47 :: t) c (by rw [h2.2];simp)
 cases t with
 | nil =>
  simp at h1 h2
  exact h (p ++ 47 :: m) c (by rw [h2])
 | cons x t =>
  simp at h2
  cases t with
  | nil => simp at h2
  | cons y t =>
   simp at h2
   cases t with
   | nil =>
    simp at h2
    exact h a (m ++ 47 :: b) (by rw [h1,← h2.1,← h2.2.1];simp)
   | cons z t =>
    simp at h2
    exact h a (t ++ 47 :: (m ++ 47 :: b)) (by rw [h1,← h2.1,← h2.2.1,← h2.2.2.1];simp)
end Go.Proofs.Ytbkeakeldegkeaa.Cl
end
section
namespace Go.Proofs.Ytbkeakeldegkeaa.SpA
open Go.RowKit Go.Proofs.Ytbkeakeldegkeaa.Q Go.Proofs.YtbkeakeldegkeaaW.PrintWords Go.Proofs.YtbkeakeldegkeaaW.PrintLast Go.Proofs.YtbkeakeldegkeaaKit
def hx (c : UInt8) : Int := bt tab1 (c.toNat : Int)
def hx2 (x y : UInt8) : UInt8 := (Go.bits .or .u8 ((hx x * 16) % 256) (hx y)).toNat.toUInt8
def dec : List UInt8 → List UInt8
 | [] => []
 | [c] => [c]
 | [c,d] => [c,d]
 | c :: x :: y :: r => if c = 37 then (if hx x = 16 ∨ hx y = 16 then 37 :: dec (x :: y :: r) else hx2 x y :: dec r) else c :: dec (x :: y :: r)
termination_by l => l.length
theorem dec_plain (c : UInt8) (hc : c ≠ 37) : ∀ t,dec (c :: t) = c :: dec t
 | [] => by simp [dec]
 | [d] => by simp [dec]
 | x :: y :: r => by rw [dec,if_neg hc]
theorem dec_short (l : List UInt8) (h : l.length ≤ 2) : dec l = l := by
 match l,h with
 | [],_ => simp [dec]
 | [c],_ => simp [dec]
 | [c,d],_ => simp [dec]
theorem dec_none : ∀ (l : List UInt8),(37 : UInt8) ∉ l → dec l = l
 | [],_ => by simp [dec]
 | c :: t,h => by
  rw [dec_plain c (fun e => h (by simp [e])),dec_none t (fun e => h (by simp [e]))]
theorem tab_size : (tab1.size : Int) = 256 := by decide +kernel
theorem hx_all : ∀ c : Fin 256,0 ≤ bt tab1 ((c : Nat) : Int) ∧ bt tab1 ((c : Nat) : Int) ≤ 16 := by decide +kernel
theorem hx_range (c : UInt8) : 0 ≤ hx c ∧ hx c ≤ 16 := hx_all ⟨c.toNat,c.toNat_lt⟩
set_option maxRecDepth 100000 in
set_option maxHeartbeats 4000000 in
theorem bits_all : ∀ a b : Fin 17,((Go.bits .or .u8 (((a.val : Int) * 16) % 256) (b.val : Int)).toNat.toUInt8.toNat : Int) = Go.bits .or .u8 (((a.val : Int) * 16) % 256) (b.val : Int) := by decide +kernel
theorem hx2_toI (x y : UInt8) : ((hx2 x y).toNat : Int) = Go.bits .or .u8 ((hx x * 16) % 256) (hx y) := by
 have h1 := hx_range x
 have h2 := hx_range y
 have h := bits_all ⟨(hx x).toNat,by omega⟩ ⟨(hx y).toNat,by omega⟩
 simp only [show (((hx x).toNat : Nat) : Int) = hx x by omega,show (((hx y).toNat : Nat) : Int) = hx y by omega] at h
 exact h
theorem dec_len : ∀ (n : Nat) (l : List UInt8),l.length ≤ n → (dec l).length ≤ l.length
 | 0,l,h => by
  have : l = [] := List.length_eq_zero_iff.1 (by omega)
  subst this
  simp [dec]
 | n + 1,l,h => by
  match l,h with
  | [],_ => simp [dec]
  | [c],_ => simp [dec]
  | [c,d],_ => simp [dec]
  | c :: x :: y :: r,h =>
   have h1 := dec_len n (x :: y :: r) (by simp at h ⊢;omega)
   have h2 := dec_len n r (by simp at h ⊢;omega)
   rw [dec]
   simp only [List.length_cons] at h1 ⊢
   split
   ·
    split
    ·
     simp only [List.length_cons];omega
    simp only [List.length_cons];omega
   simp only [List.length_cons];omega
theorem toI_snoc (a : List UInt8) (c : UInt8) : toI a ++ [(c.toNat : Int)] = toI (a ++ [c]) := by simp [toI]
theorem rd_at {l pre t : List UInt8} {c : UInt8} (h : l = pre ++ c :: t) (x : Int) (hx : x = (pre.length : Int)) : rd (toI l) x = (c.toNat : Int) := by rw [hx];exact rd_mid h
theorem byte_lt (c : UInt8) : (c.toNat : Int) < 256 := by have := c.toNat_lt;omega
theorem dec_l (s : List UInt8) (hs : s.length ≤ 2147483647) : ∀ (n : Nat) (pre suf acc : List UInt8),suf.length ≤ n → s = pre ++ suf → acc.length + suf.length < 140737488355328 →
  Ev (fun k => hertzproto_decodeArgAppendNoPlus.l0 k (toI acc) (toI s) (pre.length : Int)) (toI (acc ++ dec suf)) := by
 intro n
 induction n with
 | zero =>
  intro pre suf acc hn e hacc
  have : suf = [] := List.length_eq_zero_iff.1 (by omega)
  subst this
  refine Ev.step (f := fun _ => some (toI acc)) (fun k => ?_) (by rw [show acc ++ dec [] = acc by simp [dec]];exact Ev.now _)
  simp only [hertzproto_decodeArgAppendNoPlus.l0,toI_length]
  rw [if_neg (by rw [e];simp)]
 | succ n ih =>
  intro pre suf acc hn e hacc
  cases suf with
  | nil =>
   refine Ev.step (f := fun _ => some (toI acc)) (fun k => ?_) (by rw [show acc ++ dec [] = acc by simp [dec]];exact Ev.now _)
   simp only [hertzproto_decodeArgAppendNoPlus.l0,toI_length]
   rw [if_neg (by rw [e];simp)]
  | cons c t =>
   have hsl : s.length = pre.length + (t.length + 1) := by rw [e];simp
   simp only [List.length_cons] at hn hacc
   have g0 : (pre.length : Int) < (s.length : Int) := by omega
   have g1 : (0 : Int) ≤ (pre.length : Int) := by omega
   have hrd : rd (toI s) (pre.length : Int) = (c.toNat : Int) := rd_mid e
   have w1 : wrap64 ((pre.length : Int) + 1) = ((pre ++ [c]).length : Int) := by rw [wrap_id (by omega) (by omega)];simp
   have w2 : wrap64 ((pre.length : Int) + 2) = (pre.length : Int) + 2 := wrap_id (by omega) (by omega)
   have hal : (acc.length : Nat) < 140737488355328 := by omega
   by_cases hc : c = 37
   ·
    have hc' : (c.toNat : Int) = 37 := by rw [hc];rfl
    match t,hn,hacc,e,hsl with
    | [],hn,hacc,e,hsl =>
     refine Ev.step (f := fun _ => some (toI (acc ++ dec [c]))) (fun k => ?_) (Ev.now _)
     simp only [hertzproto_decodeArgAppendNoPlus.l0,toI_length]
     rw [if_pos g0,if_pos g1,hrd,if_pos hc',w2,if_pos (by simp at hsl ⊢;omega),if_pos (by omega),Int.toNat_natCast,toI_drop,e,List.drop_left,dec_short [c] (by simp),Option.bind_some,toI_length,if_pos (by simp;omega),toI_append]
    | [d],hn,hacc,e,hsl =>
     refine Ev.step (f := fun _ => some (toI (acc ++ dec [c,d]))) (fun k => ?_) (Ev.now _)
     simp only [hertzproto_decodeArgAppendNoPlus.l0,toI_length]
     rw [if_pos g0,if_pos g1,hrd,if_pos hc',w2,if_pos (by simp at hsl ⊢;omega),if_pos (by omega),Int.toNat_natCast,toI_drop,e,List.drop_left,dec_short [c,d] (by simp),Option.bind_some,toI_length,if_pos (by simp at hacc ⊢;omega),toI_append]
    | x :: y :: r,hn,hacc,e,hsl =>
     simp only [List.length_cons] at hn hacc hsl
     have hrx : rd (toI s) ((pre ++ [c]).length : Int) = (x.toNat : Int) := rd_mid (pre := pre ++ [c]) (t := y :: r) (by rw [e];simp)
     have hry : rd (toI s) ((pre.length : Int) + 2) = (y.toNat : Int) := rd_at (pre := pre ++ [c,x]) (t := r) (by rw [e];simp) _ (by simp)
     have hlp : ((pre ++ [c]).length : Int) = (pre.length : Int) + 1 := by simp
     have gx0 : (0 : Int) ≤ (x.toNat : Int) := by omega
     have gy0 : (0 : Int) ≤ (y.toNat : Int) := by omega
     have gx1 : (x.toNat : Int) < (tab1.size : Int) := by rw [tab_size];exact byte_lt x
     have gy1 : (y.toNat : Int) < (tab1.size : Int) := by rw [tab_size];exact byte_lt y
     have k1 : ¬ (pre.length : Int) + 2 ≥ (s.length : Int) := by omega
     have k2 : (0 : Int) ≤ (pre.length : Int) + 2 := by omega
     have k3 : (pre.length : Int) + 2 < (s.length : Int) := by omega
     have k4 : (0 : Int) ≤ ((pre ++ [c]).length : Int) := by omega
     have k5 : ((pre ++ [c]).length : Int) < (s.length : Int) := by omega
     have ih1 := ih (pre ++ [c]) (x :: y :: r) (acc ++ [37]) (by simp;omega) (by rw [e];simp) (by simp;omega)
     have ih2 := ih (pre ++ [c,x,y]) r (acc ++ [hx2 x y]) (by omega) (by rw [e];simp) (by simp;omega)
     have hd : dec (c :: x :: y :: r) = if hx x = 16 ∨ hx y = 16 then 37 :: dec (x :: y :: r) else hx2 x y :: dec r := by rw [dec,if_pos hc]
     have w3 : wrap64 ((pre.length : Int) + 2 + 1) = ((pre ++ [c,x,y]).length : Int) := by rw [wrap_id (by omega) (by omega)];simp;omega
     by_cases h1 : hx x = 16
     ·
      rw [hd,if_pos (.inl h1),show acc ++ 37 :: dec (x :: y :: r) = acc ++ [37] ++ dec (x :: y :: r) by simp]
      refine Ev.step (fun k => ?_) ih1
      simp only [hertzproto_decodeArgAppendNoPlus.l0,toI_length]
      rw [if_pos g0,if_pos g1,hrd,if_pos hc',w2,w1,if_neg k1,if_pos k2,if_pos k3,hrx,hry,if_pos gy0,if_pos gy1,if_pos k4,if_pos k5,if_pos gx0,if_pos gx1,if_pos (show bt tab1 (x.toNat : Int) = 16 from h1),if_pos hal,show ([37] : List Int) = [((37 : UInt8).toNat : Int)] from rfl,toI_snoc]
     by_cases h2 : hx y = 16
     ·
      rw [hd,if_pos (.inr h2),show acc ++ 37 :: dec (x :: y :: r) = acc ++ [37] ++ dec (x :: y :: r) by simp]
      refine Ev.step (fun k => ?_) ih1
      simp only [hertzproto_decodeArgAppendNoPlus.l0,toI_length]
      rw [if_pos g0,if_pos g1,hrd,if_pos hc',w2,w1,if_neg k1,if_pos k2,if_pos k3,hrx,hry,if_pos gy0,if_pos gy1,if_pos k4,if_pos k5,if_pos gx0,if_pos gx1,if_neg (show ¬ bt tab1 (x.toNat : Int) = 16 from h1),if_pos (show bt tab1 (y.toNat : Int) = 16 from h2),if_pos hal,show ([37] : List Int) = [((37 : UInt8).toNat : Int)] from rfl,toI_snoc]
     rw [hd,if_neg (by simp [h1,h2]),show acc ++ hx2 x y :: dec r = acc ++ [hx2 x y] ++ dec r by simp]
     refine Ev.step (fun k => ?_) ih2
     simp only [hertzproto_decodeArgAppendNoPlus.l0,toI_length]
     rw [if_pos g0,if_pos g1,hrd,if_pos hc',w2,w1,if_neg k1,if_pos k2,if_pos k3,hrx,hry,if_pos gy0,if_pos gy1,if_pos k4,if_pos k5,if_pos gx0,if_pos gx1,if_neg (show ¬ bt tab1 (x.toNat : Int) = 16 from h1),if_neg (show ¬ bt tab1 (y.toNat : Int) = 16 from h2),if_pos hal,w3,← toI_snoc,hx2_toI]
     rfl
   have hc' : ¬ (c.toNat : Int) = 37 := fun h => hc (UInt8.toNat_inj.1 (by have : (37 : UInt8).toNat = 37 := rfl;omega))
   have ih1 := ih (pre ++ [c]) t (acc ++ [c]) (by omega) (by rw [e];simp) (by simp;omega)
   rw [dec_plain c hc,show acc ++ c :: dec t = acc ++ [c] ++ dec t by simp]
   refine Ev.step (fun k => ?_) ih1
   simp only [hertzproto_decodeArgAppendNoPlus.l0,toI_length]
   rw [if_pos g0,if_pos g1,hrd,if_neg hc',w1,if_pos hal,toI_snoc]
theorem bytesOf_toI' (l : List UInt8) : Lib.bytesOf (toI l) = l := by
 unfold Lib.bytesOf toI
 rw [List.map_map]
 conv => rhs;rw [← List.map_id l]
 refine List.map_congr_left fun c _ => ?_
 simp
theorem dec_f (a s : List UInt8) (ha : a.length ≤ 1) (hs : s.length ≤ 2147483647) : Ev (fun k => hertzproto_decodeArgAppendNoPlus.f k (toI a) (toI s)) (toI (a ++ dec s)) := by
 have hib : bytes_IndexByte.f (toI s) 37 = some (Lib.indexByte s 37) := by
  unfold bytes_IndexByte.f
  rw [bytesOf_toI']
  rfl
 by_cases h : Lib.indexByte s 37 < 0
 ·
  have hn : (37 : UInt8) ∉ s := fun hm => by
   have h1 := Lib.indexByte_none (l := s) (c := 37) (by have := Lib.indexByte_ge s 37;omega)
   obtain ⟨k,hk,e⟩ := List.getElem_of_mem hm
   exact h1 k (by rw [List.getElem?_eq_getElem hk,e])
  refine ⟨0,fun k _ => ?_⟩
  simp only [hertzproto_decodeArgAppendNoPlus.f,hib,Option.bind_some]
  rw [if_pos h,toI_length,toI_length,if_pos (by omega),dec_none s hn,toI_append]
 obtain ⟨K,hK⟩ := dec_l s hs s.length [] s a (Nat.le_refl _) rfl (by omega)
 refine ⟨K,fun k hk => ?_⟩
 have h2 := hK k hk
 simp only [hertzproto_decodeArgAppendNoPlus.f,hib,Option.bind_some]
 rw [if_neg h]
 exact h2
def lead : List UInt8 → List UInt8
 | [] => [47]
 | c :: _ => if c = 47 then [] else [47]
theorem lead_f (s : List UInt8) : hertzproto_addLeadingSlash.f [] (toI s) = some (toI (lead s)) := by
 cases s with
 | nil => rfl
 | cons c t =>
  have hr : rd (toI (c :: t)) 0 = (c.toNat : Int) := rd_at (pre := []) rfl 0 rfl
  simp only [hertzproto_addLeadingSlash.f,toI_length,lead]
  rw [if_neg (by simp only [List.length_cons];omega),if_pos (by simp only [List.length_cons];omega),hr]
  by_cases hc : c = 47
  ·
   rw [if_pos (by rw [hc];rfl),if_pos hc];rfl
  rw [if_neg (fun h => hc (UInt8.toNat_inj.1 (by have : (47 : UInt8).toNat = 47 := rfl;omega))),if_neg hc,if_pos (by decide)];rfl
theorem lead_len (s : List UInt8) : (lead s).length ≤ 1 := by
 cases s with
 | nil => simp [lead]
 | cons c t =>
  rw [lead]
  split
  ·
   exact Nat.zero_le _
  exact Nat.le_refl _
theorem lead_slash (s : List UInt8) : ∃ t,lead s ++ dec s = 47 :: t := by
 cases s with
 | nil => exact ⟨[],by simp [lead,dec]⟩
 | cons c t =>
  by_cases hc : c = 47
  ·
   exact ⟨dec t,by rw [lead,if_pos hc,dec_plain c (by rw [hc];decide),hc];rfl⟩
  exact ⟨dec (c :: t),by rw [lead,if_neg hc];rfl⟩
def norm (s : List UInt8) : List UInt8 := Cl.cleanK (lead s ++ dec s)
end Go.Proofs.Ytbkeakeldegkeaa.SpA
end
section
namespace Go.Proofs.Ytbkeakeldegkeaa.Q
open Go.RowKit Go.Proofs.YtbkeakeldegkeaaW.PrintWords Go.Proofs.YtbkeakeldegkeaaW.PrintLast Go.Proofs.YtbkeakeldegkeaaW.PrintMore
attribute [local go_sem] max2_int min2_int max_two min_two max_three min_three max_four min_four
end Go.Proofs.Ytbkeakeldegkeaa.Q
namespace Go.Proofs.Ytbkeakeldegkeaa.Q
open Go.RowKit Go.Proofs.YtbkeakeldegkeaaW.PrintWords Go.Proofs.YtbkeakeldegkeaaW.PrintLast Go.Proofs.YtbkeakeldegkeaaW.PrintMore
attribute [local go_sem] max2_int min2_int max_two min_two max_three min_three max_four min_four
end Go.Proofs.Ytbkeakeldegkeaa.Q
end
section
namespace Go.Proofs.Ytbkeakeldegkeaa.SpA
open Go.RowKit Go.Proofs.Ytbkeakeldegkeaa.Q Go.Proofs.YtbkeakeldegkeaaW.PrintWords Go.Proofs.YtbkeakeldegkeaaW.PrintLast Go.Proofs.YtbkeakeldegkeaaKit
abbrev HX : ByteArray := ⟨#[48,49,50,51,52,53,54,55,56,57,65,66,67,68,69,70]⟩
def hexU (n : Nat) : UInt8 := (L HX).getD n 0
def escP (c : UInt8) : List UInt8 := if bt tab2 (c.toNat : Int) = 0 then [c] else [37,hexU (c.toNat / 16),hexU (c.toNat % 16)]
theorem and15 : ∀ c : Fin 256,Go.bits .and .u8 ((c : Nat) : Int) 15 = (((c : Nat) % 16 : Nat) : Int) := by decide +kernel
theorem bt_HX (n : Nat) (h : n < 16) : bt HX (n : Int) = ((hexU n).toNat : Int) := by
 rw [bt_nat HX n (by simpa using h)]
 unfold hexU
 rw [List.getD_eq_getElem?_getD,List.getElem?_eq_getElem (show n < (L HX).length from h)]
 rfl
theorem and15' (c : UInt8) : Go.bits .and .u8 (c.toNat : Int) 15 = ((c.toNat % 16 : Nat) : Int) := and15 ⟨c.toNat,c.toNat_lt⟩
theorem hi_nib (c : UInt8) : (c.toNat : Int) / 16 = ((c.toNat / 16 : Nat) : Int) := by omega
theorem escP_len (c : UInt8) : (escP c).length ≤ 3 := by unfold escP;split <;> simp
theorem wrap_b (c : UInt8) : wrap64 (c.toNat : Int) = (c.toNat : Int) := by have := c.toNat_lt;exact wrap_id (by omega) (by omega)
theorem tabP_size : tab2.size = 256 := by decide +kernel
theorem hex3 (c : UInt8) : ([37,bt HX ((c.toNat : Int) / 16),bt HX (Go.bits .and .u8 (c.toNat : Int) 15)] : List Int) = toI [37,hexU (c.toNat / 16),hexU (c.toNat % 16)] := by
 have hc := c.toNat_lt
 rw [hi_nib,and15',bt_HX _ (by omega),bt_HX _ (by omega)]
 rfl
theorem path_l (xs : List UInt8) (hx : xs.length ≤ 1000000000000) : ∀ (suf pre acc : List UInt8),xs = pre ++ suf → acc.length + 3 * suf.length ≤ 100000000000000 →
  Ev (fun k => hertzconv_AppendQuotedPath.l0 k (toI acc) (toI xs) (xs.length : Int) (pre.length : Int)) (toI (acc ++ suf.flatMap escP))
 | [],pre,acc,h,hl => by
  refine Ev.step (f := fun _ => some (toI acc)) (fun k => ?_) (Ev.same (Ev.now _) (by simp))
  simp only [hertzconv_AppendQuotedPath.l0]
  rw [if_neg (ln_not h)]
 | c :: t,pre,acc,h,hl => by
  have hc := c.toNat_lt
  simp only [List.length_cons] at hl
  have ih := path_l xs hx t (pre ++ [c]) (acc ++ escP c) (lmid_next h) (by have := escP_len c;rw [List.length_append];omega)
  have hw := wrap_lmid h (by omega)
  refine Ev.step (fun k => ?_) (Ev.same ih (by simp))
  simp only [hertzconv_AppendQuotedPath.l0]
  rw [if_pos (ln_mid h),if_pos (by omega),toI_length,if_pos (ln_mid h),rd_mid h,hw,toI_append]
  unfold escP
  rw [wrap_b,if_pos (by omega),tabP_size,if_pos (by omega)]
  by_cases h0 : bt tab2 (c.toNat : Int) = 0
  ·
   rw [if_pos h0,if_pos (by rw [toI_length];omega),if_pos h0]
   rfl
  rw [if_neg h0,if_pos (by omega),if_pos (by omega),and15',if_pos (by omega),if_pos (by omega),if_neg h0,← and15',hex3,Option.bind_some,if_pos (by rw [toI_length,toI_length];simp;omega)]
def quoteP (xs : List UInt8) : List UInt8 := if xs = [42] then [42] else xs.flatMap escP
theorem path_ev (xs acc : List UInt8) (hx : xs.length ≤ 1000000000000) (hl : acc.length + 3 * xs.length + 3 ≤ 100000000000000) : Ev (fun k => hertzconv_AppendQuotedPath.f k (toI acc) (toI xs)) (toI (acc ++ quoteP xs)) := by
 have hgo := path_l xs hx xs [] acc rfl (by omega)
 have hj : Ev (fun k => hertzconv_AppendQuotedPath.j0 k (toI acc) (toI xs) false) (toI (acc ++ xs.flatMap escP)) := by
  refine Ev.step (fun k => ?_) hgo
  simp only [hertzconv_AppendQuotedPath.j0]
  rw [if_neg (by decide),toI_length]
  rfl
 unfold hertzconv_AppendQuotedPath.f quoteP
 match xs with
 | [] => exact Ev.neg (by simp [toI]) (by rw [if_neg (by simp)];exact hj)
 | [c] =>
  refine Ev.pos rfl (Ev.pos (by simp [toI]) ?_)
  have hr : rd (toI [c]) 0 = (c.toNat : Int) := rfl
  rw [hr]
  by_cases h : c = 42
  ·
   rw [if_pos (by rw [h])]
   have : ((c.toNat : Int) == 42) = true := by rw [h];rfl
   rw [this]
   refine Ev.step (f := fun _ => some (toI (acc ++ [42]))) (fun k => ?_) (Ev.now _)
   simp only [hertzconv_AppendQuotedPath.j0]
   rw [if_pos trivial,if_pos (by rw [toI_length];simp at hl;omega),toI_append]
   rfl
  rw [if_neg (by simpa using h)]
  have : ((c.toNat : Int) == 42) = false := by
   rw [beq_eq_false_iff_ne]
   intro e
   exact h (UInt8.toNat_inj.1 (show c.toNat = (42 : UInt8).toNat from by show c.toNat = 42;omega))
  rw [this]
  exact hj
 | c :: d :: t => exact Ev.neg (by rw [toI_length];simp;omega) (by rw [if_neg (by simp)];exact hj)
end Go.Proofs.Ytbkeakeldegkeaa.SpA
end
section
namespace Go.Proofs.Ytbkeakeldegkeaa.SpA
open Go.RowKit Go.Proofs.Ytbkeakeldegkeaa.Q Go.Proofs.YtbkeakeldegkeaaW.PrintWords Go.Proofs.YtbkeakeldegkeaaW.PrintLast Go.Proofs.YtbkeakeldegkeaaKit
structure UR where
 scheme : List UInt8
 host : List UInt8
 orig : List UInt8
 path : List UInt8
 query : List UInt8
 hash : List UInt8
 user : List UInt8
 pass : List UInt8
def lowU (c : UInt8) : UInt8 := if 65 ≤ c.toNat ∧ c.toNat ≤ 90 then c + 32 else c
def upto (c : UInt8) (l : List UInt8) : List UInt8 := l.takeWhile (· != c)
def past (c : UInt8) (l : List UInt8) : List UInt8 := (l.dropWhile (· != c)).drop 1
def isAl (c : UInt8) : Bool := (decide (97 ≤ c.toNat) && decide (c.toNat ≤ 122)) || (decide (65 ≤ c.toNat) && decide (c.toNat ≤ 90))
def isSg (c : UInt8) : Bool := (decide (48 ≤ c.toNat) && decide (c.toNat ≤ 57)) || c == 43 || c == 45 || c == 46
def schEnd : Nat → List UInt8 → Option Nat
 | _,[] => none
 | i,c :: t => if isAl c then schEnd (i + 1) t else if isSg c then (if i = 0 then none else schEnd (i + 1) t) else if c = 58 then (if i = 0 then none else some i) else none
def HTTP : List UInt8 := [104,116,116,112]
def partU (host uri : List UInt8) : Option (List UInt8 × List UInt8 × List UInt8) :=
 match schEnd 0 uri with
 | none => some (HTTP,host,uri)
 | some i =>
  if (uri.drop (i + 1)).length < 2 then none
  else if (47 : UInt8) ∈ uri.drop (i + 3) then some (uri.take i,upto 47 (uri.drop (i + 3)),(uri.drop (i + 3)).dropWhile (· != 47))
  else if (63 : UInt8) ∈ uri.drop (i + 3) then some (uri.take i,upto 63 (uri.drop (i + 3)),(uri.drop (i + 3)).dropWhile (· != 63))
  else some (uri.take i,uri.drop (i + 3),[47])
def isCtl (c : UInt8) : Bool := decide (c.toNat < 32) || c == 127
def authU (h : List UInt8) : List UInt8 × List UInt8 × List UInt8 :=
 if (64 : UInt8) ∈ h then (if (58 : UInt8) ∈ upto 64 h then (upto 58 (upto 64 h),past 58 (upto 64 h),past 64 h) else (upto 64 h,[],past 64 h)) else ([],[],h)
def pathU (u : List UInt8) : List UInt8 × List UInt8 × List UInt8 := (upto 63 (upto 35 u),past 63 (upto 35 u),past 35 u)
def restU (s h u : List UInt8) : UR := ⟨s,(authU h).2.2.map lowU,(pathU u).1,norm (pathU u).1,(pathU u).2.1,(pathU u).2.2,(authU h).1,(authU h).2.1⟩
def SEP : List UInt8 := [58,47,47]
def parseU (host uri : List UInt8) : Option UR :=
 if uri.any isCtl then some ⟨[],[],[],[],[],[],[],[]⟩
 else if host = [] ∨ 0 ≤ ix SEP uri 0 then (partU host uri).map fun x => restU (x.1.map lowU) x.2.1 x.2.2
 else some (restU [] host uri)
def UR.sch (u : UR) : List UInt8 := if u.scheme = [] then HTTP else u.scheme
def UR.pth (u : UR) : List UInt8 := if u.path = [] then [47] else u.path
def UR.req (u : UR) (raw : Bool) : List UInt8 := (if raw then u.orig else quoteP u.pth) ++ (if u.query = [] then [] else 63 :: u.query)
def UR.full (u : UR) (raw : Bool) : List UInt8 := u.sch ++ SEP ++ u.host ++ u.req raw ++ (if u.hash = [] then [] else 35 :: u.hash)
def lastU (p : List UInt8) : List UInt8 := (p.reverse.takeWhile (· != 47)).reverse
end Go.Proofs.Ytbkeakeldegkeaa.SpA
end
section
namespace Go.Proofs.Ytbkeakeldegkeaa.Q
open Go.RowKit Go.Proofs.YtbkeakeldegkeaaW.PrintWords Go.Proofs.YtbkeakeldegkeaaW.PrintLast Go.Proofs.YtbkeakeldegkeaaW.PrintMore
open Go.Proofs.Ytbkeakeldegkeaa.SpA (toI toI_length toI_append lowU)
open Go.Proofs.Ytbkeakeldegkeaa.Ob
def lowTab : ByteArray := ⟨#[0,1,2,3,4,5,6,7,8,9,10,11,12,13,14,15,16,17,18,19,20,21,22,23,24,25,26,27,28,29,30,31,32,33,34,35,36,37,38,39,40,41,42,43,44,45,46,47,48,49,50,51,52,53,54,55,56,57,58,59,60,61,62,63,64,97,98,99,100,101,102,103,104,105,106,107,108,109,110,111,112,113,114,115,116,117,118,119,120,121,122,91,92,93,94,95,96,97,98,99,100,101,102,103,104,105,106,107,108,109,110,111,112,113,114,115,116,117,118,119,120,121,122,123,124,125,126,127,128,129,130,131,132,133,134,135,136,137,138,139,140,141,142,143,144,145,146,147,148,149,150,151,152,153,154,155,156,157,158,159,160,161,162,163,164,165,166,167,168,169,170,171,172,173,174,175,176,177,178,179,180,181,182,183,184,185,186,187,188,189,190,191,192,193,194,195,196,197,198,199,200,201,202,203,204,205,206,207,208,209,210,211,212,213,214,215,216,217,218,219,220,221,222,223,224,225,226,227,228,229,230,231,232,233,234,235,236,237,238,239,240,241,242,243,244,245,246,247,248,249,250,251,252,253,254,255]⟩
theorem lowTab_all : ∀ c : Fin 256,bt lowTab ((c : Nat) : Int) = ((lowU (UInt8.ofNat c)).toNat : Int) := by decide +kernel
theorem lowTab_bt (c : UInt8) : bt lowTab (c.toNat : Int) = ((lowU c).toNat : Int) := by
 have := lowTab_all ⟨c.toNat,c.toNat_lt⟩
 rwa [show UInt8.ofNat ((⟨c.toNat,c.toNat_lt⟩ : Fin 256) : Nat) = c by simp] at this
def lowL (l : List UInt8) (k : Nat) : List UInt8 := (l.take k).map lowU ++ l.drop k
theorem lowL_len (l : List UInt8) (k : Nat) (h : k ≤ l.length) : (lowL l k).length = l.length := by simp [lowL];omega
theorem lowL_at (l : List UInt8) (k : Nat) (h : k < l.length) : (lowL l k)[k]? = some l[k] := by
 unfold lowL
 rw [List.getElem?_append_right (by simp;omega)]
 simp [Nat.min_eq_left (Nat.le_of_lt h)]
theorem lowL_set (l : List UInt8) (k : Nat) (h : k < l.length) : (lowL l k).set k (lowU l[k]) = lowL l (k + 1) := by
 unfold lowL
 rw [List.set_append_right _ _ (by simp;omega),List.take_succ_eq_append_getElem h,List.map_append,List.append_assoc]
 simp [Nat.min_eq_left (Nat.le_of_lt h)]
 rw [List.drop_eq_getElem_cons h]
 rfl
theorem BV_some {W : World} {A : Option Addr} {n c : Nat} {l : List UInt8} (h : BV W (.slice A n c) l) (hl : 0 < l.length) : ∃ g,A = some ⟨g,0,none⟩ := by
 rcases h.2 with ⟨e,hn⟩|⟨g,cap,cur,e,_⟩
 ·
  omega
 cases e
 exact ⟨g,rfl⟩
theorem BV_set {W : World} {g n c : Nat} {l : List UInt8} (h : BV W (.slice (some ⟨g,0,none⟩) n c) l) (k : Nat) (hk : k < l.length) (b : UInt8) : BV (W.setCell ⟨g,k,none⟩ (.int .u8 (b.toNat : Int))) (.slice (some ⟨g,0,none⟩) n c) (l.set k b) := by
 rcases h.2 with ⟨e,hn⟩|⟨g',cap,cur,e,hb,hg,hc,hm,hs,ht⟩
 ·
  cases e
 cases e
 refine ⟨by rw [enc_len,List.length_set,Nat.mul_one],.inr ⟨g,c,cur.setIfInBounds k (.int .u8 (b.toNat : Int)),by rw [List.length_set],hb,?_,by rw [List.length_set];exact hc,hm,by rw [Array.size_setIfInBounds];exact hs,?_⟩⟩
 ·
  simp only [World.setCell,Array.getElem?_modify,if_pos]
  rw [hg]
  simp
 rw [List.length_set,Array.toList_setIfInBounds,List.take_set,ht]
 simp [encs,toI,List.map_set]
def LowPost (w : World) (v : Value) (l : List UInt8) (e : Ending) (w' : World) : Prop := e = .returned (.tuple #[]) ∧ BV w' v (l.map lowU) ∧ Only (fun j => v.ownBlock = some j) w w'
set_option maxHeartbeats 8000000 in
set_option maxRecDepth 100000 in
theorem lowercase_calls (w : World) (A : Option Addr) (n c : Nat) (l : List UInt8) (h : BV w (.slice A n c) l) (hl : l.length ≤ 140737488355328) : Calls Try.prog 73 #[.slice A n c] w (LowPost w (.slice A n c) l) := by
 obtain ⟨hn,hcap⟩ := h.cap
 have HN := Aside0.mk hn
 have HL := Aside0.mk hl
 have BK0 : Aside0 (BV w (.slice A n c) (lowL l 0)) := ⟨by rw [show lowL l 0 = l by simp [lowL]];exact h⟩
 have HO := Aside0.mk (Only.refl (fun j => (Value.slice A n c).ownBlock = some j) w)
 clear h hl hn hcap
 go_enter Try.func73,Try.ntmps73
 go_wp2
 go_loopw [2] (fun s2 wr => ∃ k : Nat,s2 = .int .i64 (k : Int) ∧ Aside0 (k ≤ l.length) ∧ Aside0 (BV wr (.slice A n c) (lowL l k)) ∧ Aside0 (Only (fun j => (Value.slice A n c).ownBlock = some j) w wr)) (fun s2 _ => (l.length - (intOf s2)).toNat)
 case atStart => exact ⟨0,rfl,⟨Nat.zero_le _⟩,BK0,HO⟩
 case round =>
  clear HO BK0
  obtain ⟨k,rfl,HK,BK,HO⟩ := hrel
  obtain ⟨x9,hx9⟩ : ∃ x : Int,x = (k : Int) := ⟨_,rfl⟩
  rw [← hx9]
  have HX := Aside0.mk hx9
  have hsl : (n : Int) = (l.length : Int) := by rw [HN.out]
  by_cases hlt : k < l.length
  ·
   obtain ⟨g,rfl⟩ := BV_some BK.out (by rw [lowL_len l k HK.out];omega)
   have c1 : decide (x9 < (n : Int)) = true := decide_eq_true (by omega)
   have c2 : decide (0 ≤ x9) = true := decide_eq_true (by omega)
   have p1 : (0 ≤ x9) = True := eq_true (by omega)
   have q1 : (x9 < (n : Int)) = True := eq_true (by omega)
   have hxt : x9.toNat = k := by omega
   obtain ⟨b,hb⟩ : ∃ b : UInt8,b = l[k] := ⟨_,rfl⟩
   obtain ⟨y,hy⟩ : ∃ y : Int,y = (b.toNat : Int) := ⟨_,rfl⟩
   have hlen := lowL_len l k HK.out
   have hat : (lowL l k)[k]'(by omega) = l[k] := by have := lowL_at l k hlt;rw [List.getElem?_eq_getElem (by omega)] at this;exact Option.some.inj this
   have hcell : wr.cell? ⟨g,x9.toNat,none⟩ = some (.int .u8 y) := by rw [hxt,hy,hb,← hat];exact BK.out.BR.cell k (by omega)
   have hfz : wr.frozen? ⟨g,x9.toNat,none⟩ = false := by rw [hxt];exact BK.out.BR.frozen k (by omega)
   have HXT := Aside0.mk hxt
   have HLT := Aside0.mk hlt
   have HLEN := Aside0.mk hlen
   have HY := Aside0.mk hy
   have hset : (lowL l k).set k (lowU b) = lowL l (k + 1) := by rw [hb];exact lowL_set l k hlt
   have HSET := Aside0.mk hset
   have HW : Aside0 (wrap64 (x9 + 1) = ((k + 1 : Nat) : Int)) := ⟨by have h1 := HL.out;rw [hx9];unfold wrap64;omega⟩
   have hy0 : 0 ≤ y := by omega
   have hyt : y < (lowTab.size : Int) := by have h1 := b.toNat_lt;(have h2 : lowTab.size = 256 := by kernel_rfl);omega
   have HY0 := Aside0.mk hy0
   have HYT := Aside0.mk hyt
   clear hx9 hsl hxt hy hlen hat hset hb hlt hy0 hyt
   go_wp2_with ((with_reducible refine gate_dst (N := 17) rfl ?_);refine YtbkeakeldegkeaaX.index_tab (some 17) rfl rfl 9 _ _ rfl Try.underlying9 lowTab (by kernel_rfl) .u8 y rfl HY0.out HYT.out ?_)
   go_roundw
   case measure => show ((l.length : Int) - wrap64 (x9 + 1)).toNat < ((l.length : Int) - x9).toNat;rw [HW.out];have := HX.out;have := HLT.out;omega
   case rel =>
    refine ⟨k + 1,congrArg (Value.int .i64) HW.out,⟨by have := HLT.out;omega⟩,⟨?_⟩,⟨?_⟩⟩
    ·
     have hp := BV_set BK.out k (by have := HLEN.out;have := HLT.out;omega) (lowU b)
     rw [HSET.out] at hp
     rw [HXT.out,HY.out,lowTab_bt b]
     exact hp
    exact HO.out.set (.inl rfl) _ _
  have c1 : decide (x9 < (n : Int)) = false := decide_eq_false (by omega)
  have hke : k = l.length := by have := HK.out;omega
  have HKE := Aside0.mk hke
  clear hx9 hsl hke hlt
  go_wp2
  go_end0
  refine ⟨rfl,?_,HO.out⟩
  have := BK.out
  rw [HKE.out] at this
  simpa [lowL] using this
end Go.Proofs.Ytbkeakeldegkeaa.Q
end
section
namespace Go.Proofs.Ytbkeakeldegkeaa.Q
open Go.RowKit Go.Proofs.YtbkeakeldegkeaaW.PrintWords Go.Proofs.YtbkeakeldegkeaaW.PrintLast Go.Proofs.YtbkeakeldegkeaaW.PrintMore
theorem constBR {w : World} {e : TypeId} (C : Array Value) (l : List UInt8) (hC : C.toList = l.map fun x => Value.int .u8 (x.toNat : Int)) : BR (w.alloc (.cells C e (C.size,C.size + 1))) w.heap.size e l := by
 have hl : C.size = l.length := by rw [← Array.length_toList,hC,List.length_map]
 refine ⟨C,C.size,C.size + 1,heap_alloc_new w _,by omega,.inl (by omega),fun j hj => ?_⟩
 rw [← Array.getElem?_toList,hC,List.getElem?_map,List.getElem?_eq_getElem hj]
 rfl
def StrPost (l : List UInt8) (w : World) (e : Ending) (w' : World) : Prop := ∃ g c,e = .returned (.slice (some ⟨g,0,none⟩) l.length c) ∧ l.length ≤ c ∧ BR w' g 5 l ∧ w.heap.size ≤ g ∧ Below w.heap.size w w'
set_option maxHeartbeats 8000000 in
set_option maxRecDepth 100000 in
theorem strSlash_calls (w : World) : Calls Try.prog 88 #[] w (StrPost [47] w) := by
 go_enter Try.func88,Try.ntmps88
 have hcv := Lib.run_convert_bytes_const (P := Try.prog) w 49 5 #[.int .u8 47] 1 1 Try.underlying49 Try.underlying5
 go_wp2
 go_ret
 exact ⟨_,_,rfl,by simp,constBR _ [47] rfl,Nat.le_refl _,below_alloc (Below.refl _ _) _⟩
set_option maxHeartbeats 8000000 in
set_option maxRecDepth 100000 in
theorem strSlashSlash_calls (w : World) : Calls Try.prog 94 #[] w (StrPost [47,47] w) := by
 go_enter Try.func94,Try.ntmps94
 have hcv := Lib.run_convert_bytes_const (P := Try.prog) w 49 5 #[.int .u8 47,.int .u8 47] 2 2 Try.underlying49 Try.underlying5
 go_wp2
 go_ret
 exact ⟨_,_,rfl,by simp,constBR _ [47,47] rfl,Nat.le_refl _,below_alloc (Below.refl _ _) _⟩
set_option maxHeartbeats 8000000 in
set_option maxRecDepth 100000 in
theorem strHTTP_calls (w : World) : Calls Try.prog 87 #[] w (StrPost [104,116,116,112] w) := by
 go_enter Try.func87,Try.ntmps87
 have hcv := Lib.run_convert_bytes_const (P := Try.prog) w 49 5 #[.int .u8 104,.int .u8 116,.int .u8 116,.int .u8 112] 4 4 Try.underlying49 Try.underlying5
 go_wp2
 go_ret
 exact ⟨_,_,rfl,by simp,constBR _ [104,116,116,112] rfl,Nat.le_refl _,below_alloc (Below.refl _ _) _⟩
set_option maxHeartbeats 8000000 in
set_option maxRecDepth 100000 in
theorem strColon_calls (w : World) : Calls Try.prog 85 #[] w (StrPost [58] w) := by
 go_enter Try.func85,Try.ntmps85
 have hcv := Lib.run_convert_bytes_const (P := Try.prog) w 49 5 #[.int .u8 58] 1 1 Try.underlying49 Try.underlying5
 go_wp2
 go_ret
 exact ⟨_,_,rfl,by simp,constBR _ [58] rfl,Nat.le_refl _,below_alloc (Below.refl _ _) _⟩
set_option maxHeartbeats 8000000 in
set_option maxRecDepth 100000 in
theorem strColonSlashSlash_calls (w : World) : Calls Try.prog 80 #[] w (StrPost [58,47,47] w) := by
 go_enter Try.func80,Try.ntmps80
 have hcv := Lib.run_convert_bytes_const (P := Try.prog) w 49 5 #[.int .u8 58,.int .u8 47,.int .u8 47] 3 3 Try.underlying49 Try.underlying5
 go_wp2
 go_ret
 exact ⟨_,_,rfl,by simp,constBR _ [58,47,47] rfl,Nat.le_refl _,below_alloc (Below.refl _ _) _⟩
set_option maxHeartbeats 8000000 in
set_option maxRecDepth 100000 in
theorem strAt_calls (w : World) : Calls Try.prog 84 #[] w (StrPost [64] w) := by
 go_enter Try.func84,Try.ntmps84
 have hcv := Lib.run_convert_bytes_const (P := Try.prog) w 49 5 #[.int .u8 64] 1 1 Try.underlying49 Try.underlying5
 go_wp2
 go_ret
 exact ⟨_,_,rfl,by simp,constBR _ [64] rfl,Nat.le_refl _,below_alloc (Below.refl _ _) _⟩
end Go.Proofs.Ytbkeakeldegkeaa.Q
end
section
namespace Go.Proofs.Ytbkeakeldegkeaa.Q
open Go.RowKit Go.Proofs.YtbkeakeldegkeaaW.PrintWords Go.Proofs.YtbkeakeldegkeaaW.PrintLast Go.Proofs.YtbkeakeldegkeaaW.PrintMore
open Go.Proofs.Ytbkeakeldegkeaa.SpA (toI toI_length toI_append lowU UR)
open Go.Proofs.Ytbkeakeldegkeaa.Ob
theorem OBJ_same {W : World} {g : Nat} {T : TypeId} {vals : List Value} {rows : List (Option (Bool × List UInt8))} (h : OBJ W g T vals rows) (hT : T ≠ 5) (i : Nat) (v : Value) (hv : vals[i]? = some v) : OBJ (W.setCell ⟨g,i,none⟩ v) g T vals rows := by
 refine h.move ?_ fun j l u k hj hu hk => Below.heap_setCell _ _ _ _ fun e => ?_
 ·
  simp only [World.setCell,Array.getElem?_modify,if_pos]
  rw [h.heap]
  simp only [Option.map_some,Option.isSome_none,Bool.false_eq_true,if_false]
  congr 2
  apply Array.ext_getElem?
  intro j
  rw [Array.getElem?_setIfInBounds]
  by_cases e : i = j
  ·
   subst e
   rw [if_pos rfl]
   have : i < vals.length := by rcases Nat.lt_or_ge i vals.length with h1|h1;exact h1;rw [List.getElem?_eq_none h1] at hv;cases hv
   rw [if_pos (by simpa using this),List.getElem?_toArray,hv]
  rw [if_neg e]
 obtain ⟨u',hu',hb⟩ := h.row j l.1 l.2 hj
 rw [hu] at hu';cases hu'
 obtain ⟨C,f,hC⟩ := hb.type hk
 rw [e,h.heap] at hC
 cases hC
 exact hT rfl
def urV (v0 v1 v2 v3 v4 v5 : Value) (b8 b9 : Bool) (v10 v11 v12 v13 : Value) : List Value := [v0,v1,v2,v3,v4,v5,.slice none 0 0,.slice none 0 0,.bool b8,.bool b9,v10,v11,v12,v13]
def urW (f : Bool) (o s p q h ho fu rq us pa : List UInt8) : List (Option (Bool × List UInt8)) := [some (true,o),some (true,s),some (f,p),some (true,q),some (true,h),some (true,ho),none,none,none,none,some (true,fu),some (true,rq),some (true,us),some (true,pa)]
theorem RW.cut0 {b : Bool} {W : World} {A : Option Addr} {n c : Nat} {l : List UInt8} (h : RW b W (.slice A n c) l) : RW b W (.slice A 0 c) [] := by
 cases b
 ·
  obtain ⟨h1,_⟩ := h
  refine ⟨?_,Nat.zero_le _⟩
  rcases h1 with ⟨e,_⟩|⟨g,c',e,hc,hb⟩
  ·
   cases e
   exact .inl ⟨rfl,rfl⟩
  cases e
  obtain ⟨C,lo,hi,hg,hs,hf,hj⟩ := hb.out
  exact .inr ⟨g,c,rfl,Nat.zero_le _,⟨C,lo,hi,hg,Nat.zero_le _,.inl (Nat.zero_le _),fun j hj => absurd hj (Nat.not_lt_zero _)⟩⟩
 exact BV.cut0 h
theorem OBJ.cutRow {W : World} {g : Nat} {T : TypeId} {vals : List Value} {rows : List (Option (Bool × List UInt8))} (h : OBJ W g T vals rows) (hT : T ≠ 5) (i : Nat) {b : Bool} {l : List UInt8} {A : Option Addr} {n c : Nat} (hi : rows[i]? = some (some (b,l))) (hv : vals[i]? = some (.slice A n c)) : OBJ (W.setCell ⟨g,i,none⟩ (.slice A 0 c)) g T (vals.set i (.slice A 0 c)) (rows.set i (some (b,[]))) := by
 obtain ⟨u,hu,hb⟩ := h.row i b l hi
 rw [hv] at hu;cases hu
 have hlen : i < vals.length := by rcases Nat.lt_or_ge i vals.length with h1|h1;exact h1;rw [List.getElem?_eq_none h1] at hv;cases hv
 refine OBJ.store h hT i hlen _ b [] (RW.cut0 hb) (h.apart hT i hi hv ?_)
 cases A <;> rfl
set_option maxHeartbeats 8000000 in
set_option maxRecDepth 100000 in
theorem argsReset_calls (w : World) (g : Nat) (c6 : w.cell? ⟨g,6,none⟩ = some (.slice none 0 0)) (z6 : w.frozen? ⟨g,6,none⟩ = false) :
  Calls Try.prog 100 #[.pointer (some ⟨g,6,none⟩)] w fun e w' => e = .returned (.tuple #[]) ∧ w' = w.setCell ⟨g,6,none⟩ (.slice none 0 0) := by
 go_enter Try.func100,Try.ntmps100
 go_wp2
 go_end0
 exact ⟨rfl,rfl⟩
set_option maxHeartbeats 8000000 in
set_option maxRecDepth 100000 in
theorem uriReset_calls (w : World) (g : Nat) (A0 : Option Addr) (n0 c0 : Nat) (A1 : Option Addr) (n1 c1 : Nat) (A2 : Option Addr) (n2 c2 : Nat) (A3 : Option Addr) (n3 c3 : Nat) (A4 : Option Addr) (n4 c4 : Nat) (A12 : Option Addr) (n12 c12 : Nat) (A13 : Option Addr) (n13 c13 : Nat) (A5 : Option Addr) (n5 c5 : Nat) (b8 b9 f : Bool) (v10 v11 : Value) (o s p q h ho fu rq us pa : List UInt8) (h0 : OBJ w g 54 (urV (.slice A0 n0 c0) (.slice A1 n1 c1) (.slice A2 n2 c2) (.slice A3 n3 c3) (.slice A4 n4 c4) (.slice A5 n5 c5) b8 b9 v10 v11 (.slice A12 n12 c12) (.slice A13 n13 c13)) (urW f o s p q h ho fu rq us pa)) :
  Calls Try.prog 77 #[.pointer (some ⟨g,0,none⟩)] w fun e w' => e = .returned (.tuple #[]) ∧ OBJ w' g 54 (urV (.slice A0 0 c0) (.slice A1 0 c1) (.slice A2 0 c2) (.slice A3 0 c3) (.slice A4 0 c4) (.slice A5 0 c5) false false v10 v11 (.slice A12 0 c12) (.slice A13 0 c13)) (urW f [] [] [] [] [] [] fu rq [] []) ∧ Only (fun j => j = g) w w' := by
 obtain ⟨i0,hi0,_,hsz0,_⟩ := info_parts info5
 have HCUT0 := cut0_run (P := Try.prog) Try.underlying49 hi0 A0 n0 c0 0 (0 : Int) rfl (Nat.zero_le _)
 have HCUT1 := cut0_run (P := Try.prog) Try.underlying49 hi0 A1 n1 c1 0 (0 : Int) rfl (Nat.zero_le _)
 have HCUT2 := cut0_run (P := Try.prog) Try.underlying49 hi0 A2 n2 c2 0 (0 : Int) rfl (Nat.zero_le _)
 have HCUT3 := cut0_run (P := Try.prog) Try.underlying49 hi0 A3 n3 c3 0 (0 : Int) rfl (Nat.zero_le _)
 have HCUT4 := cut0_run (P := Try.prog) Try.underlying49 hi0 A4 n4 c4 0 (0 : Int) rfl (Nat.zero_le _)
 have HCUT12 := cut0_run (P := Try.prog) Try.underlying49 hi0 A12 n12 c12 0 (0 : Int) rfl (Nat.zero_le _)
 have HCUT13 := cut0_run (P := Try.prog) Try.underlying49 hi0 A13 n13 c13 0 (0 : Int) rfl (Nat.zero_le _)
 have HCUT5 := cut0_run (P := Try.prog) Try.underlying49 hi0 A5 n5 c5 0 (0 : Int) rfl (Nat.zero_le _)
 have HCUT6 := cut0_run (P := Try.prog) Try.underlying49 hi0 none 0 0 0 (0 : Int) rfl (Nat.zero_le _)
 have e0 := h0.cell 0 _ rfl
 have z0 := h0.fz 0
 have e1 := h0.cell 1 _ rfl
 have z1 := h0.fz 1
 have e2 := h0.cell 2 _ rfl
 have z2 := h0.fz 2
 have e3 := h0.cell 3 _ rfl
 have z3 := h0.fz 3
 have e4 := h0.cell 4 _ rfl
 have z4 := h0.fz 4
 have e12 := h0.cell 12 _ rfl
 have z12 := h0.fz 12
 have e13 := h0.cell 13 _ rfl
 have z13 := h0.fz 13
 have e5 := h0.cell 5 _ rfl
 have z5 := h0.fz 5
 have e6 := h0.cell 6 _ rfl
 have z6 := h0.fz 6
 have e8 := h0.cell 8 _ rfl
 have z8 := h0.fz 8
 have e9 := h0.cell 9 _ rfl
 have z9 := h0.fz 9
 clear hi0 hsz0
 have HH : Aside0 _ := ⟨h0⟩
 clear h0
 go_enter Try.func77,Try.ntmps77
 go_wp2_with (first|((with_reducible refine gate_callee (f := 100) rfl ?_);refine goesL_ (some 69) rfl rfl Try.func100 (by kernel_rfl) rfl #[.pointer (some ⟨g,6,none⟩)] rfl (by (try simp only [List.map_toArray,List.map_cons,List.map_nil]);first|done|rfl) ?_;refine (argsReset_calls _ g (by simpa [go_sem] using e6) (by simpa [go_sem] using z6)).mono ?_;rintro e w' ⟨rfl,rfl⟩;refine ⟨_,rfl,?_⟩;skip))
 go_end0
 have k0 := HH.out
 have k1 := OBJ.cutRow k0 (by decide) 0 rfl rfl
 have k2 := OBJ.cutRow k1 (by decide) 1 rfl rfl
 have k3 := OBJ.cutRow k2 (by decide) 2 rfl rfl
 have k4 := OBJ.cutRow k3 (by decide) 3 rfl rfl
 have k5 := OBJ.cutRow k4 (by decide) 4 rfl rfl
 have k6 := OBJ.cutRow k5 (by decide) 12 rfl rfl
 have k7 := OBJ.cutRow k6 (by decide) 13 rfl rfl
 have k8 := OBJ.cutRow k7 (by decide) 5 rfl rfl
 have k11 := k8.put (by decide) 6 (show 6 < 14 by decide) (.slice none 0 0) (by intro l e;cases e)
 have k12 := k11.put (by decide) 8 (show 8 < 14 by decide) (.bool false) (by intro l e;cases e)
 have k13 := k12.put (by decide) 9 (show 9 < 14 by decide) (.bool false) (by intro l e;cases e)
 refine ⟨rfl,k13,?_⟩
 repeat (refine Only.set (S := fun j => j = g) ?_ (.inl rfl) _ _)
 exact Only.refl _ _
set_option maxHeartbeats 8000000 in
set_option maxRecDepth 100000 in
theorem uHost_calls (w : World) (g : Nat) (vals : List Value) (rows : List (Option (Bool × List UInt8))) (A : Option Addr) (n c : Nat) (h : OBJ w g 54 vals rows) (hv : vals[5]? = some (.slice A n c)) :
  Calls Try.prog 61 #[.pointer (some ⟨g,0,none⟩)] w fun e w' => e = .returned (.slice A n c) ∧ Below w.heap.size w w' := by
 have c0 := h.cell 5 _ hv
 have HB := Aside0.mk (Below.refl w.heap.size w)
 clear h hv
 go_enter Try.func61,Try.ntmps61
 go_wp2
 go_ret
 exact ⟨rfl,bl_ HB.out⟩
set_option maxHeartbeats 8000000 in
set_option maxRecDepth 100000 in
theorem uOrig_calls (w : World) (g : Nat) (vals : List Value) (rows : List (Option (Bool × List UInt8))) (A : Option Addr) (n c : Nat) (h : OBJ w g 54 vals rows) (hv : vals[0]? = some (.slice A n c)) :
  Calls Try.prog 63 #[.pointer (some ⟨g,0,none⟩)] w fun e w' => e = .returned (.slice A n c) ∧ Below w.heap.size w w' := by
 have c0 := h.cell 0 _ hv
 have HB := Aside0.mk (Below.refl w.heap.size w)
 clear h hv
 go_enter Try.func63,Try.ntmps63
 go_wp2
 go_ret
 exact ⟨rfl,bl_ HB.out⟩
set_option maxHeartbeats 8000000 in
set_option maxRecDepth 100000 in
theorem uQuery_calls (w : World) (g : Nat) (vals : List Value) (rows : List (Option (Bool × List UInt8))) (A : Option Addr) (n c : Nat) (h : OBJ w g 54 vals rows) (hv : vals[3]? = some (.slice A n c)) :
  Calls Try.prog 64 #[.pointer (some ⟨g,0,none⟩)] w fun e w' => e = .returned (.slice A n c) ∧ Below w.heap.size w w' := by
 have c0 := h.cell 3 _ hv
 have HB := Aside0.mk (Below.refl w.heap.size w)
 clear h hv
 go_enter Try.func64,Try.ntmps64
 go_wp2
 go_ret
 exact ⟨rfl,bl_ HB.out⟩
set_option maxHeartbeats 8000000 in
set_option maxRecDepth 100000 in
theorem uHash_calls (w : World) (g : Nat) (vals : List Value) (rows : List (Option (Bool × List UInt8))) (A : Option Addr) (n c : Nat) (h : OBJ w g 54 vals rows) (hv : vals[4]? = some (.slice A n c)) :
  Calls Try.prog 65 #[.pointer (some ⟨g,0,none⟩)] w fun e w' => e = .returned (.slice A n c) ∧ Below w.heap.size w w' := by
 have c0 := h.cell 4 _ hv
 have HB := Aside0.mk (Below.refl w.heap.size w)
 clear h hv
 go_enter Try.func65,Try.ntmps65
 go_wp2
 go_ret
 exact ⟨rfl,bl_ HB.out⟩
set_option maxHeartbeats 8000000 in
set_option maxRecDepth 100000 in
theorem uUser_calls (w : World) (g : Nat) (vals : List Value) (rows : List (Option (Bool × List UInt8))) (A : Option Addr) (n c : Nat) (h : OBJ w g 54 vals rows) (hv : vals[12]? = some (.slice A n c)) :
  Calls Try.prog 66 #[.pointer (some ⟨g,0,none⟩)] w fun e w' => e = .returned (.slice A n c) ∧ Below w.heap.size w w' := by
 have c0 := h.cell 12 _ hv
 have HB := Aside0.mk (Below.refl w.heap.size w)
 clear h hv
 go_enter Try.func66,Try.ntmps66
 go_wp2
 go_ret
 exact ⟨rfl,bl_ HB.out⟩
set_option maxHeartbeats 8000000 in
set_option maxRecDepth 100000 in
theorem uPass_calls (w : World) (g : Nat) (vals : List Value) (rows : List (Option (Bool × List UInt8))) (A : Option Addr) (n c : Nat) (h : OBJ w g 54 vals rows) (hv : vals[13]? = some (.slice A n c)) :
  Calls Try.prog 67 #[.pointer (some ⟨g,0,none⟩)] w fun e w' => e = .returned (.slice A n c) ∧ Below w.heap.size w w' := by
 have c0 := h.cell 13 _ hv
 have HB := Aside0.mk (Below.refl w.heap.size w)
 clear h hv
 go_enter Try.func67,Try.ntmps67
 go_wp2
 go_ret
 exact ⟨rfl,bl_ HB.out⟩
def uSchemePost (w : World) (l : List UInt8) (e : Ending) (w' : World) : Prop := ∃ A n c,e = .returned (.slice A n c) ∧ Kd.C (Kd.int .u8) w' A n (toI (if l = [] then [104,116,116,112] else l)) ∧ n ≤ c ∧ Below w.heap.size w w'
set_option maxHeartbeats 8000000 in
set_option maxRecDepth 100000 in
theorem uScheme_calls (w : World) (g : Nat) (vals : List Value) (rows : List (Option (Bool × List UInt8))) (A : Option Addr) (n c : Nat) (b : Bool) (l : List UInt8) (h : OBJ w g 54 vals rows) (hr : rows[1]? = some (some (b,l))) (hv : vals[1]? = some (.slice A n c)) :
  Calls Try.prog 60 #[.pointer (some ⟨g,0,none⟩)] w (uSchemePost w l) := by
 have c0 := h.cell 1 _ hv
 obtain ⟨u,hu,hb⟩ := h.row 1 b l hr
 rw [hv] at hu
 cases hu
 have HC := Aside0.mk hb.C
 have HCAP := Aside0.mk hb.cap
 have HB := Aside0.mk (Below.refl w.heap.size w)
 clear h hv hr hb
 by_cases hl : l = []
 ·
  subst hl
  have hn : n = 0 := HCAP.out.1
  subst hn
  go_enter Try.func60,Try.ntmps60
  go_wp2_with (first|((with_reducible refine gate_callee (f := 87) rfl ?_);refine goesL_ (some 11) rfl rfl Try.func87 (by kernel_rfl) rfl #[] rfl (by (try simp only [List.map_toArray,List.map_cons,List.map_nil]);first|done|rfl) ?_;refine (strHTTP_calls _).mono ?_;rintro e w2 ⟨g2,c2,rfl,hc2,hb2,hg2,hw2⟩;refine ⟨_,rfl,?_⟩;have n0_ := Aside0.mk (below_step (bl_ HB.out) hw2);have HR2 := Aside0.mk (BR.C hb2 (by decide));have HL2 := Aside0.mk hc2;clear HB hc2 hb2 hg2 hw2;have HB := n0_;clear n0_))
  go_ret
  refine ⟨_,_,_,rfl,?_,HL2.out,HB.out⟩
  exact HR2.out
 have hn : ((n : Int) == 0) = false := beq_eq_false_iff_ne.2 (by have := HCAP.out.1;have := List.length_pos_iff.2 hl;omega)
 go_enter Try.func60,Try.ntmps60
 go_wp2
 go_ret
 refine ⟨_,_,_,rfl,?_,HCAP.out.2,bl_ HB.out⟩
 rw [if_neg hl]
 exact Kd.C_below HC.out (bl_ HB.out)
end Go.Proofs.Ytbkeakeldegkeaa.Q
end
section
namespace Go.Proofs.Ytbkeakeldegkeaa.SpA
open Go.RowKit
theorem upto_none {c : UInt8} : ∀ {l : List UInt8},c ∉ l → upto c l = l ∧ l.dropWhile (· != c) = []
 | [],_ => ⟨rfl,rfl⟩
 | x :: t,h => by
  have hx : (x != c) = true := bne_iff_ne.2 (fun e => h (by simp [e]))
  obtain ⟨h1,h2⟩ := upto_none (c := c) (l := t) (fun e => h (by simp [e]))
  unfold upto at *
  simp [hx,h1,h2]
theorem past_none {c : UInt8} {l : List UInt8} (h : c ∉ l) : past c l = [] := by unfold past;rw [(upto_none h).2];rfl
theorem upto_some {c : UInt8} : ∀ {l : List UInt8},c ∈ l → (upto c l).length < l.length ∧ l.take (upto c l).length = upto c l ∧ l.drop (upto c l).length = l.dropWhile (· != c) ∧ l.drop ((upto c l).length + 1) = past c l ∧ l.dropWhile (· != c) = c :: past c l ∧ l = upto c l ++ c :: past c l ∧ c ∉ upto c l
 | x :: t,h => by
  by_cases e : x = c
  ·
   subst e
   simp [upto,past]
  have hx : (x != c) = true := bne_iff_ne.2 e
  have ht : c ∈ t := by simpa [Ne.symm e,e,eq_comm] using h
  obtain ⟨h1,h2,h3,h4,h5,h6,h7⟩ := upto_some ht
  have hu : upto c (x :: t) = x :: upto c t := by simp [upto,hx]
  have hd : (x :: t).dropWhile (· != c) = t.dropWhile (· != c) := by simp [hx]
  have hp : past c (x :: t) = past c t := by unfold past;rw [hd]
  rw [hu,hd,hp]
  refine ⟨by simpa using h1,by simp [h2],by simpa using h3,by simpa using h4,h5,?_,?_⟩
  ·
   rw [List.cons_append,← h6]
  simp [h7,Ne.symm e]
theorem ib_none {c : UInt8} {l : List UInt8} (h : c ∉ l) : Lib.indexByte l c = -1 := by
 induction l with
 | nil => rfl
 | cons x t ih =>
  have hx : ¬ x = c := fun e => h (by simp [e])
  have ht := ih (fun e => h (by simp [e]))
  simp only [Lib.indexByte]
  rw [ht]
  simp [hx]
theorem ib_some {c : UInt8} : ∀ {l : List UInt8},c ∈ l → Lib.indexByte l c = ((upto c l).length : Int)
 | x :: t,h => by
  simp only [Lib.indexByte]
  by_cases e : x = c
  ·
   subst e
   simp [upto]
  have hx : (x != c) = true := bne_iff_ne.2 e
  have ht : c ∈ t := by simpa [Ne.symm e,e,eq_comm] using h
  have := ib_some ht
  have hu : upto c (x :: t) = x :: upto c t := by simp [upto,hx]
  rw [this,hu]
  simp [e]
  try omega
theorem ix1 (c : UInt8) : ∀ (l : List UInt8) (n : Nat),ix [c] l n = if c ∈ l then ((n + (upto c l).length : Nat) : Int) else -1
 | [],n => by simp [ix]
 | x :: t,n => by
  rw [ix]
  by_cases e : x = c
  ·
   subst e
   simp [upto,List.isPrefixOf]
  have hx : (x != c) = true := bne_iff_ne.2 e
  have hu : upto c (x :: t) = x :: upto c t := by simp [upto,hx]
  have hp : ([c].isPrefixOf (x :: t)) = false := by simp [List.isPrefixOf,Ne.symm e]
  have hm : (c ∈ x :: t) ↔ c ∈ t := by simp [Ne.symm e]
  rw [if_neg (by rw [hp];simp),ix1 c t (n + 1),hu]
  simp only [hm,List.length_cons]
  split
  ·
   congr 1;omega
  rfl
theorem schEnd_lt : ∀ (l : List UInt8) (k i : Nat),schEnd k l = some i → k ≤ i ∧ i < k + l.length ∧ 0 < i
 | [],k,i,h => by simp [schEnd] at h
 | c :: t,k,i,h => by
  rw [schEnd] at h
  have ih := schEnd_lt t (k + 1) i
  split at h
  ·
   have := ih h;simp;omega
  split at h
  ·
   split at h
   ·
    cases h
   have := ih h;simp;omega
  split at h
  ·
   split at h
   ·
    cases h
   cases h;simp;omega
  cases h
theorem norm_ne (l : List UInt8) : norm l ≠ [] := by
 obtain ⟨t,ht⟩ := Cl.clean_slash (lead l ++ dec l)
 unfold norm
 rw [ht]
 simp
theorem parse_path {h u : List UInt8} {r : UR} (hp : parseU h u = some r) (hc : u.any isCtl = false) : r.path ≠ [] := by
 unfold parseU at hp
 rw [hc] at hp
 simp only [Bool.false_eq_true,if_false] at hp
 split at hp
 ·
  cases hq : partU h u with
  | none => rw [hq] at hp;cases hp
  | some t => rw [hq] at hp;cases hp;exact norm_ne _
 cases hp;exact norm_ne _
end Go.Proofs.Ytbkeakeldegkeaa.SpA
end
section
namespace Go.Proofs.Ytbkeakeldegkeaa.Q
open Go.RowKit Go.Proofs.YtbkeakeldegkeaaW.PrintWords Go.Proofs.YtbkeakeldegkeaaW.PrintLast Go.Proofs.YtbkeakeldegkeaaW.PrintMore
attribute [local go_sem] max2_int min2_int max_two min_two max_three min_three max_four min_four
def bytes_Equal.f (l0 : List Int) (l1 : List Int) : Option (Bool) := some ((strOfNums l0).toList == (strOfNums l1).toList)
set_option maxHeartbeats 8000000 in
set_option maxRecDepth 100000 in
theorem bytes_Equal.calls (A0 : Option Addr) (c0 : Nat) (l0 : List Int) (A1 : Option Addr) (c1 : Nat) (l1 : List Int) (r : Bool) (w : World) (hr0 : Kd.C (Kd.int .u8) w A0 l0.length l0) (hc0 : l0.length ≤ c0) (hr1 : Kd.C (Kd.int .u8) w A1 l1.length l1) (hc1 : l1.length ≤ c1) (h : bytes_Equal.f l0 l1 = some r) :
  Calls Try.prog 104 #[.slice A0 l0.length c0,.slice A1 l1.length c1] w fun e w' => e = .returned (.bool r) ∧ Drawn0 w w' := by
 have HR0 := Aside0.mk hr0
 have HC0 := Aside0.mk hc0
 clear hr0 hc0
 have HR1 := Aside0.mk hr1
 have HC1 := Aside0.mk hc1
 clear hr1 hc1
 have H : (some ((strOfNums l0).toList == (strOfNums l1).toList)) = some r := h
 clear h
 obtain rfl := Option.some.inj H
 have hcv3 := YtbkeakeldegkeaaX.C_string2 (P := Try.prog) (A := A0) (c := c0) Try.underlying49 Try.underlying5 Try.underlying9 HR0.out
 have hcv4 := YtbkeakeldegkeaaX.C_string2 (P := Try.prog) (A := A1) (c := c1) Try.underlying49 Try.underlying5 Try.underlying9 HR1.out
 go_enter Try.func104,Try.ntmps104
 go_wp2
 go_ret
 exact ⟨rs_,by repeat (first|exact Drawn0.refl _|apply Drawn0.step)⟩
mutual
def bytealg_hashStrRev_byte.l0 : Nat → List Int → Int → Int → Option (Int × Int)
 | 0,_,_,_ => none
 | k + 1,x0,x4,x5 => if x5 ≥ 0 then (if 0 ≤ x5 then (if x5 < (x0.length : Int) then (bytealg_hashStrRev_byte.l0 k x0 ((((x4 * 16777619) % 4294967296) + ((rd x0 x5) % 4294967296)) % 4294967296) (wrap64 (x5 - 1))) else (none)) else (none)) else (bytealg_hashStrRev_byte.l1 k x4 1 16777619 (x0.length : Int))
def bytealg_hashStrRev_byte.l1 : Nat → Int → Int → Int → Int → Option (Int × Int)
 | 0,_,_,_,_ => none
 | k + 1,x4,x6,x7,x8 => if x8 > 0 then (if (Go.bits .and .i64 x8 1) = 0 then (bytealg_hashStrRev_byte.l1 k x4 x6 ((x7 * x7) % 4294967296) (x8 / 2)) else (bytealg_hashStrRev_byte.l1 k x4 ((x6 * x7) % 4294967296) ((x7 * x7) % 4294967296) (x8 / 2))) else (some (x4,x6))
end
def bytealg_hashStrRev_byte.f (k : Nat) (l0 : List Int) : Option (Int × Int) := bytealg_hashStrRev_byte.l0 k l0 0 (wrap64 ((l0.length : Int) - 1))
theorem bytealg_hashStrRev_byte.mono_l : ∀ k,(∀ y0 y1 y2,LeO (bytealg_hashStrRev_byte.l0 k y0 y1 y2) (bytealg_hashStrRev_byte.l0 (k + 1) y0 y1 y2)) ∧ (∀ y0 y1 y2 y3,LeO (bytealg_hashStrRev_byte.l1 k y0 y1 y2 y3) (bytealg_hashStrRev_byte.l1 (k + 1) y0 y1 y2 y3))
 | 0 => ⟨fun _ _ _ r h => by simp [bytealg_hashStrRev_byte.l0] at h,fun _ _ _ _ r h => by simp [bytealg_hashStrRev_byte.l1] at h⟩
 | k + 1 => by
  obtain ⟨ih0,ih1⟩ := bytealg_hashStrRev_byte.mono_l k
  refine ⟨?_,?_⟩
  ·
   intro y0 y1 y2
   unfold bytealg_hashStrRev_byte.l0
   repeat' first
   | (with_reducible exact ih0 _ _ _)
   | (with_reducible exact ih1 _ _ _ _)
   | (with_reducible exact LeO.refl _)
   | (with_reducible exact LeO.none _)
   | (with_reducible refine LeO.ite ?_ ?_)
   | (with_reducible refine LeO.bind ?_ (fun _ => ?_))
   | exact ih0 _ _ _
   | exact ih1 _ _ _ _
   | exact LeO.none _
   | refine LeO.ite ?_ ?_
   | refine LeO.bind ?_ (fun _ => ?_)
  intro y0 y1 y2 y3
  unfold bytealg_hashStrRev_byte.l1
  repeat' first
  | (with_reducible exact ih0 _ _ _)
  | (with_reducible exact ih1 _ _ _ _)
  | (with_reducible exact LeO.refl _)
  | (with_reducible exact LeO.none _)
  | (with_reducible refine LeO.ite ?_ ?_)
  | (with_reducible refine LeO.bind ?_ (fun _ => ?_))
  | exact ih0 _ _ _
  | exact ih1 _ _ _ _
  | exact LeO.none _
  | refine LeO.ite ?_ ?_
  | refine LeO.bind ?_ (fun _ => ?_)
theorem bytealg_hashStrRev_byte.mono : ∀ a0 k,LeO (bytealg_hashStrRev_byte.f k a0) (bytealg_hashStrRev_byte.f (k + 1) a0) := by
 intro a0 k
 obtain ⟨ih0,ih1⟩ := bytealg_hashStrRev_byte.mono_l k
 unfold bytealg_hashStrRev_byte.f
 repeat' first
   | (with_reducible exact ih0 _ _ _)
   | (with_reducible exact ih1 _ _ _ _)
   | (with_reducible exact LeO.refl _)
   | (with_reducible exact LeO.none _)
   | (with_reducible refine LeO.ite ?_ ?_)
   | (with_reducible refine LeO.bind ?_ (fun _ => ?_))
   | exact ih0 _ _ _
   | exact ih1 _ _ _ _
   | exact LeO.none _
   | refine LeO.ite ?_ ?_
   | refine LeO.bind ?_ (fun _ => ?_)
set_option maxHeartbeats 8000000 in
set_option maxRecDepth 100000 in
theorem bytealg_hashStrRev_byte.calls (k : Nat) (A0 : Option Addr) (c0 : Nat) (l0 : List Int) (r1 : Int) (r2 : Int) (w : World) (hr0 : Kd.C (Kd.int .u8) w A0 l0.length l0) (hc0 : l0.length ≤ c0) (h : bytealg_hashStrRev_byte.f k l0 = some (r1,r2)) :
  Calls Try.prog 110 #[.slice A0 l0.length c0] w fun e w' => e = .returned (.tuple #[.int .u32 r1,.int .u32 r2]) ∧ Drawn0 w w' := by
 have HR0 := Aside0.mk hr0
 have HC0 := Aside0.mk hc0
 clear hr0 hc0
 have H : (bytealg_hashStrRev_byte.l0 k l0 0 (wrap64 ((l0.length : Int) - 1))) = some (r1,r2) := h
 clear h
 have H' := Aside0.mk H
 clear H
 go_enter Try.func110,Try.ntmps110
 go_wp2
 go_loopg [4,5] k (fun kq v4 v5 w' => ∃ (x4_1 : Int) (x5_1 : Int),v4 = .int .u32 x4_1 ∧ v5 = .int .i64 x5_1 ∧ Aside0 (bytealg_hashStrRev_byte.l0 kq l0 x4_1 x5_1 = some (r1,r2)) ∧ Aside0 (kq ≤ k) ∧ Drawn0 w w')
 case atStart => exact ⟨(0),(wrap64 ((l0.length : Int) - 1)),(rs_),(rs_),H',⟨Nat.le_refl _⟩,by repeat (first|exact Drawn0.refl _|apply Drawn0.step)⟩
 case round =>
  clear H'
  try clear c1
  obtain ⟨x4_1,x5_1,rfl,rfl,HA,HK1,⟨m1,rfl⟩⟩ := hrel
  cases gk with
  | zero => exact absurd HA.out (by simp [bytealg_hashStrRev_byte.l0])
  | succ k1 =>
   have H := HA.out
   clear HA
   simp only [bytealg_hashStrRev_byte.l0] at H
   by_cases c2 : x5_1 ≥ 0
   ·
    rw [if_pos c2] at H
    have c2b0 : decide (0 ≤ x5_1) = true := decide_eq_true c2
    clear c2
    by_cases c3 : 0 ≤ x5_1
    ·
     rw [if_pos c3] at H
     have c3b0 : decide (0 ≤ x5_1) = true := decide_eq_true c3
     clear c3
     by_cases c4 : x5_1 < (l0.length : Int)
     ·
      rw [if_pos c4] at H
      have c4b0 : decide (x5_1 < (l0.length : Int)) = true := decide_eq_true c4
      clear c4
      have H' := Aside0.mk H
      clear H
      have p138 : 0 ≤ (x5_1 : Int) := odt_
      have q138 : x5_1 < (l0.length : Int) := odt_
      obtain ⟨ad138,e138,hx138_0⟩ := Kd.at_int HR0.out x5_1 p138 q138
      cases e138
      replace p138 := eq_true p138
      replace q138 := eq_true q138
      go_wp2
      go_roundg k1
      case measure => have := HK1.out;omega
      case rel => exact ⟨((((x4_1 * 16777619) % 4294967296) + ((rd l0 x5_1) % 4294967296)) % 4294967296),(wrap64 (x5_1 - 1)),(rs_),(rs_),H',⟨by have := HK1.out;omega⟩,by repeat (first|exact Drawn0.refl _|apply Drawn0.step)⟩
     rw [if_neg c4] at H
     exact absurd H (by simp)
    rw [if_neg c3] at H
    exact absurd H (by simp)
   rw [if_neg c2] at H
   have c2b0 : decide (0 ≤ x5_1) = false := decide_eq_false c2
   clear c2
   have H' := Aside0.mk H
   clear H
   go_wp2
   go_loopg [6,7,8] k1 (fun kq v6 v7 v8 w' => ∃ (x6_2 : Int) (x7_2 : Int) (x8_2 : Int),v6 = .int .u32 x6_2 ∧ v7 = .int .u32 x7_2 ∧ v8 = .int .i64 x8_2 ∧ Aside0 (bytealg_hashStrRev_byte.l1 kq x4_1 x6_2 x7_2 x8_2 = some (r1,r2)) ∧ Aside0 (kq ≤ k1) ∧ Drawn0 w w')
   case atStart => exact ⟨(1),(16777619),((l0.length : Int)),(rs_),(rs_),(rs_),H',⟨Nat.le_refl _⟩,by repeat (first|exact Drawn0.refl _|apply Drawn0.step)⟩
   case round =>
    clear H'
    try clear c1
    try clear p1
    try clear q1
    try clear hx1
    try clear c2
    try clear c2b0
    try clear p2
    try clear c3
    try clear c3b0
    try clear c4
    try clear c4b0
    try clear hx138_0
    try clear p138
    try clear q138
    obtain ⟨x6_2,x7_2,x8_2,rfl,rfl,rfl,HA,HK2,⟨m2,rfl⟩⟩ := hrel
    cases gk with
    | zero => exact absurd HA.out (by simp [bytealg_hashStrRev_byte.l1])
    | succ k2 =>
     have H := HA.out
     clear HA
     simp only [bytealg_hashStrRev_byte.l1] at H
     by_cases c5 : x8_2 > 0
     ·
      rw [if_pos c5] at H
      have c5b0 : decide (0 < x8_2) = true := decide_eq_true c5
      clear c5
      by_cases c6 : (Go.bits .and .i64 x8_2 1) = 0
      ·
       rw [if_pos c6] at H
       have c6b0 : ((Go.bits .and .i64 x8_2 1) == 0) = true := beq_iff_eq.mpr c6
       have c6b1 : ((Go.bits .and .i64 x8_2 1) != 0) = false := bne_eq_false_iff_eq.mpr c6
       clear c6
       have H' := Aside0.mk H
       clear H
       go_wp2
       go_roundg k2
       case measure => have := HK1.out;have := HK2.out;omega
       case rel => exact ⟨(x6_2),((x7_2 * x7_2) % 4294967296),(x8_2 / 2),(rs_),(rs_),(rs_),H',⟨by have := HK1.out;have := HK2.out;omega⟩,by repeat (first|exact Drawn0.refl _|apply Drawn0.step)⟩
      rw [if_neg c6] at H
      have c6b0 : ((Go.bits .and .i64 x8_2 1) == 0) = false := beq_eq_false_iff_ne.mpr c6
      have c6b1 : ((Go.bits .and .i64 x8_2 1) != 0) = true := bne_iff_ne.mpr c6
      have H' := Aside0.mk H
      clear H
      go_wp2
      go_roundg k2
      case measure => have := HK1.out;have := HK2.out;omega
      case rel => exact ⟨((x6_2 * x7_2) % 4294967296),((x7_2 * x7_2) % 4294967296),(x8_2 / 2),(rs_),(rs_),(rs_),H',⟨by have := HK1.out;have := HK2.out;omega⟩,by repeat (first|exact Drawn0.refl _|apply Drawn0.step)⟩
     rw [if_neg c5] at H
     have c5b0 : decide (0 < x8_2) = false := decide_eq_false c5
     clear c5
     simp only [Option.some.injEq,Prod.mk.injEq] at H
     obtain ⟨rfl,rfl⟩ := H
     go_wp2
     go_ret2
     exact ⟨rs_,by repeat (first|exact Drawn0.refl _|apply Drawn0.step)⟩
end Go.Proofs.Ytbkeakeldegkeaa.Q
end
section
namespace Go.Proofs.Ytbkeakeldegkeaa.Q
open Go.RowKit Go.Proofs.YtbkeakeldegkeaaW.PrintWords Go.Proofs.YtbkeakeldegkeaaW.PrintLast Go.Proofs.YtbkeakeldegkeaaW.PrintMore
attribute [local go_sem] max2_int min2_int max_two min_two max_three min_three max_four min_four
mutual
def bytealg_LastIndexRabinKarp_byte.l0 : Nat → List Int → List Int → Int → Int → Int → Int → Int → Int → Option (Int)
 | 0,_,_,_,_,_,_,_,_ => none
 | k + 1,x0,x1,x5,x6,x7,x8,x9,x10 => if x10 ≥ x8 then (if 0 ≤ x10 then (if x10 < (x0.length : Int) then (bytealg_LastIndexRabinKarp_byte.l0 k x0 x1 x5 x6 x7 x8 ((((x9 * 16777619) % 4294967296) + ((rd x0 x10) % 4294967296)) % 4294967296) (wrap64 (x10 - 1))) else (none)) else (none)) else (if x9 = x5 then (if 0 ≤ x8 then (if x8 ≤ (x0.length : Int) then (bytealg_LastIndexRabinKarp_byte.j1 k x0 x1 x5 x6 x7 x8 x9 ((strOfNums (x0.drop (x8 : Int).toNat)).toList == (strOfNums x1).toList)) else (none)) else (none)) else (bytealg_LastIndexRabinKarp_byte.j1 k x0 x1 x5 x6 x7 x8 x9 false))
def bytealg_LastIndexRabinKarp_byte.j1 : Nat → List Int → List Int → Int → Int → Int → Int → Int → Bool → Option (Int)
 | 0,_,_,_,_,_,_,_,_ => none
 | k + 1,x0,x1,x5,x6,x7,x8,x9,x50 => if x50 = true then (some x8) else (bytealg_LastIndexRabinKarp_byte.l1 k x0 x1 x5 x6 x7 x9 (wrap64 (x8 - 1)))
def bytealg_LastIndexRabinKarp_byte.l1 : Nat → List Int → List Int → Int → Int → Int → Int → Int → Option (Int)
 | 0,_,_,_,_,_,_,_ => none
 | k + 1,x0,x1,x5,x6,x7,x9,x11 => if x11 ≥ 0 then (if 0 ≤ x11 then (if x11 < (x0.length : Int) then (if 0 ≤ (wrap64 (x11 + x7)) then (if (wrap64 (x11 + x7)) < (x0.length : Int) then (if ((((((x9 * 16777619) % 4294967296) + ((rd x0 x11) % 4294967296)) % 4294967296) - ((x6 * ((rd x0 (wrap64 (x11 + x7))) % 4294967296)) % 4294967296)) % 4294967296) = x5 then (if x11 ≤ (wrap64 (x11 + x7)) then (if (wrap64 (x11 + x7)) ≤ (x0.length : Int) then (if (strOfNums ((x0.take ((wrap64 (x11 + x7)) : Int).toNat).drop (x11 : Int).toNat)).toList = (strOfNums x1).toList then (some x11) else (bytealg_LastIndexRabinKarp_byte.l1 k x0 x1 x5 x6 x7 ((((((x9 * 16777619) % 4294967296) + ((rd x0 x11) % 4294967296)) % 4294967296) - ((x6 * ((rd x0 (wrap64 (x11 + x7))) % 4294967296)) % 4294967296)) % 4294967296) (wrap64 (x11 - 1)))) else (none)) else (none)) else (bytealg_LastIndexRabinKarp_byte.l1 k x0 x1 x5 x6 x7 ((((((x9 * 16777619) % 4294967296) + ((rd x0 x11) % 4294967296)) % 4294967296) - ((x6 * ((rd x0 (wrap64 (x11 + x7))) % 4294967296)) % 4294967296)) % 4294967296) (wrap64 (x11 - 1)))) else (none)) else (none)) else (none)) else (none)) else (some (-1))
end
def bytealg_LastIndexRabinKarp_byte.f (k : Nat) (l0 : List Int) (l1 : List Int) : Option (Int) := (bytealg_hashStrRev_byte.f k l1).bind fun bt139 => (bytealg_LastIndexRabinKarp_byte.l0 k l0 l1 bt139.1 bt139.2 (l1.length : Int) (wrap64 ((l0.length : Int) - (l1.length : Int))) 0 (wrap64 ((l0.length : Int) - 1)))
set_option maxHeartbeats 8000000 in
set_option maxRecDepth 100000 in
theorem bytealg_LastIndexRabinKarp_byte.calls (k : Nat) (A0 : Option Addr) (c0 : Nat) (l0 : List Int) (A1 : Option Addr) (c1 : Nat) (l1 : List Int) (r : Int) (w : World) (hr0 : Kd.C (Kd.int .u8) w A0 l0.length l0) (hc0 : l0.length ≤ c0) (hr1 : Kd.C (Kd.int .u8) w A1 l1.length l1) (hc1 : l1.length ≤ c1) (h : bytealg_LastIndexRabinKarp_byte.f k l0 l1 = some r) :
  Calls Try.prog 105 #[.slice A0 l0.length c0,.slice A1 l1.length c1] w fun e w' => e = .returned (.int .i64 r) ∧ Drawn0 w w' := by
 have HR0 := Aside0.mk hr0
 have HC0 := Aside0.mk hc0
 clear hr0 hc0
 have HR1 := Aside0.mk hr1
 have HC1 := Aside0.mk hc1
 clear hr1 hc1
 have H : ((bytealg_hashStrRev_byte.f k l1).bind fun bt139 => (bytealg_LastIndexRabinKarp_byte.l0 k l0 l1 bt139.1 bt139.2 (l1.length : Int) (wrap64 ((l0.length : Int) - (l1.length : Int))) 0 (wrap64 ((l0.length : Int) - 1)))) = some r := h
 clear h
 replace H := Option.bind_eq_some_iff.mp H
 obtain ⟨⟨t139,t140⟩,A30,H⟩ := H
 replace H : (bytealg_LastIndexRabinKarp_byte.l0 k l0 l1 t139 t140 (l1.length : Int) (wrap64 ((l0.length : Int) - (l1.length : Int))) 0 (wrap64 ((l0.length : Int) - 1))) = some r := H
 have A3 := Aside0.mk A30
 clear A30
 have H' := Aside0.mk H
 clear H
 go_enter Try.func105,Try.ntmps105
 go_wp2_with (first|(go_at_call 110;(with_reducible refine (bytealg_hashStrRev_byte.calls k _ _ l1 t139 t140 _ ?side1 ?side2 A3.out).mono ?_);(case side1 => repeat (first|exact HR1.out|(with_reducible refine Kd.C_alloc ?_ _)|(with_reducible refine Kd.C_drewN ?_ _)|(with_reducible refine Kd.C_drew ?_)));(case side2 => exact HC1.out);rintro e w' ⟨rfl,⟨nd,rfl⟩⟩;(try first|exact ⟨rfl,_,World.drewN_drewN _ _ _⟩|exact ⟨rfl,_,Eq.trans (World.drewN_drewN _ _ _) (congrArg (World.drewN _) (Nat.add_assoc _ _ _))⟩)))
 repeat (go_quiet (first|(go_at_call 110;(with_reducible refine (bytealg_hashStrRev_byte.calls k _ _ l1 t139 t140 _ ?side1 ?side2 A3.out).mono ?_);(case side1 => repeat (first|exact HR1.out|(with_reducible refine Kd.C_alloc ?_ _)|(with_reducible refine Kd.C_drewN ?_ _)|(with_reducible refine Kd.C_drew ?_)));(case side2 => exact HC1.out);rintro e w' ⟨rfl,⟨nd,rfl⟩⟩;(try first|exact ⟨rfl,_,World.drewN_drewN _ _ _⟩|exact ⟨rfl,_,Eq.trans (World.drewN_drewN _ _ _) (congrArg (World.drewN _) (Nat.add_assoc _ _ _))⟩)));try go_wp2_with (first|(go_at_call 110;(with_reducible refine (bytealg_hashStrRev_byte.calls k _ _ l1 t139 t140 _ ?side1 ?side2 A3.out).mono ?_);(case side1 => repeat (first|exact HR1.out|(with_reducible refine Kd.C_alloc ?_ _)|(with_reducible refine Kd.C_drewN ?_ _)|(with_reducible refine Kd.C_drew ?_)));(case side2 => exact HC1.out);rintro e w' ⟨rfl,⟨nd,rfl⟩⟩;(try first|exact ⟨rfl,_,World.drewN_drewN _ _ _⟩|exact ⟨rfl,_,Eq.trans (World.drewN_drewN _ _ _) (congrArg (World.drewN _) (Nat.add_assoc _ _ _))⟩))))
 go_loopg [9,10] k (fun kq v9 v10 w' => ∃ (x9_1 : Int) (x10_1 : Int),v9 = .int .u32 x9_1 ∧ v10 = .int .i64 x10_1 ∧ Aside0 (bytealg_LastIndexRabinKarp_byte.l0 kq l0 l1 t139 t140 (l1.length : Int) (wrap64 ((l0.length : Int) - (l1.length : Int))) x9_1 x10_1 = some r) ∧ Aside0 (kq ≤ k) ∧ Drawn0 w w')
 case atStart => exact ⟨(0),(wrap64 ((l0.length : Int) - 1)),(rs_),(rs_),H',⟨Nat.le_refl _⟩,by repeat (first|exact Drawn0.refl _|apply Drawn0.step)⟩
 case round =>
  clear H'
  try clear c1
  try clear p2
  obtain ⟨x9_1,x10_1,rfl,rfl,HA,HK1,⟨m1,rfl⟩⟩ := hrel
  cases gk with
  | zero => exact absurd HA.out (by simp [bytealg_LastIndexRabinKarp_byte.l0])
  | succ k1 =>
   have H := HA.out
   clear HA
   simp only [bytealg_LastIndexRabinKarp_byte.l0] at H
   by_cases c4 : x10_1 ≥ (wrap64 ((l0.length : Int) - (l1.length : Int)))
   ·
    rw [if_pos c4] at H
    have c4b0 : decide ((wrap64 ((l0.length : Int) - (l1.length : Int))) ≤ x10_1) = true := decide_eq_true c4
    clear c4
    by_cases c5 : 0 ≤ x10_1
    ·
     rw [if_pos c5] at H
     have c5b0 : decide (0 ≤ x10_1) = true := decide_eq_true c5
     clear c5
     by_cases c6 : x10_1 < (l0.length : Int)
     ·
      rw [if_pos c6] at H
      have c6b0 : decide (x10_1 < (l0.length : Int)) = true := decide_eq_true c6
      clear c6
      have H' := Aside0.mk H
      clear H
      have p141 : 0 ≤ (x10_1 : Int) := odt_
      have q141 : x10_1 < (l0.length : Int) := odt_
      obtain ⟨ad141,e141,hx141_0⟩ := Kd.at_int HR0.out x10_1 p141 q141
      cases e141
      replace p141 := eq_true p141
      replace q141 := eq_true q141
      go_wp2
      have hw8_ := YtbkeakeldegkeaaX.wrap_u8;have hw64_ := YtbkeakeldegkeaaX.wrap_i64;repeat (go_quiet (fail);try go_wp2)
      go_roundg k1
      case measure => have := HK1.out;omega
      case rel => exact ⟨((((x9_1 * 16777619) % 4294967296) + ((rd l0 x10_1) % 4294967296)) % 4294967296),(wrap64 (x10_1 - 1)),(rs_),(rs_),H',⟨by have := HK1.out;omega⟩,by repeat (first|exact Drawn0.refl _|apply Drawn0.step)⟩
     rw [if_neg c6] at H
     exact absurd H (by simp)
    rw [if_neg c5] at H
    exact absurd H (by simp)
   rw [if_neg c4] at H
   have c4b0 : decide ((wrap64 ((l0.length : Int) - (l1.length : Int))) ≤ x10_1) = false := decide_eq_false c4
   clear c4
   have HC7 := Aside0.mk H
   clear H
   go_upto_region 9 with (fail)
   repeat (go_quiet (fail);go_upto_region 9 with (fail))
   go_cut [50] (fun v50 wc => ∃ (kq : Nat) (x50_6 : Bool),v50 = .bool x50_6 ∧ Aside0 (bytealg_LastIndexRabinKarp_byte.j1 kq l0 l1 t139 t140 (l1.length : Int) (wrap64 ((l0.length : Int) - (l1.length : Int))) x9_1 x50_6 = some r) ∧ Aside0 (kq ≤ k1) ∧ Drawn0 w wc)
   case first =>
    have H := HC7.out
    clear HC7
    by_cases c8 : x9_1 = t139
    ·
     rw [if_pos c8] at H
     have c8b0 : (x9_1 == t139) = true := beq_iff_eq.mpr c8
     have c8b1 : (x9_1 != t139) = false := bne_eq_false_iff_eq.mpr c8
     clear c8
     (first|rw [c8b0]|(simp only [i64_w,i32_w];rw [c8b0])|(rw [YtbkeakeldegkeaaX.isEmpty_eq];rw [c8b0])|skip)
     obtain ⟨ji9,hji9⟩ : ∃ j_ : Int,(wrap64 ((l0.length : Int) - (l1.length : Int))) = j_ := ⟨_,rfl⟩
     replace H : (if 0 ≤ (ji9) then (if (ji9) ≤ (l0.length : Int) then (bytealg_LastIndexRabinKarp_byte.j1 k1 l0 l1 t139 t140 (l1.length : Int) (ji9) x9_1 ((strOfNums (l0.drop ((ji9) : Int).toNat)).toList == (strOfNums l1).toList)) else (none)) else (none)) = some r := by first|(rw [hji9] at H;exact H)|(simp only [hji9] at H ⊢;exact H)
     (try rw [hji9] at c4b0)
     have hji9w : (IntKind.i64.wrap ((l0.length : Int) - (l1.length : Int))) = ji9 := (i64_w _).trans hji9
     by_cases c10 : 0 ≤ (ji9)
     ·
      rw [if_pos c10] at H
      have c10b0 := eq_true c10
      have c10b1 : decide (0 ≤ (ji9)) = true := decide_eq_true c10
      clear c10
      by_cases c11 : (ji9) ≤ (l0.length : Int)
      ·
       rw [if_pos c11] at H
       have c11b0 := eq_true c11
       have c11b1 : decide ((ji9) ≤ (l0.length : Int)) = true := decide_eq_true c11
       clear c11
       have H' := Aside0.mk H
       clear H
       obtain ⟨i012,hi012,_,hsz12,_⟩ := info_parts info5
       obtain ⟨A12,hcut12,hA12,hC12⟩ := print_drop_of (P := Try.prog) (Value.int .u8) 0 49 5 .i64 Try.underlying49 hi012 hsz12 A0 c0 l0 (ji9) (odt_) (odt_) HC0.out
       have HR142 := Aside0.mk (Kd.C_of_reads (h1 := fun _ => rfl) (hA12 _ (Kd.reads_of_C HR0.out)))
       have HC142 := Aside0.mk hC12
       clear hA12 hC12 hi012 hsz12
       have hcv13 := YtbkeakeldegkeaaX.C_string2 (P := Try.prog) (A := A12) (c := (c0 - (ji9).toNat)) Try.underlying49 Try.underlying5 Try.underlying9 HR142.out
       first|(generalize hnq13 : List.length (List.drop _ _) = nq13 at hcut12 hcv13)|(generalize hnq13 : List.length (List.take _ _) = nq13 at hcut12 hcv13)
       have hcv14 := YtbkeakeldegkeaaX.C_string2 (P := Try.prog) (A := A1) (c := c1) Try.underlying49 Try.underlying5 Try.underlying9 HR1.out
       go_wp2
       have hw8_ := YtbkeakeldegkeaaX.wrap_u8;have hw64_ := YtbkeakeldegkeaaX.wrap_i64;repeat (go_quiet (fail);try go_wp2)
       go_meet
       case rel => exact ⟨_,(((strOfNums (l0.drop ((ji9) : Int).toNat)).toList == (strOfNums l1).toList)),(by first|rfl|(simp;done)|(simp only [← hji9] <;> (first|rfl|simp))|(simp [*];done)|(simp [YtbkeakeldegkeaaX.isEmpty_ne];done)),by first|exact H'|(exact ⟨by rw [hji9];exact H'.out⟩),⟨by have := HK1.out;first|omega|exact Nat.le_refl _⟩,by repeat (first|exact Drawn0.refl _|apply Drawn0.step)⟩
      rw [if_neg c11] at H
      exact absurd H (by simp)
     rw [if_neg c10] at H
     exact absurd H (by simp)
    rw [if_neg c8] at H
    have c8b0 : (x9_1 == t139) = false := beq_eq_false_iff_ne.mpr c8
    have c8b1 : (x9_1 != t139) = true := bne_iff_ne.mpr c8
    (first|rw [c8b0]|(simp only [i64_w,i32_w];rw [c8b0])|(rw [YtbkeakeldegkeaaX.isEmpty_eq];rw [c8b0])|skip)
    have H' := Aside0.mk H
    clear H
    go_wp2
    have hw8_ := YtbkeakeldegkeaaX.wrap_u8;have hw64_ := YtbkeakeldegkeaaX.wrap_i64;repeat (go_quiet (fail);try go_wp2)
    go_meet
    case rel => exact ⟨_,(false),(rs_),H',⟨by have := HK1.out;first|omega|exact Nat.le_refl _⟩,by repeat (first|exact Drawn0.refl _|apply Drawn0.step)⟩
   case rest =>
    clear HC7
    try clear c1
    try clear p1
    try clear q1
    try clear hx1
    try clear hcv1
    try clear p2
    try clear c4
    try clear c4b0
    try clear c5
    try clear c5b0
    try clear c6
    try clear c6b0
    try clear p6
    try clear c8
    try clear c8b0
    try clear c8b1
    try clear c10
    try clear c10b0
    try clear c10b1
    try clear c11
    try clear c11b0
    try clear c11b1
    try clear hcv13
    try clear p14
    try clear q14
    try clear hx14
    try clear hcv14
    try clear hx141_0
    try clear p141
    try clear p2
    try clear q141
    obtain ⟨kq,x50_6,rfl,HA,HJ6,⟨mc6,rfl⟩⟩ := hcut
    cases kq with
    | zero => exact absurd HA.out (by simp [bytealg_LastIndexRabinKarp_byte.j1])
    | succ kj6 =>
     have H := HA.out
     clear HA
     simp only [bytealg_LastIndexRabinKarp_byte.j1] at H
     by_cases c15 : x50_6 = true
     ·
      subst c15
      have H1 : (some (wrap64 ((l0.length : Int) - (l1.length : Int)))) = some r := by rw [if_pos rfl] at H;exact H
      clear H
      have H := H1
      clear H1
      obtain rfl := Option.some.inj H
      go_wp2
      have hw8_ := YtbkeakeldegkeaaX.wrap_u8;have hw64_ := YtbkeakeldegkeaaX.wrap_i64;repeat (go_quiet (fail);try go_wp2)
      go_ret
      exact ⟨rs_,by repeat (first|exact Drawn0.refl _|apply Drawn0.step)⟩
     replace c15 := Bool.eq_false_iff.mpr c15
     subst c15
     have H1 : (bytealg_LastIndexRabinKarp_byte.l1 kj6 l0 l1 t139 t140 (l1.length : Int) x9_1 (wrap64 ((wrap64 ((l0.length : Int) - (l1.length : Int))) - 1))) = some r := by rw [if_neg (show ¬ (false = true) by decide)] at H;exact H
     clear H
     have H := H1
     clear H1
     have H' := Aside0.mk H
     clear H
     go_wp2
     have hw8_ := YtbkeakeldegkeaaX.wrap_u8;have hw64_ := YtbkeakeldegkeaaX.wrap_i64;repeat (go_quiet (fail);try go_wp2)
     go_loopg [9,11] kj6 (fun kq v9 v11 w' => ∃ (x9_3 : Int) (x11_3 : Int),v9 = .int .u32 x9_3 ∧ v11 = .int .i64 x11_3 ∧ Aside0 (bytealg_LastIndexRabinKarp_byte.l1 kq l0 l1 t139 t140 (l1.length : Int) x9_3 x11_3 = some r) ∧ Aside0 (kq ≤ kj6) ∧ Drawn0 w w')
     case atStart => exact ⟨(x9_1),(wrap64 ((wrap64 ((l0.length : Int) - (l1.length : Int))) - 1)),(rs_),(rs_),H',⟨Nat.le_refl _⟩,by repeat (first|exact Drawn0.refl _|apply Drawn0.step)⟩
     case round =>
      clear H'
      try clear c1
      try clear p1
      try clear q1
      try clear hx1
      try clear hcv1
      try clear p2
      try clear c4
      try clear c4b0
      try clear c5
      try clear c5b0
      try clear c6
      try clear c6b0
      try clear p6
      try clear c8
      try clear c8b0
      try clear c8b1
      try clear c10
      try clear c10b0
      try clear c10b1
      try clear c11
      try clear c11b0
      try clear c11b1
      try clear hcv13
      try clear p14
      try clear q14
      try clear hx14
      try clear hcv14
      try clear c15
      try clear hx141_0
      try clear p1
      try clear p14
      try clear p141
      try clear p2
      try clear p6
      try clear q1
      try clear q14
      try clear q141
      obtain ⟨x9_3,x11_3,rfl,rfl,HA,HK3,⟨m3,rfl⟩⟩ := hrel
      cases gk with
      | zero => exact absurd HA.out (by simp [bytealg_LastIndexRabinKarp_byte.l1])
      | succ k3 =>
       have H := HA.out
       clear HA
       simp only [bytealg_LastIndexRabinKarp_byte.l1] at H
       by_cases c16 : x11_3 ≥ 0
       ·
        rw [if_pos c16] at H
        have c16b0 : decide (0 ≤ x11_3) = true := decide_eq_true c16
        clear c16
        by_cases c17 : 0 ≤ x11_3
        ·
         rw [if_pos c17] at H
         have c17b0 : decide (0 ≤ x11_3) = true := decide_eq_true c17
         clear c17
         by_cases c18 : x11_3 < (l0.length : Int)
         ·
          rw [if_pos c18] at H
          have c18b0 : decide (x11_3 < (l0.length : Int)) = true := decide_eq_true c18
          clear c18
          obtain ⟨ji19,hji19⟩ : ∃ j_ : Int,(wrap64 (x11_3 + (l1.length : Int))) = j_ := ⟨_,rfl⟩
          replace H : (if 0 ≤ (ji19) then (if (ji19) < (l0.length : Int) then (if ((((((x9_3 * 16777619) % 4294967296) + ((rd l0 x11_3) % 4294967296)) % 4294967296) - ((t140 * ((rd l0 (ji19)) % 4294967296)) % 4294967296)) % 4294967296) = t139 then (if x11_3 ≤ (ji19) then (if (ji19) ≤ (l0.length : Int) then (if (strOfNums ((l0.take ((ji19) : Int).toNat).drop (x11_3 : Int).toNat)).toList = (strOfNums l1).toList then (some x11_3) else (bytealg_LastIndexRabinKarp_byte.l1 k3 l0 l1 t139 t140 (l1.length : Int) ((((((x9_3 * 16777619) % 4294967296) + ((rd l0 x11_3) % 4294967296)) % 4294967296) - ((t140 * ((rd l0 (ji19)) % 4294967296)) % 4294967296)) % 4294967296) (wrap64 (x11_3 - 1)))) else (none)) else (none)) else (bytealg_LastIndexRabinKarp_byte.l1 k3 l0 l1 t139 t140 (l1.length : Int) ((((((x9_3 * 16777619) % 4294967296) + ((rd l0 x11_3) % 4294967296)) % 4294967296) - ((t140 * ((rd l0 (ji19)) % 4294967296)) % 4294967296)) % 4294967296) (wrap64 (x11_3 - 1)))) else (none)) else (none)) = some r := by first|(rw [hji19] at H;exact H)|(simp only [hji19] at H ⊢;exact H)
          have hji19w : (IntKind.i64.wrap (x11_3 + (l1.length : Int))) = ji19 := (i64_w _).trans hji19
          by_cases c20 : 0 ≤ (ji19)
          ·
           rw [if_pos c20] at H
           have c20b0 : decide (0 ≤ (ji19)) = true := decide_eq_true c20
           clear c20
           by_cases c21 : (ji19) < (l0.length : Int)
           ·
            rw [if_pos c21] at H
            have c21b0 : decide ((ji19) < (l0.length : Int)) = true := decide_eq_true c21
            clear c21
            by_cases c22 : ((((((x9_3 * 16777619) % 4294967296) + ((rd l0 x11_3) % 4294967296)) % 4294967296) - ((t140 * ((rd l0 (ji19)) % 4294967296)) % 4294967296)) % 4294967296) = t139
            ·
             rw [if_pos c22] at H
             have c22b0 : (((((((x9_3 * 16777619) % 4294967296) + ((rd l0 x11_3) % 4294967296)) % 4294967296) - ((t140 * ((rd l0 (ji19)) % 4294967296)) % 4294967296)) % 4294967296) == t139) = true := beq_iff_eq.mpr c22
             have c22b1 : (((((((x9_3 * 16777619) % 4294967296) + ((rd l0 x11_3) % 4294967296)) % 4294967296) - ((t140 * ((rd l0 (ji19)) % 4294967296)) % 4294967296)) % 4294967296) != t139) = false := bne_eq_false_iff_eq.mpr c22
             have c22s := c22
             try simp at c22s
             replace c22s := eq_true c22s
             clear c22
             have c23b0 := eq_true (odt_ : 0 ≤ x11_3)
             by_cases c24 : x11_3 ≤ (ji19)
             ·
              rw [if_pos c24] at H
              have c24b0 := eq_true c24
              have c24b1 : decide (x11_3 ≤ (ji19)) = true := decide_eq_true c24
              clear c24
              by_cases c25 : (ji19) ≤ (l0.length : Int)
              ·
               rw [if_pos c25] at H
               have c25b0 := eq_true c25
               have c25b1 : decide ((ji19) ≤ (l0.length : Int)) = true := decide_eq_true c25
               clear c25
               by_cases c26 : (strOfNums ((l0.take ((ji19) : Int).toNat).drop (x11_3 : Int).toNat)).toList = (strOfNums l1).toList
               ·
                rw [if_pos c26] at H
                have c26b0 : ((strOfNums ((l0.take ((ji19) : Int).toNat).drop (x11_3 : Int).toNat)).toList == (strOfNums l1).toList) = true := beq_iff_eq.mpr c26
                have c26b1 : ((strOfNums ((l0.take ((ji19) : Int).toNat).drop (x11_3 : Int).toNat)).toList != (strOfNums l1).toList) = false := bne_eq_false_iff_eq.mpr c26
                clear c26
                obtain rfl := Option.some.inj H
                have p143 : 0 ≤ (x11_3 : Int) := odt_
                have q143 : x11_3 < (l0.length : Int) := odt_
                obtain ⟨ad143,e143,hx143_0⟩ := Kd.at_int HR0.out x11_3 p143 q143
                cases e143
                replace p143 := eq_true p143
                replace q143 := eq_true q143
                have p144 : 0 ≤ ((ji19) : Int) := odt_
                have q144 : (ji19) < (l0.length : Int) := odt_
                obtain ⟨ad144,e144,hx144_0⟩ := Kd.at_int HR0.out (ji19) p144 q144
                obtain rfl : ad143 = ad144 := (by injection e144)
                replace p144 := eq_true p144
                replace q144 := eq_true q144
                obtain ⟨i027,hi027,_,hsz27,_⟩ := info_parts info5
                obtain ⟨A27,hcut27,hA27,hC27⟩ := print_mid_of (P := Try.prog) (Value.int .u8) 0 49 5 .i64 .i64 Try.underlying49 hi027 hsz27 (some ad143) c0 l0 x11_3 (ji19) (odt_) (by first|omega|exact odt_) (odt_) HC0.out
                have HR145 := Aside0.mk (Kd.C_of_reads (h1 := fun _ => rfl) (hA27 _ (Kd.reads_of_C HR0.out)))
                have HC145 := Aside0.mk hC27
                clear hA27 hC27 hi027 hsz27
                have hcv28 := YtbkeakeldegkeaaX.C_string2 (P := Try.prog) (A := A27) (c := (c0 - x11_3.toNat)) Try.underlying49 Try.underlying5 Try.underlying9 HR145.out
                first|(generalize hnq28 : List.length (List.drop _ _) = nq28 at hcut27 hcv28)|(generalize hnq28 : List.length (List.take _ _) = nq28 at hcut27 hcv28)
                have hcv29 := YtbkeakeldegkeaaX.C_string2 (P := Try.prog) (A := A1) (c := c1) Try.underlying49 Try.underlying5 Try.underlying9 HR1.out
                go_wp2
                have hw8_ := YtbkeakeldegkeaaX.wrap_u8;have hw64_ := YtbkeakeldegkeaaX.wrap_i64;repeat (go_quiet (fail);try go_wp2)
                go_ret
                exact ⟨by first|rfl|(simp;done)|(simp only [← hji19] <;> (first|rfl|simp))|(simp [*];done)|(simp [YtbkeakeldegkeaaX.isEmpty_ne];done),by repeat (first|exact Drawn0.refl _|apply Drawn0.step)⟩
               rw [if_neg c26] at H
               have c26b0 : ((strOfNums ((l0.take ((ji19) : Int).toNat).drop (x11_3 : Int).toNat)).toList == (strOfNums l1).toList) = false := beq_eq_false_iff_ne.mpr c26
               have c26b1 : ((strOfNums ((l0.take ((ji19) : Int).toNat).drop (x11_3 : Int).toNat)).toList != (strOfNums l1).toList) = true := bne_iff_ne.mpr c26
               have H' := Aside0.mk H
               clear H
               have p143 : 0 ≤ (x11_3 : Int) := odt_
               have q143 : x11_3 < (l0.length : Int) := odt_
               obtain ⟨ad143,e143,hx143_0⟩ := Kd.at_int HR0.out x11_3 p143 q143
               cases e143
               replace p143 := eq_true p143
               replace q143 := eq_true q143
               have p144 : 0 ≤ ((ji19) : Int) := odt_
               have q144 : (ji19) < (l0.length : Int) := odt_
               obtain ⟨ad144,e144,hx144_0⟩ := Kd.at_int HR0.out (ji19) p144 q144
               obtain rfl : ad143 = ad144 := (by injection e144)
               replace p144 := eq_true p144
               replace q144 := eq_true q144
               obtain ⟨i030,hi030,_,hsz30,_⟩ := info_parts info5
               obtain ⟨A30,hcut30,hA30,hC30⟩ := print_mid_of (P := Try.prog) (Value.int .u8) 0 49 5 .i64 .i64 Try.underlying49 hi030 hsz30 (some ad143) c0 l0 x11_3 (ji19) (odt_) (by first|omega|exact odt_) (odt_) HC0.out
               have HR145 := Aside0.mk (Kd.C_of_reads (h1 := fun _ => rfl) (hA30 _ (Kd.reads_of_C HR0.out)))
               have HC145 := Aside0.mk hC30
               clear hA30 hC30 hi030 hsz30
               have hcv31 := YtbkeakeldegkeaaX.C_string2 (P := Try.prog) (A := A30) (c := (c0 - x11_3.toNat)) Try.underlying49 Try.underlying5 Try.underlying9 HR145.out
               first|(generalize hnq31 : List.length (List.drop _ _) = nq31 at hcut30 hcv31)|(generalize hnq31 : List.length (List.take _ _) = nq31 at hcut30 hcv31)
               have hcv32 := YtbkeakeldegkeaaX.C_string2 (P := Try.prog) (A := A1) (c := c1) Try.underlying49 Try.underlying5 Try.underlying9 HR1.out
               go_wp2
               have hw8_ := YtbkeakeldegkeaaX.wrap_u8;have hw64_ := YtbkeakeldegkeaaX.wrap_i64;repeat (go_quiet (fail);try go_wp2)
               go_roundg k3
               case measure => have := HK1.out;have := HJ6.out;have := HK3.out;omega
               case rel => exact ⟨((((((x9_3 * 16777619) % 4294967296) + ((rd l0 x11_3) % 4294967296)) % 4294967296) - ((t140 * ((rd l0 (ji19)) % 4294967296)) % 4294967296)) % 4294967296),(wrap64 (x11_3 - 1)),(by first|rfl|(simp;done)|(simp only [← hji19] <;> (first|rfl|simp))|(simp [*];done)|(simp [YtbkeakeldegkeaaX.isEmpty_ne];done)),(rs_),H',⟨by have := HK1.out;have := HJ6.out;have := HK3.out;omega⟩,by repeat (first|exact Drawn0.refl _|apply Drawn0.step)⟩
              rw [if_neg c25] at H
              exact absurd H (by simp)
             rw [if_neg c24] at H
             exact absurd H (by simp)
            rw [if_neg c22] at H
            have c22b0 : (((((((x9_3 * 16777619) % 4294967296) + ((rd l0 x11_3) % 4294967296)) % 4294967296) - ((t140 * ((rd l0 (ji19)) % 4294967296)) % 4294967296)) % 4294967296) == t139) = false := beq_eq_false_iff_ne.mpr c22
            have c22b1 : (((((((x9_3 * 16777619) % 4294967296) + ((rd l0 x11_3) % 4294967296)) % 4294967296) - ((t140 * ((rd l0 (ji19)) % 4294967296)) % 4294967296)) % 4294967296) != t139) = true := bne_iff_ne.mpr c22
            have c22s := c22
            try simp at c22s
            replace c22s := eq_false c22s
            have H' := Aside0.mk H
            clear H
            have p143 : 0 ≤ (x11_3 : Int) := odt_
            have q143 : x11_3 < (l0.length : Int) := odt_
            obtain ⟨ad143,e143,hx143_0⟩ := Kd.at_int HR0.out x11_3 p143 q143
            cases e143
            replace p143 := eq_true p143
            replace q143 := eq_true q143
            have p144 : 0 ≤ ((ji19) : Int) := odt_
            have q144 : (ji19) < (l0.length : Int) := odt_
            obtain ⟨ad144,e144,hx144_0⟩ := Kd.at_int HR0.out (ji19) p144 q144
            obtain rfl : ad143 = ad144 := (by injection e144)
            replace p144 := eq_true p144
            replace q144 := eq_true q144
            go_wp2
            have hw8_ := YtbkeakeldegkeaaX.wrap_u8;have hw64_ := YtbkeakeldegkeaaX.wrap_i64;repeat (go_quiet (fail);try go_wp2)
            go_roundg k3
            case measure => have := HK1.out;have := HJ6.out;have := HK3.out;omega
            case rel => exact ⟨((((((x9_3 * 16777619) % 4294967296) + ((rd l0 x11_3) % 4294967296)) % 4294967296) - ((t140 * ((rd l0 (ji19)) % 4294967296)) % 4294967296)) % 4294967296),(wrap64 (x11_3 - 1)),(by first|rfl|(simp;done)|(simp only [← hji19] <;> (first|rfl|simp))|(simp [*];done)|(simp [YtbkeakeldegkeaaX.isEmpty_ne];done)),(rs_),H',⟨by have := HK1.out;have := HJ6.out;have := HK3.out;omega⟩,by repeat (first|exact Drawn0.refl _|apply Drawn0.step)⟩
           rw [if_neg c21] at H
           exact absurd H (by simp)
          rw [if_neg c20] at H
          exact absurd H (by simp)
         rw [if_neg c18] at H
         exact absurd H (by simp)
        rw [if_neg c17] at H
        exact absurd H (by simp)
       rw [if_neg c16] at H
       have c16b0 : decide (0 ≤ x11_3) = false := decide_eq_false c16
       clear c16
       obtain rfl := Option.some.inj H
       go_wp2
       have hw8_ := YtbkeakeldegkeaaX.wrap_u8;have hw64_ := YtbkeakeldegkeaaX.wrap_i64;repeat (go_quiet (fail);try go_wp2)
       go_ret
       exact ⟨rs_,by repeat (first|exact Drawn0.refl _|apply Drawn0.step)⟩
end Go.Proofs.Ytbkeakeldegkeaa.Q
end
