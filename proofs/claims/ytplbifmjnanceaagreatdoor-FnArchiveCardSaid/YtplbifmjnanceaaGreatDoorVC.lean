/- Plain law of hunks: what applying them gives. -/
import Derived.Test.YtplbifmjnanceaaGreatDoorProg
import Derived.Below
import Derived.Deep.Draws
import Derived.Deep.AppendLies
import Derived.Maps.AppendAt
import Derived.OwnWalk
import Derived.Laws.BytesArg
import Derived.Laws.MakeOwn
import Derived.Laws.OwnMore
import Derived.Deep.OwnRows
import Derived.Tactics
import Derived.Lib.ConvBytes
import Derived.Laws.Slices
import Derived.WalkKit
import Derived.KernelRfl
import Derived.RowKit3
import Derived.Deep.LoopGhost
import Derived.Deep.QuietTactic
import Derived.BigQuiet
import Derived.WideLaws
import Derived.Deep.DeepCutAuto
import Derived.Deep.CutBlock
import Derived.Deep.RegionHeld3
import Derived.Laws.Rows
import Derived.Lib.AppendStr
import Derived.ArgAppend
import Derived.Laws.IdiomCopy
import Derived.OrdersHeld
import Derived.Laws.BitsLemmas
import Derived.RowKit
import Derived.Test.YtplbifmjnanceaaGreatDoorVA
import Derived.Test.YtplbifmjnanceaaGreatDoorVB
section
namespace Go.Proofs.YtplbifmjnanceaaGreatDoor.Tg
set_option linter.unusedSectionVars false
variable {α : Type} [DecidableEq α]
def cnt (x y : List α) (s : α) : Int:=-((min (x.count s) 2 : Nat) : Int) - 4 * ((min (y.count s) 2 : Nat) : Int)
def Uniq (x y : List α) (s : α) : Prop:=x.count s = 1 ∧ y.count s = 1
theorem cnt_uniq (x y : List α) (s : α) : cnt x y s = -5 ↔ Uniq x y s:=by
 unfold cnt Uniq; omega
theorem cnt_nonpos (x y : List α) (s : α) : cnt x y s ≤ 0:=by unfold cnt; omega
theorem cnt_ge (x y : List α) (s : α) : -10 ≤ cnt x y s:=by unfold cnt; omega
theorem cnt_neg (x y : List α) (s : α) (h : s ∈ x) : cnt x y s < 0:=by
 have:=List.count_pos_iff.2 h
 unfold cnt; omega
theorem take_succ' (x : List α) (k : Nat) (h : k < x.length) : x.take (k + 1) = x.take k ++ [x[k]]:=by
 rw [List.take_add_one,List.getElem?_eq_getElem h]; rfl
theorem count_take (x : List α) (k : Nat) (h : k < x.length) (s : α) : (x.take (k + 1)).count s = (x.take k).count s + if x[k] = s then 1 else 0:=by
 rw [take_succ' x k h,List.count_append,List.count_singleton]
 by_cases e : x[k] = s <;> simp [e]
def F1 (x : List α) (k : Nat) (s : α) : Int:=cnt (x.take k) [] s
def F2 (x y : List α) (k : Nat) (s : α) : Int:=cnt x (y.take k) s
theorem F1_zero (x : List α) (s : α) : F1 x 0 s = 0:=by simp [F1,cnt]
theorem F1_step (x : List α) (k : Nat) (h : k < x.length) (s : α) :
  F1 x (k + 1) s = if x[k] = s ∧ -2 < F1 x k s then F1 x k s - 1 else F1 x k s:=by
 unfold F1 cnt
 rw [count_take x k h]
 by_cases e : x[k] = s
 ·simp only [e,if_true,true_and]
  split <;> simp <;> simp at * <;> omega
 ·simp [e]
theorem F12 (x y : List α) (s : α) : F1 x x.length s = F2 x y 0 s:=by simp [F1,F2,cnt]
theorem F2_step (x y : List α) (k : Nat) (h : k < y.length) (s : α) :
  F2 x y (k + 1) s = if y[k] = s ∧ -8 < F2 x y k s then F2 x y k s - 4 else F2 x y k s:=by
 unfold F2 cnt
 rw [count_take y k h]
 by_cases e : y[k] = s
 ·simp only [e,if_true,true_and]
  split <;> omega
 ·simp [e]
theorem F2_last (x y : List α) (s : α) : F2 x y y.length s = cnt x y s:=by simp [F2]
structure R3 (x y : List α) (k : Nat) (yi : List Nat) (f : α → Int) : Prop where
 lt : ∀ i ∈ yi,i < k
 up : yi.Pairwise (· < ·)
 uq : ∀ i ∈ yi,∀ s,y[i]? = some s → Uniq x y s
 all : ∀ (i : Nat) (s : α),i < k → y[i]? = some s → Uniq x y s → i ∈ yi
 val : ∀ s,(∃ j i : Nat,yi[j]? = some i ∧ y[i]? = some s ∧ f s = j) ∨ ((∀ i ∈ yi,y[i]? ≠ some s) ∧ f s = cnt x y s)
theorem R3.start (x y : List α) (f : α → Int) (hf : ∀ s,f s = cnt x y s) : R3 x y 0 [] f :=
 ⟨by simp,by simp,by simp,by simp,fun s => Or.inr ⟨by simp,hf s⟩⟩
theorem uniq_place {y : List α} {s : α} (h : y.count s = 1) {i j : Nat} (hi : y[i]? = some s) (hj : y[j]? = some s) : i = j:=by
 induction y generalizing i j with
 | nil => simp at hi
 | cons a l ih =>
  have hl : ∀ k : Nat,l[k]? = some s → 1 ≤ l.count s:=fun k hk => List.count_pos_iff.2 (List.mem_of_getElem? hk)
  cases i with
  | zero =>
   cases j with
   | zero => rfl
   | succ j =>
    simp at hi hj; subst hi
    have:=hl j hj
    simp at h; omega
  | succ i =>
   cases j with
   | zero =>
    simp at hi hj; subst hj
    have:=hl i hi
    simp at h; omega
   | succ j =>
    simp at hi hj
    have h1 : l.count s = 1:=by
     have:=hl i hi
     rw [List.count_cons] at h
     split at h <;> omega
    rw [ih h1 hi hj]
theorem R3.skip {x y : List α} {k : Nat} {yi : List Nat} {f : α → Int} (h : R3 x y k yi f) (hk : k < y.length) (hn : f y[k] ≠ -5) : R3 x y (k + 1) yi f:=by
 refine ⟨fun i hi => Nat.lt_succ_of_lt (h.lt i hi),h.up,h.uq,?_,h.val⟩
 intro i s hi hs hu
 by_cases e : i = k
 ·subst e
  rw [List.getElem?_eq_getElem hk] at hs; cases hs
  rcases h.val y[i] with ⟨j,i',hj,hi',hf⟩ | ⟨_,hf⟩
  ·have:=uniq_place hu.2 hi' (List.getElem?_eq_getElem hk)
   subst this
   exact List.mem_of_getElem? hj
  ·exact absurd (hf.trans ((cnt_uniq x y _).2 hu)) hn
 ·exact h.all i s (by omega) hs hu
theorem R3.take {x y : List α} {k : Nat} {yi : List Nat} {f g : α → Int} (h : R3 x y k yi f) (hk : k < y.length) (hn : f y[k] = -5)
  (hg : ∀ s,g s = if y[k] = s then (yi.length : Int) else f s) : R3 x y (k + 1) (yi ++ [k]) g:=by
 have hu : Uniq x y y[k]:=by
  rcases h.val y[k] with ⟨j,i',hj,hi',hf⟩ | ⟨_,hf⟩
  ·omega
  ·exact (cnt_uniq x y _).1 (hf.symm.trans hn)
 refine ⟨?_,?_,?_,?_,?_⟩
 ·intro i hi
  rcases List.mem_append.1 hi with hi | hi
  ·exact Nat.lt_succ_of_lt (h.lt i hi)
  ·simp at hi; omega
 ·rw [List.pairwise_append]
  exact ⟨h.up,by simp,fun a ha b hb => by simp at hb; subst hb; exact h.lt a ha⟩
 ·intro i hi s hs
  rcases List.mem_append.1 hi with hi | hi
  ·exact h.uq i hi s hs
  ·simp at hi; subst hi; rw [List.getElem?_eq_getElem hk] at hs; cases hs; exact hu
 ·intro i s hi hs hu'
  by_cases e : i = k
  ·simp [e]
  ·exact List.mem_append_left _ (h.all i s (by omega) hs hu')
 ·intro s
  by_cases e : y[k] = s
  ·subst e
   exact Or.inl ⟨yi.length,k,by simp,List.getElem?_eq_getElem hk,by rw [hg]; simp⟩
  ·rcases h.val s with ⟨j,i',hj,hi',hf⟩ | ⟨hno,hf⟩
   ·exact Or.inl ⟨j,i',by rw [List.getElem?_append_left (List.getElem?_eq_some_iff.1 hj).1]; exact hj,hi',by rw [hg,if_neg e]; exact hf⟩
   ·refine Or.inr ⟨?_,by rw [hg,if_neg e]; exact hf⟩
    intro i hi
    rcases List.mem_append.1 hi with hi | hi
    ·exact hno i hi
    ·simp at hi; subst hi; rw [List.getElem?_eq_getElem hk]; simpa using e
structure R4 (x y : List α) (yi : List Nat) (k : Nat) (xi inv : List Nat) : Prop where
 len : inv.length = xi.length
 lt : ∀ i ∈ xi,i < k
 at' : ∀ p i j : Nat,xi[p]? = some i → inv[p]? = some j → ∃ i' : Nat,yi[j]? = some i' ∧ i < x.length ∧ x[i]? = y[i']?
 all : ∀ i i' j : Nat,i < k → yi[j]? = some i' → i < x.length → x[i]? = y[i']? → j ∈ inv
theorem R4.start (x y : List α) (yi : List Nat) : R4 x y yi 0 [] []:=⟨rfl,by simp,by simp,by simp⟩
theorem R4.skip {x y : List α} {yi : List Nat} {f : α → Int} (h3 : R3 x y y.length yi f) {k : Nat} {xi inv : List Nat} (h : R4 x y yi k xi inv) (hk : k < x.length) (hn : f x[k] < 0) : R4 x y yi (k + 1) xi inv:=by
 refine ⟨h.len,fun i hi => Nat.lt_succ_of_lt (h.lt i hi),h.at',?_⟩
 intro i i' j hi hj hx he
 by_cases e : i = k
 ·subst e
  rcases h3.val x[i] with ⟨j',_,_,_,hf⟩ | ⟨hno,_⟩
  ·omega
  ·exact absurd (he.symm.trans (List.getElem?_eq_getElem hk)) (hno i' (List.mem_of_getElem? hj))
 ·exact h.all i i' j (by omega) hj hx he
theorem R4.take {x y : List α} {yi : List Nat} {f : α → Int} (h3 : R3 x y y.length yi f) {k : Nat} {xi inv : List Nat} (h : R4 x y yi k xi inv) (hk : k < x.length) (j : Nat) (hn : f x[k] = j) : R4 x y yi (k + 1) (xi ++ [k]) (inv ++ [j]):=by
 have hj : ∃ i' : Nat,yi[j]? = some i' ∧ x[k]? = y[i']?:=by
  rcases h3.val x[k] with ⟨j',i',hj',hi',hf⟩ | ⟨_,hf⟩
  ·have : j' = j:=by omega
   subst this
   exact ⟨i',hj',by rw [hi',List.getElem?_eq_getElem hk]⟩
  ·have:=cnt_neg x y x[k] (List.getElem_mem hk)
   omega
 refine ⟨by simp [h.len],?_,?_,?_⟩
 ·intro i hi
  rcases List.mem_append.1 hi with hi | hi
  ·exact Nat.lt_succ_of_lt (h.lt i hi)
  ·simp at hi; omega
 ·intro p i j' hp hq
  by_cases e : p < xi.length
  ·rw [List.getElem?_append_left e] at hp
   rw [List.getElem?_append_left (by rw [h.len]; exact e)] at hq
   exact h.at' p i j' hp hq
  ·have e2 : p = xi.length:=by
    have:=(List.getElem?_eq_some_iff.1 hp).1
    simp at this; omega
   subst e2
   have hq' : j = j':=by
    rw [← h.len] at hq
    simpa using hq
   have hp' : k = i:=by simpa using hp
   subst hq' hp'
   obtain ⟨i',a,b⟩:=hj
   exact ⟨i',a,hk,b⟩
 ·intro i i' j' hi hj' hx he
  by_cases e : i = k
  ·subst e
   obtain ⟨i2,a,b⟩:=hj
   have hs : y[i']? = some x[i]:=he.symm.trans (List.getElem?_eq_getElem hk)
   have hu:=h3.uq i' (List.mem_of_getElem? hj') _ hs
   have e1:=uniq_place hu.2 hs (b.symm.trans (List.getElem?_eq_getElem hk))
   subst e1
   have e3 : j' = j:=by
    obtain ⟨l1,v1⟩:=List.getElem?_eq_some_iff.1 hj'
    obtain ⟨l2,v2⟩:=List.getElem?_eq_some_iff.1 a
    rcases Nat.lt_trichotomy j' j with c | c | c
    ·have:=List.pairwise_iff_getElem.1 h3.up j' j l1 l2 c; omega
    ·exact c
    ·have:=List.pairwise_iff_getElem.1 h3.up j j' l2 l1 c; omega
   simp [e3]
  ·exact List.mem_append_left _ (h.all i i' j' (by omega) hj' hx he)
theorem pigeon : ∀ (m : Nat) (l : List Nat),(∀ j < m,j ∈ l) → m ≤ l.length
 | 0,_,_ => Nat.zero_le _
 | m + 1,l,h => by
  have hm:=h m (Nat.lt_succ_self m)
  have:=pigeon m (l.erase m) fun j hj => (List.mem_erase_of_ne (by omega)).2 (h j (by omega))
  rw [List.length_erase_of_mem hm] at this
  have:=List.length_pos_of_mem hm
  omega
theorem anchors_le {x y : List α} {yi : List Nat} {f : α → Int} (h3 : R3 x y y.length yi f) {xi inv : List Nat} (h : R4 x y yi x.length xi inv) : yi.length ≤ xi.length:=by
 rw [← h.len]
 refine pigeon _ _ fun j hj => ?_
 have hi:=List.getElem?_eq_getElem hj
 have hly:=h3.lt _ (List.getElem_mem hj)
 have hs:=List.getElem?_eq_getElem hly
 have hu:=h3.uq _ (List.getElem_mem hj) _ hs
 have hm : y[yi[j]] ∈ x:=List.count_pos_iff.1 (by rw [hu.1]; exact Nat.one_pos)
 obtain ⟨i,hix,e⟩:=List.getElem_of_mem hm
 exact h.all i yi[j] j hix hi hix (by rw [hs,List.getElem?_eq_getElem hix,e])
structure R5 (J : List Nat) (n i : Nat) (T L : List Nat) : Prop where
 lenT : T.length = n
 lenL : L.length = n
 up : ∀ a b,a ≤ b → b < n → T.getD a 0 ≤ T.getD b 0
 far : ∀ k,i ≤ k → k < n → T.getD k 0 = n + 1
 most : ∀ k,k < n → T.getD k 0 ≤ n + 1
 own : ∀ k,k < n → T.getD k 0 < n + 1 → ∃ p,p < i ∧ J.getD p 0 = T.getD k 0 ∧ L.getD p 0 = k + 1 ∧ ∀ j,p < j → j < i → L.getD j 0 ≠ k + 1
 run : ∀ p,p < i → 1 ≤ L.getD p 0 ∧ L.getD p 0 ≤ n ∧ (2 ≤ L.getD p 0 → ∃ q,q < p ∧ L.getD q 0 + 1 = L.getD p 0 ∧ J.getD q 0 < J.getD p 0 ∧ ∀ j,q < j → j < p → L.getD j 0 + 1 ≠ L.getD p 0)
theorem getD_set (l : List Nat) (i j v : Nat) : (l.set i v).getD j 0 = if i = j ∧ i < l.length then v else l.getD j 0:=by
 simp only [List.getD_eq_getElem?_getD,List.getElem?_set]
 by_cases e : i = j
 ·subst e
  by_cases h : i < l.length
  ·simp [h]
  ·simp [h]
 ·simp [e]
theorem R5.start (J : List Nat) (n : Nat) : R5 J n 0 (List.replicate n (n + 1)) (List.replicate n 0):=by
 have hr : ∀ k,k < n → (List.replicate n (n + 1)).getD k 0 = n + 1:=by
  intro k hk; simp [List.getD_eq_getElem?_getD,hk]
 refine ⟨by simp,by simp,?_,?_,?_,?_,by intro p hp; omega⟩
 ·intro a b hab hb; rw [hr a (by omega),hr b hb]; exact Nat.le_refl _
 ·intro k _ hk; exact hr k hk
 ·intro k hk; rw [hr k hk]; exact Nat.le_refl _
 ·intro k hk h; rw [hr k hk] at h; omega
theorem R5.step {J : List Nat} {n i : Nat} {T L : List Nat} (h : R5 J n i T L) (hi : i < n) (k : Nat) (hJ : J.getD i 0 ≤ n)
  (hlo : ∀ a,a < k → a < n → T.getD a 0 < J.getD i 0) (hhi : ∀ a,k ≤ a → a < n → J.getD i 0 ≤ T.getD a 0) (hk : k ≤ n) :
  k < n ∧ R5 J n (i + 1) (T.set k (J.getD i 0)) (L.set i (k + 1)):=by
 have hki : k ≤ i:=by
  rcases Nat.lt_or_ge i k with c | c
  ·have h1:=h.far i (Nat.le_refl _) hi
   have h2:=hlo i c hi
   omega
  ·exact c
 have hkn : k < n:=by omega
 have gT : ∀ j,(T.set k (J.getD i 0)).getD j 0 = if k = j then J.getD i 0 else T.getD j 0:=by
  intro j; rw [getD_set]; simp [h.lenT,hkn]
 have gL : ∀ j,(L.set i (k + 1)).getD j 0 = if i = j then k + 1 else L.getD j 0:=by
  intro j; rw [getD_set]; simp [h.lenL,hi]
 refine ⟨hkn,⟨by simp [h.lenT],by simp [h.lenL],?_,?_,?_,?_,?_⟩⟩
 ·intro a b hab hb
  rw [gT,gT]
  by_cases ea : k = a
  ·rw [if_pos ea]
   by_cases eb : k = b
   ·rw [if_pos eb]; exact Nat.le_refl _
   ·rw [if_neg eb]; exact hhi b (by omega) hb
  ·rw [if_neg ea]
   by_cases eb : k = b
   ·rw [if_pos eb]; exact Nat.le_of_lt (hlo a (by omega) (by omega))
   ·rw [if_neg eb]; exact h.up a b hab hb
 ·intro j hj hjn
  rw [gT,if_neg (by omega)]; exact h.far j (by omega) hjn
 ·intro j hj
  rw [gT]; split
  ·omega
  ·exact h.most j hj
 ·intro j hj hT
  rw [gT] at hT ⊢
  by_cases e : k = j
  ·subst e
   refine ⟨i,by omega,by simp,by rw [gL]; simp,fun m hm hm2 => by omega⟩
  ·rw [if_neg e] at hT ⊢
   obtain ⟨p,hp,e1,e2,e3⟩:=h.own j hj hT
   refine ⟨p,by omega,e1,by rw [gL,if_neg (by omega)]; exact e2,?_⟩
   intro m hm hm2
   rw [gL]
   by_cases em : i = m
   ·rw [if_pos em]; omega
   ·rw [if_neg em]; exact e3 m hm (by omega)
 ·intro p hp
  by_cases ep : p = i
  ·subst ep
   rw [gL,if_pos rfl]
   refine ⟨by omega,by omega,?_⟩
   intro h2
   have hlt:=hlo (k - 1) (by omega) (by omega)
   obtain ⟨q,hq,e1,e2,e3⟩:=h.own (k - 1) (by omega) (by omega)
   refine ⟨q,hq,by rw [gL,if_neg (by omega)]; omega,by omega,?_⟩
   intro j hj hj2
   rw [gL,if_neg (by omega)]
   have:=e3 j hj hj2
   omega
  ·obtain ⟨r1,r2,r3⟩:=h.run p (by omega)
   rw [gL,if_neg (by omega)]
   refine ⟨r1,r2,?_⟩
   intro h2
   obtain ⟨q,hq,e1,e2,e3⟩:=r3 h2
   refine ⟨q,hq,by rw [gL,if_neg (by omega)]; exact e1,e2,?_⟩
   intro j hj hj2
   rw [gL,if_neg (by omega)]
   exact e3 j hj hj2
structure R6 (L : List Nat) (i k : Nat) : Prop where
 most : ∀ p,p < i → L.getD p 0 ≤ k
 one : k = 0 ∨ ∃ p,p < i ∧ L.getD p 0 = k
theorem R6.start (L : List Nat) : R6 L 0 0:=⟨by simp,Or.inl rfl⟩
theorem R6.step {L : List Nat} {i k : Nat} (h : R6 L i k) : R6 L (i + 1) (if k < L.getD i 0 then L.getD i 0 else k):=by
 refine ⟨?_,?_⟩
 ·intro p hp
  by_cases e : p = i
  ·subst e; split <;> omega
  ·have:=h.most p (by omega); split <;> omega
 ·split
  ·exact Or.inr ⟨i,by omega,rfl⟩
  ·rcases h.one with e | ⟨p,hp,e⟩
   ·exact Or.inl e
   ·exact Or.inr ⟨p,by omega,e⟩
structure Good (x y : List α) (seq : List (Nat × Nat)) : Prop where
 two : 2 ≤ seq.length
 head : seq[0]? = some (0,0)
 last : seq[seq.length - 1]? = some (x.length,y.length)
 mid : ∀ q a b : Nat,0 < q → q + 1 < seq.length → seq[q]? = some (a,b) → a < x.length ∧ b < y.length ∧ x[a]? = y[b]? ∧ ∀ i : Nat,x[i]? = x[a]? → i = a
 up : ∀ (q q' : Nat) (p p' : Nat × Nat),q ≤ q' → seq[q]? = some p → seq[q']? = some p' → p.2 ≤ p'.2
structure R7 (x y : List α) (xi yi J L : List Nat) (n K i k : Nat) (seq : List (Nat × Nat)) : Prop where
 len : seq.length = K + 2
 le : k ≤ K
 last : seq[K + 1]? = some (x.length,y.length)
 set : ∀ q,k < q → q ≤ K → ∃ p,p < n ∧ seq[q]? = some (xi.getD p 0,yi.getD (J.getD p 0) 0)
 up : ∀ (q q' : Nat) (p p' : Nat × Nat),k < q → q ≤ q' → seq[q]? = some p → seq[q']? = some p' → p.2 ≤ p'.2
 next : k = 0 ∨ ∃ p,p < i ∧ L.getD p 0 = k ∧ (∀ j,p < j → j < i → L.getD j 0 ≠ k) ∧ ∀ b,seq[k + 1]? = some b → yi.getD (J.getD p 0) 0 ≤ b.2
variable {x y : List α} {xi yi J L T : List Nat} {n K i k : Nat} {seq : List (Nat × Nat)}
theorem last_one {L : List Nat} {k : Nat} : ∀ {i : Nat},(∃ p,p < i ∧ L.getD p 0 = k) → ∃ p,p < i ∧ L.getD p 0 = k ∧ ∀ j,p < j → j < i → L.getD j 0 ≠ k
 | 0,⟨p,hp,_⟩ => by omega
 | i + 1,⟨p,hp,e⟩ => by
  by_cases c : L.getD i 0 = k
  ·exact ⟨i,by omega,c,fun j _ _ => by omega⟩
  ·have hpi : p < i:=by
    rcases Nat.lt_or_ge p i with h | h
    ·exact h
    ·have : p = i:=by omega
     subst this; exact absurd e c
   obtain ⟨q,hq,e1,e2⟩:=last_one ⟨p,hpi,e⟩
   refine ⟨q,by omega,e1,fun j hj hj2 => ?_⟩
   by_cases ej : j = i
   ·subst ej; exact c
   ·exact e2 j hj (by omega)
theorem R7.start (hK : R6 L n K) (hlast : seq[K + 1]? = some (x.length,y.length)) (hlen : seq.length = K + 2) (hy : ∀ p,p < n → yi.getD (J.getD p 0) 0 ≤ y.length) : R7 x y xi yi J L n K n K seq:=by
 refine ⟨hlen,Nat.le_refl _,hlast,fun q h1 h2 => by omega,?_,?_⟩
 ·intro q q' p p' h1 h2 hp hp'
  have l1:=(List.getElem?_eq_some_iff.1 hp).1
  have l2:=(List.getElem?_eq_some_iff.1 hp').1
  have e1 : q = K + 1:=by omega
  have e2 : q' = K + 1:=by omega
  subst e1; subst e2
  rw [hp] at hp'; cases hp'; exact Nat.le_refl _
 ·rcases hK.one with e | h
  ·exact Or.inl e
  ·obtain ⟨p,h1,h2,h3⟩:=last_one h
   refine Or.inr ⟨p,h1,h2,h3,?_⟩
   intro b hb
   rw [hlast] at hb; cases hb; exact hy p h1
theorem R7.skip (h : R7 x y xi yi J L n K (i + 1) k seq) (hn : L.getD i 0 ≠ k) : R7 x y xi yi J L n K i k seq:=by
 refine ⟨h.len,h.le,h.last,h.set,h.up,?_⟩
 rcases h.next with e | ⟨p,h1,h2,h3,h4⟩
 ·exact Or.inl e
 ·refine Or.inr ⟨p,?_,h2,fun j hj hj2 => h3 j hj (by omega),h4⟩
  rcases Nat.lt_or_ge p i with c | c
  ·exact c
  ·have : p = i:=by omega
   subst this; exact absurd h2 hn
theorem R7.take (h5 : R5 J n n T L) (hyi : yi.Pairwise (· < ·)) (hJ : ∀ p,p < n → J.getD p 0 < yi.length) (h : R7 x y xi yi J L n K (i + 1) k seq) (hin : i < n) (hn : L.getD i 0 = k) :
  1 ≤ k ∧ R7 x y xi yi J L n K i (k - 1) (seq.set k (xi.getD i 0,yi.getD (J.getD i 0) 0)):=by
 have hle:=h.le
 obtain ⟨r1,r2,r3⟩:=h5.run i hin
 have hk1 : 1 ≤ k:=by omega
 have hlen:=h.len
 have hnext : ∀ b,seq[k + 1]? = some b → yi.getD (J.getD i 0) 0 ≤ b.2:=by
  rcases h.next with e | ⟨p,h1,h2,h3,h4⟩
  ·omega
  ·have : p = i:=by
    rcases Nat.lt_or_ge p i with c | c
    ·exact absurd hn (h3 i c (by omega))
    ·omega
   subst this; exact h4
 refine ⟨hk1,⟨by simp [h.len],by omega,?_,?_,?_,?_⟩⟩
 ·rw [List.getElem?_set,if_neg (by omega)]; exact h.last
 ·intro q h1 h2
  by_cases e : k = q
  ·subst e
   exact ⟨i,hin,by rw [List.getElem?_set,if_pos rfl,if_pos (by omega)]⟩
  ·obtain ⟨p,hp,e1⟩:=h.set q (by omega) h2
   exact ⟨p,hp,by rw [List.getElem?_set,if_neg e]; exact e1⟩
 ·intro q q' p p' h1 h2 hp hp'
  rw [List.getElem?_set] at hp hp'
  by_cases e : k = q
  ·subst e
   rw [if_pos rfl,if_pos (by omega)] at hp
   cases hp
   by_cases e' : k = q'
   ·subst e'
    rw [if_pos rfl,if_pos (by omega)] at hp'
    cases hp'; exact Nat.le_refl _
   ·rw [if_neg e'] at hp'
    have hb:=List.getElem?_eq_getElem (l:=seq) (i:=k + 1) (by omega)
    have h3:=hnext _ hb
    have h4:=h.up (k + 1) q' _ _ (by omega) (by omega) hb hp'
    exact Nat.le_trans h3 h4
  ·rw [if_neg e] at hp
   rw [if_neg (by omega)] at hp'
   exact h.up q q' p p' (by omega) h2 hp hp'
 ·by_cases e : k - 1 = 0
  ·exact Or.inl e
  ·obtain ⟨q,hq,e1,e2,e3⟩:=r3 (by omega)
   refine Or.inr ⟨q,hq,by omega,fun j hj hj2 => ?_,?_⟩
   ·have:=e3 j hj hj2; omega
   ·intro b hb
    rw [show k - 1 + 1 = k by omega,List.getElem?_set,if_pos rfl,if_pos (by omega)] at hb
    cases hb
    have l1:=hJ q (by omega)
    have l2:=hJ i hin
    have:=List.pairwise_iff_getElem.1 hyi _ _ l1 l2 e2
    show yi.getD (J.getD q 0) 0 ≤ yi.getD (J.getD i 0) 0
    rw [List.getD_eq_getElem?_getD (l:=yi),List.getElem?_eq_getElem l1,List.getD_eq_getElem?_getD (l:=yi),List.getElem?_eq_getElem l2]
    exact Nat.le_of_lt this
theorem R7.done {f : α → Int} (h3 : R3 x y y.length yi f) (h4 : R4 x y yi x.length xi J) (hJ : ∀ p,p < n → J.getD p 0 < yi.length) (hn : n = xi.length) (h : R7 x y xi yi J L n K 0 k seq) :
  k = 0 ∧ Good x y (seq.set 0 (0,0)):=by
 have hk : k = 0:=by
  rcases h.next with e | ⟨p,h1,_⟩
  ·exact e
  ·omega
 subst hk
 have hlen:=h.len
 refine ⟨rfl,⟨by simp [hlen],?_,?_,?_,?_⟩⟩
 ·rw [List.getElem?_set,if_pos rfl,if_pos (by omega)]
 ·rw [List.length_set,hlen,List.getElem?_set,if_neg (by omega)]; exact h.last
 ·intro q a b h1 h2 he
  rw [List.length_set] at h2
  rw [List.getElem?_set,if_neg (by omega)] at he
  obtain ⟨p,hp,e1⟩:=h.set q h1 (by omega)
  rw [e1] at he
  cases he
  have lx : p < xi.length:=by omega
  have lj : p < J.length:=by rw [h4.len]; exact lx
  have ly:=hJ p hp
  have ex : xi[p]? = some (xi.getD p 0):=by simp [List.getD_eq_getElem?_getD,List.getElem?_eq_getElem lx]
  have ej : J[p]? = some (J.getD p 0):=by simp [List.getD_eq_getElem?_getD,List.getElem?_eq_getElem lj]
  have ey : yi[J.getD p 0]? = some (yi.getD (J.getD p 0) 0):=by
   rw [List.getD_eq_getElem?_getD (l:=yi),List.getElem?_eq_getElem ly]; rfl
  generalize xi.getD p 0 = a at *
  generalize J.getD p 0 = j at *
  generalize yi.getD j 0 = b at *
  obtain ⟨b',e2,ha,e3⟩:=h4.at' p a j ex ej
  rw [ey] at e2; cases e2
  have hb : b < y.length:=h3.lt b (List.mem_of_getElem? ey)
  have hs:=List.getElem?_eq_getElem hb
  have hu:=h3.uq b (List.mem_of_getElem? ey) _ hs
  refine ⟨ha,hb,e3,?_⟩
  intro i' hi'
  exact uniq_place hu.1 (hi'.trans (e3.trans hs)) (e3.trans hs)
 ·intro q q' p p' h1 he he'
  rw [List.getElem?_set] at he he'
  by_cases e : 0 = q
  ·subst e
   rw [if_pos rfl,if_pos (by omega)] at he
   cases he; exact Nat.zero_le _
  ·rw [if_neg e] at he
   rw [if_neg (by omega)] at he'
   exact h.up q q' p p' (by omega) h1 he he'
end Go.Proofs.YtplbifmjnanceaaGreatDoor.Tg
end
section
namespace Go.Proofs.YtplbifmjnanceaaGreatDoor.Dp
variable {α : Type}
def seg (l : List α) (i j : Nat) : List α:=(l.drop i).take (j - i)
theorem seg_self (l : List α) (i : Nat) : seg l i i = []:=by simp [seg]
theorem seg_len (l : List α) (i j : Nat) (h : j ≤ l.length) : (seg l i j).length = j - i:=by simp [seg]; omega
theorem seg_append (l : List α) {i j k : Nat} (h1 : i ≤ j) (h2 : j ≤ k) : seg l i j ++ seg l j k = seg l i k:=by
 unfold seg
 have e : k - i = (j - i) + (k - j):=by omega
 have e2 : j = i + (j - i):=by omega
 rw [e,List.take_add,List.drop_drop,← e2]
theorem seg_succ (l : List α) {i j : Nat} (h1 : i ≤ j) (h2 : j < l.length) : seg l i (j + 1) = seg l i j ++ [l[j]]:=by
 rw [← seg_append l h1 (Nat.le_succ j)]
 congr 1
 unfold seg
 rw [show j + 1 - j = 1 by omega,List.drop_eq_getElem_cons h2]; rfl
theorem seg_cons (l : List α) {i j : Nat} (h1 : i < j) (h2 : j ≤ l.length) : seg l i j = l[i]'(by omega) :: seg l (i + 1) j:=by
 rw [← seg_append l (Nat.le_succ i) h1,seg_succ l (Nat.le_refl i) (by omega),seg_self]; rfl
theorem seg_back {x y : List α} {i j m n : Nat} (h1 : i < m) (h2 : j < n) (h3 : m ≤ x.length) (h4 : n ≤ y.length) (he : x[i]? = y[j]?) (h : seg x (i + 1) m = seg y (j + 1) n) : seg x i m = seg y j n:=by
 rw [seg_cons x h1 h3,seg_cons y h2 h4,h]
 rw [List.getElem?_eq_getElem (by omega),List.getElem?_eq_getElem (by omega)] at he
 injection he with he
 rw [he]
theorem seg_fore {x y : List α} {i j m n : Nat} (h1 : m ≤ i) (h2 : n ≤ j) (h3 : i < x.length) (h4 : j < y.length) (he : x[i]? = y[j]?) (h : seg x m i = seg y n j) : seg x m (i + 1) = seg y n (j + 1):=by
 rw [seg_succ x h1 h3,seg_succ y h2 h4,h]
 rw [List.getElem?_eq_getElem h3,List.getElem?_eq_getElem h4] at he
 injection he with he
 rw [he]
theorem seg_split {x y : List α} {i j i' j' m n : Nat} (h1 : i ≤ i') (h2 : i' ≤ m) (h3 : j ≤ j') (h4 : j' ≤ n) (h5 : m ≤ x.length) (h6 : n ≤ y.length) (h7 : i' + j = j' + i) (h : seg x i m = seg y j n) : seg x i i' = seg y j j' ∧ seg x i' m = seg y j' n:=by
 rw [← seg_append x h1 h2,← seg_append y h3 h4] at h
 exact List.append_inj h (by rw [seg_len _ _ _ (by omega),seg_len _ _ _ (by omega)]; omega)
theorem seg_all (l : List α) (i : Nat) : seg l i l.length = l.drop i:=by unfold seg; rw [List.take_of_length_le]; simp
theorem seg_getElem? (l : List α) (i j k : Nat) (hk : i + k < j) : (seg l i j)[k]? = l[i + k]?:=by
 unfold seg
 rw [List.getElem?_take,if_pos (by omega),List.getElem?_drop]
theorem seg_eq_get {x y : List α} {i j n k : Nat} (h : seg x i (i + n) = seg y j (j + n)) (hk : k < n) : x[i + k]? = y[j + k]?:=by
 rw [← seg_getElem? x i (i + n) k (by omega),← seg_getElem? y j (j + n) k (by omega),h]
abbrev Ln:=UInt8 × ByteArray
def olds (ls : List Ln) : List ByteArray:=(ls.filter fun l => l.1 != 43).map Prod.snd
def news (ls : List Ln) : List ByteArray:=(ls.filter fun l => l.1 != 45).map Prod.snd
def signed (sg : UInt8) (l : List ByteArray) : List Ln:=l.map fun s => (sg,s)
theorem olds_app (a b : List Ln) : olds (a ++ b) = olds a ++ olds b:=by simp [olds]
theorem news_app (a b : List Ln) : news (a ++ b) = news a ++ news b:=by simp [news]
theorem olds_signed (sg : UInt8) (l : List ByteArray) : olds (signed sg l) = if sg = 43 then [] else l:=by
 induction l with
 | nil => simp [olds,signed]
 | cons a l ih =>
  by_cases e : sg = 43
  ·subst e; simp [olds,signed]
  ·simp only [olds,signed,List.map_cons,List.filter_cons] at ih ⊢
   simp [e] at ih ⊢
   exact ih
theorem news_signed (sg : UInt8) (l : List ByteArray) : news (signed sg l) = if sg = 45 then [] else l:=by
 induction l with
 | nil => simp [news,signed]
 | cons a l ih =>
  by_cases e : sg = 45
  ·subst e; simp [news,signed]
  ·simp only [news,signed,List.map_cons,List.filter_cons] at ih ⊢
   simp [e] at ih ⊢
   exact ih
structure Hk where
 o : Nat
 n : Nat
 ls : List Ln
def Signs (ls : List Ln) : Prop:=∀ l ∈ ls,l.1 = 32 ∨ l.1 = 45 ∨ l.1 = 43
theorem Signs.app {a b : List Ln} (ha : Signs a) (hb : Signs b) : Signs (a ++ b):=fun l hl => (List.mem_append.1 hl).elim (ha l) (hb l)
theorem Signs.signed {sg : UInt8} (h : sg = 32 ∨ sg = 45 ∨ sg = 43) (l : List ByteArray) : Signs (signed sg l):=fun p hp => by
 simp [Dp.signed] at hp
 obtain ⟨_,_,rfl⟩:=hp
 exact h
structure Step (x y : List ByteArray) (i j : Nat) (h : Hk) (i' j' : Nat) : Prop where
 le : i ≤ h.o
 gap : h.o + j = h.n + i
 same : seg x i h.o = seg y j h.n
 lo : h.o ≤ i'
 hi : i' ≤ x.length
 lo2 : h.n ≤ j'
 hi2 : j' ≤ y.length
 ol : olds h.ls = seg x h.o i'
 nw : news h.ls = seg y h.n j'
 ne : h.ls ≠ []
 sg : Signs h.ls
def Chain (x y : List ByteArray) : Nat → Nat → List Hk → Nat → Nat → Prop
 | i,j,[],e,f => i = e ∧ j = f
 | i,j,h :: t,e,f => ∃ i' j',Step x y i j h i' j' ∧ Chain x y i' j' t e f
theorem Chain.snoc {x y : List ByteArray} {h : Hk} {e f e' f' : Nat} (hs : Step x y e f h e' f') : ∀ {l : List Hk} {i j : Nat},Chain x y i j l e f → Chain x y i j (l ++ [h]) e' f'
 | [],i,j,hc => by obtain ⟨rfl,rfl⟩:=hc; exact ⟨e',f',hs,rfl,rfl⟩
 | a :: t,i,j,hc => by obtain ⟨i',j',h1,h2⟩:=hc; exact ⟨i',j',h1,Chain.snoc hs h2⟩
def Leads (x y : List ByteArray) (hs : List Hk) : Prop:=∃ e f,Chain x y 0 0 hs e f ∧ e ≤ x.length ∧ f ≤ y.length ∧ x.drop e = y.drop f
structure DS (x y : List ByteArray) (hs : List Hk) (a1 a2 c1 c2 d1 d2 : Nat) (ct : List Ln) : Prop where
 chain : Chain x y 0 0 hs a1 a2
 le : a1 ≤ c1
 gap : c1 + a2 = c2 + a1
 same : seg x a1 c1 = seg y a2 c2
 lo : c1 ≤ d1
 hi : d1 ≤ x.length
 lo2 : c2 ≤ d2
 hi2 : d2 ≤ y.length
 ol : olds ct = seg x c1 d1
 nw : news ct = seg y c2 d2
 sg : Signs ct
variable {x y : List ByteArray} {hs : List Hk} {a1 a2 c1 c2 d1 d2 : Nat} {ct : List Ln}
theorem DS.start (x y : List ByteArray) : DS x y [] 0 0 0 0 0 0 [] :=
 ⟨⟨rfl,rfl⟩,Nat.le_refl _,rfl,by simp [seg],Nat.le_refl _,Nat.zero_le _,Nat.le_refl _,Nat.zero_le _,by simp [olds,seg],by simp [news,seg],fun _ h => by cases h⟩
theorem DS.del (h : DS x y hs a1 a2 c1 c2 d1 d2 ct) {s : Nat} (h1 : d1 ≤ s) (h2 : s ≤ x.length) : DS x y hs a1 a2 c1 c2 s d2 (ct ++ signed 45 (seg x d1 s)) :=
 ⟨h.chain,h.le,h.gap,h.same,Nat.le_trans h.lo h1,h2,h.lo2,h.hi2,by rw [olds_app,olds_signed,h.ol,if_neg (by decide),seg_append _ h.lo h1],by rw [news_app,news_signed,h.nw,if_pos rfl,List.append_nil],h.sg.app (Signs.signed (by simp) _)⟩
theorem DS.add (h : DS x y hs a1 a2 c1 c2 d1 d2 ct) {s : Nat} (h1 : d2 ≤ s) (h2 : s ≤ y.length) : DS x y hs a1 a2 c1 c2 d1 s (ct ++ signed 43 (seg y d2 s)) :=
 ⟨h.chain,h.le,h.gap,h.same,h.lo,h.hi,Nat.le_trans h.lo2 h1,h2,by rw [olds_app,olds_signed,h.ol,if_pos rfl,List.append_nil],by rw [news_app,news_signed,h.nw,if_neg (by decide),seg_append _ h.lo2 h1],h.sg.app (Signs.signed (by simp) _)⟩
theorem DS.ctx (h : DS x y hs a1 a2 c1 c2 d1 d2 ct) {n : Nat} (h1 : d1 + n ≤ x.length) (h2 : d2 + n ≤ y.length) (he : seg x d1 (d1 + n) = seg y d2 (d2 + n)) : DS x y hs a1 a2 c1 c2 (d1 + n) (d2 + n) (ct ++ signed 32 (seg x d1 (d1 + n))) :=
 ⟨h.chain,h.le,h.gap,h.same,by have:=h.lo; omega,h1,by have:=h.lo2; omega,h2,by rw [olds_app,olds_signed,h.ol,if_neg (by decide),seg_append _ h.lo (by omega)],by rw [news_app,news_signed,h.nw,if_neg (by decide),he,seg_append _ h.lo2 (by omega)],h.sg.app (Signs.signed (by simp) _)⟩
theorem DS.ctx2 (h : DS x y hs a1 a2 c1 c2 d1 d2 ct) {S1 S2 : Nat} (h0 : d1 ≤ S1) (hg : S1 - d1 = S2 - d2) (h1 : S1 ≤ x.length) (h2 : d2 ≤ S2 ∧ S2 ≤ y.length) (he : seg x d1 S1 = seg y d2 S2) : DS x y hs a1 a2 c1 c2 S1 S2 (ct ++ signed 32 (seg x d1 S1)):=by
 have:=h.ctx (n:=S1 - d1) (by omega) (by omega) (by rw [show d1 + (S1 - d1) = S1 by omega,show d2 + (S1 - d1) = S2 by omega]; exact he)
 rwa [show d1 + (S1 - d1) = S1 by omega,show d2 + (S1 - d1) = S2 by omega] at this
theorem DS.emit (h : DS x y hs a1 a2 c1 c2 d1 d2 ct) (hne : ct ≠ []) : DS x y (hs ++ [⟨c1,c2,ct⟩]) d1 d2 d1 d2 d1 d2 [] :=
 ⟨Chain.snoc ⟨h.le,h.gap,h.same,h.lo,h.hi,h.lo2,h.hi2,h.ol,h.nw,hne,h.sg⟩ h.chain,Nat.le_refl _,by omega,by simp [seg],Nat.le_refl _,h.hi,Nat.le_refl _,h.hi2,by simp [olds,seg],by simp [news,seg],fun _ h => by cases h⟩
theorem lines_len (ls : List Ln) : ls.length ≤ (olds ls).length + (news ls).length:=by
 induction ls with
 | nil => simp [olds,news]
 | cons a t ih =>
  simp only [olds,news,List.filter_cons,List.length_map] at ih ⊢
  by_cases e : a.1 = 43
  ·simp [e]; omega
  ·by_cases e2 : a.1 = 45
   ·simp [e2]; omega
   ·simp [e,e2]; omega
theorem DS.ct_len (h : DS x y hs a1 a2 c1 c2 d1 d2 ct) : ct.length ≤ (d1 - c1) + (d2 - c2):=by
 have:=lines_len ct
 rwa [h.ol,h.nw,seg_len _ _ _ h.hi,seg_len _ _ _ h.hi2] at this
theorem DS.room (h : DS x y hs a1 a2 c1 c2 d1 d2 ct) : a1 ≤ x.length ∧ a2 ≤ y.length:=by
 have:=h.le; have:=h.gap; have:=h.lo; have:=h.hi; have:=h.lo2; have:=h.hi2
 omega
theorem DS.ct_mem (h : DS x y hs a1 a2 c1 c2 d1 d2 ct) (p : Ln) (hp : p ∈ ct) : p.2 ∈ x ∨ p.2 ∈ y:=by
 by_cases e : p.1 = 43
 ·refine Or.inr (List.mem_of_mem_drop (i:=c2) (List.mem_of_mem_take (i:=d2 - c2) ?_))
  have:=h.nw
  unfold seg at this
  rw [← this]
  exact List.mem_map.2 ⟨p,List.mem_filter.2 ⟨hp,by simp [e]⟩,rfl⟩
 ·refine Or.inl (List.mem_of_mem_drop (i:=c1) (List.mem_of_mem_take (i:=d1 - c1) ?_))
  have:=h.ol
  unfold seg at this
  rw [← this]
  exact List.mem_map.2 ⟨p,List.mem_filter.2 ⟨hp,by simp [e]⟩,rfl⟩
theorem DS.empty (h : DS x y hs a1 a2 c1 c2 d1 d2 []) : c1 = d1 ∧ c2 = d2:=by
 have e1:=congrArg List.length h.ol
 have e2:=congrArg List.length h.nw
 rw [seg_len _ _ _ h.hi] at e1
 rw [seg_len _ _ _ h.hi2] at e2
 have:=h.lo; have:=h.lo2
 simp [olds] at e1
 simp [news] at e2
 omega
theorem DS.skip (h : DS x y hs a1 a2 c1 c2 d1 d2 []) {n : Nat} (h1 : d1 + n ≤ x.length) (h2 : d2 + n ≤ y.length) (he : seg x d1 (d1 + n) = seg y d2 (d2 + n)) : DS x y hs a1 a2 (d1 + n) (d2 + n) (d1 + n) (d2 + n) []:=by
 obtain ⟨rfl,rfl⟩:=h.empty
 have hle:=h.le
 have hg:=h.gap
 exact ⟨h.chain,by omega,by omega,by rw [← seg_append x h.le (by omega),← seg_append y (j:=c2) (by omega) (by omega),h.same,he],Nat.le_refl _,h1,Nat.le_refl _,h2,by simp [olds,seg],by simp [news,seg],fun _ h => by cases h⟩
theorem DS.skip2 (h : DS x y hs a1 a2 c1 c2 d1 d2 []) {S1 S2 : Nat} (h0 : d1 ≤ S1) (hg : S1 - d1 = S2 - d2) (h1 : S1 ≤ x.length) (h2 : d2 ≤ S2 ∧ S2 ≤ y.length) (he : seg x d1 S1 = seg y d2 S2) : DS x y hs a1 a2 S1 S2 S1 S2 []:=by
 have:=h.skip (n:=S1 - d1) (by omega) (by omega) (by rw [show d1 + (S1 - d1) = S1 by omega,show d2 + (S1 - d1) = S2 by omega]; exact he)
 rwa [show d1 + (S1 - d1) = S1 by omega,show d2 + (S1 - d1) = S2 by omega] at this
theorem DS.done (h : DS x y hs a1 a2 c1 c2 d1 d2 []) (he : x.drop d1 = y.drop d2) : Leads x y hs:=by
 obtain ⟨rfl,rfl⟩:=h.empty
 have hle:=h.le
 have hg:=h.gap
 have hhi:=h.hi
 have hhi2:=h.hi2
 refine ⟨a1,a2,h.chain,by omega,by omega,?_⟩
 rw [← seg_all,← seg_all,← seg_append x h.le h.hi,← seg_append y (i:=a2) (j:=c2) (by omega) h.hi2,h.same,seg_all,seg_all,he]
theorem Leads.some (h : Leads x y hs) (hne : x ≠ y) : hs ≠ []:=by
 rintro rfl
 obtain ⟨e,f,⟨rfl,rfl⟩,_,_,h3⟩:=h
 exact hne (by simpa using h3)
theorem Good.after {seq : List (Nat × Nat)} (hG : Tg.Good x y seq) {q q' m1 m2 p1 p2 u : Nat} (hq : q < q') (h1 : seq[q]? = some (m1,m2)) (h2 : seq[q']? = some (p1,p2)) (hu : seg x m1 (m1 + u) = seg y m2 (m2 + u)) (hy : m2 + u ≤ y.length) (hp : m1 + u ≤ p1) : m2 + u ≤ p2:=by
 have hup:=hG.up q q' _ _ (by omega) h1 h2
 simp only at hup
 have hl:=(List.getElem?_eq_some_iff.1 h2).1
 by_cases hlast : q' + 1 < seq.length
 ·obtain ⟨r1,r2,r3,r4⟩:=hG.mid q' p1 p2 (by omega) hlast h2
  rcases Nat.lt_or_ge p2 (m2 + u) with c | c
  ·have hk:=seg_eq_get hu (k:=p2 - m2) (by omega)
   rw [show m2 + (p2 - m2) = p2 by omega,← r3] at hk
   have:=r4 _ hk
   omega
  ·exact c
 ·have e : q' = seq.length - 1:=by omega
  have:=hG.last
  rw [← e,h2] at this
  injection this with this
  injection this with _ this
  omega
theorem good_of_bytes {seq : List (Nat × Nat)} (h : Tg.Good (x.map fun s => s.data.toList) (y.map fun s => s.data.toList) seq) : Tg.Good x y seq:=by
 have inj : ∀ a b : ByteArray,a.data.toList = b.data.toList → a = b:=by
  intro a b e
  exact ByteArray.ext (Array.toList_inj.1 e)
 have ho : ∀ a b : Option ByteArray,a.map (fun s => s.data.toList) = b.map (fun s => s.data.toList) → a = b:=by
  intro a b e
  match a,b,e with
  | none,none,_ => rfl
  | some a,some b,e => exact congrArg some (inj a b (Option.some.inj e))
 refine ⟨h.two,h.head,by simpa using h.last,fun q a b h1 h2 h3 => ?_,h.up⟩
 obtain ⟨r1,r2,r3,r4⟩:=h.mid q a b h1 h2 h3
 simp only [List.getElem?_map,List.length_map] at r1 r2 r3 r4
 exact ⟨r1,r2,ho _ _ r3,fun i hi => r4 i (by rw [hi])⟩
end Go.Proofs.YtplbifmjnanceaaGreatDoor.Dp
end
section
namespace Go.Proofs.YtplbifmjnanceaaGreatDoor.PApplied
open Go.RowKit Go.Proofs.YtplbifmjnanceaaGreatDoorW.PrintWords Go.Proofs.YtplbifmjnanceaaGreatDoorW.PrintLast Go.Proofs.YtplbifmjnanceaaGreatDoorW.PrintMore
attribute [local go_sem] max2_int min2_int max_two min_two max_three min_three max_four min_four
set_option linter.unusedVariables false
set_option linter.unusedSimpArgs false
def errW : Option Int → Value
 | none => .nilIface
 | some c => .iface 0 (.int .i64 c)
theorem errW_none : errW none = .nilIface:=rfl
theorem errW_some (c : Int) : errW (some c) = .iface 0 (.int .i64 c):=rfl
theorem info9 : (Tryz.prog.info? 9).map (fun i => (i.zero,i.size,i.bytes)) = some (some (.string ⟨#[]⟩),1,16):=by kernel_rfl
structure S48 where
 f0 : Int
 f1 : Int
 f2 : (List ByteArray)
def k48 : Kd S48:=Kd.iso (Kd.pair (Kd.int .i64) (Kd.pair (Kd.int .i64) (Kd.slice 9 Kd.string))) (fun x : S48 => (x.f0,x.f1,x.f2))
theorem k48_mkM (w : World) (base : Nat) (ok : Nat → Prop) (x : S48) {v2 : Value} (g2 : Kd.string.R 9 w base ok v2 x.f2) : k48.M w base ok x [.int .i64 x.f0,.int .i64 x.f1,v2]:=⟨[.int .i64 x.f0],[.int .i64 x.f1,v2],rfl,rfl,⟨[.int .i64 x.f1],[v2],rfl,rfl,⟨v2,rfl,g2⟩⟩⟩
end Go.Proofs.YtplbifmjnanceaaGreatDoor.PApplied
end
section
namespace Go.Proofs.YtplbifmjnanceaaGreatDoor
open Go.RowKit Go.Proofs.YtplbifmjnanceaaGreatDoorW.PrintWords Go.Proofs.YtplbifmjnanceaaGreatDoorW.PrintLast Go.Proofs.YtplbifmjnanceaaGreatDoorW.PrintMore
open Go.Proofs.YtplbifmjnanceaaGreatDoor.PApplied
set_option linter.unusedVariables false
set_option linter.unusedSimpArgs false
def cat (l : List ByteArray) : ByteArray:=mkB (l.flatMap fun s => s.data.toList)
theorem mkB_data (s : ByteArray) : mkB s.data.toList = s:=by
 apply ByteArray.ext
 simp [mkB]
theorem mkB_list (l : List UInt8) : (mkB l).data.toList = l:=by simp [mkB]
theorem mkB_append (a b : List UInt8) : mkB a ++ mkB b = mkB (a ++ b):=by
 apply ByteArray.ext
 simp [mkB,ByteArray.data_append]
theorem rd_get {x : List ByteArray} {i : Nat} {s : ByteArray} (h : x[i]? = some s) : rdOf ByteArray.empty x (i : Int) = s:=by
 unfold rdOf
 rw [Int.toNat_natCast]
 simp [h]
theorem get_lt {α : Type} {x : List α} {i : Nat} {s : α} (h : x[i]? = some s) : i < x.length:=by
 rcases Nat.lt_or_ge i x.length with c | c
 ·exact c
 ·rw [List.getElem?_eq_none c] at h; cases h
variable {x y : List ByteArray}
def lineS (l : Dp.Ln) : ByteArray:=mkB (l.1 :: l.2.data.toList)
def hkS (h : Dp.Hk) : S48:=⟨(h.o : Int),(h.n : Int),h.ls.map lineS⟩
theorem mkB_size (l : List UInt8) : (mkB l).size = l.length:=by simp [mkB,ByteArray.size]
theorem olds_cons (sg : UInt8) (r : ByteArray) (t : List Dp.Ln) : Dp.olds ((sg,r) :: t) = if sg = 43 then Dp.olds t else r :: Dp.olds t:=by
 unfold Dp.olds
 by_cases e : sg = 43 <;> simp [e]
theorem news_cons (sg : UInt8) (r : ByteArray) (t : List Dp.Ln) : Dp.news ((sg,r) :: t) = if sg = 45 then Dp.news t else r :: Dp.news t:=by
 unfold Dp.news
 by_cases e : sg = 45 <;> simp [e]
end Go.Proofs.YtplbifmjnanceaaGreatDoor
end
