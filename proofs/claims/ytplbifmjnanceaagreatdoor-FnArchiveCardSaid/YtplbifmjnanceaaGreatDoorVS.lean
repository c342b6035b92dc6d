/- diff: head, hunks and tgs. -/
import Derived.Test.YtplbifmjnanceaaGreatDoorVB
import Derived.Test.YtplbifmjnanceaaGreatDoorVC
import Derived.Test.YtplbifmjnanceaaGreatDoorVA
import Derived.Lib.AppendIntMem
import Derived.Test.YtplbifmjnanceaaGreatDoorVF
import Derived.Test.YtplbifmjnanceaaGreatDoorVO
import Derived.RegionTactic
import Derived.BigRegion
import Derived.StillTailTactics
section
namespace Go.Proofs.YtplbifmjnanceaaGreatDoor
open Go.RowKit Go.Proofs.YtplbifmjnanceaaGreatDoorW.PrintWords Go.Proofs.YtplbifmjnanceaaGreatDoorW.PrintLast Go.Proofs.YtplbifmjnanceaaGreatDoorW.PrintMore
open Go.Proofs.YtplbifmjnanceaaGreatDoor.Pnumber
set_option linter.unusedVariables false
set_option linter.unusedSimpArgs false
set_option maxHeartbeats 1000000 in
set_option maxRecDepth 100000 in
theorem head_calls (k : Nat) (s : ByteArray) (a b c d : Int) (t1 t2 t3 t4 : ByteArray) (w : World)
  (z1 : 4 ≤ (s.size : Int)) (e1 : ((s.extract 0 4).toList == [64,64,32,45]) = true) (h1 : spec_number.f k (s.extract 4 s.size) = some (a,t1)) (ha : 0 ≤ a)
  (z2 : 1 ≤ (t1.size : Int)) (e2 : ((t1.extract 0 1).toList == [44]) = true) (h2 : spec_number.f k (t1.extract 1 t1.size) = some (b,t2)) (hb : 0 ≤ b)
  (z3 : 2 ≤ (t2.size : Int)) (e3 : ((t2.extract 0 2).toList == [32,43]) = true) (h3 : spec_number.f k (t2.extract 2 t2.size) = some (c,t3)) (hc : 0 ≤ c)
  (z4 : 1 ≤ (t3.size : Int)) (e4 : ((t3.extract 0 1).toList == [44]) = true) (h4 : spec_number.f k (t3.extract 1 t3.size) = some (d,t4)) (hd : 0 ≤ d)
  (e5 : (t4.toList == [32,64,64,10]) = true) :
  Calls Tryz.prog 44 #[.string s] w fun e w' => e = .returned (.tuple #[.agg #[.int .i64 a,.int .i64 c,.int .i64 b,.int .i64 d],.bool true]) ∧ Below w.heap.size w w':=by
 have HB:=Aside0.mk (Below.refl w.heap.size w)
 have H1:=Aside0.mk h1
 have H2:=Aside0.mk h2
 have H3:=Aside0.mk h3
 have H4:=Aside0.mk h4
 clear h1 h2 h3 h4
 go_enter Tryz.func44,Tryz.ntmps44
 go_upto_block 0 with (fail)
 go_cut [0,2] (fun s0 s2 wc => s0 = .string t4 ∧ s2 = .pointer (some ⟨w.heap.size,0,none⟩) ∧ wc.heap[w.heap.size]? = some (.cells #[.int .i64 a,.int .i64 b,.int .i64 c,.int .i64 d] 83 (0,0)) ∧ Below w.heap.size w wc)
 case first =>
  go_wp2
  refine wp_loop_rounds 5 ?_
  rw [rounds_succ]
  go_wp2_with fail
  refine (spec_number.calls _ _ _ _ _ H1.out).mono ?_
  rintro e w1 ⟨rfl,⟨n1,rfl⟩⟩
  go_wp2_with fail
  rw [rounds_succ]
  go_wp2_with fail
  refine (spec_number.calls _ _ _ _ _ H2.out).mono ?_
  rintro e w2 ⟨rfl,⟨n2,rfl⟩⟩
  go_wp2_with fail
  rw [rounds_succ]
  go_wp2_with fail
  refine (spec_number.calls _ _ _ _ _ H3.out).mono ?_
  rintro e w3 ⟨rfl,⟨n3,rfl⟩⟩
  go_wp2_with fail
  rw [rounds_succ]
  go_wp2_with fail
  refine (spec_number.calls _ _ _ _ _ H4.out).mono ?_
  rintro e w4 ⟨rfl,⟨n4,rfl⟩⟩
  go_wp2_with fail
  rw [rounds_succ]
  go_wp2_with fail
  go_meet
  case rel =>
   refine ⟨rfl,rfl,?_,?_⟩
   ·exact blk_put (blk_drewN (blk_put (blk_drewN (blk_put (blk_drewN (blk_put (blk_drewN (blk_alloc (blk_new w _) _) _) 0 _ rfl) _) 1 _ rfl) _) 2 _ rfl) _) 3 _ rfl
   ·repeat (first | (with_reducible exact HB.out) | (with_reducible apply below_alloc) | (with_reducible apply pw_below_drewN) | (with_reducible refine below_put ?_ _ _ _ (Nat.le_refl _)))
 case rest =>
  obtain ⟨rfl,rfl,hb,hB⟩:=hcut
  have c0:=blk_cell hb 0
  have c1:=blk_cell hb 1
  have c2:=blk_cell hb 2
  have c3:=blk_cell hb 3
  have f0:=blk_frozen hb 0
  have f1:=blk_frozen hb 1
  have f2:=blk_frozen hb 2
  have f3:=blk_frozen hb 3
  simp at c0 c1 c2 c3
  have HB2:=Aside0.mk hB
  have Hb:=Aside0.mk hb
  clear hB hb HB H1 H2 H3 H4
  go_wp2
  refine bodyPost_ret (v:=.tuple #[.agg #[.int .i64 a,.int .i64 c,.int .i64 b,.int .i64 d],.bool true]) ?_ rfl ⟨rfl,?_⟩
  ·have hF:=blk_put (blk_put (blk_put (blk_put (blk_put (blk_put Hb.out 1 (.int .i64 c) rfl) 2 (.int .i64 b) rfl) 0 (.int .i64 a) rfl) 1 (.int .i64 c) rfl) 2 (.int .i64 b) rfl) 3 (.int .i64 d) rfl
   have d0:=blk_cell hF 0
   have d1:=blk_cell hF 1
   have d2:=blk_cell hF 2
   have d3:=blk_cell hF 3
   simp at d0 d1 d2 d3
   simp [results,Tryz.results44,go_sem,d0,d1,d2,d3]
  ·repeat (first | (with_reducible exact HB2.out) | (with_reducible refine below_put ?_ _ _ _ (Nat.le_refl _)))
end Go.Proofs.YtplbifmjnanceaaGreatDoor
end
section
namespace Go.Proofs.YtplbifmjnanceaaGreatDoor
set_option linter.unusedVariables false
set_option linter.unusedSimpArgs false
def hdr1 (a b : ByteArray) : ByteArray:=⟨#[100,105,102,102,32]⟩ ++ a ++ ⟨#[32]⟩ ++ b ++ ⟨#[10]⟩
def hdr2 (a : ByteArray) : ByteArray:=⟨#[45,45,45,32]⟩ ++ a ++ ⟨#[10]⟩
def hdr3 (b : ByteArray) : ByteArray:=⟨#[43,43,43,32]⟩ ++ b ++ ⟨#[10]⟩
def hdr (a b : ByteArray) : List UInt8:=(hdr1 a b).data.toList ++ (hdr2 a).data.toList ++ (hdr3 b).data.toList
theorem hdr1_size (a b : ByteArray) : (hdr1 a b).size = a.size + b.size + 7:=by
 unfold hdr1
 simp only [ByteArray.size_append]
 have e1 : (⟨#[100,105,102,102,32]⟩ : ByteArray).size = 5:=rfl
 have e2 : (⟨#[32]⟩ : ByteArray).size = 1:=rfl
 have e3 : (⟨#[10]⟩ : ByteArray).size = 1:=rfl
 omega
theorem hdr2_size (a : ByteArray) : (hdr2 a).size = a.size + 5:=by
 unfold hdr2
 simp only [ByteArray.size_append]
 have e1 : (⟨#[45,45,45,32]⟩ : ByteArray).size = 4:=rfl
 have e3 : (⟨#[10]⟩ : ByteArray).size = 1:=rfl
 omega
theorem hdr3_size (a : ByteArray) : (hdr3 a).size = a.size + 5:=by
 unfold hdr3
 simp only [ByteArray.size_append]
 have e1 : (⟨#[43,43,43,32]⟩ : ByteArray).size = 4:=rfl
 have e3 : (⟨#[10]⟩ : ByteArray).size = 1:=rfl
 omega
theorem bc_len (l : List UInt8) : (Lib.byteCells l).length = l.length:=by simp [Lib.byteCells]
theorem data_len (s : ByteArray) : s.data.toList.length = s.size:=rfl
theorem hdr_len (a b : ByteArray) : (hdr a b).length = 2 * a.size + 2 * b.size + 17:=by
 unfold hdr
 rw [List.length_append,List.length_append,data_len,data_len,data_len,hdr1_size,hdr2_size,hdr3_size]
 omega
def lineB (l : Dp.Ln) : ByteArray:=⟨#[l.1]⟩ ++ l.2
def numB (n : Nat) : ByteArray:=⟨(Lib.itoa n).toArray⟩
def hkHead (o oc n nc : Nat) : ByteArray:=⟨#[64,64,32,45]⟩ ++ numB (if 0 < oc then o + 1 else o) ++ ⟨#[44]⟩ ++ numB oc ++ ⟨#[32,43]⟩ ++ numB (if 0 < nc then n + 1 else n) ++ ⟨#[44]⟩ ++ numB nc ++ ⟨#[32,64,64,10]⟩
def lnText (ls : List Dp.Ln) : List UInt8:=ls.flatMap fun l => (lineB l).data.toList
def hkText (h : Dp.Hk) : List UInt8:=(hkHead h.o (Dp.olds h.ls).length h.n (Dp.news h.ls).length).data.toList ++ lnText h.ls
def diffText (a b : ByteArray) (hs : List Dp.Hk) : List UInt8:=hdr a b ++ hs.flatMap hkText
theorem len_bound {a b x y n : Nat} (h : n ≤ 4194321 + (a + b) * 2097152) (hr : a ≤ x ∧ b ≤ y) : n ≤ 4194321 + (x + y) * 2097152:=Nat.le_trans h (Nat.add_le_add_left (Nat.mul_le_mul_right _ (Nat.add_le_add hr.1 hr.2)) _)
end Go.Proofs.YtplbifmjnanceaaGreatDoor
end
section
namespace Go.Proofs.YtplbifmjnanceaaGreatDoor
set_option linter.unusedVariables false
set_option linter.unusedSimpArgs false
theorem numB_list (n : Nat) : (numB n).data.toList = Lib.decDigits n:=by
 unfold numB
 rw [Lib.itoa_nonneg]
theorem numB_no10 (n : Nat) : (10 : UInt8) ∉ (numB n).data.toList:=by
 rw [numB_list]
 intro h
 have:=(dec_digits n _ h).1
 revert this
 decide
theorem hkHead_list (o oc n nc : Nat) : (hkHead o oc n nc).data.toList = [64,64,32,45] ++ (numB (if 0 < oc then o + 1 else o)).data.toList ++ [44] ++ (numB oc).data.toList ++ [32,43] ++ (numB (if 0 < nc then n + 1 else n)).data.toList ++ [44] ++ (numB nc).data.toList ++ [32,64,64,10]:=by
 simp [hkHead,ByteArray.data_append]
theorem hkHead_rows (o oc n nc : Nat) : rws [] (hkHead o oc n nc).data.toList = [(hkHead o oc n nc).data.toList] ∧ (hkHead o oc n nc).data.toList.getLast? = some 10:=by
 have e : (hkHead o oc n nc).data.toList = ([64,64,32,45] ++ (numB (if 0 < oc then o + 1 else o)).data.toList ++ [44] ++ (numB oc).data.toList ++ [32,43] ++ (numB (if 0 < nc then n + 1 else n)).data.toList ++ [44] ++ (numB nc).data.toList ++ [32,64,64]) ++ [10]:=by
  rw [hkHead_list]
  simp
 rw [e]
 refine ⟨?_,List.getLast?_concat⟩
 rw [rws_one _ ?_ []]
 ·rfl
 ·have h1:=numB_no10 (if 0 < oc then o + 1 else o)
  have h2:=numB_no10 oc
  have h3:=numB_no10 (if 0 < nc then n + 1 else n)
  have h4:=numB_no10 nc
  simp only [List.mem_append,not_or]
  simp only [h1,h2,h3,h4]
  decide
theorem flatMap_cg {α β : Type} {f g : α → List β} : ∀ {l : List α},(∀ a ∈ l,f a = g a) → l.flatMap f = l.flatMap g:=by
 intro l
 induction l with
 | nil => intro _; rfl
 | cons a t ih =>
  intro h
  rw [List.flatMap_cons,List.flatMap_cons,h a (by simp),ih (fun b hb => h b (by simp [hb]))]
theorem rws_flat {α : Type} (f : α → List UInt8) : ∀ (l : List α),(∀ a ∈ l,(f a).getLast? = some 10) → rws [] (l.flatMap f) = l.flatMap (fun a => rws [] (f a)):=by
 intro l
 induction l with
 | nil => intro _; rfl
 | cons a t ih =>
  intro h
  rw [List.flatMap_cons,List.flatMap_cons,rws_append _ _ _ (h a (by simp)),ih (fun b hb => h b (by simp [hb]))]
def rl (l : Dp.Ln) : UInt8 × List UInt8:=(l.1,unm l.2.data.toList)
def LineOk (l : Dp.Ln) : Prop:=(l.1 = 32 ∨ l.1 = 45 ∨ l.1 = 43) ∧ ∃ r,Row r ∧ l.2 = mkB (mk r)
theorem mk_last (r : List UInt8) : (mk r).getLast? = some 10:=by
 unfold mk
 split
 ·assumption
 ·rw [List.getLast?_append,show msg.getLast? = some 10 by decide]
  rfl
theorem lineB_list (l : Dp.Ln) : (lineB l).data.toList = l.1 :: l.2.data.toList:=by
 simp [lineB,ByteArray.data_append]
theorem lineB_rows (l : Dp.Ln) (h : LineOk l) : rws [] (lineB l).data.toList = lineRows (rl l) ∧ (lineB l).data.toList.getLast? = some 10:=by
 obtain ⟨h1,r,hr,e⟩:=h
 have e2 : l.2.data.toList = mk r:=by rw [e]; simp [mkB]
 rw [lineB_list,e2]
 unfold rl
 rw [e2,unm_mk hr]
 refine ⟨rws_line hr ?_,?_⟩
 ·rcases h1 with h | h | h <;> rw [h] <;> decide
 ·rw [List.getLast?_cons,mk_last]
  rfl
def hkRows (h : Dp.Hk) : List (List UInt8):=(hkHead h.o (Dp.olds h.ls).length h.n (Dp.news h.ls).length).data.toList :: h.ls.flatMap fun l => lineRows (rl l)
theorem lnText_rows (ls : List Dp.Ln) (h : ∀ l ∈ ls,LineOk l) : rws [] (lnText ls) = ls.flatMap fun l => lineRows (rl l):=by
 unfold lnText
 rw [rws_flat _ _ (fun l hl => (lineB_rows l (h l hl)).2)]
 apply flatMap_cg
 intro l hl
 exact (lineB_rows l (h l hl)).1
theorem flat_last {α : Type} (f : α → List UInt8) : ∀ (l : List α),l ≠ [] → (∀ a ∈ l,(f a).getLast? = some 10) → (l.flatMap f).getLast? = some 10:=by
 intro l
 induction l with
 | nil => intro h; exact absurd rfl h
 | cons a t ih =>
  intro _ h
  by_cases ht : t = []
  ·subst ht
   simpa using h a (by simp)
  ·have:=ih ht (fun b hb => h b (by simp [hb]))
   rw [List.flatMap_cons,List.getLast?_append,this]
   rfl
theorem hk_rows (h : Dp.Hk) (hl : ∀ l ∈ h.ls,LineOk l) (ne : h.ls ≠ []) : rws [] (hkText h) = hkRows h ∧ (hkText h).getLast? = some 10:=by
 obtain ⟨h1,h2⟩:=hkHead_rows h.o (Dp.olds h.ls).length h.n (Dp.news h.ls).length
 unfold hkText hkRows
 rw [rws_append _ _ _ h2,h1,lnText_rows _ hl]
 refine ⟨rfl,?_⟩
 have:=flat_last (fun l => (lineB l).data.toList) h.ls ne (fun l hl' => (lineB_rows l (hl l hl')).2)
 unfold lnText
 rw [List.getLast?_append,this]
 rfl
theorem hunks_rows (hs : List Dp.Hk) (h : ∀ h ∈ hs,(∀ l ∈ h.ls,LineOk l) ∧ h.ls ≠ []) : rws [] (hs.flatMap hkText) = hs.flatMap hkRows:=by
 rw [rws_flat _ _ (fun a ha => (hk_rows a (h a ha).1 (h a ha).2).2)]
 apply flatMap_cg
 intro a ha
 exact (hk_rows a (h a ha).1 (h a ha).2).1
theorem seg_mem {α : Type} {l : List α} {i j : Nat} {a : α} (h : a ∈ Dp.seg l i j) : a ∈ l:=List.mem_of_mem_drop (List.mem_of_mem_take h)
theorem Step.mem {x y : List ByteArray} {i j i' j' : Nat} {h : Dp.Hk} (hS : Dp.Step x y i j h i' j') (p : Dp.Ln) (hp : p ∈ h.ls) : p.2 ∈ x ∨ p.2 ∈ y:=by
 by_cases e : p.1 = 43
 ·refine Or.inr (seg_mem (i:=h.n) (j:=j') ?_)
  rw [← hS.nw]
  exact List.mem_map.2 ⟨p,List.mem_filter.2 ⟨hp,by simp [e]⟩,rfl⟩
 ·refine Or.inl (seg_mem (i:=h.o) (j:=i') ?_)
  rw [← hS.ol]
  exact List.mem_map.2 ⟨p,List.mem_filter.2 ⟨hp,by simp [e]⟩,rfl⟩
def Marked (x : List ByteArray) : Prop:=∀ s ∈ x,∃ r,Row r ∧ s = mkB (mk r)
structure HkOk (x y : List ByteArray) (h : Dp.Hk) : Prop where
 ln : ∀ l ∈ h.ls,LineOk l
 ne : h.ls ≠ []
 o : h.o ≤ x.length
 n : h.n ≤ y.length
 oc : (Dp.olds h.ls).length ≤ x.length
 nc : (Dp.news h.ls).length ≤ y.length
theorem chain_ok {x y : List ByteArray} (hx : Marked x) (hy : Marked y) : ∀ (hs : List Dp.Hk) (i j e f : Nat),Dp.Chain x y i j hs e f → ∀ h ∈ hs,HkOk x y h:=by
 intro hs
 induction hs with
 | nil => intro i j e f _ h hh; cases hh
 | cons a t ih =>
  intro i j e f hC h hh
  obtain ⟨i',j',hS,hC⟩:=hC
  rcases List.mem_cons.1 hh with rfl | hh
  ·have h1:=hS.lo
   have h2:=hS.hi
   have h3:=hS.lo2
   have h4:=hS.hi2
   refine ⟨fun l hl => ⟨hS.sg l hl,?_⟩,hS.ne,by omega,by omega,?_,?_⟩
   ·rcases Step.mem hS l hl with h | h
    ·exact hx _ h
    ·exact hy _ h
   ·rw [hS.ol,Dp.seg_len _ _ _ h2]; omega
   ·rw [hS.nw,Dp.seg_len _ _ _ h4]; omega
  ·exact ih _ _ _ _ hC h hh
theorem lns_marked (l : List UInt8) : Marked ((lns [] l).map mkB):=by
 intro s hs
 rw [lns_rws l [] (by simp),List.map_map] at hs
 obtain ⟨r,hr,rfl⟩:=List.mem_map.1 hs
 exact ⟨r,rws_row l [] (by simp) r hr,rfl⟩
end Go.Proofs.YtplbifmjnanceaaGreatDoor
end
section
namespace Go.Proofs.YtplbifmjnanceaaGreatDoor
open Go.RowKit Go.Proofs.YtplbifmjnanceaaGreatDoorW.PrintWords Go.Proofs.YtplbifmjnanceaaGreatDoorW.PrintLast Go.Proofs.YtplbifmjnanceaaGreatDoorW.PrintMore
open Go.Proofs.YtplbifmjnanceaaGreatDoor.Pnumber
set_option linter.unusedVariables false
set_option linter.unusedSimpArgs false
theorem mk_pre (p r : List UInt8) : (mkB (p ++ r)).extract 0 p.length = mkB p:=by
 rw [extract_seg _ _ _ (by rw [mkB_size,List.length_append]; omega),mkB_list]
 congr 1
 simp
theorem mk_post (p r : List UInt8) : (mkB (p ++ r)).extract p.length (mkB (p ++ r)).size = mkB r:=by
 rw [extract_seg _ _ _ (Nat.le_refl _),mkB_list,mkB_size]
 congr 1
 simp
theorem mkB_toList (l : List UInt8) : (mkB l).toList = l:=by
 rw [ByteArray.toList_eq,mkB_list]
theorem number_mk (u : Nat) (hu : u < 1000000000) (rest : List UInt8) (hr : ∀ b t,rest = b :: t → b.toNat < 48 ∨ 57 < b.toNat) (k : Nat) (hk : 10 < k) : spec_number.f k (mkB (Lib.decDigits u ++ rest)) = some ((u : Int),mkB rest) :=
 number_f u hu _ rest (mkB_list _) hr k hk
theorem head_text (w : World) (o oc n nc : Nat) (ho : o < 999999999) (hoc : oc < 999999999) (hn : n < 999999999) (hnc : nc < 999999999) :
  Calls Tryz.prog 44 #[.string (hkHead o oc n nc)] w fun e w' => e = .returned (.tuple #[.agg #[.int .i64 ((if 0 < oc then o + 1 else o : Nat) : Int),.int .i64 ((if 0 < nc then n + 1 else n : Nat) : Int),.int .i64 (oc : Int),.int .i64 (nc : Int)],.bool true]) ∧ Below w.heap.size w w':=by
 generalize hA : (if 0 < oc then o + 1 else o) = A
 generalize hC : (if 0 < nc then n + 1 else n) = C
 have lA : A < 1000000000:=by subst hA; split <;> omega
 have lC : C < 1000000000:=by subst hC; split <;> omega
 have es : hkHead o oc n nc = mkB ([64,64,32,45] ++ (Lib.decDigits A ++ ([44] ++ (Lib.decDigits oc ++ ([32,43] ++ (Lib.decDigits C ++ ([44] ++ (Lib.decDigits nc ++ [32,64,64,10])))))))):=by
  rw [← mkB_data (hkHead o oc n nc),hkHead_list,numB_list,numB_list,numB_list,numB_list,hA,hC]
  simp only [List.append_assoc]
 rw [es]
 have n4:=number_mk nc (by omega) [32,64,64,10] (by intro b t h; injection h with h _; subst h; decide) 11 (by decide)
 have n3:=number_mk C lC ([44] ++ (Lib.decDigits nc ++ [32,64,64,10])) (by intro b t h; injection h with h _; subst h; decide) 11 (by decide)
 have n2:=number_mk oc (by omega) ([32,43] ++ (Lib.decDigits C ++ ([44] ++ (Lib.decDigits nc ++ [32,64,64,10])))) (by intro b t h; injection h with h _; subst h; decide) 11 (by decide)
 have n1:=number_mk A lA ([44] ++ (Lib.decDigits oc ++ ([32,43] ++ (Lib.decDigits C ++ ([44] ++ (Lib.decDigits nc ++ [32,64,64,10])))))) (by intro b t h; injection h with h _; subst h; decide) 11 (by decide)
 generalize Lib.decDigits A = LA at *
 generalize Lib.decDigits oc = LB at *
 generalize Lib.decDigits C = LC at *
 generalize Lib.decDigits nc = LD at *
 have key : ∀ (p r : List UInt8) ,(p.length : Int) ≤ ((mkB (p ++ r)).size : Int) ∧ (((mkB (p ++ r)).extract 0 p.length).toList == p) = true ∧ (mkB (p ++ r)).extract p.length (mkB (p ++ r)).size = mkB r:=by
  intro p r
  refine ⟨by rw [mkB_size,List.length_append]; omega,by rw [mk_pre,mkB_toList]; simp,mk_post p r⟩
 have k1:=key [64,64,32,45] (LA ++ ([44] ++ (LB ++ ([32,43] ++ (LC ++ ([44] ++ (LD ++ [32,64,64,10])))))))
 have k2:=key [44] (LB ++ ([32,43] ++ (LC ++ ([44] ++ (LD ++ [32,64,64,10])))))
 have k3:=key [32,43] (LC ++ ([44] ++ (LD ++ [32,64,64,10])))
 have k4:=key [44] (LD ++ [32,64,64,10])
 refine head_calls 11 _ A oc C nc (mkB ([44] ++ (LB ++ ([32,43] ++ (LC ++ ([44] ++ (LD ++ [32,64,64,10]))))))) (mkB ([32,43] ++ (LC ++ ([44] ++ (LD ++ [32,64,64,10]))))) (mkB ([44] ++ (LD ++ [32,64,64,10]))) (mkB [32,64,64,10]) w
  k1.1 k1.2.1 ?_ (by omega) k2.1 k2.2.1 ?_ (by omega) k3.1 k3.2.1 ?_ (by omega) k4.1 k4.2.1 ?_ (by omega) ?_
 ·have:=k1.2.2
  rw [show [(64 : UInt8),64,32,45].length = 4 from rfl] at this
  rw [this]
  exact n1
 ·have:=k2.2.2
  rw [show [(44 : UInt8)].length = 1 from rfl] at this
  rw [this]
  exact n2
 ·have:=k3.2.2
  rw [show [(32 : UInt8),43].length = 2 from rfl] at this
  rw [this]
  exact n3
 ·have:=k4.2.2
  rw [show [(44 : UInt8)].length = 1 from rfl] at this
  rw [this]
  exact n4
 ·rw [mkB_toList]
  decide
end Go.Proofs.YtplbifmjnanceaaGreatDoor
end
section
namespace Go.Proofs.YtplbifmjnanceaaGreatDoor
open Go.RowKit Go.Proofs.YtplbifmjnanceaaGreatDoorW.PrintWords Go.Proofs.YtplbifmjnanceaaGreatDoorW.PrintLast Go.Proofs.YtplbifmjnanceaaGreatDoorW.PrintMore
open Go.Proofs.YtplbifmjnanceaaGreatDoor.PApplied
set_option linter.unusedVariables false
set_option linter.unusedSimpArgs false
def mapHk (g : ByteArray → ByteArray) (h : Dp.Hk) : Dp.Hk:=⟨h.o,h.n,h.ls.map fun l => (l.1,g l.2)⟩
def unB (s : ByteArray) : ByteArray:=mkB (unm s.data.toList)
def pl (l : Dp.Ln) : ByteArray:=lineS (l.1,unB l.2)
def pz (h : Dp.Hk) : S48:=hkS (mapHk unB h)
theorem pz_eq (h : Dp.Hk) : pz h = ⟨(h.o : Int),(h.n : Int),h.ls.map pl⟩:=by
 unfold pz hkS mapHk
 simp [pl,Function.comp_def]
structure HkSm (h : Dp.Hk) : Prop where
 ln : ∀ l ∈ h.ls,LineOk l
 ne : h.ls ≠ []
 o : h.o < 999999999
 n : h.n < 999999999
 oc : (Dp.olds h.ls).length < 999999999
 nc : (Dp.news h.ls).length < 999999999
def lrows (l : Dp.Ln) : List (List UInt8):=lineRows (rl l)
theorem hkRows_eq (h : Dp.Hk) : hkRows h = (hkHead h.o (Dp.olds h.ls).length h.n (Dp.news h.ls).length).data.toList :: h.ls.flatMap lrows:=rfl
def firstB (a b : ByteArray) : ByteArray:=⟨#[100,105,102,102,32]⟩ ++ a ++ ⟨#[32]⟩ ++ b ++ ⟨#[10,45,45,45,32]⟩ ++ a ++ ⟨#[10,43,43,43,32]⟩ ++ b ++ ⟨#[10]⟩
theorem firstB_list (a b : ByteArray) : (firstB a b).data.toList = hdr a b:=by
 simp [firstB,hdr,hdr1,hdr2,hdr3,ByteArray.data_append]
def NoRem (l : List (List UInt8)) : Prop:=∀ q t,l = q :: t → q ≠ remark
theorem lrows_form (l : Dp.Ln) (h : LineOk l) : ∃ r,Row r ∧ unB l.2 = mkB r ∧ ((r.getLast? = some 10 ∧ lrows l = [l.1 :: r]) ∨ (r.getLast? ≠ some 10 ∧ lrows l = [l.1 :: (r ++ [10]),remark])):=by
 obtain ⟨h1,r,hr,e⟩:=h
 have e2 : unm l.2.data.toList = r:=by rw [e,mkB_list,unm_mk hr]
 refine ⟨r,hr,by unfold unB; rw [e2],?_⟩
 unfold lrows lineRows rl
 rw [e2]
 by_cases c : r.getLast? = some 10
 ·exact Or.inl ⟨c,by simp [c]⟩
 ·exact Or.inr ⟨c,by simp [c]⟩
theorem noRem_lines (ls : List Dp.Ln) (hl : ∀ l ∈ ls,LineOk l) (t : List Dp.Hk) : NoRem (ls.flatMap lrows ++ t.flatMap hkRows):=by
 have hrem : remark = 92 :: remark.tail:=by decide
 intro q tl e
 cases ls with
 | nil =>
  cases t with
  | nil => simp at e
  | cons h t =>
   simp only [List.flatMap_nil,List.nil_append,List.flatMap_cons,hkRows_eq,List.cons_append] at e
   injection e with e _
   rw [← e,hkHead_list]
   intro e2
   rw [hrem] at e2
   simp at e2
 | cons l ls =>
  obtain ⟨r,hr,_,h2⟩:=lrows_form l (hl l (by simp))
  have hs:=(hl l (by simp)).1
  have : ∃ q',q = l.1 :: q':=by
   rcases h2 with ⟨_,h2⟩ | ⟨_,h2⟩ <;> rw [List.flatMap_cons,h2] at e <;> simp at e
   ·exact ⟨_,e.1.symm⟩
   ·exact ⟨_,e.1.symm⟩
  obtain ⟨q',rfl⟩:=this
  intro e2
  rw [hrem] at e2
  injection e2 with e2 _
  rw [e2] at hs
  revert hs
  decide
structure LineAt (l : Dp.Ln) (s : ByteArray) (nx rest : List (List UInt8)) : Prop where
 two : 2 ≤ s.size
 b0 : bt s 0 = (l.1.toNat : Int)
 last : bt s ((s.size - 1 : Nat) : Int) = 10
 or : (nx = rest ∧ s = pl l) ∨ (nx = remark :: rest ∧ s.extract 0 (s.size - 1) = pl l)
theorem line_at (l : Dp.Ln) (h : LineOk l) (rest : List (List UInt8)) : ∃ s nx,lrows l ++ rest = s.data.toList :: nx ∧ LineAt l s nx rest:=by
 obtain ⟨r,hr,hu,h2⟩:=lrows_form l h
 have hpl : pl l = mkB (l.1 :: r):=by
  unfold pl lineS
  simp only [hu,mkB_list]
 have key : ∀ q : List UInt8,q ≠ [] → q.getLast? = some 10 → ∀ s,s = mkB (l.1 :: q) → 2 ≤ s.size ∧ bt s 0 = (l.1.toNat : Int) ∧ bt s ((s.size - 1 : Nat) : Int) = 10:=by
  rintro q hq hq2 s rfl
  have hz : 0 < q.length:=List.length_pos_iff.2 hq
  have hsz : (mkB (l.1 :: q)).size = q.length + 1:=by rw [mkB_size,List.length_cons]
  refine ⟨by omega,?_,?_⟩
  ·have:=bt_list (mkB (l.1 :: q)) 0 (by rw [mkB_list]; simp)
   rw [show ((0 : Nat) : Int) = 0 from rfl] at this
   rw [this]
   simp [mkB]
  ·have:=bt_list (mkB (l.1 :: q)) ((mkB (l.1 :: q)).size - 1) (by rw [mkB_list,hsz,List.length_cons]; omega)
   rw [this]
   have e : (mkB (l.1 :: q)).data.toList[(mkB (l.1 :: q)).size - 1]? = some 10:=by
    rw [mkB_list,hsz,Nat.add_sub_cancel,List.getLast?_eq_getElem?] at *
    rw [List.getElem?_cons,if_neg (by omega)]
    exact hq2
   rw [List.getElem?_eq_some_iff] at e
   obtain ⟨_,e⟩:=e
   rw [e]
   rfl
 rcases h2 with ⟨c,e⟩ | ⟨c,e⟩
 ·obtain ⟨k1,k2,k3⟩:=key r hr.1 c _ rfl
  exact ⟨mkB (l.1 :: r),rest,by rw [e,mkB_list]; rfl,k1,k2,k3,Or.inl ⟨rfl,hpl.symm⟩⟩
 ·obtain ⟨k1,k2,k3⟩:=key (r ++ [10]) (by simp) List.getLast?_concat _ rfl
  refine ⟨mkB (l.1 :: (r ++ [10])),remark :: rest,by rw [e,mkB_list]; rfl,k1,k2,k3,Or.inr ⟨rfl,?_⟩⟩
  have:=mk_pre (l.1 :: r) [10]
  rw [hpl,← this]
  have e2 : (mkB (l.1 :: (r ++ [10]))).size - 1 = (l.1 :: r).length:=by rw [mkB_size]; simp
  rw [e2]
  rfl
theorem counts (sg : UInt8) (r : ByteArray) (t : List Dp.Ln) (h : sg = 32 ∨ sg = 45 ∨ sg = 43) :
  (sg = 32 ∧ (Dp.olds ((sg,r) :: t)).length = (Dp.olds t).length + 1 ∧ (Dp.news ((sg,r) :: t)).length = (Dp.news t).length + 1) ∨
  (sg = 45 ∧ (Dp.olds ((sg,r) :: t)).length = (Dp.olds t).length + 1 ∧ (Dp.news ((sg,r) :: t)).length = (Dp.news t).length) ∨
  (sg = 43 ∧ (Dp.olds ((sg,r) :: t)).length = (Dp.olds t).length ∧ (Dp.news ((sg,r) :: t)).length = (Dp.news t).length + 1):=by
 rw [olds_cons,news_cons]
 rcases h with rfl | rfl | rfl
 ·left; simp
 ·right; left; simp
 ·right; right; simp
end Go.Proofs.YtplbifmjnanceaaGreatDoor
end
section
namespace Go.Proofs.YtplbifmjnanceaaGreatDoor
open Go.Shelf Go.Lib Go.Sort
open Go.RowKit Go.Proofs.YtplbifmjnanceaaGreatDoorW.PrintWords Go.Proofs.YtplbifmjnanceaaGreatDoorW.PrintLast Go.Proofs.YtplbifmjnanceaaGreatDoorW.PrintMore
set_option linter.unusedVariables false
set_option linter.unusedSimpArgs false
set_option maxHeartbeats 1000000 in
set_option maxRecDepth 100000 in
theorem clos_calls (W : World) (gT gJ gI : Nat) (g cap n : Nat) (ad : Addr) (capJ : Nat) (k i : Nat) (hk : k < n) (hi : i < n) (a b : Int) (hc : n ≤ 9223372036854775807)
  (cT : W.cell? ⟨gT,0,none⟩ = some (.slice (some ⟨g,0,none⟩) n cap)) (cJ : W.cell? ⟨gJ,0,none⟩ = some (.slice (some ad) n capJ)) (cI : W.cell? ⟨gI,0,none⟩ = some (.int .i64 i))
  (ck : W.cell? ⟨g,k,none⟩ = some (.int .i64 a)) (ci : W.cell? (ad.add i) = some (.int .i64 b)) :
  Calls Tryz.prog 75 #[.int .i64 k,.pointer (some ⟨gT,0,none⟩),.pointer (some ⟨gJ,0,none⟩),.pointer (some ⟨gI,0,none⟩)] W fun e w' => e = .returned (.bool (decide (b ≤ a))) ∧ ∃ q,w' = W.drewN q:=by
 have p1 : (0 : Int) ≤ (k : Int):=by omega
 have p2 : (k : Int) < (n : Int):=by omega
 have p3 : (0 : Int) ≤ (i : Int):=by omega
 have p4 : (i : Int) < (n : Int):=by omega
 go_enter Tryz.func75,Tryz.ntmps75
 go_wp2
 go_quiet (fail)
 go_wp2
 go_ret
 exact ⟨rfl,_,rfl⟩
theorem countP_split (p : Nat → Bool) : ∀ n,(∀ a b,a ≤ b → b < n → p a = true → p b = true) → (List.range n).countP (fun i => !p i) ≤ n ∧ ∀ a,a < n → (p a = true ↔ (List.range n).countP (fun i => !p i) ≤ a)
 | 0,_ => ⟨by simp,fun a h => by omega⟩
 | n + 1,hm => by
  obtain ⟨h1,h2⟩:=countP_split p n (fun a b hab hb h => hm a b hab (by omega) h)
  rw [List.range_succ,List.countP_append,List.countP_singleton]
  cases e : p n with
  | true =>
   simp only [Bool.not_true,Bool.false_eq_true,if_false,Nat.add_zero]
   refine ⟨by omega,fun a ha => ?_⟩
   by_cases c : a = n
   ·subst c; simp [e,h1]
   ·exact h2 a (by omega)
  | false =>
   simp only [Bool.not_false,if_true]
   have hall : ∀ a,a < n → p a = false:=by
    intro a ha
    cases q : p a with
    | false => rfl
    | true => exact absurd (hm a n (by omega) (by omega) q) (by simp [e])
   have hc : (List.range n).countP (fun i => !p i) = n:=by
    rcases Nat.lt_or_ge ((List.range n).countP (fun i => !p i)) n with c | c
    ·have:=(h2 _ c).2 (Nat.le_refl _)
     rw [hall _ c] at this; cases this
    ·omega
   rw [hc]
   refine ⟨Nat.le_refl _,fun a ha => ?_⟩
   by_cases c : a = n
   ·subst c; simp [e]
   ·simp [hall a (by omega)]; omega
theorem search_calls (W : World) (gT gJ gI : Nat) (g cap n : Nat) (ad : Addr) (capJ : Nat) (i b : Nat) (lT : List Nat) (hi : i < n) (hn : n ≤ 4294967296)
  (cT : W.cell? ⟨gT,0,none⟩ = some (.slice (some ⟨g,0,none⟩) n cap)) (cJ : W.cell? ⟨gJ,0,none⟩ = some (.slice (some ad) n capJ)) (cI : W.cell? ⟨gI,0,none⟩ = some (.int .i64 i))
  (ck : ∀ k,k < n → W.cell? ⟨g,k,none⟩ = some (.int .i64 (lT.getD k 0 : Nat))) (ci : W.cell? (ad.add i) = some (.int .i64 b))
  (lt1 : gT < W.heap.size) (lt2 : gJ < W.heap.size) (lt3 : gI < W.heap.size) (lt4 : g < W.heap.size) (lt5 : (ad.add i).block < W.heap.size)
  (up : ∀ a b,a ≤ b → b < n → lT.getD a 0 ≤ lT.getD b 0) :
  Calls Tryz.prog 74 #[.int .i64 n,.func (.func 75) #[] #[.pointer (some ⟨gT,0,none⟩),.pointer (some ⟨gJ,0,none⟩),.pointer (some ⟨gI,0,none⟩)]] W fun e w' => ∃ k : Nat,e = .returned (.int .i64 k) ∧ (k ≤ n ∧ (∀ a,a < k → a < n → lT.getD a 0 < b) ∧ ∀ a,k ≤ a → a < n → b ≤ lT.getD a 0) ∧ Below W.heap.size W w':=by
 have eg : ∀ args w,(callFunc 75 args).run Tryz.prog w = .ok (.enter 75 args) w:=enters_of Tryz.func75 (by kernel_rfl) rfl
 have hS:=Any.sort_Search Tryz.search 75 #[.pointer (some ⟨gT,0,none⟩),.pointer (some ⟨gJ,0,none⟩),.pointer (some ⟨gI,0,none⟩)] n (fun k => decide ((b : Int) ≤ (lT.getD k 0 : Nat))) W eg (by omega)
  (fun m os k hk => (clos_calls _ gT gJ gI g cap n ad capJ k i hk hi (lT.getD k 0 : Nat) b (by omega) (cell_grown lt1 cT m os) (cell_grown lt2 cJ m os) (cell_grown lt3 cI m os) (cell_grown lt4 (ck k hk) m os) (cell_grown lt5 ci m os)).mono
   fun _ _ ⟨he,q,hq⟩ => ⟨he,q,#[],by rw [hq,grow_empty]⟩)
  (fun a c hab hb h => by have:=up a c hab hb; simp only [decide_eq_true_eq] at h ⊢; omega)
 change Calls Tryz.prog 74 _ _ _ at hS
 obtain ⟨h1,h2⟩:=countP_split (fun k => decide ((b : Int) ≤ (lT.getD k 0 : Nat))) n (fun a c hab hb h => by have:=up a c hab hb; simp only [decide_eq_true_eq] at h ⊢; omega)
 refine hS.mono fun e w' ⟨he,q,os,hw⟩ => ⟨_,he,⟨h1,fun a ha han => ?_,fun a ha han => ?_⟩,by rw [hw]; exact below_grown_sl _ _ _ _ (Nat.le_refl _)⟩
 ·have:=(not_congr (h2 a han)).2 (by omega)
  simp only [decide_eq_true_eq] at this; omega
 ·have:=(h2 a han).2 ha
  simp only [decide_eq_true_eq] at this; omega
end Go.Proofs.YtplbifmjnanceaaGreatDoor
end
section
namespace Go.Proofs.YtplbifmjnanceaaGreatDoor
open Go.RowKit Go.Proofs.YtplbifmjnanceaaGreatDoorW.PrintWords Go.Proofs.YtplbifmjnanceaaGreatDoorW.PrintLast Go.Proofs.YtplbifmjnanceaaGreatDoorW.PrintMore
set_option linter.unusedVariables false
set_option linter.unusedSimpArgs false
def strs (l : List ByteArray) : List (List UInt8):=l.map fun s => s.data.toList
theorem strs_getD (x : List ByteArray) (k : Nat) (h : k < x.length) : ∃ h2 : k < (strs x).length,(strs x)[k] = (x.getD k ByteArray.empty).data.toList:=by
 refine ⟨by simpa [strs] using h,?_⟩
 simp [strs,List.getD_eq_getElem?_getD,List.getElem?_eq_getElem h]
theorem strs_len (x : List ByteArray) : (strs x).length = x.length:=by simp [strs]
theorem getD_mem (x : List ByteArray) (k : Nat) (h : k < x.length) : x.getD k ByteArray.empty ∈ x:=by
 rw [List.getD_eq_getElem?_getD,List.getElem?_eq_getElem h]; exact List.getElem_mem h
theorem str_cell {w : World} {A : Option Addr} {x : List ByteArray} (h : Kd.C Kd.string w A x.length x) (k : Nat) (hk : k < x.length) : ∃ ad,A = some ad ∧ w.cell? (ad.add k) = some (.string (x.getD k ByteArray.empty)):=by
 obtain ⟨ad,e,hc⟩:=Kd.at_string h (k : Int) (by omega) (by omega)
 exact ⟨ad,e,by simpa [rdOf] using hc⟩
theorem F1_put (x : List ByteArray) (k : Nat) (h : k < x.length) (s : List UInt8) (hc : -2 < Tg.F1 (strs x) k (x.getD k ByteArray.empty).data.toList) :
  Tg.F1 (strs x) (k + 1) s = if (x.getD k ByteArray.empty).data.toList = s then Tg.F1 (strs x) k (x.getD k ByteArray.empty).data.toList - 1 else Tg.F1 (strs x) k s:=by
 obtain ⟨h2,e⟩:=strs_getD x k h
 rw [Tg.F1_step _ _ h2,e]
 by_cases e2 : (x.getD k ByteArray.empty).data.toList = s
 ·subst e2; rw [if_pos ⟨rfl,hc⟩,if_pos rfl]
 ·rw [if_neg (fun q => e2 q.1),if_neg e2]
theorem F1_skip (x : List ByteArray) (k : Nat) (h : k < x.length) (s : List UInt8) (hc : ¬ -2 < Tg.F1 (strs x) k (x.getD k ByteArray.empty).data.toList) :
  Tg.F1 (strs x) (k + 1) s = Tg.F1 (strs x) k s:=by
 obtain ⟨h2,e⟩:=strs_getD x k h
 rw [Tg.F1_step _ _ h2,e]
 by_cases e2 : (x.getD k ByteArray.empty).data.toList = s
 ·subst e2; rw [if_neg (fun q => hc q.2)]
 ·rw [if_neg (fun q => e2 q.1)]
theorem F1_bound (x : List (List UInt8)) (k : Nat) (s : List UInt8) : -10 ≤ Tg.F1 x k s ∧ Tg.F1 x k s ≤ 0:=⟨Tg.cnt_ge _ _ _,Tg.cnt_nonpos _ _ _⟩
theorem F2_put (x y : List ByteArray) (k : Nat) (h : k < y.length) (s : List UInt8) (hc : -8 < Tg.F2 (strs x) (strs y) k (y.getD k ByteArray.empty).data.toList) :
  Tg.F2 (strs x) (strs y) (k + 1) s = if (y.getD k ByteArray.empty).data.toList = s then Tg.F2 (strs x) (strs y) k (y.getD k ByteArray.empty).data.toList - 4 else Tg.F2 (strs x) (strs y) k s:=by
 obtain ⟨h2,e⟩:=strs_getD y k h
 rw [Tg.F2_step _ _ _ h2,e]
 by_cases e2 : (y.getD k ByteArray.empty).data.toList = s
 ·subst e2; rw [if_pos ⟨rfl,hc⟩,if_pos rfl]
 ·rw [if_neg (fun q => e2 q.1),if_neg e2]
theorem F2_skip (x y : List ByteArray) (k : Nat) (h : k < y.length) (s : List UInt8) (hc : ¬ -8 < Tg.F2 (strs x) (strs y) k (y.getD k ByteArray.empty).data.toList) :
  Tg.F2 (strs x) (strs y) (k + 1) s = Tg.F2 (strs x) (strs y) k s:=by
 obtain ⟨h2,e⟩:=strs_getD y k h
 rw [Tg.F2_step _ _ _ h2,e]
 by_cases e2 : (y.getD k ByteArray.empty).data.toList = s
 ·subst e2; rw [if_neg (fun q => hc q.2)]
 ·rw [if_neg (fun q => e2 q.1)]
theorem F2_bound (x y : List (List UInt8)) (k : Nat) (s : List UInt8) : -10 ≤ Tg.F2 x y k s ∧ Tg.F2 x y k s ≤ 0:=⟨Tg.cnt_ge _ _ _,Tg.cnt_nonpos _ _ _⟩
theorem F12' (x y : List ByteArray) (s : List UInt8) : Tg.F2 (strs x) (strs y) 0 s = Tg.F1 (strs x) x.length s:=by
 rw [← strs_len x]; exact (Tg.F12 _ _ _).symm
theorem F2_in (x y : List (List UInt8)) (k : Nat) (s : List UInt8) (h : s ∈ x) : Tg.F2 x y k s ≠ 0:=by
 have:=Tg.cnt_neg x (y.take k) s h
 unfold Tg.F2; omega
theorem F2_last' (x y : List ByteArray) (s : List UInt8) : Tg.F2 (strs x) (strs y) y.length s = Tg.cnt (strs x) (strs y) s:=by
 rw [← strs_len y]; exact Tg.F2_last _ _ _
set_option maxHeartbeats 1000000 in
set_option maxRecDepth 100000 in
theorem tgs_calls (w : World) (X Y : Option Addr) (cx cy : Nat) (x y : List ByteArray) (hx : Kd.C Kd.string w X x.length x) (hy : Kd.C Kd.string w Y y.length y) (hcx : x.length ≤ cx) (hcy : y.length ≤ cy)
  (lx : x.length ≤ 4294967296) (ly : y.length ≤ 4294967296) (sx : ∀ s ∈ x,s.size ≤ maxLen) (sy : ∀ s ∈ y,s.size ≤ maxLen) :
  Calls Tryz.prog 63 #[.slice X x.length cx,.slice Y y.length cy] w fun e w' => ∃ v : Value,e = .returned v ∧ ∃ seq,Tg.Good (strs x) (strs y) seq ∧ PairsAt w' w.heap.size v seq ∧ Below w.heap.size w w':=by
 have hmm:=@run_makeMap Tryz.prog
 have HX:=Aside0.mk hx
 have HY:=Aside0.mk hy
 have SX:=Aside0.mk sx
 have SY:=Aside0.mk sy
 clear hx hy sx sy
 go_enter Tryz.func63,Tryz.ntmps63
 go_upto_block 0 with (fail)
 go_cut [] (fun wc => MapIs Tryz.prog wc w.heap.size x.length (Tg.F1 (strs x) x.length) (fun _ => False) ∧ Below w.heap.size w wc)
 case first =>
  go_wp2
  go_loopw [37] (fun i wr => ∃ k : Nat,k ≤ x.length ∧ i = .int .i64 k ∧ MapIs Tryz.prog wr w.heap.size k (Tg.F1 (strs x) k) (fun _ => False) ∧ Below w.heap.size w wr)
   (fun i _ => x.length - (intOf i).toNat)
  case atStart => exact ⟨0,Nat.zero_le _,rfl,(MapIs.made w).imp (Nat.le_refl _) (fun s => Tg.F1_zero _ s) (fun _ h => h.elim),(Below.refl _ _).alloc (Nat.le_refl _) _⟩
  case round =>
   obtain ⟨k,hk,rfl,hM,hB⟩:=hrel
   by_cases hlt : k < x.length
   ·obtain ⟨ad,rfl,hcell⟩:=str_cell (Kd.C_below HX.out hB) k hlt
    have hs:=SX.out _ (getD_mem x k hlt)
    obtain ⟨b1,b2⟩:=F1_bound (strs x) k (x.getD k ByteArray.empty).data.toList
    have FP:=F1_put x k hlt
    have FS:=F1_skip x k hlt
    generalize hse : x.getD k ByteArray.empty = s at *
    clear hse
    generalize hce : Tg.F1 (strs x) k s.data.toList = c at *
    have HM:=Aside0.mk hM
    have HB:=Aside0.mk hB
    have HS:=Aside0.mk hs
    have HC:=Aside0.mk hce
    have HFP:=Aside0.mk FP
    have HFS:=Aside0.mk FS
    clear hM hB hs hce FP FS
    by_cases hc : -2 < c
    ·go_wp2_with (first | (at_lookup; refine wp_look rfl _ _ rfl w.heap.size k _ _ rfl HM.out s HS.out rfl ?_; rw [HC.out]) | (at_mapUpdate; refine wp_put rfl _ _ _ rfl w.heap.size k _ _ rfl HM.out (by unfold maxLen; omega) s HS.out rfl (c - 1) (WalkArith.wf_i64 (by omega)) rfl ?_; intro w1 hm1 hg1))
     go_roundw
     case rel => exact ⟨k + 1,by omega,by go_num,hm1.imp (Nat.le_refl _) (fun t => HFP.out t hc) (fun _ h => h.elim),HB.out.grown hg1 HB.out.size (fun j hj => by cases hj; exact Nat.le_refl _)⟩
     case measure => simp [intOf]; omega
    ·go_wp2_with (first | (at_lookup; refine wp_look rfl _ _ rfl w.heap.size k _ _ rfl HM.out s HS.out rfl ?_; rw [HC.out]) )
     go_roundw
     case rel => exact ⟨k + 1,by omega,by go_num,HM.out.imp (Nat.le_succ _) (fun t => HFS.out t hc) (fun _ h => h.elim),HB.out⟩
     case measure => simp [intOf]; omega
   ·have : k = x.length:=by omega
    subst this
    go_wp2
    go_meet
    case rel => exact ⟨hM,hB⟩
 case rest =>
  clear hmm
  obtain ⟨hM0,hB0⟩:=hcut
  have HM0:=Aside0.mk hM0
  have HB0:=Aside0.mk hB0
  clear hM0 hB0
  go_upto_block 2 with (fail)
  go_cut [] (fun wc2 => MapIs Tryz.prog wc2 w.heap.size (x.length + y.length) (Tg.cnt (strs x) (strs y)) (fun s => s ∈ strs x) ∧ Below w.heap.size w wc2)
  case first =>
   go_wp2
   go_loopw [53] (fun i wr => ∃ k : Nat,k ≤ y.length ∧ i = .int .i64 k ∧ MapIs Tryz.prog wr w.heap.size (x.length + k) (Tg.F2 (strs x) (strs y) k) (fun _ => False) ∧ Below w.heap.size w wr)
    (fun i _ => y.length - (intOf i).toNat)
   case atStart => exact ⟨0,Nat.zero_le _,rfl,HM0.out.imp (Nat.le_refl _) (fun s => F12' x y s) (fun _ h => h.elim),HB0.out⟩
   case round =>
    obtain ⟨k,hk,rfl,hM,hB⟩:=hrel
    by_cases hlt : k < y.length
    ·obtain ⟨ad,rfl,hcell⟩:=str_cell (Kd.C_below HY.out hB) k hlt
     have hs:=SY.out _ (getD_mem y k hlt)
     obtain ⟨b1,b2⟩:=F2_bound (strs x) (strs y) k (y.getD k ByteArray.empty).data.toList
     have FP:=F2_put x y k hlt
     have FS:=F2_skip x y k hlt
     generalize hse : y.getD k ByteArray.empty = s at *
     clear hse
     generalize hce : Tg.F2 (strs x) (strs y) k s.data.toList = c at *
     have HM:=Aside0.mk hM
     have HB:=Aside0.mk hB
     have HS:=Aside0.mk hs
     have HC:=Aside0.mk hce
     have HFP:=Aside0.mk FP
     have HFS:=Aside0.mk FS
     clear hM hB hs hce FP FS
     by_cases hc : -8 < c
     ·go_wp2_with (first | (at_lookup; refine wp_look rfl _ _ rfl w.heap.size (x.length + k) _ _ rfl HM.out s HS.out rfl ?_; rw [HC.out]) | (at_mapUpdate; refine wp_put rfl _ _ _ rfl w.heap.size (x.length + k) _ _ rfl HM.out (by unfold maxLen; omega) s HS.out rfl (c - 4) (WalkArith.wf_i64 (by omega)) rfl ?_; intro w1 hm1 hg1))
      go_roundw
      case rel => exact ⟨k + 1,by omega,by go_num,hm1.imp (by omega) (fun t => HFP.out t hc) (fun _ h => h.elim),HB.out.grown hg1 HB.out.size (fun j hj => by cases hj; exact Nat.le_refl _)⟩
      case measure => simp [intOf]; omega
     ·go_wp2_with (first | (at_lookup; refine wp_look rfl _ _ rfl w.heap.size (x.length + k) _ _ rfl HM.out s HS.out rfl ?_; rw [HC.out]) )
      go_roundw
      case rel => exact ⟨k + 1,by omega,by go_num,HM.out.imp (by omega) (fun t => HFS.out t hc) (fun _ h => h.elim),HB.out⟩
      case measure => simp [intOf]; omega
    ·have : k = y.length:=by omega
     subst this
     go_wp2
     go_meet
     case rel => exact ⟨hM.imp (Nat.le_refl _) (fun s => (F2_last' x y s).symm) (fun s h => Or.inr (F2_in _ _ _ _ h)),hB⟩
  case rest =>
   obtain ⟨hM1,hB1⟩:=hcut
   have HM1:=Aside0.mk hM1
   have HB1:=Aside0.mk hB1
   clear hM1 hB1 HM0 HB0
   go_upto_block 4 with (fail)
   go_cut [13] (fun s13 wc3 => ∃ (yi : List Nat) (f : List UInt8 → Int),Tg.R3 (strs x) (strs y) y.length yi f ∧ MapIs Tryz.prog wc3 w.heap.size (x.length + y.length + y.length) f (fun s => s ∈ strs x) ∧ Kd.R (Kd.int .i64) 3 wc3 (w.heap.size + 1) (fun k => k ≠ w.heap.size) s13 (ints yi) ∧ Below w.heap.size w wc3)
   case first =>
    go_wp2
    go_loopw [13,69] (fun s13 i wr => ∃ (k : Nat) (yi : List Nat) (f : List UInt8 → Int),k ≤ y.length ∧ i = .int .i64 k ∧ Tg.R3 (strs x) (strs y) k yi f ∧ MapIs Tryz.prog wr w.heap.size (x.length + y.length + k) f (fun s => s ∈ strs x) ∧ Kd.R (Kd.int .i64) 3 wr (w.heap.size + 1) (fun k => k ≠ w.heap.size) s13 (ints yi) ∧ Below w.heap.size w wr ∧ yi.length ≤ k)
     (fun _ i _ => y.length - (intOf i).toNat)
    case atStart => exact ⟨0,[],_,Nat.zero_le _,rfl,Tg.R3.start _ _ _ (fun _ => rfl),HM1.out,Kd.R_nil _ _ _ _ _,HB1.out,Nat.le_refl _⟩
    case round =>
     obtain ⟨k,yi,f,hk,rfl,hR,hM,hO,hB,hl⟩:=hrel
     have hsz:=hM.lt
     by_cases hlt : k < y.length
     ·obtain ⟨ad,rfl,hcell⟩:=str_cell (Kd.C_below HY.out hB) k hlt
      have hs:=SY.out _ (getD_mem y k hlt)
      obtain ⟨h2,e2⟩:=strs_getD y k hlt
      have RT:=@Tg.R3.take _ _ _ _ _ _ f (fun t => if (y.getD k ByteArray.empty).data.toList = t then (yi.length : Int) else f t) hR h2
      have RS:=hR.skip h2
      rw [e2] at RT RS
      generalize hse : y.getD k ByteArray.empty = s at *
      clear hse
      have HM:=Aside0.mk hM
      have HB:=Aside0.mk hB
      have HS:=Aside0.mk hs
      have HO:=Aside0.mk hO
      have HRT:=Aside0.mk RT
      have HRS:=Aside0.mk RS
      clear hM hB hs RT RS hO hR e2 h2
      generalize hce : f s.data.toList = c at *
      have HC:=Aside0.mk hce
      clear hce
      by_cases hc : c = -5
      ·subst hc
       obtain ⟨A13,c13,rfl⟩:=Kd.R_slice HO.out
       go_wp2_with (first | (at_lookup; refine wp_look rfl _ _ rfl w.heap.size (x.length + y.length + k) _ _ rfl HM.out s HS.out rfl ?_; rw [HC.out]) | (at_mapUpdate; refine wp_put rfl _ _ _ rfl w.heap.size (x.length + y.length + k) _ _ rfl HM.out (by unfold maxLen; omega) s HS.out rfl _ (WalkArith.wf_i64 (by simp [ints]; omega)) rfl ?_; intro w1 hm1 hg1) | (at_builtin; refine Kd.R_append (Kd.int .i64) (w0:=w1) (w.heap.size + 1) rfl (.tmp 82) (.tmp 84) 123 3 (.int .i64 0) 8 rfl Tryz.underlying123 infoInt rfl (by decide) (by omega) _ (ints yi) (k : Int) [.int .i64 (k : Int)] (fun j => j ≠ w.heap.size) (fun _ => False) rfl rfl rfl (fun _ h => h.elim) ?aF ?aO ?aB ?aS ?aL ?_; (case aF => intro j hj; have:=hm1.lt; omega); (case aO => exact Kd.R_grown HO.out hg1 (fun j hj e => hj (by injection e))); (case aB => exact Below.refl _ _); (case aS => exact hm1.lt); (case aL => simp [ints]; omega); intro v1 w2 ho hb hg hat))
       go_roundw
       case rel => exact ⟨k + 1,yi ++ [k],_,by omega,by go_num,HRT.out rfl (fun _ => rfl),(hm1.kept hg (fun e => HO.out.1 _ e.symm rfl)).imp (by omega) (fun t => by simp [ints]) (fun _ h => Or.inl (Or.inl h)),by rw [ints_snoc]; exact ho,(HB.out.grown hg1 HB.out.size (fun j hj => by cases hj; exact Nat.le_refl _)).trans (hb.mono (by omega)),by simp; omega⟩
       case measure => simp [intOf]; omega
      ·have hc' : (c == -5) = false:=by simpa using hc
       go_wp2_with (first | (at_lookup; refine wp_look rfl _ _ rfl w.heap.size (x.length + y.length + k) _ _ rfl HM.out s HS.out rfl ?_; rw [HC.out]) )
       go_roundw
       case rel => exact ⟨k + 1,yi,f,by omega,by go_num,HRS.out hc,HM.out.mono (by omega),HO.out,HB.out,by omega⟩
       case measure => simp [intOf]; omega
     ·have : k = y.length:=by omega
      subst this
      go_wp2
      go_meet
      case rel => exact ⟨yi,f,hR,hM,hO,hB⟩
   case rest =>
    obtain ⟨yi,f,hR3,hM,hO,hB⟩:=hcut
    have HR3:=Aside0.mk hR3
    have HM:=Aside0.mk hM
    have HO:=Aside0.mk hO
    have HB:=Aside0.mk hB
    clear hR3 hM hO hB HM1 HB1
    go_upto_block 6 with (fail)
    go_cut [12,14] (fun s12 s14 wc4 => ∃ (xi inv : List Nat),Tg.R4 (strs x) (strs y) yi x.length xi inv ∧ xi.length ≤ x.length ∧ IntsAt wc4 (w.heap.size + 1) s12 xi ∧ IntsAt wc4 (w.heap.size + 1) u13 yi ∧ IntsAt wc4 (w.heap.size + 1) s14 inv ∧ NeRow s12 u13 ∧ NeRow s14 u13 ∧ NeRow s12 s14 ∧ Below w.heap.size w wc4)
    case first =>
     go_wp2
     go_loopw [12,14,89] (fun s12 s14 i wr => ∃ (k : Nat) (xi inv : List Nat),k ≤ x.length ∧ i = .int .i64 k ∧ Tg.R4 (strs x) (strs y) yi k xi inv ∧ MapIs Tryz.prog wr w.heap.size (x.length + y.length + y.length) f (fun s => s ∈ strs x) ∧ IntsAt wr (w.heap.size + 1) s12 xi ∧ IntsAt wr (w.heap.size + 1) u13 yi ∧ IntsAt wr (w.heap.size + 1) s14 inv ∧ NeRow s12 u13 ∧ NeRow s14 u13 ∧ NeRow s12 s14 ∧ Below w.heap.size w wr ∧ xi.length ≤ k ∧ inv.length ≤ k)
      (fun _ _ i _ => x.length - (intOf i).toNat)
     case atStart => exact ⟨0,[],[],Nat.zero_le _,rfl,Tg.R4.start _ _ _,HM.out,IntsAt.nil _ _,IntsAt.of HO.out,IntsAt.nil _ _,NeRow.nil _,NeRow.nil _,NeRow.nil _,HB.out,Nat.le_refl _,Nat.le_refl _⟩
     case round =>
      obtain ⟨k,xi,inv,hk,rfl,hR,hM2,hX,hY,hI,n1,n2,n3,hB2,l1,l2⟩:=hrel
      have hsz:=hM2.lt
      by_cases hlt : k < x.length
      ·obtain ⟨ad,rfl,hcell⟩:=str_cell (Kd.C_below HX.out hB2) k hlt
       have hs:=SX.out _ (getD_mem x k hlt)
       obtain ⟨h2,e2⟩:=strs_getD x k hlt
       have hmem : (x.getD k ByteArray.empty).data.toList ∈ strs x:=e2 ▸ List.getElem_mem h2
       have RT:=fun (f : List UInt8 → Int) h3 => @Tg.R4.take _ _ (strs x) (strs y) yi f h3 k xi inv hR h2
       have RS:=fun (f : List UInt8 → Int) h3 => @Tg.R4.skip _ _ (strs x) (strs y) yi f h3 k xi inv hR h2
       rw [e2] at RT RS
       generalize hse : x.getD k ByteArray.empty = s at *
       clear hse
       have hb:=HR3.out.val s.data.toList
       have HM2:=Aside0.mk hM2
       have HB2:=Aside0.mk hB2
       have HS:=Aside0.mk hs
       have HI:=Aside0.mk hI
       have HX2:=Aside0.mk hX
       have HY2:=Aside0.mk hY
       have h3' : Tg.R3 (strs x) (strs y) (strs y).length yi f:=by rw [strs_len]; exact HR3.out
       have HRT:=Aside0.mk (RT f h3')
       have HRS:=Aside0.mk (RS f h3')
       clear h3'
       have HMem:=Aside0.mk hmem
       have N1:=Aside0.mk n1
       have N2:=Aside0.mk n2
       have N3:=Aside0.mk n3
       clear hM2 hB2 hs RT RS hI hX hY hR e2 h2 hmem n1 n2 n3 hb
       generalize hce : f s.data.toList = c at *
       have HC:=Aside0.mk hce
       clear hce
       by_cases hc : 0 ≤ c
       ·obtain ⟨j,rfl⟩:=Int.eq_ofNat_of_zero_le hc
        clear hc
        obtain ⟨A12,c12,rfl⟩:=Kd.R_slice HX2.out
        obtain ⟨A14,c14,rfl⟩:=Kd.R_slice HI.out
        go_wp2_with (first | (at_lookup; refine wp_look_ok rfl _ _ rfl w.heap.size (x.length + y.length + y.length) _ _ rfl HM2.out s HS.out rfl HMem.out ?_; rw [HC.out]) | (at_builtin; refine Kd.R_append (Kd.int .i64) (w0:=wr) (w.heap.size + 1) rfl (.tmp 105) (.tmp 107) 123 3 (.int .i64 0) 8 rfl Tryz.underlying123 infoInt rfl (by decide) (by omega) _ (ints xi) (k : Int) [.int .i64 (k : Int)] (fun _ => True) (fun _ => False) rfl rfl rfl (fun _ h => h.elim) (fun _ _ => trivial) HX2.out (Below.refl _ _) (by omega) ?aL ?_; (case aL => simp [ints]; omega); intro v1 w1 ho1 hb1 hg1 hat1) | (at_builtin; refine Kd.R_append (Kd.int .i64) (w0:=w1) (w.heap.size + 1) rfl (.tmp 109) (.tmp 111) 123 3 (.int .i64 0) 8 rfl Tryz.underlying123 infoInt rfl (by decide) (by omega) _ (ints inv) (j : Int) [.int .i64 (j : Int)] (fun _ => True) (fun _ => False) rfl rfl rfl (fun _ h => h.elim) (fun _ _ => trivial) (HI.out.kept hg1 (NeRow.row (NeRow.symm' N3.out))) (Below.refl _ _) ?aS ?aL ?_; (case aS => have:=hb1.size; omega); (case aL => simp [ints]; omega); intro v2 w2 ho2 hb2 hg2 hat2))
        go_roundw
        case rel =>
         have X1 : IntsAt w1 (w.heap.size + 1) v1 (xi ++ [k]):=by unfold IntsAt; rw [ints_snoc]; exact ho1
         have I2 : IntsAt w2 (w.heap.size + 1) v2 (inv ++ [j]):=by unfold IntsAt; rw [ints_snoc]; exact ho2
         have nA:=ne_appended N3.out HI.out hat1
         have nB:=NeRow.symm' (ne_appended (NeRow.symm' nA) X1 hat2)
         have Y1:=HY2.out.kept hg1 (NeRow.row (NeRow.symm' N1.out))
         have B1:=HB2.out.grown hg1 HB2.out.size (fun j hj => by have:=HX2.out.ge j hj; omega)
         exact ⟨k + 1,xi ++ [k],inv ++ [j],by omega,by go_num,HRT.out j rfl,(HM2.out.kept hg1 (HX2.out.ne_of_base (by omega))).kept hg2 (HI.out.ne_of_base (by omega)),X1.kept hg2 (NeRow.row nA),Y1.kept hg2 (NeRow.row (NeRow.symm' N2.out)),I2,ne_appended N1.out HY2.out hat1,ne_appended N2.out Y1 hat2,nB,B1.grown hg2 B1.size (fun j hj => by have:=HI.out.ge j hj; omega),by simp; omega,by simp; omega⟩
        case measure => simp [intOf]; omega
       ·go_wp2_with (first | (at_lookup; refine wp_look_ok rfl _ _ rfl w.heap.size (x.length + y.length + y.length) _ _ rfl HM2.out s HS.out rfl HMem.out ?_; rw [HC.out]))
        go_roundw
        case rel => exact ⟨k + 1,xi,inv,by omega,by go_num,HRS.out (by omega),HM2.out,HX2.out,HY2.out,HI.out,N1.out,N2.out,N3.out,HB2.out,by omega,by omega⟩
        case measure => simp [intOf]; omega
      ·have : k = x.length:=by omega
       subst this
       go_wp2
       go_meet
       case rel => exact ⟨xi,inv,hR,l1,hX,hY,hI,n1,n2,n3,hB2⟩
    case rest =>
     obtain ⟨xi,inv,hR4,hxl,hX,hY,hI,n1,n2,n3,hB4⟩:=hcut
     obtain ⟨W4,rfl⟩ : ∃ z : World,z = wc:=⟨_,rfl⟩
     clear HM HO HB
     obtain ⟨A12,c12,rfl,_,CX0⟩:=hX.reads
     obtain ⟨A13,c13,rfl,_,CY0⟩:=hY.reads
     obtain ⟨A14,c14,e14,_,CI0⟩:=hI.reads
     rw [hR4.len] at e14
     subst e14
     have hJ0 : ∀ p,p < xi.length → inv.getD p 0 < yi.length:=by
      intro p hp
      have l1 : p < inv.length:=by rw [hR4.len]; exact hp
      have e1 : inv[p]? = some (inv.getD p 0):=by simp [List.getD_eq_getElem?_getD,List.getElem?_eq_getElem l1]
      obtain ⟨i',e2,_⟩:=hR4.at' p _ _ (List.getElem?_eq_getElem hp) e1
      exact (List.getElem?_eq_some_iff.1 e2).1
     have hyx : yi.length ≤ xi.length:=Tg.anchors_le (f:=f) (by rw [strs_len]; exact HR3.out) (by rw [strs_len]; exact hR4)
     have HJ0:=Aside0.mk hJ0
     clear hJ0
     have CX:=Aside0.mk CX0
     have CY:=Aside0.mk CY0
     have CI:=Aside0.mk CI0
     have HR4:=Aside0.mk hR4
     have HB4:=Aside0.mk hB4
     have hl4:=hR4.len
     have HL4:=Aside0.mk hl4
     clear CX0 CY0 CI0 hR4 hB4 hX hY hI n1 n2 n3 hl4
     go_upto_block 8 with (first | (at_make; refine Kd.R_make (Kd.int .i64) (W4.heap.size + 1) 3 rfl rfl 123 (.tmp 117) (.tmp 117) rfl _ rfl rfl Tryz.underlying123 (.int .i64 0) 8 infoInt rfl (by decide) (by decide) 0 (ok:=fun _ => True) (okp:=fun _ => False) rfl (fun _ h => h.elim) trivial (by omega) ?aL (Below.refl _ _) (by simp) ?_; (case aL => simp; omega); intro v1 w1 ho1 hb1 hg1 hat1; obtain ⟨hT0,At,ct,et⟩:=zeros_at ho1; subst et; have HA1:=Aside0.mk hat1; have HT0:=Aside0.mk hT0; have HG1:=Aside0.mk hg1; clear ho1 hb1 hg1 hT0 hat1) | (at_make; refine Kd.R_make (Kd.int .i64) (W4.heap.size + 1) 3 rfl rfl 123 (.tmp 119) (.tmp 119) rfl _ rfl rfl Tryz.underlying123 (.int .i64 0) 8 infoInt rfl (by decide) (by decide) 0 (ok:=fun _ => True) (okp:=fun _ => False) rfl (fun _ h => h.elim) trivial (by omega) ?aL (Below.refl _ _) ?aS ?_; (case aS => have:=HG1.out.size; simp at this ⊢; omega); (case aL => simp; omega); intro v2 w2 ho2 hb2 hg2 hat2; obtain ⟨hL0,Al,cl,el⟩:=zeros_at ho2; subst el; have bT:=blk_grown (blk_new w1 (.cells #[.slice At xi.length ct] 123)) hg2 (by simp); have cT:=blk_cell bT 0; simp at cT; have HL0:=Aside0.mk hL0; have HG2:=Aside0.mk hg2; have BT:=Aside0.mk bT; have HA2:=Aside0.mk hat2; clear bT ho2 hb2 hg2 hL0 hat2))
     have hst : St W4 w1.heap.size (.slice A14 xi.length c14) (.slice At xi.length ct) (.slice Al xi.length cl) xi.length (List.replicate xi.length 0) (List.replicate xi.length 0) w2:=by
      have g1:=HG1.out
      have g2:=HG2.out
      have bJ:=blk_grown (blk_new W4 (.cells #[.slice A14 xi.length c14] 123)) g1 (by simp)
      have hs1:=g1.size
      simp at hs1
      have e1 : Below W4.heap.size W4 w1:=(below_alloc (Below.refl _ _) _).grown g1 (by simp) (fun k hk => by cases hk)
      refine ⟨blk_grown (blk_alloc bJ _) g2 (by simp),BT.out,(HT0.out.below (below_alloc (Below.refl _ _) _)).kept g2 (fun _ _ e => by cases e),HL0.out,?_,by simp,by simp,?_⟩
      ·intro k hk hk2
       obtain ⟨b,e,hb⟩:=HA2.out
       rw [hk2] at e; cases e
       have:=HT0.out.lt k hk
       simp at hb; omega
      ·exact (below_alloc e1 _).grown g2 (by simp; omega) (fun k hk => by cases hk)
     have HST:=Aside0.mk hst
     have hgT : W4.heap.size < w1.heap.size:=by have:=HG1.out.size; simp at this; omega
     generalize w1.heap.size = gT at *
     clear HT0 HL0 HG1 HG2 BT HA1 HA2 hst cT
     go_cut [] (fun w5 => St W4 gT (.slice A14 xi.length c14) (.slice At xi.length ct) (.slice Al xi.length cl) xi.length (List.replicate xi.length (xi.length + 1)) (List.replicate xi.length 0) w5)
     case first =>
      go_wp2
      go_loopw [123] (fun i wr => ∃ k : Nat,k ≤ xi.length ∧ i = .int .i64 k ∧ St W4 gT (.slice A14 xi.length c14) (.slice At xi.length ct) (.slice Al xi.length cl) xi.length (List.replicate k (xi.length + 1) ++ List.replicate (xi.length - k) 0) (List.replicate xi.length 0) wr)
       (fun i _ => xi.length - (intOf i).toNat)
      case atStart => exact ⟨0,Nat.zero_le _,rfl,HST.out⟩
      case round =>
       obtain ⟨k,hk,rfl,hst⟩:=hrel
       by_cases hlt : k < xi.length
       ·obtain ⟨g,cap,e,hg,hc,hf,hs⟩:=hst.storeT k hlt
        injection e with eA _ ec
        subst eA ec
        have cT:=hst.cellT
        have hs2:=hs (xi.length + 1)
        rw [fill_step _ _ hlt] at hs2
        have HS2:=Aside0.mk hs2
        have hN : ((xi.length + 1 : Nat) : Int) = (xi.length : Int) + 1:=by omega
        have HN:=Aside0.mk hN
        clear hs hs2 hst hN
        go_wp2
        go_roundw
        case rel => exact ⟨k + 1,by omega,by go_num,by have:=HS2.out; rw [HN.out] at this; exact this⟩
        case measure => simp [intOf]; omega
       ·have : k = xi.length:=by omega
        subst this
        go_wp2
        go_meet
        case rel => simpa using hst
     case rest =>
      clear HST
      have HST:=Aside0.mk hcut
      have cT:=hcut.cellT
      clear hcut
      go_upto_block 10 with (fail)
      go_cut [] (fun w6 => ∃ lT lL,Tg.R5 inv xi.length xi.length lT lL ∧ St W4 gT (.slice A14 xi.length c14) (.slice At xi.length ct) (.slice Al xi.length cl) xi.length lT lL w6)
      case first =>
       go_wp2
       go_loopw [133] (fun i wr => ∃ (k : Nat) (lT lL : List Nat),k ≤ xi.length ∧ i = .int .i64 k ∧ Tg.R5 inv xi.length k lT lL ∧ St W4 gT (.slice A14 xi.length c14) (.slice At xi.length ct) (.slice Al xi.length cl) xi.length lT lL wr)
        (fun i _ => xi.length - (intOf i).toNat)
       case atStart => exact ⟨0,_,_,Nat.zero_le _,rfl,Tg.R5.start _ _,HST.out⟩
       case round =>
        obtain ⟨k,lT,lL,hk,rfl,hR5,hst⟩:=hrel
        by_cases hlt : k < xi.length
        ·obtain ⟨gt,capt,e,hgt,_⟩:=hst.storeT k hlt
         injection e with eA _ ec
         subst eA ec
         obtain ⟨gl,capl,e,hgl,_⟩:=hst.storeL k hlt
         injection e with eA _ ec
         subst eA ec
         have hCI:=Kd.C_below CI.out hst.bel
         obtain ⟨ad,rfl,hci⟩:=ints_cell hCI k (by rw [HL4.out]; exact hlt)
         have hJk:=HJ0.out k hlt
         have hst1:=hst.alloc (.cells #[.int .i64 k] 3)
         have cI : (wr.alloc (.cells #[.int .i64 k] 3)).cell? ⟨wr.heap.size,0,none⟩ = some (.int .i64 k):=(blk_cell (blk_new wr (.cells #[.int .i64 k] 3)) 0).trans rfl
         have hcells:=fun m hm => (hst1.cellsT m hm).1
         have hblt:=World.block_lt_of_cell? _ _ hci
         have HS:=fun W5 (e : W5 = wr.alloc (.cells #[.int .i64 k] 3)) => search_calls W5 gT W4.heap.size wr.heap.size gt ct xi.length ad c14 k (inv.getD k 0) lT hlt (by omega) (by rw [e]; exact hst1.cellT) (by rw [e]; exact hst1.cellJ) (by rw [e]; exact cI) (by rw [e]; exact hcells) (by rw [e]; exact pw_cell_below (below_alloc (Below.refl _ _) _) hci)
          (by rw [e]; exact blk_lt hst1.bT) (by rw [e]; exact blk_lt hst1.bJ) (by rw [e]; simp) (by rw [e]; simp; omega) (by rw [e]; simp; omega) hR5.up
         have HS1:=Aside0.mk (HS _ rfl)
         have HST1:=Aside0.mk hst1
         have HR5:=Aside0.mk hR5
         have HCI:=Aside0.mk (pw_cell_below (below_alloc (Below.refl _ wr) (.cells #[.int .i64 k] 3)) hci)
         clear hcells HS hst1 hR5 hst hCI hci cT
         go_upto_region 45 with (go_at_call 74; refine HS1.out.mono ?_; rintro e w2 ⟨m,rfl,hm,hB2⟩)
         obtain ⟨hm1,hm2,hm3⟩:=hm
         obtain ⟨hmn,hR5'⟩:=HR5.out.step hlt m (by omega) hm2 hm3 hm1
         have hst2:=HST1.out.below hB2
         have cT2:=hst2.cellT
         have cJ2:=hst2.cellJ
         have cI2:=pw_cell_below hB2 cI
         have ci2:=pw_cell_below hB2 HCI.out
         obtain ⟨ct2,ft2,hs2⟩:=hst2.cellsT m hmn
         have HR5':=Aside0.mk hR5'
         have HS2:=Aside0.mk (hs2 (inv.getD k 0))
         have p1 : (0 : Int) ≤ (k : Int):=by omega
         have p2 : (k : Int) < (xi.length : Int):=by omega
         have p3 : (0 : Int) ≤ (m : Int):=by omega
         have p4 : (m : Int) < (xi.length : Int):=by omega
         clear hm1 hm2 hm3 hR5' hs2 hst2 hB2 cI HS1 HST1 HR5 HCI
         generalize inv.getD k 0 = jk at *
         generalize lT.getD m 0 = tm at *
         go_region
         have cI3:=(World.cell?_of_block (w:=w2) (w':=w2.setCell ⟨gt,m,none⟩ (.int .i64 jk)) (a:=⟨wr.heap.size,0,none⟩) (Below.heap_setCell w2 ⟨gt,m,none⟩ (.int .i64 jk) wr.heap.size (by simp; omega))).trans cI2
         have hst3:=HS2.out.below (below_drew1 (Below.refl _ _))
         generalize w2.setCell ⟨gt,m,none⟩ (.int .i64 jk) = w3 at *
         obtain ⟨ct3,ft3,hs3⟩:=hst3.cellsL k hlt
         have HS3:=Aside0.mk (hs3 (m + 1))
         have hN : ((m + 1 : Nat) : Int) = (m : Int) + 1:=by omega
         have HN:=Aside0.mk hN
         clear hs3 hst3 cT2 cJ2 cI2 ci2 ct2 ft2 HS2 hN
         go_wp2
         go_roundw
         case rel => exact ⟨k + 1,_,_,by omega,by go_num,HR5'.out,by have:=HS3.out; rw [HN.out] at this; exact this⟩
         case measure => simp [intOf]; omega
        ·have : k = xi.length:=by omega
         subst this
         go_wp2
         go_meet
         case rel => exact ⟨lT,lL,hR5,hst⟩
      case rest =>
       obtain ⟨lT,lL,hR5,hst⟩:=hcut
       have hlL:=hst.lenL
       have HR5:=Aside0.mk hR5
       clear HST cT hR5
       have HST:=Aside0.mk hst
       have HlL:=Aside0.mk hlL
       obtain ⟨w6,rfl⟩ : ∃ z : World,z = wc:=⟨_,rfl⟩
       clear hst hlL
       go_upto_block 12 with (fail)
       go_cut [28] (fun s28 w7 => ∃ K : Nat,s28 = .int .i64 K ∧ Tg.R6 lL xi.length K ∧ w7 = w6)
       case first =>
        go_wp2
        go_loop [28,154] (fun s28 i => ∃ (k K : Nat),k ≤ xi.length ∧ i = .int .i64 k ∧ s28 = .int .i64 K ∧ Tg.R6 lL k K)
         (fun _ i => xi.length - (intOf i).toNat)
        case atStart => exact ⟨0,0,Nat.zero_le _,rfl,rfl,Tg.R6.start _⟩
        case round =>
         obtain ⟨k,K,hk,rfl,rfl,hR⟩:=hrel
         by_cases hlt : k < xi.length
         ·obtain ⟨ad2,eAd,hc⟩:=ints_cell HST.out.readL k (by rw [HlL.out]; exact hlt)
          subst eAd
          have hst7:=hR.step
          have HR:=Aside0.mk hst7
          clear hR hst7
          generalize lL.getD k 0 = v at *
          by_cases hv : K < v
          ·rw [if_pos hv] at HR
           go_wp2
           go_round
           case rel => exact ⟨k + 1,v,by omega,by go_num,rfl,HR.out⟩
           case measure => simp [intOf]; omega
          ·rw [if_neg hv] at HR
           go_wp2
           go_round
           case rel => exact ⟨k + 1,K,by omega,by go_num,rfl,HR.out⟩
           case measure => simp [intOf]; omega
         ·have : k = xi.length:=by omega
          subst this
          go_wp2
          go_meet
          case rel => exact ⟨K,rfl,hR,rfl⟩
       case rest =>
        obtain ⟨K,rfl,hR6,rfl⟩:=hcut
        have hKn : K ≤ xi.length:=by
         rcases hR6.one with e | ⟨p,hp,e⟩
         ·omega
         ·have:=(HR5.out.run p hp).2.1
          omega
        have HR6:=Aside0.mk hR6
        clear hR6
        go_upto_region 56 with (at_make; refine Kd.R_make kP (W4.heap.size + 1) 113 rfl rfl 114 (.tmp 164) (.tmp 164) rfl (2 + (K : Int)) rfl rfl Tryz.underlying114 (.agg #[.int .i64 0,.int .i64 0]) 16 infoPair rfl (by decide) (by decide) ((0 : Int),(0 : Int)) (ok:=fun _ => True) (okp:=fun _ => False) ⟨[.int .i64 0],[.int .i64 0],rfl,rfl,rfl⟩ (fun _ h => h.elim) trivial (by omega) ?aL (Below.refl _ _) ?aS ?_; (case aS => exact HST.out.lt); (case aL => omega); intro v8 w8 ho8 hb8 hg8 hat8; rw [show (2 + (K : Int)) = ((K + 2 : Nat) : Int) by omega] at ho8; obtain ⟨hS0,A8,c8,e8⟩:=PairsAt.zeros ho8; subst e8; have HS0:=Aside0.mk hS0; have HG8:=Aside0.mk hg8; clear ho8 hb8 hg8 hat8 hS0)
        have g8:=HG8.out
        have e8 : Below wc.heap.size wc w8:=(Below.refl _ _).grown g8 (Nat.le_refl _) (fun k hk => by cases hk)
        have hst8':=HST.out.below e8
        have hst8 : St8 W4 (.slice A14 xi.length c14) (.slice Al xi.length cl) lL (.slice A8 (K + 2) c8) (List.replicate (K + 2) (0,0)) w8:=⟨hst8'.bJ,hst8'.l,HS0.out,hst8'.bel⟩
        obtain ⟨g,cap,e,hg,⟨za,zb,ca,cb⟩,fa,fb,hs⟩:=hst8.store (1 + K) (by simp; omega)
        injection e with eA eN ec
        clear eN
        subst eA ec
        have HS:=Aside0.mk (hs x.length y.length)
        clear HG8 HS0 g8 e8 hst8' hst8 hs HST
        go_upto_block 14 with (fail)
        have hy0 : ∀ p,p < xi.length → yi.getD (inv.getD p 0) 0 ≤ (strs y).length:=by
         intro p hp
         have l1:=HJ0.out p hp
         have:=HR3.out.lt _ (List.getElem_mem l1)
         rw [strs_len,List.getD_eq_getElem?_getD (l:=yi),List.getElem?_eq_getElem l1,Option.getD_some]
         omega
        have h7:=Tg.R7.start (x:=strs x) (y:=strs y) (xi:=xi) (yi:=yi) (J:=inv) (seq:=(List.replicate (K + 2) ((0 : Nat),(0 : Nat))).set (1 + K) (x.length,y.length)) HR6.out (by rw [strs_len,strs_len,List.getElem?_set,if_pos (by omega),if_pos (by simp; omega)]) (by simp) hy0
        have H7:=Aside0.mk h7
        clear ca cb fa fb h7 hy0 HR6
        go_cut [28,33] (fun _ _ w9 => ∃ (k : Nat) (seq : List (Nat × Nat)),Tg.R7 (strs x) (strs y) xi yi inv lL xi.length K 0 k seq ∧ St8 W4 (.slice A14 xi.length c14) (.slice Al xi.length cl) lL (.slice (some ⟨g,0,none⟩) (K + 2) c8) seq w9)
        case first =>
         go_wp2
         go_loopw [28,33] (fun s28 s33 wr => ∃ (i k : Nat) (seq : List (Nat × Nat)),i ≤ xi.length ∧ s33 = .int .i64 ((i : Int) - 1) ∧ s28 = .int .i64 k ∧ Tg.R7 (strs x) (strs y) xi yi inv lL xi.length K i k seq ∧ St8 W4 (.slice A14 xi.length c14) (.slice Al xi.length cl) lL (.slice (some ⟨g,0,none⟩) (K + 2) c8) seq wr)
          (fun _ s33 _ => (intOf s33 + 1).toNat)
         case atStart => exact ⟨xi.length,K,_,Nat.le_refl _,rfl,rfl,H7.out,HS.out⟩
         case round =>
          obtain ⟨i,k,seq,hi,rfl,rfl,hR7,hst⟩:=hrel
          by_cases hz : i = 0
          ·subst hz
           go_wp2
           go_meet
           case rel => exact ⟨k,seq,hR7,hst⟩
          ·obtain ⟨j,rfl⟩ : ∃ j,i = j + 1:=⟨i - 1,by omega⟩
           have ej : ((j + 1 : Nat) : Int) - 1 = (j : Int):=by omega
           rw [ej]
           clear ej hz
           have hj : j < xi.length:=by omega
           obtain ⟨aL,eL,cL⟩:=ints_cell hst.readL j (by rw [HlL.out]; exact hj)
           obtain ⟨aJ,eJ,cJ⟩:=ints_cell (Kd.C_below CI.out hst.bel) j (by rw [HL4.out]; exact hj)
           obtain ⟨aX,eX,cX⟩:=ints_cell (Kd.C_below CX.out hst.bel) j hj
           obtain ⟨aY,eY,cY⟩:=ints_cell (Kd.C_below CY.out hst.bel) (inv.getD j 0) (HJ0.out j hj)
           subst eL eJ eX eY
           have bJ:=hst.cellJ
           have hjn : inv.getD j 0 < xi.length:=by have:=HJ0.out j hj; omega
           have hjy : inv.getD j 0 < yi.length:=HJ0.out j hj
           have hT:=Tg.R7.take HR5.out HR3.out.up HJ0.out hR7 hj
           have hS:=Tg.R7.skip hR7
           have hlen:=hR7.len
           have hle:=hR7.le
           have HT:=Aside0.mk hT
           have HSk:=Aside0.mk hS
           have HST:=Aside0.mk hst
           have HLen:=Aside0.mk hlen
           clear hT hS hst hlen hR7
           generalize lL.getD j 0 = li at *
           generalize yi.getD (inv.getD j 0) 0 = yv at *
           generalize inv.getD j 0 = jv at *
           generalize xi.getD j 0 = xv at *
           by_cases hlk : li = k
           ·subst hlk
            obtain ⟨hk1,hR7'⟩:=HT.out rfl
            obtain ⟨g',cap',e,hg,⟨za,zb,ca,cb⟩,fa,fb,hs⟩:=HST.out.store li (by rw [HLen.out]; omega)
            injection e with eA eN ec
            injection eA with eA
            injection eA with eA
            subst eA
            have HR7':=Aside0.mk hR7'
            have HS':=Aside0.mk (hs xv yv)
            have q1 : (0 : Int) ≤ (j : Int):=by omega
            have q2 : (j : Int) < (xi.length : Int):=by omega
            have q3 : (0 : Int) ≤ (jv : Int):=by omega
            have q4 : (jv : Int) < (xi.length : Int):=by omega
            have q5 : (jv : Int) < (yi.length : Int):=by omega
            have q6 : (0 : Int) ≤ (li : Int):=by omega
            have q7 : (li : Int) < ((K + 2 : Nat) : Int):=by omega
            clear eN ec hR7' hs HST HT HSk HLen
            go_upto_region 62 with (fail)
            go_region
            go_wp2
            go_roundw
            case rel => exact ⟨j,li - 1,_,by omega,rfl,by rw [show (li : Int) - 1 = ((li - 1 : Nat) : Int) by omega],HR7'.out,HS'.out.below (below_drew1 (Below.refl _ _))⟩
            case measure => simp [intOf]
           ·have hb : ((li : Int) == (k : Int)) = false:=by simp; omega
            clear HT
            go_wp2
            go_roundw
            case rel => exact ⟨j,k,seq,by omega,rfl,rfl,HSk.out hlk,HST.out⟩
            case measure => simp [intOf]
        case rest =>
         obtain ⟨k,seq,hR7,hst⟩:=hcut
         have hd:=Tg.R7.done (f:=f) (by rw [strs_len]; exact HR3.out) (by rw [strs_len]; exact HR4.out) HJ0.out rfl hR7
         have hlen:=hR7.len
         obtain ⟨g',cap',e,hg,⟨za,zb,ca,cb⟩,fa,fb,hs⟩:=hst.store 0 (by omega)
         injection e with eA eN ec
         injection eA with eA
         injection eA with eA
         subst eA
         have hs0:=hs 0 0
         simp only [Nat.zero_mul,Nat.zero_add] at ca cb fa fb hs0
         have HS0:=Aside0.mk hs0
         have HD:=Aside0.mk hd
         have HLen:=Aside0.mk hlen
         clear eN ec hs hst hd hlen hs0 H7 HS hR7
         go_wp2
         go_ret
         refine ⟨_,rfl,seq.set 0 (0,0),HD.out.2,?_,?_⟩
         ·exact Kd.R_lower HS0.out.p (by have:=HB4.out.size; omega)
         ·exact HB4.out.trans (HS0.out.bel.mono HB4.out.size)
end Go.Proofs.YtplbifmjnanceaaGreatDoor
end
