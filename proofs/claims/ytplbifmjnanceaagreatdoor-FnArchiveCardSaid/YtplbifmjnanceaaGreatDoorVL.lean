/- A word of a rule read back as a command. -/
import Derived.Test.YtplbifmjnanceaaGreatDoorVI
import Derived.Test.YtplbifmjnanceaaGreatDoorVK
namespace Go.Proofs.YtplbifmjnanceaaGreatDoor
open Go.RowKit Go.Proofs.YtplbifmjnanceaaGreatDoorW.PrintWords Go.Proofs.YtplbifmjnanceaaGreatDoorW.PrintLast Go.Proofs.YtplbifmjnanceaaGreatDoorW.PrintMore
open Go.Proofs.YtplbifmjnanceaaGreatDoor.PFnArchive
set_option linter.unusedVariables false
set_option linter.unusedSimpArgs false
set_option maxRecDepth 100000 in
theorem lit102 (u : Nat → Value) : FrOf 102 u = [u 0,u 1,u 2,u 3,u 4,u 5,u 6,u 7,u 8,u 9,u 10,u 11,u 12,u 13,u 14,u 15,u 16,u 17,u 18,u 19,u 20,u 21,u 22,u 23,u 24,u 25,u 26,u 27,u 28,u 29,u 30,u 31,u 32,u 33,u 34,u 35,u 36,u 37,u 38,u 39,u 40,u 41,u 42,u 43,u 44,u 45,u 46,u 47,u 48,u 49,u 50,u 51,u 52,u 53,u 54,u 55,u 56,u 57,u 58,u 59,u 60,u 61,u 62,u 63,u 64,u 65,u 66,u 67,u 68,u 69,u 70,u 71,u 72,u 73,u 74,u 75,u 76,u 77,u 78,u 79,u 80,u 81,u 82,u 83,u 84,u 85,u 86,u 87,u 88,u 89,u 90,u 91,u 92,u 93,u 94,u 95,u 96,u 97,u 98,u 99,u 100,u 101]:=rfl
theorem plcAt_inj (i n : Nat) (hi : i < 7) (hn : n < 7) (h : plcAt (i : Int) = plcAt (n : Int)) : i = n:=by
 have h1 : i = 0 ∨ i = 1 ∨ i = 2 ∨ i = 3 ∨ i = 4 ∨ i = 5 ∨ i = 6:=by omega
 have h2 : n = 0 ∨ n = 1 ∨ n = 2 ∨ n = 3 ∨ n = 4 ∨ n = 5 ∨ n = 6:=by omega
 rcases h1 with rfl | rfl | rfl | rfl | rfl | rfl | rfl <;> rcases h2 with rfl | rfl | rfl | rfl | rfl | rfl | rfl <;> first | rfl | (exfalso; revert h; decide)
theorem knmAt_inj (i n : Nat) (hi : i < 7) (hn : n < 7) (h : knmAt (i : Int) = knmAt (n : Int)) : i = n:=by
 have h1 : i = 0 ∨ i = 1 ∨ i = 2 ∨ i = 3 ∨ i = 4 ∨ i = 5 ∨ i = 6:=by omega
 have h2 : n = 0 ∨ n = 1 ∨ n = 2 ∨ n = 3 ∨ n = 4 ∨ n = 5 ∨ n = 6:=by omega
 rcases h1 with rfl | rfl | rfl | rfl | rfl | rfl | rfl <;> rcases h2 with rfl | rfl | rfl | rfl | rfl | rfl | rfl <;> first | rfl | (exfalso; revert h; decide)
theorem toList_mk (l : Bs) : (mkB l).toList = l:=by rw [ByteArray.toList_eq,mkB_list]
theorem place_f (n : Nat) (hn : n < 7) : ∃ k,spec_place.f k (mkB (plcAt (n : Int))) = some (n : Int):=by
 have main : ∀ (m i : Nat),n - i = m → i ≤ n → spec_place.l0 (m + 1) (mkB (plcAt (n : Int))) [(⟨#[105,110,48]⟩ : ByteArray),⟨#[105,110,49]⟩,⟨#[105,110,50]⟩,⟨#[105,110,51]⟩,⟨#[111,117,116]⟩,⟨#[100,47,97]⟩,⟨#[100,47,98]⟩] 7 (i : Int) = some (n : Int):=by
  intro m
  induction m with
  | zero =>
   intro i h1 h2
   obtain rfl : i = n:=by omega
   unfold spec_place.l0
   rw [if_pos (by omega),if_pos (by omega),if_pos (by simp; omega),rd_get (atP i hn),if_pos rfl]
  | succ m ih =>
   intro i h1 h2
   have e1 : wrap64 ((i : Int) + 1) = ((i + 1 : Nat) : Int):=by unfold wrap64; omega
   unfold spec_place.l0
   rw [if_pos (by omega),if_pos (by omega),if_pos (by simp; omega),rd_get (atP i (by omega)),if_neg,e1]
   ·exact ih (i + 1) (by omega) (by omega)
   ·rw [toList_mk,toList_mk]
    intro h
    have:=plcAt_inj i n (by omega) hn h
    omega
 exact ⟨n + 1,main n 0 (by omega) (by omega)⟩
theorem set5 {w W : World} {g : Nat} {o0 o1 o2 o3 o4 u0 u1 u2 u3 u4 : Value} {t : TypeId} (h : W.heap[g]? = some (.cells #[o0,o1,o2,o3,o4] t (0,0))) (hB : Below w.heap.size w W) (hg : w.heap.size ≤ g) {g2 : Nat} {cs2 : Array Value} {t2 : TypeId} (h2 : W.heap[g2]? = some (.cells cs2 t2 (0,0))) (hne : g ≠ g2) :
  (((((W.setCell ⟨g,0,none⟩ u0).setCell ⟨g,1,none⟩ u1).setCell ⟨g,2,none⟩ u2).setCell ⟨g,3,none⟩ u3).setCell ⟨g,4,none⟩ u4).heap[g]? = some (.cells #[u0,u1,u2,u3,u4] t (0,0)) ∧
  (((((W.setCell ⟨g,0,none⟩ u0).setCell ⟨g,1,none⟩ u1).setCell ⟨g,2,none⟩ u2).setCell ⟨g,3,none⟩ u3).setCell ⟨g,4,none⟩ u4).heap[g2]? = some (.cells cs2 t2 (0,0)) ∧
  Below w.heap.size w (((((W.setCell ⟨g,0,none⟩ u0).setCell ⟨g,1,none⟩ u1).setCell ⟨g,2,none⟩ u2).setCell ⟨g,3,none⟩ u3).setCell ⟨g,4,none⟩ u4) :=
 ⟨blk_put (blk_put (blk_put (blk_put (blk_put h 0 _ rfl) 1 _ rfl) 2 _ rfl) 3 _ rfl) 4 _ rfl,
  blk_far (blk_far (blk_far (blk_far (blk_far h2 (Ne.symm hne) _) (Ne.symm hne) _) (Ne.symm hne) _) (Ne.symm hne) _) (Ne.symm hne) _,
  below_set (below_set (below_set (below_set (below_set hB hg) hg) hg) hg) hg⟩
theorem dropS {w : World} {ad : Addr} {c : Nat} {x : List ByteArray} (h : Kd.C Kd.string w (some ad) x.length x) (h1 : 1 ≤ x.length) (hc : x.length ≤ c) : Kd.C Kd.string w (if c = 1 then some ad else some ⟨ad.block,ad.off + 1,none⟩) (x.drop 1).length (x.drop 1):=by
 have h2:=Kd.C_drop h (m:=1) (c:=c) h1 hc
 by_cases e : c = 1
 ·rw [if_pos e] at h2 ⊢; exact h2
 ·rw [if_neg e] at h2 ⊢
  have e2 : (some ad).map (·.add (1 * Kd.string.sz)) = some ⟨ad.block,ad.off + 1,none⟩:=by
   show some (ad.add 1) = _
   have:=add_field ad 0 1 (by omega)
   simp [Addr.add] at this ⊢
  rw [← e2]
  exact h2
theorem clean_facts (wd : ByteArray → Bool) (kd : Nat) (no : Bool) (a b : Int) (t : ByteArray) (h : cleanC wd ⟨(kd : Int),no,a,b,t⟩ = true) : (kd ≠ 5 → t = ⟨#[]⟩) ∧ (kd = 2 ∨ kd = 4 ∨ kd = 5 ∨ kd = 6 → b = 0) ∧ (kd = 6 → a = 0):=by
 unfold cleanC at h
 simp only [Bool.and_eq_true,Bool.or_eq_true,Bool.not_eq_true',Bool.or_eq_false_iff,Bool.and_eq_false_iff,beq_iff_eq,bne_iff_ne,decide_eq_true_eq,decide_eq_false_iff_not,Bool.not_eq_false',beq_eq_false_iff_ne,bne_eq_false_iff_eq] at h
 obtain ⟨⟨⟨⟨⟨⟨h1,h2⟩,h3⟩,h4⟩,h5⟩,h6⟩,h7⟩:=h
 refine ⟨fun e => ?_,fun e => ?_,fun e => ?_⟩
 ·rcases h7 with h | h
  ·omega
  ·have:=(toList_nil t).1 h.2
   apply ByteArray.ext
   apply Array.toList_inj.1
   exact this
 ·omega
 ·omega
def pargs (k a b : Int) : List Bs:=if k = 2 ∨ k = 4 ∨ k = 5 then [plcAt a] else if k = 6 then [] else [plcAt a,plcAt b]
theorem cargs_ne (k a b : Int) (t : Bs) (h : k ≠ 5) : cargs k a b t = pargs k a b:=by
 unfold cargs pargs
 by_cases c : k = 2 ∨ k = 4
 ·rw [if_pos c,if_pos (by omega)]
 ·rw [if_neg c,if_neg h,if_neg (show ¬ (k = 2 ∨ k = 4 ∨ k = 5) by omega)]
theorem cargs_5 (a b : Int) (t : Bs) : cargs 5 a b t = t :: pargs 5 a b:=by
 unfold cargs pargs
 rw [if_neg (by omega),if_pos rfl,if_pos (by omega)]
theorem want_at (kd : Nat) (a b : Int) (h : kd < 7) : (#[Value.int .i64 2,.int .i64 2,.int .i64 1,.int .i64 2,.int .i64 1,.int .i64 1,.int .i64 0,.int .i64 (-1)] : Array Value)[kd]? = some (.int .i64 ((pargs (kd : Int) a b).length : Int)):=by
 have h : kd = 0 ∨ kd = 1 ∨ kd = 2 ∨ kd = 3 ∨ kd = 4 ∨ kd = 5 ∨ kd = 6:=by omega
 rcases h with rfl | rfl | rfl | rfl | rfl | rfl | rfl <;> rfl
def nmC : Array Value:=#[Value.string (⟨#[99,112]⟩ : ByteArray),.string ⟨#[109,118]⟩,.string ⟨#[114,109]⟩,.string ⟨#[99,109,112]⟩,.string ⟨#[101,120,105,115,116,115]⟩,.string ⟨#[103,114,101,112]⟩,.string ⟨#[115,116,111,112]⟩]
theorem atN (n : Nat) (h : n < 7) : nmC[n]? = some (.string (mkB (knmAt (n : Int)))):=by
 have h : n = 0 ∨ n = 1 ∨ n = 2 ∨ n = 3 ∨ n = 4 ∨ n = 5 ∨ n = 6:=by omega
 rcases h with rfl | rfl | rfl | rfl | rfl | rfl | rfl <;> rfl
set_option maxHeartbeats 1000000 in
set_option maxRecDepth 100000 in
theorem cmdOf_walk (w : World) (x : S56) (wd : ByteArray → Bool) (hR : CmdR x) (hcl : cleanC wd x = true) (hwd : ∃ k,spec_isWord.f k x.f4 = some (wd x.f4)) (A : Option Addr) (c : Nat) (hC : Kd.C Kd.string w A (cwords x).length ((cwords x).map mkB)) (hc : (cwords x).length ≤ c) :
  Calls Tryz.prog 50 #[.slice A (cwords x).length c] w fun e w' => e = .returned (.tuple #[.agg #[.int .u8 x.f0,.bool x.f1,.int .u8 x.f2,.int .u8 x.f3,.string x.f4],.bool true]) ∧ Below w.heap.size w w':=by
 have HCl:=Aside0.mk (fun w1 => CleanCmd_calls w1 x wd hwd)
 rw [hcl] at HCl
 clear hwd
 obtain ⟨kd0,no,a0,b0,t⟩:=x
 obtain ⟨hk,ha,hb,ht⟩:=hR
 simp only at hk ha hb ht
 obtain ⟨kd,rfl⟩ : ∃ z : Nat,kd0 = (z : Int):=⟨kd0.toNat,by omega⟩
 obtain ⟨a,rfl⟩ : ∃ z : Nat,a0 = (z : Int):=⟨a0.toNat,by omega⟩
 obtain ⟨b,rfl⟩ : ∃ z : Nat,b0 = (z : Int):=⟨b0.toNat,by omega⟩
 obtain ⟨W,hW⟩ : ∃ z,z = knmAt (kd : Int) :: cargs (kd : Int) (a : Int) (b : Int) t.data.toList:=⟨_,rfl⟩
 have hcw : cwords ⟨kd,no,a,b,t⟩ = (if no then [[33]] else []) ++ W:=by rw [hW]; rfl
 rw [hcw] at hC hc ⊢
 have HC:=Aside0.mk hC
 have HW:=Aside0.mk hW
 have HClean:=Aside0.mk hcl
 clear hC hW hcw hcl
 obtain ⟨L,hL⟩ : ∃ z,z = (if no then [[33]] else []) ++ W:=⟨_,rfl⟩
 rw [← hL] at HC hc ⊢
 obtain ⟨h0,hh0,hq0⟩ : ∃ h0,(L.map mkB)[0]? = some h0 ∧ (h0.toList == ([33] : List UInt8)) = no:=by
  cases no with
  | true => exact ⟨mkB [33],by rw [hL]; rfl,by rw [toList_mk]; decide⟩
  | false =>
   refine ⟨mkB (knmAt (kd : Int)),by rw [hL,HW.out]; rfl,?_⟩
   rw [toList_mk]
   have h : kd = 0 ∨ kd = 1 ∨ kd = 2 ∨ kd = 3 ∨ kd = 4 ∨ kd = 5 ∨ kd = 6:=by omega
   rcases h with rfl | rfl | rfl | rfl | rfl | rfl | rfl <;> decide
 obtain ⟨n,hn⟩ : ∃ z,z = L.length:=⟨_,rfl⟩
 have hnp : 0 < n:=by
  have:=get_lt hh0
  rw [List.length_map] at this
  omega
 rw [← hn] at hc ⊢
 have hC2:=HC.out
 rw [← List.length_map (f:=mkB)] at hC2
 obtain ⟨ad,hA,b0⟩:=rowS hC2 hh0
 subst hA
 have HL:=Aside0.mk hL
 have HN:=Aside0.mk hn
 rw [show ad.add 0 = ad by simp [Addr.add]] at b0
 have B0:=Aside0.mk b0
 clear hL hn hC2 b0 hh0
 go_enter Tryz.func50,Tryz.ntmps50
 go_upto_region 2 with (first | ((with_reducible refine gate_dst (N:=2) rfl ?_); refine box_event ?hg (N:=2) ?hd (cs:=#[.int .u8 0,.bool false,.int .u8 0,.int .u8 0,.string (⟨#[]⟩ : ByteArray)]) (t:=56) ?hr ?_; (case hd => rfl); (case hg => rfl); (case hr => first | (go_simp; done) | (go_simp; rfl)); intro g2 hg w1 hbx hb; have HX2:=Aside0.mk hbx; have HB1:=Aside0.mk hb; have HG2:=Aside0.mk hg; clear hbx hb hg) | ((with_reducible refine gate_dst (N:=4) rfl ?_); refine box_event ?hg (N:=4) ?hd (cs:=#[.int .u8 0,.bool false,.int .u8 0,.int .u8 0,.string (⟨#[]⟩ : ByteArray)]) (t:=56) ?hr ?_; (case hd => rfl); (case hg => rfl); (case hr => first | (go_simp; done) | (go_simp; rfl)); intro g4 hg w2 hbx hb; have HX4:=Aside0.mk hbx; have HB2:=Aside0.mk (HB1.out.trans (hb.mono HB1.out.size)); have HX2b:=Aside0.mk (blk_below HX2.out hb); have HG4:=Aside0.mk (show g4 ≠ g2 by rw [hg]; exact Nat.ne_of_gt (blk_lt HX2.out)); have HE4:=Aside0.mk (show w.heap.size ≤ g4 by rw [hg]; exact HB1.out.size); have b0:=cell_later (HB1.out.trans (hb.mono HB1.out.size)) B0.out; have z0:=(blk_cell hbx 0).trans rfl; have z1:=(blk_cell hbx 1).trans rfl; have z2:=(blk_cell hbx 2).trans rfl; have z3:=(blk_cell hbx 3).trans rfl; have z4:=(blk_cell hbx 4).trans rfl; have y0:=blk_frozen hbx 0; have y1:=blk_frozen hbx 1; have y2:=blk_frozen hbx 2; have y3:=blk_frozen hbx 3; have y4:=blk_frozen hbx 4; clear hbx hb hg))
 refine to_world (Pr:=fun z => z.heap[g4]? = some (.cells #[Value.int .u8 0,.bool false,.int .u8 0,.int .u8 0,.string (⟨#[]⟩ : ByteArray)] 56 (0,0)) ∧ z.heap[g2]? = some (.cells #[Value.int .u8 0,.bool false,.int .u8 0,.int .u8 0,.string (⟨#[]⟩ : ByteArray)] 56 (0,0)) ∧ Below w.heap.size w z) (set5 HX4.out HB2.out HE4.out HX2b.out HG4.out) (fun w3 h3 => ?_)
 have H3a:=Aside0.mk h3.1
 have H3b:=Aside0.mk h3.2.1
 have H3c:=Aside0.mk h3.2.2
 clear h3 HX4 HX2b HX2 HB1 HB2 z0 z1 z2 z3 z4 y0 y1 y2 y3 y4 b0
 have b0:=cell_later H3c.out B0.out
 have v0 : (n : Int) > 0:=by omega
 have v1 : 0 < n:=hnp
 go_upto_if 21 with (fail)
 clear v0 v1 b0 hq0
 refine cutU 102 (fun u wc => u 2 = .pointer (some ⟨g2,0,none⟩) ∧ u 4 = .pointer (some ⟨g4,0,none⟩) ∧ (∃ A2 m d,u 0 = .slice A2 m d ∧ m = W.length ∧ m ≤ d ∧ Kd.C Kd.string w A2 (W.map mkB).length (W.map mkB)) ∧ wc.heap[g4]? = some (.cells #[Value.int .u8 0,.bool no,.int .u8 0,.int .u8 0,.string (⟨#[]⟩ : ByteArray)] 56 (0,0)) ∧ wc.heap[g2]? = some (.cells #[Value.int .u8 0,.bool false,.int .u8 0,.int .u8 0,.string (⟨#[]⟩ : ByteArray)] 56 (0,0)) ∧ Below w.heap.size w wc) ?rest ?first
 case first =>
  intro J K hJ hK
  cases no with
  | true =>
   have z1:=(blk_cell H3a.out 1).trans rfl
   have y1:=blk_frozen H3a.out 1
   have v1 : (1 : Int) ≤ (n : Int):=by omega
   go_wp2
   refine start_ (n:=5) (S:=fun w' => True) (ds:=[3]) #[false,false,false,false,false] (by kernel_rfl) rfl rfl trivial (fun hHeld => ?_)
   refine pure_ (i:=0) (N:=some 22) (v:=?_) (a':=?_) #[true,false,false,false,false] rfl rfl (by kernel_rfl) (fun _ _ _ h => h) (Or.inl ⟨by rfl,?_⟩) ?_ ?_
   rotate_left
   ·intro w'
    go_simp
    with_reducible rfl
   rotate_left
   ·simp only [Act.put,List.setIfInBounds_toArray,List.set_cons_zero,List.set_cons_succ,i64_w,i32_w]
    rfl
   refine pure_ (i:=1) (N:=some 23) (v:=?_) (a':=?_) #[true,true,false,false,false] rfl rfl (by kernel_rfl) (fun _ _ _ h => h) (Or.inl ⟨by rfl,?_⟩) ?_ ?_
   rotate_left
   ·intro w'
    go_simp
    with_reducible rfl
   rotate_left
   ·simp only [Act.put,List.setIfInBounds_toArray,List.set_cons_zero,List.set_cons_succ,i64_w,i32_w]
    rfl
   refine pure_ (i:=2) (N:=some 24) (v:=?_) (a':=?_) #[true,true,true,false,false] rfl rfl (by kernel_rfl) (fun _ _ _ h => h) (Or.inl ⟨by rfl,?_⟩) ?_ ?_
   rotate_left
   ·intro w'
    go_simp
    with_reducible rfl
   rotate_left
   ·simp only [Act.put,List.setIfInBounds_toArray,List.set_cons_zero,List.set_cons_succ,i64_w,i32_w]
    rfl
   refine last_ (i:=3) (N:=none) #[true,true,true,true,false] rfl rfl (by kernel_rfl) (by decide) (fun K hK => ?_)
   refine skip_ (w1:=?_) (by rfl) rfl ?_ ?_
   rotate_left
   ·go_simp
    rfl
   refine hK.out _ _ ?_
   clear hK K
   refine pure_ (i:=4) (N:=some 0) (v:=?_) (a':=?_) #[true,true,true,true,true] rfl rfl (by kernel_rfl) (fun _ _ _ h => h) (Or.inl ⟨by rfl,?_⟩) ?_ ?_
   rotate_left
   ·intro w'
    go_simp
    with_reducible rfl
   rotate_left
   ·simp only [Act.put,List.setIfInBounds_toArray,List.set_cons_zero,List.set_cons_succ,i64_w,i32_w]
    rfl
   refine done_ (by kernel_rfl) ?_
   have hl : L = [33] :: W:=by rw [HL.out]; rfl
   have hC:=HC.out
   rw [← List.length_map (f:=mkB)] at hC
   have he : (L.map mkB).drop 1 = W.map mkB:=by rw [hl]; rfl
   have hb1 : Below w.heap.size w (w3.setCell ⟨g4,1,none⟩ (Value.bool true)).drew:=below_drew (below_set H3c.out HE4.out)
   have hC2:=dropS hC (c:=c) (by rw [List.length_map,← HN.out]; exact hnp) (by rw [List.length_map,← HN.out]; exact hc)
   rw [he] at hC2
   obtain ⟨A2,hA2⟩ : ∃ z,z = (if c = 1 then some ad else some ⟨ad.block,ad.off + 1,none⟩):=⟨_,rfl⟩
   rw [← hA2] at hC2 ⊢
   clear hA2
   go_wp2
   refine Met.intro (hJ _ _ rfl ⟨rfl,rfl,⟨_,_,_,rfl,?_,by omega,hC2⟩,blk_put H3a.out 1 _ rfl,blk_far H3b.out (Ne.symm HG4.out) _,hb1⟩)
   rw [HN.out,hl]; rfl
  | false =>
   go_wp2
   refine Met.intro (hJ _ _ rfl ⟨rfl,rfl,⟨_,_,_,rfl,?_,hc,?_⟩,H3a.out,H3b.out,H3c.out⟩)
   ·rw [HN.out,HL.out]; rfl
   ·have h:=HC.out
    have hl : L = W:=by rw [HL.out]; rfl
    rw [← List.length_map (f:=mkB),hl] at h
    exact h
 case rest =>
  rintro u W1 ⟨h2,h4,⟨A2,m,d,h0,hm,hmd,hCw⟩,hx4,hx2,hB⟩
  rw [lit102]
  simp only [h2,h4,h0]
  have hC2:=hCw
  obtain ⟨ad2,hA,c0w⟩:=rowS hC2 (k:=0) (s:=mkB (knmAt (kd : Int))) (by rw [HW.out]; rfl)
  subst hA
  rw [show ad2.add 0 = ad2 by simp [Addr.add]] at c0w
  have hmp : 0 < m:=by rw [hm,HW.out]; simp
  have HCW:=Aside0.mk hCw
  have HM:=Aside0.mk hm
  have C0:=Aside0.mk c0w
  have HB:=Aside0.mk hB
  have hxa:=blk_alloc hx4 (.cells nmC 9 (0,0))
  have z0:=(blk_cell hxa 0).trans rfl
  have y0:=blk_frozen hxa 0
  have v0 : ((m : Int) == 0) = false:=beq_eq_false_iff_ne.2 (by omega)
  have v1 : ¬ m = 0:=by omega
  have hne : g4 ≠ W1.heap.size:=Nat.ne_of_lt (blk_lt hx4)
  have HNE:=Aside0.mk hne
  have HX4:=Aside0.mk hx4
  have HX2:=Aside0.mk hx2
  unfold nmC at z0 y0
  clear hC2 hCw hm c0w hB h0 h2 h4 hx4 hx2 hxa hne
  go_upto_block 0 with (fail)
  clear z0 y0 v0 v1
  refine to_world (Pr:=fun z => z.heap[g4]? = some (.cells #[Value.int .u8 7,.bool no,.int .u8 0,.int .u8 0,.string (⟨#[]⟩ : ByteArray)] 56 (0,0)) ∧ z.heap[g2]? = some (.cells #[Value.int .u8 0,.bool false,.int .u8 0,.int .u8 0,.string (⟨#[]⟩ : ByteArray)] 56 (0,0)) ∧ z.heap[W1.heap.size]? = some (.cells nmC 9 (0,0)) ∧ Below w.heap.size w z) ⟨blk_put (blk_alloc HX4.out _) 0 _ rfl,blk_far (blk_alloc HX2.out _) (Ne.symm HG4.out) _,blk_far (blk_new W1 _) (Ne.symm HNE.out) _,below_set (below_alloc HB.out _) HE4.out⟩ (fun w5 h5 => ?_)
  have X4:=Aside0.mk h5.1
  have X2:=Aside0.mk h5.2.1
  have XS:=Aside0.mk h5.2.2.1
  have HB5:=Aside0.mk h5.2.2.2
  generalize W1.heap.size = gs at *
  clear h5 HX4 HX2 HB
  refine cutU 102 (fun u wc => u 0 = .slice (some ad2) m d ∧ u 2 = .pointer (some ⟨g2,0,none⟩) ∧ u 4 = .pointer (some ⟨g4,0,none⟩) ∧ wc.heap[g4]? = some (.cells #[Value.int .u8 kd,.bool no,.int .u8 0,.int .u8 0,.string (⟨#[]⟩ : ByteArray)] 56 (0,0)) ∧ wc.heap[g2]? = some (.cells #[Value.int .u8 0,.bool false,.int .u8 0,.int .u8 0,.string (⟨#[]⟩ : ByteArray)] 56 (0,0)) ∧ Below w.heap.size w wc) ?rest2 ?first2
  case first2 =>
   intro J K hJ hK
   go_wp2
   refine loopG 102 (fun gh u wc => ∃ i : Nat,gh = 7 - i ∧ i ≤ 7 ∧ u 0 = .slice (some ad2) m d ∧ u 2 = .pointer (some ⟨g2,0,none⟩) ∧ u 4 = .pointer (some ⟨g4,0,none⟩) ∧ u 31 = .slice (some ⟨gs,0,none⟩) 7 7 ∧ u 32 = .int .i64 7 ∧ u 33 = .int .i64 i ∧ wc.heap[g4]? = some (.cells #[Value.int .u8 (if kd < i then kd else 7),.bool no,.int .u8 0,.int .u8 0,.string (⟨#[]⟩ : ByteArray)] 56 (0,0)) ∧ wc.heap[g2]? = some (.cells #[Value.int .u8 0,.bool false,.int .u8 0,.int .u8 0,.string (⟨#[]⟩ : ByteArray)] 56 (0,0)) ∧ wc.heap[gs]? = some (.cells nmC 9 (0,0)) ∧ Below w.heap.size w wc) 7 rfl ?atStart ?round
   case atStart => exact ⟨0,rfl,by omega,rfl,rfl,rfl,rfl,rfl,rfl,X4.out,X2.out,XS.out,HB5.out⟩
   case round =>
    rintro gh u W2 ⟨i,hgh,hi,h0,h2,h4,h31,h32,h33,hx4,hx2,hxs,hB⟩ J2 K2 hJ2 hK2
    rw [lit102]
    simp only [h0,h2,h4,h31,h32,h33]
    have HX4:=Aside0.mk hx4
    have HX2:=Aside0.mk hx2
    have HXS:=Aside0.mk hxs
    have HB:=Aside0.mk hB
    by_cases ci : i < 7
    ·have b1:=(blk_cell hxs i).trans (atN i ci)
     have b2:=cell_later hB C0.out
     have z0:=(blk_cell hx4 0).trans rfl
     have y0:=blk_frozen hx4 0
     have u1 : (i : Int) < 7:=by omega
     have u2 : IntKind.i64.wrap ((i : Int) + 1) = (i : Int) + 1:=by rw [IntKind.wrap_i64]; omega
     have u3 : (0 : Int) ≤ (i : Int):=by omega
     have u4 : (i : Int) % 256 = (i : Int):=by omega
     clear h0 h2 h4 h31 h32 h33 hx4 hx2 hxs hB
     by_cases ck : i = kd
     ·subst ck
      have e1 : (mkB (knmAt (i : Int))).toList = (mkB (knmAt (i : Int))).toList:=rfl
      go_wp2
      exact Met.intro (hJ2 (7 - (i + 1)) _ _ rfl (by omega) ⟨i + 1,rfl,ci,rfl,rfl,rfl,rfl,rfl,rfl,by rw [if_pos (by omega)]; exact blk_put HX4.out 0 _ rfl,blk_far HX2.out (Ne.symm HG4.out) _,blk_far HXS.out (Ne.symm HNE.out) _,below_set HB.out HE4.out⟩)
     ·have e1 : ¬ (mkB (knmAt (i : Int))).toList = (mkB (knmAt (kd : Int))).toList:=by
       rw [toList_mk,toList_mk]
       intro h
       exact ck (knmAt_inj i kd ci (by omega) h)
      have e2 : ((mkB (knmAt (i : Int))).toList == (mkB (knmAt (kd : Int))).toList) = false:=beq_eq_false_iff_ne.2 e1
      go_wp2
      refine Met.intro (hJ2 (7 - (i + 1)) _ _ rfl (by omega) ⟨i + 1,rfl,ci,rfl,rfl,rfl,rfl,rfl,rfl,?_,HX2.out,HXS.out,HB.out⟩)
      have h:=HX4.out
      by_cases c1 : kd < i
      ·rw [if_pos c1] at h; rw [if_pos (by omega)]; exact h
      ·rw [if_neg c1] at h; rw [if_neg (by omega)]; exact h
    ·obtain rfl : i = 7:=by omega
     have u1 : decide (((7 : Nat) : Int) < 7) = false:=by decide
     go_wp2
     have h:=HX4.out
     rw [if_pos (by omega)] at h
     exact Met.intro (hJ _ _ rfl ⟨rfl,rfl,rfl,h,HX2.out,HB.out⟩)
  case rest2 =>
   rintro u W2 ⟨h0,h2,h4,hx4,hx2,hB⟩
   rw [lit102]
   simp only [h0,h2,h4]
   have HX4:=Aside0.mk hx4
   have HX2:=Aside0.mk hx2
   have HB:=Aside0.mk hB
   clear h0 h2 h4 hx4 hx2 hB X4 X2 XS HB5
   go_upto_region 14 with (fail)
   refine cutU 102 (fun u wc => u 2 = .pointer (some ⟨g2,0,none⟩) ∧ u 4 = .pointer (some ⟨g4,0,none⟩) ∧ (∃ A3 m3 d3,u 0 = .slice A3 m3 d3 ∧ m3 = (cargs (kd : Int) (a : Int) (b : Int) t.data.toList).length ∧ m3 ≤ d3 ∧ Kd.C Kd.string w A3 ((cargs (kd : Int) (a : Int) (b : Int) t.data.toList).map mkB).length ((cargs (kd : Int) (a : Int) (b : Int) t.data.toList).map mkB)) ∧ wc = W2) ?rest3 ?first3
   case first3 =>
    intro J K hJ hK
    have he : (W.map mkB).drop 1 = (cargs (kd : Int) (a : Int) (b : Int) t.data.toList).map mkB:=by rw [HW.out]; rfl
    have hml : m - 1 = (cargs (kd : Int) (a : Int) (b : Int) t.data.toList).length:=by rw [HM.out,HW.out]; simp
    have hd:=dropS HCW.out (c:=d) (by rw [List.length_map,← HM.out]; exact hmp) (by rw [List.length_map,← HM.out]; exact hmd)
    rw [he] at hd
    have v1 : (1 : Int) ≤ (m : Int):=by omega
    by_cases cd : d = 1
    ·rw [if_pos cd] at hd
     have HD:=Aside0.mk hd
     clear hd
     go_wp2
     exact Met.intro (hJ _ _ rfl ⟨rfl,rfl,⟨_,_,_,rfl,(by first | exact hml | rfl),by omega,HD.out⟩,rfl⟩)
    ·rw [if_neg cd] at hd
     have HD:=Aside0.mk hd
     clear hd
     go_wp2
     exact Met.intro (hJ _ _ rfl ⟨rfl,rfl,⟨_,_,_,rfl,(by first | exact hml | rfl),by omega,HD.out⟩,rfl⟩)
   case rest3 =>
    rintro u wc ⟨h2,h4,⟨A3,m3,d3,h0,hm3,hmd3,hC3⟩,rfl⟩
    rw [lit102]
    simp only [h2,h4,h0]
    have HC3:=Aside0.mk hC3
    have HM3:=Aside0.mk hm3
    obtain ⟨f5,fb,fa⟩:=clean_facts wd kd no a b t HClean.out
    have F5:=Aside0.mk f5
    have FB:=Aside0.mk fb
    have FA:=Aside0.mk fa
    clear h2 h4 h0 hC3 hm3 f5 fb fa
    go_upto_region 15 with (fail)
    refine cutU 102 (fun u wd => u 0 = .slice A3 m3 d3 ∧ u 2 = .pointer (some ⟨g2,0,none⟩) ∧ u 4 = .pointer (some ⟨g4,0,none⟩) ∧ u 56 = .bool (decide (kd = 5)) ∧ wd = wc) ?rest4 ?first4
    case first4 =>
     intro J K hJ hK
     have z0:=(blk_cell HX4.out 0).trans rfl
     by_cases c5 : kd = 5
     ·have k5 : (kd : Int) = 5:=by omega
      have hl : m3 = 2:=by rw [HM3.out,k5,cargs_5]; rfl
      have v1 : (m3 : Int) = 2:=by omega
      go_wp2
      exact Met.intro (hJ _ _ rfl ⟨by rw [hl]; rfl,rfl,rfl,by rw [decide_eq_true c5]; rfl,rfl⟩)
     ·have k5 : ((kd : Int) == 5) = false:=beq_eq_false_iff_ne.2 (by omega)
      go_wp2
      exact Met.intro (hJ _ _ rfl ⟨rfl,rfl,rfl,by rw [decide_eq_false c5]; rfl,rfl⟩)
    case rest4 =>
     rintro u wc2 ⟨h0,h2,h4,h56,hw⟩
     subst hw
     rw [lit102]
     simp only [h0,h2,h4,h56]
     clear h0 h2 h4 h56
     go_upto_if 56 with (fail)
     refine cutU 102 (fun u wd => u 2 = .pointer (some ⟨g2,0,none⟩) ∧ u 4 = .pointer (some ⟨g4,0,none⟩) ∧ (∃ A4 m4 d4,u 0 = .slice A4 m4 d4 ∧ m4 = (pargs (kd : Int) (a : Int) (b : Int)).length ∧ m4 ≤ d4 ∧ Kd.C Kd.string w A4 ((pargs (kd : Int) (a : Int) (b : Int)).map mkB).length ((pargs (kd : Int) (a : Int) (b : Int)).map mkB)) ∧ wd.heap[g4]? = some (.cells #[Value.int .u8 kd,.bool no,.int .u8 0,.int .u8 0,.string t] 56 (0,0)) ∧ wd.heap[g2]? = some (.cells #[Value.int .u8 0,.bool false,.int .u8 0,.int .u8 0,.string (⟨#[]⟩ : ByteArray)] 56 (0,0)) ∧ Below w.heap.size w wd) ?rest5 ?first5
     case first5 =>
      intro J K hJ hK
      by_cases c5 : kd = 5
      ·have k5 : (kd : Int) = 5:=by omega
       have hm:=HM3.out
       have hc:=HC3.out
       rw [k5,cargs_5] at hm hc
       have hm2 : m3 = 2:=by rw [hm]; rfl
       obtain ⟨ad3,hA3,c3⟩:=rowS hc (k:=0) (s:=t) (by show some (mkB t.data.toList) = some t; rw [mkB_data])
       subst hA3
       rw [show ad3.add 0 = ad3 by simp [Addr.add]] at c3
       have hd:=dropS hc (c:=d3) (by simp) (by rw [List.length_map,← hm]; exact hmd3)
       have he : ((t.data.toList :: pargs 5 (a : Int) (b : Int)).map mkB).drop 1 = (pargs (kd : Int) (a : Int) (b : Int)).map mkB:=by rw [k5]; rfl
       rw [he] at hd
       have hpl : (pargs (kd : Int) (a : Int) (b : Int)).length = 1:=by rw [k5]; rfl
       obtain ⟨A4,hA4⟩ : ∃ z,z = (if d3 = 1 then some ad3 else some ⟨ad3.block,ad3.off + 1,none⟩):=⟨_,rfl⟩
       rw [← hA4] at hd
       have HD:=Aside0.mk hd
       have HA4:=Aside0.mk hA4
       have HPL:=Aside0.mk hpl
       have c3:=cell_later HB.out c3
       have z4:=(blk_cell HX4.out 4).trans rfl
       have y4:=blk_frozen HX4.out 4
       have v1 : (1 : Int) ≤ (m3 : Int):=by omega
       have v2 : 0 < m3:=by omega
       have c5d : decide (kd = 5) = true:=decide_eq_true c5
       clear hm hc hd he hA4 hpl hm2
       go_wp2
       refine start_ (n:=8) (S:=fun w' => w'.cell? ad3 = some (.string t)) (ds:=[6]) #[false,false,false,false,false,false,false,false] (by kernel_rfl) rfl rfl (c3) (fun hHeld => ?_)
       refine pure_ (i:=0) (N:=some 57) (v:=?_) (a':=?_) #[true,false,false,false,false,false,false,false] rfl rfl (by kernel_rfl) (fun _ _ _ h => h) (Or.inl ⟨by rfl,?_⟩) ?_ ?_
       rotate_left
       ·intro w'
        go_simp
        with_reducible rfl
       rotate_left
       ·simp only [Act.put,List.setIfInBounds_toArray,List.set_cons_zero,List.set_cons_succ,i64_w,i32_w]
        rfl
       refine pure_ (i:=1) (N:=some 58) (v:=?_) (a':=?_) #[true,true,false,false,false,false,false,false] rfl rfl (by kernel_rfl) (fun _ _ _ h => h) (Or.inl ⟨by rfl,?_⟩) ?_ ?_
       rotate_left
       ·intro w'
        go_simp
        with_reducible rfl
       rotate_left
       ·simp only [Act.put,List.setIfInBounds_toArray,List.set_cons_zero,List.set_cons_succ,i64_w,i32_w]
        rfl
       refine pure_ (i:=3) (N:=some 60) (v:=?_) (a':=?_) #[true,true,false,true,false,false,false,false] rfl rfl (by kernel_rfl) (fun _ _ _ h => h) (Or.inl ⟨by rfl,?_⟩) ?_ ?_
       rotate_left
       ·intro w'
        go_simp
        with_reducible rfl
       rotate_left
       ·simp only [Act.put,List.setIfInBounds_toArray,List.set_cons_zero,List.set_cons_succ,i64_w,i32_w]
        rfl
       refine pure_ (i:=4) (N:=some 61) (v:=?_) (a':=?_) #[true,true,false,true,true,false,false,false] rfl rfl (by kernel_rfl) (fun _ _ _ h => h) (Or.inl ⟨by rfl,?_⟩) ?_ ?_
       rotate_left
       ·intro w'
        go_simp
        with_reducible rfl
       rotate_left
       ·simp only [Act.put,List.setIfInBounds_toArray,List.set_cons_zero,List.set_cons_succ,i64_w,i32_w]
        rfl
       refine take_ (i:=2) (N:=some 59) (v:=?_) (a':=?_) #[true,true,true,true,true,false,false,false] rfl rfl (by kernel_rfl) (fun _ _ _ h => h) (Or.inl ⟨by rfl,?_⟩) hHeld ?_ ?_
       rotate_left
       ·intro w' s0
        go_simp
        with_reducible rfl
       rotate_left
       ·simp only [Act.put,List.setIfInBounds_toArray,List.set_cons_zero,List.set_cons_succ,i64_w,i32_w]
        rfl
       refine pure_ (i:=5) (N:=some 62) (v:=?_) (a':=?_) #[true,true,true,true,true,true,false,false] rfl rfl (by kernel_rfl) (fun _ _ _ h => h) (Or.inl ⟨by rfl,?_⟩) ?_ ?_
       rotate_left
       ·intro w'
        go_simp
        with_reducible rfl
       rotate_left
       ·simp only [Act.put,List.setIfInBounds_toArray,List.set_cons_zero,List.set_cons_succ,i64_w,i32_w]
        rfl
       refine last_ (i:=6) (N:=none) #[true,true,true,true,true,true,true,false] rfl rfl (by kernel_rfl) (by decide) (fun K hK => ?_)
       refine skip_ (w1:=?_) (by rfl) rfl ?_ ?_
       rotate_left
       ·go_simp
        rfl
       refine hK.out _ _ ?_
       clear hK K
       refine pure_ (i:=7) (N:=some 0) (v:=?_) (a':=?_) #[true,true,true,true,true,true,true,true] rfl rfl (by kernel_rfl) (fun _ _ _ h => h) (Or.inl ⟨by rfl,?_⟩) ?_ ?_
       rotate_left
       ·intro w'
        go_simp
        with_reducible rfl
       rotate_left
       ·simp only [Act.put,List.setIfInBounds_toArray,List.set_cons_zero,List.set_cons_succ,i64_w,i32_w]
        rfl
       refine done_ (by kernel_rfl) ?_
       rw [← HA4.out]
       go_wp2
       have hb1 : Below w.heap.size w (wc2.setCell ⟨g4,4,none⟩ (Value.string t)).drew:=below_drew (below_set HB.out HE4.out)
       refine Met.intro (hJ _ _ rfl ⟨rfl,rfl,⟨_,_,_,rfl,?_,by omega,HD.out⟩,blk_put HX4.out 4 _ rfl,blk_far HX2.out (Ne.symm HG4.out) _,hb1⟩)
       have h:=HM3.out
       rw [k5,cargs_5,List.length_cons] at h
       rw [k5]
       omega
      ·have k5 : decide (kd = 5) = false:=decide_eq_false c5
       have e5:=cargs_ne (kd : Int) (a : Int) (b : Int) t.data.toList (by omega)
       have hm:=HM3.out
       have hc:=HC3.out
       have hx:=HX4.out
       rw [e5] at hm hc
       rw [← F5.out c5] at hx
       have HM':=Aside0.mk hm
       have HC':=Aside0.mk hc
       have HX':=Aside0.mk hx
       clear hm hc hx e5
       go_wp2
       exact Met.intro (hJ _ _ rfl ⟨rfl,rfl,⟨_,_,_,rfl,HM'.out,hmd3,HC'.out⟩,HX'.out,HX2.out,HB.out⟩)
     case rest5 =>
      rintro u W3 ⟨h2,h4,⟨A4,m4,d4,h0,hm4,hmd4,hC4⟩,hx4,hx2,hB⟩
      rw [lit102]
      simp only [h2,h4,h0]
      have HC4:=Aside0.mk hC4
      have HM4:=Aside0.mk hm4
      have Y4:=Aside0.mk hx4
      have Y2:=Aside0.mk hx2
      have HB3:=Aside0.mk hB
      have hm42 : m4 ≤ 2:=by
       rw [hm4]; unfold pargs
       split
       ·simp
       ·split <;> simp
      clear h2 h4 h0 hm4 hC4 hx4 hx2 hB HX4 HX2 HB HC3 HM3 F5
      go_upto_block 2 with (fail)
      refine cutU 102 (fun u wd => u 0 = .slice A4 m4 d4 ∧ u 2 = .pointer (some ⟨g2,0,none⟩) ∧ u 4 = .pointer (some ⟨g4,0,none⟩) ∧ wd.heap[g4]? = some (.cells #[Value.int .u8 kd,.bool no,.int .u8 a,.int .u8 b,.string t] 56 (0,0)) ∧ wd.heap[g2]? = some (.cells #[Value.int .u8 0,.bool false,.int .u8 0,.int .u8 0,.string (⟨#[]⟩ : ByteArray)] 56 (0,0)) ∧ Below w.heap.size w wd) ?rest6 ?first6
      case first6 =>
       intro J K hJ hK
       go_wp2
       refine loopG 102 (fun gh u wd => ∃ i : Nat,gh = m4 - i ∧ i ≤ m4 ∧ u 0 = .slice A4 m4 d4 ∧ u 2 = .pointer (some ⟨g2,0,none⟩) ∧ u 4 = .pointer (some ⟨g4,0,none⟩) ∧ u 63 = .slice A4 m4 d4 ∧ u 64 = .int .i64 m4 ∧ u 65 = .int .i64 i ∧ wd.heap[g4]? = some (.cells #[Value.int .u8 kd,.bool no,.int .u8 (if 1 ≤ i then a else 0),.int .u8 (if 2 ≤ i then b else 0),.string t] 56 (0,0)) ∧ wd.heap[g2]? = some (.cells #[Value.int .u8 0,.bool false,.int .u8 0,.int .u8 0,.string (⟨#[]⟩ : ByteArray)] 56 (0,0)) ∧ Below w.heap.size w wd) m4 rfl ?atStart2 ?round2
       case atStart2 => exact ⟨0,rfl,Nat.zero_le _,rfl,rfl,rfl,rfl,rfl,rfl,Y4.out,Y2.out,HB3.out⟩
       case round2 =>
        rintro gh u W5 ⟨i,hgh,hi,h0,h2,h4,h63,h64,h65,hx4,hx2,hB⟩ J2 K2 hJ2 hK2
        rw [lit102]
        simp only [h0,h2,h4,h63,h64,h65]
        have HX4:=Aside0.mk hx4
        have HX2:=Aside0.mk hx2
        have HB:=Aside0.mk hB
        by_cases ci : i < m4
        ·obtain ⟨p,hp7,hpi,hpe⟩ : ∃ p : Nat,p < 7 ∧ ((pargs (kd : Int) (a : Int) (b : Int)).map mkB)[i]? = some (mkB (plcAt (p : Int))) ∧ p = (if i = 0 then a else b):=by
          have hi2 : i = 0 ∨ i = 1:=by omega
          have hm:=HM4.out
          rcases hi2 with rfl | rfl
          ·refine ⟨a,by omega,?_,by rw [if_pos rfl]⟩
           unfold pargs at hm ⊢
           split at hm
           ·rename_i c; rw [if_pos c]; rfl
           ·rename_i c
            rw [if_neg c]
            split at hm
            ·simp at hm; omega
            ·rename_i c2; rw [if_neg c2]; rfl
          ·refine ⟨b,by omega,?_,by rw [if_neg (by omega)]⟩
           unfold pargs at hm ⊢
           split at hm
           ·simp at hm; omega
           ·rename_i c
            rw [if_neg c]
            split at hm
            ·simp at hm; omega
            ·rename_i c2; rw [if_neg c2]; rfl
         obtain ⟨kp,hkp⟩:=place_f p hp7
         have HPl:=Aside0.mk (fun W => spec_place.calls kp (mkB (plcAt (p : Int))) (p : Int) W hkp)
         obtain ⟨ad4,hA4,b1⟩:=rowS (Kd.C_below HC4.out hB) hpi
         subst hA4
         have HPE:=Aside0.mk hpe
         have u1 : (i : Int) < (m4 : Int):=by omega
         have u2 : IntKind.i64.wrap ((i : Int) + 1) = (i : Int) + 1:=by rw [IntKind.wrap_i64]; omega
         have u3 : (0 : Int) ≤ (i : Int):=by omega
         have u4 : (p : Int) % 256 = (p : Int):=by omega
         have u5 : decide ((p : Int) < 0) = false:=decide_eq_false (by omega)
         have u6 : decide ((i : Int) > 1) = false:=decide_eq_false (by omega)
         clear h0 h2 h4 h63 h64 h65 hx4 hx2 hB hpi hkp hpe
         go_wp2_with fail
         refine (HPl.out W5).mono ?_
         rintro e W6 ⟨rfl,hb6⟩
         have hx4:=blk_below HX4.out hb6
         have HX4':=Aside0.mk hx4
         have HX2':=Aside0.mk (blk_below HX2.out hb6)
         have HB6:=Aside0.mk (HB.out.trans (hb6.mono HB.out.size))
         have z2:=(blk_cell hx4 2).trans rfl
         have z3:=(blk_cell hx4 3).trans rfl
         have y2:=blk_frozen hx4 2
         have y3:=blk_frozen hx4 3
         clear hx4 hb6 b1
         by_cases c0 : i = 0
         ·subst c0
          go_wp2
          have hpe : p = a:=by simpa using HPE.out
          subst hpe
          exact Met.intro (hJ2 (m4 - 1) _ _ rfl (by omega) ⟨1,rfl,ci,rfl,rfl,rfl,rfl,rfl,rfl,blk_put HX4'.out 2 _ rfl,blk_far HX2'.out (Ne.symm HG4.out) _,below_set HB6.out HE4.out⟩)
         ·obtain rfl : i = 1:=by omega
          go_wp2
          have hpe : p = b:=by simpa using HPE.out
          subst hpe
          exact Met.intro (hJ2 (m4 - 2) _ _ rfl (by omega) ⟨2,rfl,ci,rfl,rfl,rfl,rfl,rfl,rfl,blk_put HX4'.out 3 _ rfl,blk_far HX2'.out (Ne.symm HG4.out) _,below_set HB6.out HE4.out⟩)
        ·obtain rfl : i = m4:=by omega
         have u1 : decide ((i : Int) < (i : Int)) = false:=by simp
         have hm:=HM4.out
         have hfin : (if 1 ≤ i then (a : Int) else 0) = (a : Int) ∧ (if 2 ≤ i then (b : Int) else 0) = (b : Int):=by
          have fb:=FB.out
          have fa:=FA.out
          unfold pargs at hm
          split at hm
          ·have hi1 : i = 1:=hm
           rw [if_pos (by omega),if_neg (by omega)]
           exact ⟨rfl,(fb (by omega)).symm⟩
          ·split at hm
           ·have hi0 : i = 0:=hm
            rw [if_neg (by omega),if_neg (by omega)]
            exact ⟨(fa (by omega)).symm,(fb (by omega)).symm⟩
           ·have hi2 : i = 2:=hm
            rw [if_pos (by omega),if_pos (by omega)]
            exact ⟨rfl,rfl⟩
         clear h0 h2 h4 h63 h64 h65 hx4 hx2 hB hm
         have h:=HX4.out
         rw [hfin.1,hfin.2] at h
         have HX4f:=Aside0.mk h
         clear h hfin
         go_wp2
         exact Met.intro (hJ _ _ rfl ⟨rfl,rfl,rfl,HX4f.out,HX2.out,HB.out⟩)
      case rest6 =>
       rintro u W5 ⟨h0,h2,h4,hx4,hx2,hB⟩
       rw [lit102]
       simp only [h0,h2,h4]
       have hxt:=(blk_cell (blk_new W5 (.cells #[Value.int .i64 2,.int .i64 2,.int .i64 1,.int .i64 2,.int .i64 1,.int .i64 1,.int .i64 0,.int .i64 (-1)] 3 (0,0))) kd).trans (want_at kd (a : Int) (b : Int) (by omega))
       rw [← HM4.out] at hxt
       have hxa:=blk_alloc hx4 (.cells #[Value.int .i64 2,.int .i64 2,.int .i64 1,.int .i64 2,.int .i64 1,.int .i64 1,.int .i64 0,.int .i64 (-1)] 3 (0,0))
       have z0:=(blk_cell hxa 0).trans rfl
       have HX4:=Aside0.mk hx4
       have HX2:=Aside0.mk hx2
       have HB:=Aside0.mk hB
       have v1 : (kd : Int) < 8:=by omega
       have v2 : kd < 8:=by omega
       clear h0 h2 h4 hx4 hx2 hB hxa
       go_upto_region 28 with (fail)
       clear hxt z0 v1 v2
       refine to_world (Pr:=fun z => z.heap[g4]? = some (.cells #[Value.int .u8 kd,.bool no,.int .u8 a,.int .u8 b,.string t] 56 (0,0)) ∧ z.heap[g2]? = some (.cells #[Value.int .u8 0,.bool false,.int .u8 0,.int .u8 0,.string (⟨#[]⟩ : ByteArray)] 56 (0,0)) ∧ Below w.heap.size w z) ⟨blk_alloc HX4.out _,blk_alloc HX2.out _,below_alloc HB.out _⟩ (fun W7 h7 => ?_)
       have HX7:=Aside0.mk h7.1
       have HY7:=Aside0.mk h7.2.1
       have HB7:=Aside0.mk h7.2.2
       have e0 : W7.cell? ⟨g4,0,none⟩ = some (.int .u8 kd):=(blk_cell HX7.out 0).trans rfl
       have e1 : W7.cell? ⟨g4,1,none⟩ = some (.bool no):=(blk_cell HX7.out 1).trans rfl
       have e2 : W7.cell? ⟨g4,2,none⟩ = some (.int .u8 a):=(blk_cell HX7.out 2).trans rfl
       have e3 : W7.cell? ⟨g4,3,none⟩ = some (.int .u8 b):=(blk_cell HX7.out 3).trans rfl
       have e4 : W7.cell? ⟨g4,4,none⟩ = some (.string t):=(blk_cell HX7.out 4).trans rfl
       clear h7 HX4 HX2 HB
       go_wp2
       refine start_ (n:=11) (S:=fun w' => w'.cell? ⟨g4,0,none⟩ = some (.int .u8 kd) ∧ w'.cell? ⟨g4,1,none⟩ = some (.bool no) ∧ w'.cell? ⟨g4,2,none⟩ = some (.int .u8 a) ∧ w'.cell? ⟨g4,3,none⟩ = some (.int .u8 b) ∧ w'.cell? ⟨g4,4,none⟩ = some (.string t)) (ds:=[9]) #[false,false,false,false,false,false,false,false,false,false,false] (by kernel_rfl) rfl rfl ⟨e0,e1,e2,e3,e4⟩ (fun hHeld => ?_)
       refine pure_ (i:=1) (N:=some 94) (v:=?_) (a':=?_) #[false,true,false,false,false,false,false,false,false,false,false] rfl rfl (by kernel_rfl) (fun _ _ _ h => h) (Or.inl ⟨by rfl,?_⟩) ?_ ?_
       rotate_left
       ·intro w'
        go_simp
        with_reducible rfl
       rotate_left
       ·simp only [Act.put,List.setIfInBounds_toArray,List.set_cons_zero,List.set_cons_succ,i64_w,i32_w]
        rfl
       refine pure_ (i:=2) (N:=some 95) (v:=?_) (a':=?_) #[false,true,true,false,false,false,false,false,false,false,false] rfl rfl (by kernel_rfl) (fun _ _ _ h => h) (Or.inl ⟨by rfl,?_⟩) ?_ ?_
       rotate_left
       ·intro w'
        go_simp
        with_reducible rfl
       rotate_left
       ·simp only [Act.put,List.setIfInBounds_toArray,List.set_cons_zero,List.set_cons_succ,i64_w,i32_w]
        rfl
       refine pure_ (i:=3) (N:=some 96) (v:=?_) (a':=?_) #[false,true,true,true,false,false,false,false,false,false,false] rfl rfl (by kernel_rfl) (fun _ _ _ h => h) (Or.inl ⟨by rfl,?_⟩) ?_ ?_
       rotate_left
       ·intro w'
        go_simp
        with_reducible rfl
       rotate_left
       ·simp only [Act.put,List.setIfInBounds_toArray,List.set_cons_zero,List.set_cons_succ,i64_w,i32_w]
        rfl
       refine pure_ (i:=4) (N:=some 97) (v:=?_) (a':=?_) #[false,true,true,true,true,false,false,false,false,false,false] rfl rfl (by kernel_rfl) (fun _ _ _ h => h) (Or.inl ⟨by rfl,?_⟩) ?_ ?_
       rotate_left
       ·intro w'
        go_simp
        with_reducible rfl
       rotate_left
       ·simp only [Act.put,List.setIfInBounds_toArray,List.set_cons_zero,List.set_cons_succ,i64_w,i32_w]
        rfl
       refine pure_ (i:=5) (N:=some 98) (v:=?_) (a':=?_) #[false,true,true,true,true,true,false,false,false,false,false] rfl rfl (by kernel_rfl) (fun _ _ _ h => h) (Or.inl ⟨by rfl,?_⟩) ?_ ?_
       rotate_left
       ·intro w'
        go_simp
        with_reducible rfl
       rotate_left
       ·simp only [Act.put,List.setIfInBounds_toArray,List.set_cons_zero,List.set_cons_succ,i64_w,i32_w]
        rfl
       refine take_ (i:=0) (N:=some 93) (v:=?_) (a':=?_) #[true,true,true,true,true,true,false,false,false,false,false] rfl rfl (by kernel_rfl) (fun _ _ _ h => h) (Or.inl ⟨by rfl,?_⟩) hHeld ?_ ?_
       rotate_left
       ·rintro w' ⟨s0,s1,s2,s3,s4⟩
        go_simp
        with_reducible rfl
       rotate_left
       ·simp only [Act.put,List.setIfInBounds_toArray,List.set_cons_zero,List.set_cons_succ,i64_w,i32_w]
        rfl
       refine take_ (i:=6) (N:=some 99) (v:=?_) (a':=?_) #[true,true,true,true,true,true,true,false,false,false,false] rfl rfl (by kernel_rfl) (fun _ _ _ h => h) (Or.inl ⟨by rfl,?_⟩) hHeld ?_ ?_
       rotate_left
       ·rintro w' ⟨s0,s1,s2,s3,s4⟩
        go_simp
        with_reducible rfl
       rotate_left
       ·simp only [Act.put,List.setIfInBounds_toArray,List.set_cons_zero,List.set_cons_succ,i64_w,i32_w]
        rfl
       refine one_ (i:=7) (N:=some 100) #[true,true,true,true,true,true,true,true,false,false,false] rfl rfl (by kernel_rfl) (by decide) (fun K hK => ?_)
       refine goes_ Tryz.func42 (by kernel_rfl) rfl #[.agg #[.int .u8 kd,.bool no,.int .u8 a,.int .u8 b,.string t]] (by rfl) rfl rfl (by simp only [List.map_toArray,List.map_cons,List.map_nil]; rfl) ?_
       with_reducible refine (HCl.out W7.drew).mono ?_
       rintro e W8 ⟨rfl,hb8⟩
       refine ⟨_,rfl,?_⟩
       have HB8:=Aside0.mk ((below_drew HB7.out).trans (hb8.mono HB7.out.size))
       have HX8:=Aside0.mk (blk_below (blk_drew HX7.out) hb8)
       have hy8:=blk_below (blk_drew HY7.out) hb8
       have HY8:=Aside0.mk hy8
       have z0:=(blk_cell hy8 0).trans rfl
       have z1:=(blk_cell hy8 1).trans rfl
       have z2:=(blk_cell hy8 2).trans rfl
       have z3:=(blk_cell hy8 3).trans rfl
       have z4:=(blk_cell hy8 4).trans rfl
       have y0:=blk_frozen hy8 0
       have y1:=blk_frozen hy8 1
       have y2:=blk_frozen hy8 2
       have y3:=blk_frozen hy8 3
       have y4:=blk_frozen hy8 4
       have f0:=cell_later (w:=W7.drew) hb8 e0
       have f1:=cell_later (w:=W7.drew) hb8 e1
       have f2:=cell_later (w:=W7.drew) hb8 e2
       have f3:=cell_later (w:=W7.drew) hb8 e3
       have f4:=cell_later (w:=W7.drew) hb8 e4
       clear hy8 hb8
       refine hK.out _ _ ⟨f0,f1,f2,f3,f4⟩ (fun hHeld => ?_)
       clear hK K
       refine norm_ (a':=?_) ?_ ?_
       rotate_left
       ·show Act.put _ (some 100) _ = _
        simp only [Act.put,List.setIfInBounds_toArray,List.set_cons_zero,List.set_cons_succ,i64_w,i32_w]
        rfl
       refine pure_ (i:=8) (N:=some 101) (v:=?_) (a':=?_) #[true,true,true,true,true,true,true,true,true,false,false] rfl rfl (by kernel_rfl) (fun _ _ _ h => h) (Or.inl ⟨by rfl,?_⟩) ?_ ?_
       rotate_left
       ·intro w'
        go_simp
        with_reducible rfl
       rotate_left
       ·simp only [Act.put,List.setIfInBounds_toArray,List.set_cons_zero,List.set_cons_succ,i64_w,i32_w]
        rfl
       refine last_ (i:=9) (N:=none) #[true,true,true,true,true,true,true,true,true,true,false] rfl rfl (by kernel_rfl) (by decide) (fun K hK => ?_)
       refine skip_ (w1:=?_) (by rfl) rfl ?_ ?_
       rotate_left
       ·go_simp
        rfl
       refine hK.out _ _ ?_
       clear hK K
       refine pure_ (i:=10) (N:=some 3) (v:=?_) (a':=?_) #[true,true,true,true,true,true,true,true,true,true,true] rfl rfl (by kernel_rfl) (fun _ _ _ h => h) (Or.inl ⟨by rfl,?_⟩) ?_ ?_
       rotate_left
       ·intro w'
        go_simp
        with_reducible rfl
       rotate_left
       ·simp only [Act.put,List.setIfInBounds_toArray,List.set_cons_zero,List.set_cons_succ,i64_w,i32_w]
        rfl
       refine done_ (by kernel_rfl) ?_
       clear e0 e1 e2 e3 e4 f0 f1 f2 f3 f4 z0 z1 z2 z3 z4 y0 y1 y2 y3 y4
       refine to_world (Pr:=fun z => z.heap[g2]? = some (.cells #[Value.int .u8 kd,.bool no,.int .u8 a,.int .u8 b,.string t] 56 (0,0)) ∧ Below w.heap.size w z) ⟨(set5 HY8.out HB8.out (Nat.le_of_eq HG2.out.symm) HX8.out (Ne.symm HG4.out)).1,(set5 HY8.out HB8.out (Nat.le_of_eq HG2.out.symm) HX8.out (Ne.symm HG4.out)).2.2⟩ (fun W9 h9 => ?_)
       have c0 : W9.cell? ⟨g2,0,none⟩ = some (.int .u8 kd):=(blk_cell h9.1 0).trans rfl
       have c1 : W9.cell? ⟨g2,1,none⟩ = some (.bool no):=(blk_cell h9.1 1).trans rfl
       have c2 : W9.cell? ⟨g2,2,none⟩ = some (.int .u8 a):=(blk_cell h9.1 2).trans rfl
       have c3 : W9.cell? ⟨g2,3,none⟩ = some (.int .u8 b):=(blk_cell h9.1 3).trans rfl
       have c4 : W9.cell? ⟨g2,4,none⟩ = some (.string t):=(blk_cell h9.1 4).trans rfl
       have HB9:=Aside0.mk h9.2
       clear h9
       go_wp2
       refine bodyPost_ret (v:=.tuple #[.agg #[.int .u8 kd,.bool no,.int .u8 a,.int .u8 b,.string t],.bool true]) ?_ rfl ⟨rfl,HB9.out⟩
       simp [results,Tryz.results50,go_sem,c0,c1,c2,c3,c4]
end Go.Proofs.YtplbifmjnanceaaGreatDoor
