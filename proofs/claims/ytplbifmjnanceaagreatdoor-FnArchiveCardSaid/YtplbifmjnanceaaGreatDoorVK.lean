/- FindSource and projectRight. -/
import Derived.Test.YtplbifmjnanceaaGreatDoorVJ
import Derived.Test.YtplbifmjnanceaaGreatDoorVD
import Derived.Test.YtplbifmjnanceaaGreatDoorVF
section
namespace Go.Proofs.YtplbifmjnanceaaGreatDoor
open Go.RowKit Go.Proofs.YtplbifmjnanceaaGreatDoorW.PrintWords Go.Proofs.YtplbifmjnanceaaGreatDoorW.PrintLast Go.Proofs.YtplbifmjnanceaaGreatDoorW.PrintMore
open Go.Proofs.YtplbifmjnanceaaGreatDoor.PFnArchive
set_option linter.unusedVariables false
set_option linter.unusedSimpArgs false
theorem compare_calls (w : World) (a b : ByteArray) :
  Calls Tryz.prog 36 #[.string a,.string b] w fun e w' => (∃ n : Int,e = .returned (.int .i64 n)) ∧ Below w.heap.size w w':=by
 go_enter Tryz.func36,Tryz.ntmps36
 go_wp2
 all_goals (go_ret; exact ⟨⟨_,rfl⟩,Below.refl _ _⟩)
theorem find1_calls (w : World) (x : S35) (b : ByteArray) :
  Calls Tryz.prog 35 #[.agg #[.string x.f0,.string x.f1],.string b] w fun e w' => (∃ n : Int,e = .returned (.int .i64 n)) ∧ Below w.heap.size w w':=by
 go_enter Tryz.func35,Tryz.ntmps35
 go_wp2_with (first | ((with_reducible refine gate_dst (N:=2) rfl ?_); refine box_event ?hg (N:=2) ?hd (cs:=#[.string x.f0,.string x.f1]) (t:=35) ?hr ?_; (case hd => rfl); (case hg => rfl); (case hr => first | (go_simp; done) | (go_simp; rfl)); intro g hg w1 hbx hb; have HB1:=Aside0.mk hb; have c0:=(blk_cell hbx 0).trans rfl; clear hbx hb hg))
 refine (compare_calls _ x.f0 b).mono ?_
 rintro e w' ⟨⟨n,rfl⟩,hb⟩
 go_wp2
 go_ret
 exact ⟨⟨_,rfl⟩,HB1.out.trans (hb.mono HB1.out.size)⟩
set_option maxRecDepth 100000 in
theorem lit49 (u : Nat → Value) : FrOf 49 u = [u 0,u 1,u 2,u 3,u 4,u 5,u 6,u 7,u 8,u 9,u 10,u 11,u 12,u 13,u 14,u 15,u 16,u 17,u 18,u 19,u 20,u 21,u 22,u 23,u 24,u 25,u 26,u 27,u 28,u 29,u 30,u 31,u 32,u 33,u 34,u 35,u 36,u 37,u 38,u 39,u 40,u 41,u 42,u 43,u 44,u 45,u 46,u 47,u 48]:=rfl
set_option maxHeartbeats 2000000 in
set_option maxRecDepth 100000 in
theorem bsearch_calls (w : World) (A : Option Addr) (c : Nat) (L : List S35) (b : ByteArray) (hC : Kd.C k35 w A L.length L) (hc : L.length ≤ c) (hL : L.length ≤ 4294967295) :
  Calls Tryz.prog 34 #[.slice A L.length c,.string b,.func (.func 35) #[] #[]] w fun e w' => (∃ (n : Int) (r : Bool),e = .returned (.tuple #[.int .i64 n,.bool r])) ∧ Below w.heap.size w w':=by
 have HC:=Aside0.mk hC
 clear hC
 obtain ⟨n,hn⟩ : ∃ z,z = L.length:=⟨_,rfl⟩
 rw [← hn] at hc hL ⊢
 have HN:=Aside0.mk hn
 clear hn
 go_enter Tryz.func34,Tryz.ntmps34
 go_upto_block 0 with (fail)
 refine cutU 49 (fun u wc => ∃ i : Nat,i ≤ n ∧ u 0 = .slice A n c ∧ u 1 = .string b ∧ u 2 = .func (.func 35) #[] #[] ∧ u 8 = .int .i64 n ∧ u 9 = .int .i64 i ∧ Below w.heap.size w wc) ?rest ?first
 case rest =>
  rintro u W ⟨i,hi,h0,h1,h2,h8,h9,hB⟩
  rw [lit49]
  simp only [h0,h1,h2,h8,h9]
  have HB:=Aside0.mk hB
  clear h0 h1 h2 h8 h9 hB
  by_cases ci : i < n
  ·obtain ⟨ad,hA,b0,b1⟩:=at_T35 (Kd.C_below HC.out HB.out) (i : Int) (by omega) (by have:=HN.out; omega)
   subst hA
   rw [Int.toNat_natCast] at b0 b1
   have u1 : (i : Int) < (n : Int):=by omega
   have u3 : (0 : Int) ≤ (i : Int):=by omega
   generalize rd_T35 L (i : Int) = x at b0 b1
   go_wp2_with fail
   refine (find1_calls W x b).mono ?_
   rintro e w1 ⟨⟨m,rfl⟩,hb1⟩
   go_wp2
   refine bodyPost_ret (v:=.tuple #[.int .i64 i,.bool (m == 0)]) ?_ rfl ⟨⟨_,_,rfl⟩,HB.out.trans (hb1.mono HB.out.size)⟩
   simp [results,Tryz.results34,go_sem]
  ·have u1 : decide ((i : Int) < (n : Int)) = false:=decide_eq_false (by omega)
   go_wp2
   refine bodyPost_ret (v:=.tuple #[.int .i64 i,.bool false]) ?_ rfl ⟨⟨_,_,rfl⟩,HB.out⟩
   simp [results,Tryz.results34,go_sem]
 case first =>
  intro J K hJ hK
  go_wp2
  refine loopG 49 (fun g u wc => ∃ i j : Nat,g = j - i ∧ i ≤ j ∧ j ≤ n ∧ u 0 = .slice A n c ∧ u 1 = .string b ∧ u 2 = .func (.func 35) #[] #[] ∧ u 8 = .int .i64 n ∧ u 9 = .int .i64 i ∧ u 10 = .int .i64 j ∧ Below w.heap.size w wc) n rfl ?atStart ?round
  case atStart => exact ⟨0,n,rfl,Nat.zero_le _,Nat.le_refl _,rfl,rfl,rfl,rfl,rfl,rfl,Below.refl _ _⟩
  case round =>
   rintro g u W ⟨i,j,hg,hij,hj,h0,h1,h2,h8,h9,h10,hB⟩ J2 K2 hJ2 hK2
   rw [lit49]
   simp only [h0,h1,h2,h8,h9,h10]
   have HB:=Aside0.mk hB
   clear h0 h1 h2 h8 h9 h10 hB
   by_cases ci : i < j
   ·have u1 : (i : Int) < (j : Int):=by omega
    have u3 : (0 : Int) ≤ ((i : Int) + (j : Int)) / 2:=by omega
    have u4 : ((i : Int) + (j : Int)) / 2 < (n : Int):=by omega
    have u5 : IntKind.i64.wrap (((i : Int) + (j : Int)) / 2 + 1) = ((i : Int) + (j : Int)) / 2 + 1:=by rw [IntKind.wrap_i64]; omega
    obtain ⟨ad,hA,b0,b1⟩:=at_T35 (Kd.C_below HC.out HB.out) (((i : Int) + (j : Int)) / 2) u3 (by have:=HN.out; omega)
    subst hA
    rw [show (((i : Int) + (j : Int)) / 2).toNat = (i + j) / 2 by omega] at b0 b1
    generalize rd_T35 L (((i : Int) + (j : Int)) / 2) = x at b0 b1
    obtain ⟨h,hh⟩ : ∃ h : Nat,h = (i + j) / 2:=⟨_,rfl⟩
    go_wp2_with fail
    refine (find1_calls W x b).mono ?_
    rintro e w1 ⟨⟨m,rfl⟩,hb1⟩
    have HB1:=Aside0.mk (HB.out.trans (hb1.mono HB.out.size))
    clear hb1 b0 b1
    by_cases cm : m < 0
    ·go_wp2
     exact Met.intro (hJ2 (j - (h + 1)) _ _ rfl (by omega) ⟨h + 1,j,rfl,by omega,hj,rfl,rfl,rfl,rfl,congrArg (Value.int .i64) (show ((i : Int) + (j : Int)) / 2 + 1 = ((h + 1 : Nat) : Int) by omega),rfl,HB1.out⟩)
    ·have u6 : decide (m < 0) = false:=decide_eq_false cm
     go_wp2
     exact Met.intro (hJ2 (h - i) _ _ rfl (by omega) ⟨i,h,rfl,by omega,by omega,rfl,rfl,rfl,rfl,rfl,congrArg (Value.int .i64) (show ((i : Int) + (j : Int)) / 2 = (h : Int) by omega),HB1.out⟩)
   ·have u1 : decide ((i : Int) < (j : Int)) = false:=decide_eq_false (by omega)
    go_wp2
    exact Met.intro (hJ _ _ rfl ⟨i,by omega,rfl,rfl,rfl,rfl,rfl,HB.out⟩)
theorem FindSource_calls (w : World) (A : Option Addr) (c : Nat) (L : List S35) (A2 : Option Addr) (n2 c2 : Nat) (b : ByteArray) (hC : Kd.C k35 w A L.length L) (hc : L.length ≤ c) (hL : L.length ≤ 4294967295) :
  Calls Tryz.prog 17 #[.agg #[.slice A L.length c,.slice A2 n2 c2],.string b] w fun e w' => (∃ (n : Int) (r : Bool),e = .returned (.tuple #[.int .i64 n,.bool r])) ∧ Below w.heap.size w w':=by
 have HP:=Aside0.mk (fun W (hW : Below w.heap.size w W) => bsearch_calls W A c L b (Kd.C_below hC hW) hc hL)
 clear hC hc hL
 obtain ⟨n,hn⟩ : ∃ z,z = L.length:=⟨_,rfl⟩
 rw [← hn] at HP ⊢
 clear hn
 go_enter Tryz.func17,Tryz.ntmps17
 go_wp2_with (first | ((with_reducible refine gate_dst (N:=2) rfl ?_); refine box_event ?hg (N:=2) ?hd (cs:=#[.slice A n c,.slice A2 n2 c2]) (t:=25) ?hr ?_; (case hd => rfl); (case hg => rfl); (case hr => first | (go_simp; done) | (go_simp; rfl)); intro g hg w1 hbx hb; have HB1:=Aside0.mk hb; have c0:=(blk_cell hbx 0).trans rfl; clear hbx hb hg))
 refine (HP.out _ HB1.out).mono ?_
 rintro e w' ⟨⟨m,r,rfl⟩,hb⟩
 go_wp2
 refine bodyPost_ret (v:=.tuple #[.int .i64 m,.bool r]) ?_ rfl ⟨⟨_,_,rfl⟩,HB1.out.trans (hb.mono HB1.out.size)⟩
 simp [results,Tryz.results17,go_sem]
end Go.Proofs.YtplbifmjnanceaaGreatDoor
end
section
namespace Go.Proofs.YtplbifmjnanceaaGreatDoor
open Go.RowKit Go.Proofs.YtplbifmjnanceaaGreatDoorW.PrintWords Go.Proofs.YtplbifmjnanceaaGreatDoorW.PrintLast Go.Proofs.YtplbifmjnanceaaGreatDoorW.PrintMore
open Go.Proofs.YtplbifmjnanceaaGreatDoor.PFnArchive
set_option linter.unusedVariables false
set_option linter.unusedSimpArgs false
set_option maxRecDepth 100000 in
theorem lit75 (u : Nat → Value) : FrOf 75 u = [u 0,u 1,u 2,u 3,u 4,u 5,u 6,u 7,u 8,u 9,u 10,u 11,u 12,u 13,u 14,u 15,u 16,u 17,u 18,u 19,u 20,u 21,u 22,u 23,u 24,u 25,u 26,u 27,u 28,u 29,u 30,u 31,u 32,u 33,u 34,u 35,u 36,u 37,u 38,u 39,u 40,u 41,u 42,u 43,u 44,u 45,u 46,u 47,u 48,u 49,u 50,u 51,u 52,u 53,u 54,u 55,u 56,u 57,u 58,u 59,u 60,u 61,u 62,u 63,u 64,u 65,u 66,u 67,u 68,u 69,u 70,u 71,u 72,u 73,u 74]:=rfl
theorem alloc_size (w : World) (o : Obj) : (w.alloc o).heap.size = w.heap.size + 1:=by
 show (w.heap.push o).size = _
 rw [Array.size_push]
theorem to_world {G : World → Prop} {W' : World} {Pr : World → Prop} (hP : Pr W') (h : ∀ z,Pr z → G z) : G W':=h _ hP
def fileOk (nm dt : ByteArray → Bool) (x : S35) : Prop:=nm x.f0 = true ∧ dt x.f1 = true
set_option maxHeartbeats 4000000 in
set_option maxRecDepth 100000 in
theorem right_calls (w : World) (nm pat dt wd : ByteArray → Bool) (V : Tests nm pat dt wd) (A1 A2 : Option Addr) (c1 c2 : Nat) (L1 : List S35) (L2 : List S31)
  (h1 : Kd.C k35 w A1 L1.length L1) (hc1 : L1.length ≤ c1) (h2 : Kd.C k31 w A2 L2.length L2) (hc2 : L2.length ≤ c2) (f1 : L1.length ≤ 2147483647 ∧ ∀ x ∈ L1,FitsF x) (f2 : L2.length ≤ 2147483647 ∧ ∀ x ∈ L2,FitsR x) :
  Calls Tryz.prog 5 #[.agg #[.slice A1 L1.length c1,.slice A2 L2.length c2]] w fun e w' => (∃ r : Bool,e = .returned (.bool r) ∧ (r = true → (∀ x ∈ L1,fileOk nm dt x) ∧ (∀ x ∈ L2,cleanR nm pat wd x = true) ∧ L1.length ≤ 12 ∧ L2.length ≤ 8)) ∧ Below w.heap.size w w':=by
 have H1:=Aside0.mk h1
 have H2:=Aside0.mk h2
 have HV:=Aside0.mk V
 have HF1:=Aside0.mk f1.2
 have HF2:=Aside0.mk f2.2
 have HFS:=Aside0.mk (fun W (hW : Below w.heap.size w W) (b : ByteArray) => FindSource_calls W A1 c1 L1 A2 L2.length c2 b (Kd.C_below h1 hW) hc1 (by omega))
 obtain ⟨f1,_⟩:=f1
 obtain ⟨f2,_⟩:=f2
 obtain ⟨n1,hn1⟩ : ∃ z,z = L1.length:=⟨_,rfl⟩
 obtain ⟨n2,hn2⟩ : ∃ z,z = L2.length:=⟨_,rfl⟩
 rw [← hn1,← hn2] at HFS
 rw [← hn1] at hc1 f1
 rw [← hn2] at hc2 f2
 rw [← hn1,← hn2]
 have HN1:=Aside0.mk hn1
 have HN2:=Aside0.mk hn2
 clear h1 h2 V hn1 hn2
 go_enter Tryz.func5,Tryz.ntmps5
 go_upto_block 0 with (first | ((with_reducible refine gate_dst (N:=1) rfl ?_); refine box_event ?hg (N:=1) ?hd (cs:=#[.slice A1 n1 c1,.slice A2 n2 c2]) (t:=25) ?hr ?_; (case hd => rfl); (case hg => rfl); (case hr => first | (go_simp; done) | (go_simp; rfl)); intro g hg w1 hbx hb; have HX:=Aside0.mk hbx; have HB1:=Aside0.mk hb; have e0:=(blk_cell hbx 0).trans rfl; have e1:=(blk_cell hbx 1).trans rfl; clear hbx hb hg))
 refine cutU 75 (fun u wc => u 1 = .pointer (some ⟨g,0,none⟩) ∧ (∀ x ∈ L1,fileOk nm dt x) ∧ Below w1.heap.size w1 wc) ?rest ?first
 case rest =>
  rintro u W0 ⟨h1,hok,hB⟩
  rw [lit75]
  simp only [h1]
  have HOkF:=Aside0.mk hok
  have HBa:=Aside0.mk hB
  have hx:=blk_below HX.out hB
  have HXa:=Aside0.mk hx
  have d0:=(blk_cell hx 0).trans rfl
  have d1:=(blk_cell hx 1).trans rfl
  clear h1 hok hB hx e0 e1
  go_upto_block 2 with (fail)
  clear d0 d1
  refine cutU 75 (fun u wc => u 1 = .pointer (some ⟨g,0,none⟩) ∧ (∀ x ∈ L2,cleanR nm pat wd x = true) ∧ Below w1.heap.size w1 wc) ?rest2 ?first2
  case rest2 =>
   rintro u W ⟨h1,hok,hB⟩
   rw [lit75]
   simp only [h1]
   have HOkR:=Aside0.mk hok
   have hx:=blk_below HX.out hB
   have d0:=(blk_cell hx 0).trans rfl
   have d1:=(blk_cell hx 1).trans rfl
   have HB:=Aside0.mk (HB1.out.trans (hB.mono HB1.out.size))
   clear h1 hok hB hx
   by_cases l1 : n1 ≤ 12
   ·have y1 : (n1 : Int) ≤ 12:=by omega
    go_wp2
    go_ret
    refine ⟨⟨_,rfl,fun h => ⟨HOkF.out,HOkR.out,l1,?_⟩⟩,HB.out⟩
    have:=of_decide_eq_true h
    omega
   ·have y1 : decide ((n1 : Int) ≤ 12) = false:=decide_eq_false (by omega)
    have y2 : 12 < n1:=by omega
    go_wp2
    go_ret
    exact ⟨⟨_,rfl,fun h => by cases h⟩,HB.out⟩
  case first2 =>
   intro J K hJ hK
   go_wp2
   refine loopG 75 (fun gh u wc => ∃ (i : Nat) (last : ByteArray),gh = n2 - i ∧ i ≤ n2 ∧ u 1 = .pointer (some ⟨g,0,none⟩) ∧ u 3 = .string last ∧ u 37 = .slice A2 n2 c2 ∧ u 38 = .int .i64 n2 ∧ u 39 = .int .i64 i ∧ (∀ x ∈ L2.take i,cleanR nm pat wd x = true) ∧ Below w1.heap.size w1 wc) n2 rfl ?atStart2 ?round2
   case atStart2 => exact ⟨0,_,rfl,Nat.zero_le _,rfl,rfl,rfl,rfl,rfl,fun x hx => by simp at hx,HBa.out⟩
   case round2 =>
    rintro gh u W ⟨i,last,hgh,hi,h1,h3,h37,h38,h39,hok,hB⟩ J2 K2 hJ2 hK2
    rw [lit75]
    simp only [h1,h3,h37,h38,h39]
    have HB:=Aside0.mk hB
    have HOk:=Aside0.mk hok
    clear h1 h3 h37 h38 h39 hB hok
    by_cases ci : i < n2
    ·obtain ⟨x,hx⟩ : ∃ x,L2[i]? = some x:=⟨L2[i]'(by have:=HN2.out; omega),List.getElem?_eq_getElem (by have:=HN2.out; omega)⟩
     obtain ⟨ad,B1,k1,B4,k4,hA,b0,b1,b2,b3,b4,l1,g1,l4,g4⟩:=at_T31 (Kd.C_below H2.out (HB1.out.trans (HB.out.mono HB1.out.size))) (i : Int) (by omega) (by have:=HN2.out; omega)
     subst hA
     rw [rd31 hx,Int.toNat_natCast] at b0 b1 b2 b3 b4
     rw [rd31 hx] at l1 g1 l4 g4
     have Hx:=Aside0.mk hx
     have HCl:=Aside0.mk (fun W2 (hW2 : Below W.heap.size W W2) => Clean_calls W2 nm pat dt wd HV.out x B1 k1 B4 k4 (HF2.out x (List.mem_of_getElem? hx)) (Kd.C_below g1 hW2) l1 (Kd.C_below g4 hW2) l4)
     obtain ⟨q,hq⟩ : ∃ z,z = cleanR nm pat wd x:=⟨_,rfl⟩
     rw [← hq] at HCl
     have HQ:=Aside0.mk hq
     obtain ⟨tg,M1,op,ag,M4⟩:=x
     simp only at *
     obtain ⟨m1,hm1⟩ : ∃ z,z = M1.length:=⟨_,rfl⟩
     obtain ⟨m4,hm4⟩ : ∃ z,z = M4.length:=⟨_,rfl⟩
     rw [← hm1] at HCl b1
     rw [← hm4] at HCl b4
     have u1 : (i : Int) < (n2 : Int):=by omega
     have u2 : IntKind.i64.wrap ((i : Int) + 1) = (i : Int) + 1:=by rw [IntKind.wrap_i64]; omega
     have u3 : (0 : Int) ≤ (i : Int):=by omega
     obtain ⟨o,ho⟩ : ∃ z,z = Obj.cells #[Value.string tg,.slice B1 m1 k1,.int .u8 op,.string ag,.slice B4 m4 k4] 31:=⟨_,rfl⟩
     have hx:=blk_alloc (blk_below HX.out HB.out) o
     have hy:=blk_new W o
     have HB3:=Aside0.mk (below_alloc (Below.refl W.heap.size W) o)
     rw [ho] at hx hy HB3
     have HX3:=Aside0.mk hx
     have HY3:=Aside0.mk hy
     have d0:=(blk_cell hx 0).trans rfl
     have d1:=(blk_cell hx 1).trans rfl
     clear hx hy hq hm1 hm4 g1 g4 l1 l4 ho o
     go_wp2_with fail
     refine (HFS.out _ (HB1.out.trans ((HB.out.trans (HB3.out.mono HB.out.size)).mono HB1.out.size)) tg).mono ?_
     rintro e w4 ⟨⟨ix,fb,rfl⟩,hb4⟩
     have HX4:=Aside0.mk (blk_below HX3.out hb4)
     have hy4:=blk_below HY3.out hb4
     have HY4:=Aside0.mk hy4
     have HB4:=Aside0.mk (HB3.out.trans (hb4.mono HB3.out.size))
     clear hb4 HX3 HY3 HB3 d0 d1 b0 b1 b2 b3 b4
     have d0:=(blk_cell hy4 0).trans rfl
     have d1:=(blk_cell hy4 1).trans rfl
     have d2:=(blk_cell hy4 2).trans rfl
     have d3:=(blk_cell hy4 3).trans rfl
     have d4:=(blk_cell hy4 4).trans rfl
     clear hy4
     go_wp2_with fail
     refine (HCl.out _ HB4.out).mono ?_
     rintro e w5 ⟨rfl,hb5⟩
     have hy5:=blk_below HY4.out hb5
     have HB5:=Aside0.mk (HB.out.trans ((HB4.out.trans (hb5.mono HB4.out.size)).mono HB.out.size))
     clear d0 d1 d2 d3 d4 hb5 HY4
     have d0:=(blk_cell hy5 0).trans rfl
     clear hy5
     cases q with
     | false =>
      go_wp2
      go_ret
      exact ⟨⟨_,rfl,fun h => by cases h⟩,HB1.out.trans (HB5.out.mono HB1.out.size)⟩
     | true =>
      cases cl : Op.bytesLess tg.toList last.toList with
      | true =>
       go_wp2
       go_ret
       exact ⟨⟨_,rfl,fun h => by cases h⟩,HB1.out.trans (HB5.out.mono HB1.out.size)⟩
      | false =>
       cases cm : (tg.toList == last.toList) with
       | true =>
        have cm2 : tg.toList = last.toList:=beq_iff_eq.1 cm
        go_wp2
        go_ret
        exact ⟨⟨_,rfl,fun h => by cases h⟩,HB1.out.trans (HB5.out.mono HB1.out.size)⟩
       | false =>
        have cm2 : ¬ tg.toList = last.toList:=beq_eq_false_iff_ne.1 cm
        cases fb with
        | true =>
         go_wp2
         go_ret
         exact ⟨⟨_,rfl,fun h => by cases h⟩,HB1.out.trans (HB5.out.mono HB1.out.size)⟩
        | false =>
         go_wp2
         refine Met.intro (hJ2 (n2 - (i + 1)) _ _ rfl (by omega) ⟨i + 1,tg,rfl,ci,rfl,rfl,rfl,rfl,rfl,?_,HB5.out⟩)
         intro y hy
         rw [List.take_add_one,Hx.out] at hy
         rcases List.mem_append.1 hy with h | h
         ·exact HOk.out y h
         ·rw [List.mem_singleton.1 h]
          exact HQ.out.symm
    ·have u1 : decide ((i : Int) < (n2 : Int)) = false:=decide_eq_false (by omega)
     go_wp2
     refine Met.intro (hJ _ _ rfl ⟨rfl,?_,HB.out⟩)
     have h:=HOk.out
     rwa [List.take_of_length_le (by have:=HN2.out; omega)] at h
 case first =>
  intro J K hJ hK
  go_wp2
  refine loopG 75 (fun gh u wc => ∃ (i : Nat) (last : ByteArray),gh = n1 - i ∧ i ≤ n1 ∧ u 1 = .pointer (some ⟨g,0,none⟩) ∧ u 3 = .string last ∧ u 11 = .slice A1 n1 c1 ∧ u 12 = .int .i64 n1 ∧ u 13 = .int .i64 i ∧ (∀ x ∈ L1.take i,fileOk nm dt x) ∧ Below w1.heap.size w1 wc) n1 rfl ?atStart ?round
  case atStart => exact ⟨0,_,rfl,Nat.zero_le _,rfl,rfl,rfl,rfl,rfl,fun x hx => by simp at hx,Below.refl _ _⟩
  case round =>
   rintro gh u W ⟨i,last,hgh,hi,h1,h3,h11,h12,h13,hok,hB⟩ J2 K2 hJ2 hK2
   rw [lit75]
   simp only [h1,h3,h11,h12,h13]
   have HB:=Aside0.mk hB
   have HOk:=Aside0.mk hok
   clear h1 h3 h11 h12 h13 hB hok
   by_cases ci : i < n1
   ·obtain ⟨x,hx⟩ : ∃ x,L1[i]? = some x:=⟨L1[i]'(by have:=HN1.out; omega),List.getElem?_eq_getElem (by have:=HN1.out; omega)⟩
    obtain ⟨ad,hA,b0,b1⟩:=at_T35 (Kd.C_below H1.out (HB1.out.trans (HB.out.mono HB1.out.size))) (i : Int) (by omega) (by have:=HN1.out; omega)
    subst hA
    rw [rd35 hx,Int.toNat_natCast] at b0 b1
    have Hx:=Aside0.mk hx
    have hm:=List.mem_of_getElem? hx
    obtain ⟨kn,hkn⟩:=HV.out.nmV x.f0 (HF1.out x hm).1
    obtain ⟨kd,hkd⟩:=HV.out.dtV x.f1 (HF1.out x hm).2
    obtain ⟨q0,hq0⟩ : ∃ z,z = nm x.f0:=⟨_,rfl⟩
    obtain ⟨q1,hq1⟩ : ∃ z,z = dt x.f1:=⟨_,rfl⟩
    rw [← hq0] at hkn
    rw [← hq1] at hkd
    have HQ0:=Aside0.mk hq0
    have HQ1:=Aside0.mk hq1
    have HKn:=Aside0.mk (fun W => spec_IsName.calls kn x.f0 q0 W hkn)
    have HKd:=Aside0.mk (fun W => spec_IsData.calls kd x.f1 q1 W hkd)
    have u1 : (i : Int) < (n1 : Int):=by omega
    have u2 : IntKind.i64.wrap ((i : Int) + 1) = (i : Int) + 1:=by rw [IntKind.wrap_i64]; omega
    have u3 : (0 : Int) ≤ (i : Int):=by omega
    clear hx hm hkn hkd hq0 hq1
    go_wp2_with fail
    refine (HKn.out _).mono ?_
    rintro e w5 ⟨rfl,hb5⟩
    have hx5:=blk_below (blk_new W (.cells #[Value.string x.f0,Value.string x.f1] 35)) hb5
    have HB5:=Aside0.mk (HB.out.trans ((below_alloc (Below.refl W.heap.size W) (.cells #[Value.string x.f0,Value.string x.f1] 35)).trans (hb5.mono (by rw [alloc_size]; omega)) |>.mono HB.out.size))
    have HX5:=Aside0.mk hx5
    have d0:=(blk_cell hx5 0).trans rfl
    have d1:=(blk_cell hx5 1).trans rfl
    clear hb5 hx5 b0 b1
    generalize W.heap.size = g5 at *
    cases q0 with
    | false =>
     go_wp2
     go_ret
     exact ⟨⟨_,rfl,fun h => by cases h⟩,HB1.out.trans (HB5.out.mono HB1.out.size)⟩
    | true =>
     cases cl : Op.bytesLess x.f0.toList last.toList with
     | true =>
      go_wp2
      go_ret
      exact ⟨⟨_,rfl,fun h => by cases h⟩,HB1.out.trans (HB5.out.mono HB1.out.size)⟩
     | false =>
      cases cm : (x.f0.toList == last.toList) with
      | true =>
       have cm2 : x.f0.toList = last.toList:=beq_iff_eq.1 cm
       go_wp2
       go_ret
       exact ⟨⟨_,rfl,fun h => by cases h⟩,HB1.out.trans (HB5.out.mono HB1.out.size)⟩
      | false =>
       have cm2 : ¬ x.f0.toList = last.toList:=beq_eq_false_iff_ne.1 cm
       go_wp2_with fail
       refine (HKd.out _).mono ?_
       rintro e w6 ⟨rfl,hb6⟩
       have HB6:=Aside0.mk (HB5.out.trans (hb6.below.mono HB5.out.size))
       have hx6:=blk_below HX5.out hb6.below
       clear d0 d1
       have d0:=(blk_cell hx6 0).trans rfl
       clear hx6 hb6
       cases q1 with
       | false =>
        go_wp2
        go_ret
        exact ⟨⟨_,rfl,fun h => by cases h⟩,HB1.out.trans (HB6.out.mono HB1.out.size)⟩
       | true =>
        go_wp2
        refine Met.intro (hJ2 (n1 - (i + 1)) _ _ rfl (by omega) ⟨i + 1,x.f0,rfl,ci,rfl,rfl,rfl,rfl,rfl,?_,HB6.out⟩)
        intro y hy
        rw [List.take_add_one,Hx.out] at hy
        rcases List.mem_append.1 hy with h | h
        ·exact HOk.out y h
        ·rw [List.mem_singleton.1 h]
         exact ⟨HQ0.out.symm,HQ1.out.symm⟩
   ·have u1 : decide ((i : Int) < (n1 : Int)) = false:=decide_eq_false (by omega)
    go_wp2
    refine Met.intro (hJ _ _ rfl ⟨rfl,?_,HB.out⟩)
    have h:=HOk.out
    rwa [List.take_of_length_le (by have:=HN1.out; omega)] at h
end Go.Proofs.YtplbifmjnanceaaGreatDoor
end
section
namespace Go.Proofs.YtplbifmjnanceaaGreatDoor.PFnArchive
open Go.RowKit Go.Proofs.YtplbifmjnanceaaGreatDoorW.PrintWords Go.Proofs.YtplbifmjnanceaaGreatDoorW.PrintLast Go.Proofs.YtplbifmjnanceaaGreatDoorW.PrintMore
attribute [local go_sem] max2_int min2_int max_two min_two max_three min_three max_four min_four
set_option linter.unusedVariables false
set_option linter.unusedSimpArgs false
def spec_place.l0 : Nat → ByteArray → List ByteArray → Int → Int → Option (Int)
 | 0,_,_,_,_ => none
 | k + 1,x0,x5,x6,x7 => if x7 < x6 then (if 0 ≤ x7 then (if x7 < (x5.length : Int) then (if (rdOf ByteArray.empty x5 x7).toList = x0.toList then (some x7) else (spec_place.l0 k x0 x5 x6 (wrap64 (x7 + 1)))) else (none)) else (none)) else (some (-1))
def spec_place.f (k : Nat) (a0 : ByteArray) : Option (Int):=(spec_Places.f).bind fun t277 => (spec_place.l0 k a0 t277 (t277.length : Int) 0)
theorem spec_place.mono_l : ∀ k,(∀ y0 y1 y2 y3,LeO (spec_place.l0 k y0 y1 y2 y3) (spec_place.l0 (k + 1) y0 y1 y2 y3))
 | 0 => fun _ _ _ _ r h => by simp [spec_place.l0] at h
 | k + 1 => by
  have ih0:=spec_place.mono_l k
  ·intro y0 y1 y2 y3
   unfold spec_place.l0
   repeat' first
   | (with_reducible exact ih0 _ _ _ _)
   | (with_reducible exact LeO.refl _)
   | (with_reducible exact LeO.none _)
   | (with_reducible refine LeO.ite ?_ ?_)
   | (with_reducible refine LeO.bind ?_ (fun _ => ?_))
   | exact ih0 _ _ _ _
   | exact LeO.none _
   | refine LeO.ite ?_ ?_
   | refine LeO.bind ?_ (fun _ => ?_)
theorem spec_place.mono : ∀ a0 k,LeO (spec_place.f k a0) (spec_place.f (k + 1) a0):=by
 intro a0 k
 have ih0:=spec_place.mono_l k
 unfold spec_place.f
 repeat' first
   | (with_reducible exact ih0 _ _ _ _)
   | (with_reducible exact LeO.refl _)
   | (with_reducible exact LeO.none _)
   | (with_reducible refine LeO.ite ?_ ?_)
   | (with_reducible refine LeO.bind ?_ (fun _ => ?_))
   | exact ih0 _ _ _ _
   | exact LeO.none _
   | refine LeO.ite ?_ ?_
   | refine LeO.bind ?_ (fun _ => ?_)
set_option maxHeartbeats 8000000 in
set_option maxRecDepth 100000 in
theorem spec_place.calls (k : Nat) (a0 : ByteArray) (r : Int) (w : World) (h : spec_place.f k a0 = some r) :
  Calls Tryz.prog 69 #[.string a0] w fun e w' => e = .returned (.int .i64 r) ∧ Below w.heap.size w w':=by
 have HB:=Aside0.mk (Below.refl w.heap.size w)
 have H : ((spec_Places.f).bind fun t277 => (spec_place.l0 k a0 t277 (t277.length : Int) 0)) = some r:=h
 clear h
 replace H:=Option.bind_eq_some_iff.mp H
 obtain ⟨t277,A20,H⟩:=H
 replace H : (spec_place.l0 k a0 t277 (t277.length : Int) 0) = some r:=H
 have A2:=Aside0.mk A20
 clear A20
 have H':=Aside0.mk H
 clear H
 go_enter Tryz.func69,Tryz.ntmps69
 go_wp2_with (first | ((with_reducible refine gate_callee (f:=46) rfl ?_); refine goesL_ (some 5) rfl rfl Tryz.func46 (by kernel_rfl) rfl #[] rfl (by (try simp only [List.map_toArray,List.map_cons,List.map_nil]); first | done | rfl | (simp only [List.length_drop,List.length_take]; rfl)) ?_; (with_reducible refine (spec_Places.calls  t277 _ A2.out).mono ?_); rintro e w3 ⟨v278,rfl,ho0,hb⟩; refine ⟨_,rfl,?_⟩; have n0_:=Aside0.mk (Kd.R_lower ho0 (below_size (by repeat (first | (with_reducible first | exact HB.out | apply below_alloc | apply pw_below_drewN | apply below_drew1) | exact HB.out)))); have n1_:=Aside0.mk (below_step (by repeat (first | (with_reducible first | exact HB.out | apply below_alloc | apply pw_below_drewN | apply below_drew1) | exact HB.out)) hb); clear HB; have HO279:=n0_; have HB:=n1_; clear n0_ n1_; (try clear hb); (try clear hb2); (try clear hk); (try clear hi); (try clear ho0); obtain ⟨Ao4,co4,eo4⟩:=Kd.R_slice HO279.out; subst eo4))
 go_loopg [7] k (fun kq v7 w' => ∃ (x7_1 : Int),v7 = .int .i64 x7_1 ∧ Aside0 (spec_place.l0 kq a0 t277 (t277.length : Int) x7_1 = some r) ∧ Aside0 (kq ≤ k) ∧ Aside0 (Kd.R Kd.string 9 w' w.heap.size (fun _ => True) (.slice Ao4 t277.length co4) t277) ∧ Aside0 (Below w.heap.size w w'))
 case atStart => exact ⟨(0),(by first | rfl | (simp; done) | (simp [*]; done)),H',⟨Nat.le_refl _⟩,⟨by (with_reducible repeat (first | apply Kd.R_alloc | apply Kd.R_drewN | apply Kd.R_drew)); exact HO279.out⟩,⟨by repeat (first | (with_reducible first | exact HB.out | apply below_alloc | apply pw_below_drewN | apply below_drew1) | exact HB.out)⟩⟩
 case round =>
  clear H'
  try clear p2
  try clear c4
  obtain ⟨x7_1,rfl,HA,HK1,HO_5,HB⟩:=hrel
  cases gk with
  | zero => exact absurd HA.out (by simp [spec_place.l0])
  | succ k1 =>
   have H:=HA.out
   clear HA
   simp only [spec_place.l0] at H
   by_cases c5 : x7_1 < (t277.length : Int)
   ·rw [if_pos c5] at H
    have c5b0 : decide (x7_1 < (t277.length : Int)) = true:=decide_eq_true c5
    clear c5
    by_cases c6 : 0 ≤ x7_1
    ·rw [if_pos c6] at H
     have c6b0 : decide (0 ≤ x7_1) = true:=decide_eq_true c6
     clear c6
     by_cases c7 : x7_1 < (t277.length : Int)
     ·rw [if_pos c7] at H
      have c7b0 : decide (x7_1 < (t277.length : Int)) = true:=decide_eq_true c7
      clear c7
      by_cases c8 : (rdOf ByteArray.empty t277 x7_1).toList = a0.toList
      ·rw [if_pos c8] at H
       have c8b0 : ((rdOf ByteArray.empty t277 x7_1).toList == a0.toList) = true:=beq_iff_eq.mpr c8
       have c8b1 : ((rdOf ByteArray.empty t277 x7_1).toList != a0.toList) = false:=bne_eq_false_iff_eq.mpr c8
       clear c8
       obtain rfl:=Option.some.inj H
       have p280 : 0 ≤ (x7_1 : Int):=of_decide_eq_true (by first | (with_reducible assumption) | assumption)
       have q280 : x7_1 < (t277.length : Int):=of_decide_eq_true (by first | (with_reducible assumption) | assumption)
       obtain ⟨ad280,e280,hx280_0⟩:=Kd.at_string (Kd.R_reads' HO_5.out).2.2 x7_1 p280 q280
       cases e280
       replace p280:=eq_true p280
       replace q280:=eq_true q280
       go_wp2
       go_ret
       exact ⟨by first | rfl | (simp [errW_none,errW_some] <;> rfl) | (simp [*,errW_none,errW_some] <;> rfl),by repeat (first | (with_reducible first | exact HB.out | apply below_alloc | apply pw_below_drewN | apply below_drew1) | exact HB.out)⟩
      ·rw [if_neg c8] at H
       have c8b0 : ((rdOf ByteArray.empty t277 x7_1).toList == a0.toList) = false:=beq_eq_false_iff_ne.mpr c8
       have c8b1 : ((rdOf ByteArray.empty t277 x7_1).toList != a0.toList) = true:=bne_iff_ne.mpr c8
       have H':=Aside0.mk H
       clear H
       have p280 : 0 ≤ (x7_1 : Int):=of_decide_eq_true (by first | (with_reducible assumption) | assumption)
       have q280 : x7_1 < (t277.length : Int):=of_decide_eq_true (by first | (with_reducible assumption) | assumption)
       obtain ⟨ad280,e280,hx280_0⟩:=Kd.at_string (Kd.R_reads' HO_5.out).2.2 x7_1 p280 q280
       cases e280
       replace p280:=eq_true p280
       replace q280:=eq_true q280
       go_wp2
       go_roundg k1
       case measure => have:=HK1.out; omega
       case rel => exact ⟨(wrap64 (x7_1 + 1)),(by first | rfl | (simp; done) | (simp [*]; done)),H',⟨by have:=HK1.out; omega⟩,⟨by (with_reducible repeat (first | apply Kd.R_alloc | apply Kd.R_drewN | apply Kd.R_drew)); exact HO_5.out⟩,⟨by repeat (first | (with_reducible first | exact HB.out | apply below_alloc | apply pw_below_drewN | apply below_drew1) | exact HB.out)⟩⟩
     ·rw [if_neg c7] at H
      exact absurd H (by simp)
    ·rw [if_neg c6] at H
     exact absurd H (by simp)
   ·rw [if_neg c5] at H
    have c5b0 : decide (x7_1 < (t277.length : Int)) = false:=decide_eq_false c5
    clear c5
    obtain rfl:=Option.some.inj H
    go_wp2
    go_ret
    exact ⟨by first | rfl | (simp [errW_none,errW_some] <;> rfl) | (simp [*,errW_none,errW_some] <;> rfl),by repeat (first | (with_reducible first | exact HB.out | apply below_alloc | apply pw_below_drewN | apply below_drew1) | exact HB.out)⟩
end Go.Proofs.YtplbifmjnanceaaGreatDoor.PFnArchive
end
