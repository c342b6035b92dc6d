/- The closures of Clean, the text of a command and the text of a rule. -/
import Derived.Test.YtplbifmjnanceaaGreatDoorVF
import Derived.Test.YtplbifmjnanceaaGreatDoorVH
section
namespace Go.Proofs.YtplbifmjnanceaaGreatDoor
open Go.RowKit Go.Proofs.YtplbifmjnanceaaGreatDoorW.PrintWords Go.Proofs.YtplbifmjnanceaaGreatDoorW.PrintLast Go.Proofs.YtplbifmjnanceaaGreatDoorW.PrintMore
open Go.Proofs.YtplbifmjnanceaaGreatDoor.PFnArchive
set_option linter.unusedVariables false
set_option linter.unusedSimpArgs false
theorem lit19 (u : Nat → Value) : FrOf 19 u = [u 0,u 1,u 2,u 3,u 4,u 5,u 6,u 7,u 8,u 9,u 10,u 11,u 12,u 13,u 14,u 15,u 16,u 17,u 18]:=rfl
theorem rowS {w : World} {A : Option Addr} {x : List ByteArray} {k : Nat} {s : ByteArray} (h : Kd.C Kd.string w A x.length x) (hk : x[k]? = some s) : ∃ ad,A = some ad ∧ w.cell? (ad.add k) = some (.string s):=by
 have hl : k < x.length:=by
  rcases Nat.lt_or_ge k x.length with c | c
  ·exact c
  ·rw [List.getElem?_eq_none c] at hk; cases hk
 obtain ⟨ad,c,e,_,hK,hc0⟩:=Kd.C_get h ByteArray.empty (k : Int) (by omega) (by omega)
 have hc : ∀ j u,c[j]? = some u → w.cell? (ad.add (k * 1 + j)) = some u:=hc0
 refine ⟨ad,e,?_⟩
 have e2 : x.getD (k : Int).toNat ByteArray.empty = s:=by simp [hk]
 rw [e2] at hK
 obtain rfl : c = [.string s]:=hK
 have:=hc 0 _ rfl
 rwa [Nat.mul_one,Nat.add_zero] at this
set_option maxHeartbeats 1000000 in
theorem cl1_calls (w : World) (s : ByteArray) (k : Nat) (r : Bool) (h : spec_IsPattern.f k s = some r) :
  Calls Tryz.prog 38 #[.string s] w fun e w' => e = .returned (.bool (!r)) ∧ Below w.heap.size w w':=by
 have HP:=Aside0.mk (spec_IsPattern.calls k s r w h)
 clear h
 go_enter Tryz.func38,Tryz.ntmps38
 go_wp2_with fail
 refine HP.out.mono ?_
 rintro e w' ⟨rfl,hb⟩
 go_wp2
 go_ret
 exact ⟨rfl,hb⟩
set_option maxHeartbeats 1000000 in
theorem cl2_calls (w : World) (x : S56) (wd : ByteArray → Bool) (hwd : ∃ k,spec_isWord.f k x.f4 = some (wd x.f4)) :
  Calls Tryz.prog 41 #[.agg #[.int .u8 x.f0,.bool x.f1,.int .u8 x.f2,.int .u8 x.f3,.string x.f4]] w fun e w' => e = .returned (.bool (!cleanC wd x)) ∧ Below w.heap.size w w':=by
 have HP:=Aside0.mk (fun w1 => CleanCmd_calls w1 x wd hwd)
 clear hwd
 go_enter Tryz.func41,Tryz.ntmps41
 go_wp2_with (first | ((with_reducible refine gate_dst (N:=1) rfl ?_); refine box_event ?hg (N:=1) ?hd (cs:=#[.int .u8 x.f0,.bool x.f1,.int .u8 x.f2,.int .u8 x.f3,.string x.f4]) (t:=56) ?hr ?_; (case hd => rfl); (case hg => rfl); (case hr => first | (go_simp; done) | (go_simp; rfl)); intro g hg w1 hbx hb; have HX:=Aside0.mk hbx; have HB1:=Aside0.mk hb; clear hbx hb hg; have c0:=(blk_cell HX.out 0).trans rfl; have c1:=(blk_cell HX.out 1).trans rfl; have c2:=(blk_cell HX.out 2).trans rfl; have c3:=(blk_cell HX.out 3).trans rfl; have c4:=(blk_cell HX.out 4).trans rfl; clear HX))
 refine (HP.out _).mono ?_
 rintro e w' ⟨rfl,hb⟩
 have HB2:=Aside0.mk (HB1.out.trans (hb.mono HB1.out.size))
 clear hb
 go_wp2
 go_ret
 exact ⟨rfl,HB2.out⟩
set_option maxHeartbeats 1000000 in
set_option maxRecDepth 100000 in
theorem index1_calls (w : World) (A : Option Addr) (c : Nat) (L : List ByteArray) (hC : Kd.C Kd.string w A L.length L) (hc : L.length ≤ c) (hL : L.length ≤ 4294967295) (p : ByteArray → Bool) (hp : ∀ s ∈ L,∃ k,spec_IsPattern.f k s = some (p s)) :
  Calls Tryz.prog 56 #[.slice A L.length c,.func (.func 38) #[] #[]] w fun e w' => ∃ n : Int,e = .returned (.int .i64 n) ∧ decide (n ≥ 0) = L.any (fun s => !p s) ∧ Below w.heap.size w w':=by
 have HC:=Aside0.mk hC
 have HP:=Aside0.mk hp
 clear hC hp
 obtain ⟨n,hn⟩ : ∃ z,z = L.length:=⟨_,rfl⟩
 rw [← hn] at hc hL ⊢
 have HN:=Aside0.mk hn
 clear hn
 go_enter Tryz.func56,Tryz.ntmps56
 go_wp2
 refine loopG 19 (fun g u wc => ∃ i : Nat,g = n - i ∧ i ≤ n ∧ u 0 = .slice A n c ∧ u 1 = .func (.func 38) #[] #[] ∧ u 7 = .int .i64 n ∧ u 8 = .int .i64 i ∧ (L.take i).any (fun s => !p s) = false ∧ Below w.heap.size w wc) n rfl ?atStart ?round
 case atStart => exact ⟨0,rfl,Nat.zero_le _,rfl,rfl,rfl,rfl,rfl,Below.refl _ _⟩
 case round =>
  rintro g u W ⟨i,hg,hi,h0,h1,h7,h8,hno,hB⟩ J K hJ hK
  rw [lit19]
  simp only [h0,h1,h7,h8]
  have HNo:=Aside0.mk hno
  have HB:=Aside0.mk hB
  clear hno h0 h1 h7 h8 hB
  by_cases ci : i < n
  ·obtain ⟨s,hs⟩ : ∃ s,L[i]? = some s:=⟨L[i]'(by have:=HN.out; omega),List.getElem?_eq_getElem (by have:=HN.out; omega)⟩
   obtain ⟨ad,hA,b⟩:=rowS (Kd.C_below (by have:=HC.out; exact this) HB.out) hs
   subst hA
   obtain ⟨k,hk⟩:=HP.out s (List.mem_of_getElem? hs)
   have HK:=Aside0.mk (fun w1 => cl1_calls w1 s k (p s) hk)
   have HS:=Aside0.mk hs
   have u1 : (i : Int) < (n : Int):=by omega
   have u2 : IntKind.i64.wrap ((i : Int) + 1) = (i : Int) + 1:=by rw [IntKind.wrap_i64]; omega
   have u3 : (0 : Int) ≤ (i : Int):=by omega
   clear hs hk
   go_wp2_with fail
   refine (HK.out W).mono ?_
   rintro e w1 ⟨rfl,hb1⟩
   have HB1:=Aside0.mk (HB.out.trans (hb1.mono HB.out.size))
   have hstep : (L.take (i + 1)).any (fun s => !p s) = (!p s):=by
    rw [List.take_add_one,HS.out,List.any_append,HNo.out]
    simp
   have HStep:=Aside0.mk hstep
   clear hb1 b hstep
   cases hps : p s with
   | true =>
    go_wp2
    exact Met.intro (hJ (n - (i + 1)) _ _ rfl (by omega) ⟨i + 1,rfl,ci,rfl,rfl,rfl,rfl,by rw [HStep.out,hps]; rfl,HB1.out⟩)
   | false =>
    go_wp2
    go_ret
    refine ⟨_,rfl,?_,HB1.out⟩
    have h1 : L.any (fun s => !p s) = true:=by
     have h2:=HStep.out
     rw [hps] at h2
     have h3:=List.take_append_drop (i + 1) L
     rw [← h3,List.any_append,h2]
     rfl
    rw [h1]
    exact decide_eq_true (by omega)
  ·have u1 : decide ((i : Int) < (n : Int)) = false:=decide_eq_false (by omega)
   have u2 : ¬ i < n:=ci
   go_wp2
   go_ret
   refine ⟨_,rfl,?_,HB.out⟩
   have h1:=HNo.out
   rw [List.take_of_length_le (by have:=HN.out; omega)] at h1
   rw [h1]
   rfl
set_option maxHeartbeats 1000000 in
set_option maxRecDepth 100000 in
theorem index2_calls (w : World) (A : Option Addr) (c : Nat) (L : List S56) (hC : Kd.C k56 w A L.length L) (hc : L.length ≤ c) (hL : L.length ≤ 4294967295) (wd : ByteArray → Bool) (hp : ∀ s ∈ L,∃ k,spec_isWord.f k s.f4 = some (wd s.f4)) :
  Calls Tryz.prog 57 #[.slice A L.length c,.func (.func 41) #[] #[]] w fun e w' => ∃ n : Int,e = .returned (.int .i64 n) ∧ decide (n ≥ 0) = L.any (fun s => !cleanC wd s) ∧ Below w.heap.size w w':=by
 have HC:=Aside0.mk hC
 have HP:=Aside0.mk hp
 clear hC hp
 obtain ⟨n,hn⟩ : ∃ z,z = L.length:=⟨_,rfl⟩
 rw [← hn] at hc hL ⊢
 have HN:=Aside0.mk hn
 clear hn
 go_enter Tryz.func57,Tryz.ntmps57
 go_wp2
 refine loopG 19 (fun g u wc => ∃ i : Nat,g = n - i ∧ i ≤ n ∧ u 0 = .slice A n c ∧ u 1 = .func (.func 41) #[] #[] ∧ u 7 = .int .i64 n ∧ u 8 = .int .i64 i ∧ (L.take i).any (fun s => !cleanC wd s) = false ∧ Below w.heap.size w wc) n rfl ?atStart ?round
 case atStart => exact ⟨0,rfl,Nat.zero_le _,rfl,rfl,rfl,rfl,rfl,Below.refl _ _⟩
 case round =>
  rintro g u W ⟨i,hg,hi,h0,h1,h7,h8,hno,hB⟩ J K hJ hK
  rw [lit19]
  simp only [h0,h1,h7,h8]
  have HNo:=Aside0.mk hno
  have HB:=Aside0.mk hB
  clear hno h0 h1 h7 h8 hB
  by_cases ci : i < n
  ·obtain ⟨s,hs⟩ : ∃ s,L[i]? = some s:=⟨L[i]'(by have:=HN.out; omega),List.getElem?_eq_getElem (by have:=HN.out; omega)⟩
   obtain ⟨ad,hA,b0,b1,b2,b3,b4⟩:=at_T56 (Kd.C_below HC.out HB.out) (i : Int) (by omega) (by have:=HN.out; omega)
   subst hA
   rw [rd56 hs,Int.toNat_natCast] at b0 b1 b2 b3 b4
   have hk:=HP.out s (List.mem_of_getElem? hs)
   have HK:=Aside0.mk (fun w1 => cl2_calls w1 s wd hk)
   have HS:=Aside0.mk hs
   have u1 : (i : Int) < (n : Int):=by omega
   have u2 : IntKind.i64.wrap ((i : Int) + 1) = (i : Int) + 1:=by rw [IntKind.wrap_i64]; omega
   have u3 : (0 : Int) ≤ (i : Int):=by omega
   clear hs hk
   go_wp2_with fail
   refine (HK.out W).mono ?_
   rintro e w1 ⟨rfl,hb1⟩
   have HB1:=Aside0.mk (HB.out.trans (hb1.mono HB.out.size))
   have hstep : (L.take (i + 1)).any (fun s => !cleanC wd s) = (!cleanC wd s):=by
    rw [List.take_add_one,HS.out,List.any_append,HNo.out]
    simp
   have HStep:=Aside0.mk hstep
   clear hb1 b0 b1 b2 b3 b4 hstep
   cases hps : cleanC wd s with
   | true =>
    go_wp2
    exact Met.intro (hJ (n - (i + 1)) _ _ rfl (by omega) ⟨i + 1,rfl,ci,rfl,rfl,rfl,rfl,by rw [HStep.out,hps]; rfl,HB1.out⟩)
   | false =>
    go_wp2
    go_ret
    refine ⟨_,rfl,?_,HB1.out⟩
    have h1 : L.any (fun s => !cleanC wd s) = true:=by
     have h2:=HStep.out
     rw [hps] at h2
     have h3:=List.take_append_drop (i + 1) L
     rw [← h3,List.any_append,h2]
     rfl
    rw [h1]
    exact decide_eq_true (by omega)
  ·have u1 : decide ((i : Int) < (n : Int)) = false:=decide_eq_false (by omega)
   have u2 : ¬ i < n:=ci
   go_wp2
   go_ret
   refine ⟨_,rfl,?_,HB.out⟩
   have h1:=HNo.out
   rw [List.take_of_length_le (by have:=HN.out; omega)] at h1
   rw [h1]
   rfl
theorem contains1_calls (w : World) (A : Option Addr) (c : Nat) (L : List ByteArray) (hC : Kd.C Kd.string w A L.length L) (hc : L.length ≤ c) (hL : L.length ≤ 4294967295) (p : ByteArray → Bool) (hp : ∀ s ∈ L,∃ k,spec_IsPattern.f k s = some (p s)) :
  Calls Tryz.prog 37 #[.slice A L.length c,.func (.func 38) #[] #[]] w fun e w' => e = .returned (.bool (L.any fun s => !p s)) ∧ Below w.heap.size w w':=by
 have HP:=Aside0.mk (index1_calls w A c L hC hc hL p hp)
 clear hC hc hL hp
 go_enter Tryz.func37,Tryz.ntmps37
 go_wp2_with fail
 refine HP.out.mono ?_
 rintro e w' ⟨n,rfl,hn,hb⟩
 go_wp2
 go_ret
 exact ⟨by rw [← hn]; rfl,hb⟩
theorem contains2_calls (w : World) (A : Option Addr) (c : Nat) (L : List S56) (hC : Kd.C k56 w A L.length L) (hc : L.length ≤ c) (hL : L.length ≤ 4294967295) (wd : ByteArray → Bool) (hp : ∀ s ∈ L,∃ k,spec_isWord.f k s.f4 = some (wd s.f4)) :
  Calls Tryz.prog 40 #[.slice A L.length c,.func (.func 41) #[] #[]] w fun e w' => e = .returned (.bool (L.any fun s => !cleanC wd s)) ∧ Below w.heap.size w w':=by
 have HP:=Aside0.mk (index2_calls w A c L hC hc hL wd hp)
 clear hC hc hL hp
 go_enter Tryz.func40,Tryz.ntmps40
 go_wp2_with fail
 refine HP.out.mono ?_
 rintro e w' ⟨n,rfl,hn,hb⟩
 go_wp2
 go_ret
 exact ⟨by rw [← hn]; rfl,hb⟩
end Go.Proofs.YtplbifmjnanceaaGreatDoor
end
section
namespace Go.Proofs.YtplbifmjnanceaaGreatDoor
open Go.RowKit Go.Proofs.YtplbifmjnanceaaGreatDoorW.PrintWords Go.Proofs.YtplbifmjnanceaaGreatDoorW.PrintLast Go.Proofs.YtplbifmjnanceaaGreatDoorW.PrintMore
open Go.Proofs.YtplbifmjnanceaaGreatDoor.PFnArchive
set_option linter.unusedVariables false
set_option linter.unusedSimpArgs false
def plcs : List Bs:=[[105,110,48],[105,110,49],[105,110,50],[105,110,51],[111,117,116],[100,47,97],[100,47,98]]
def knms : List Bs:=[[99,112],[109,118],[114,109],[99,109,112],[101,120,105,115,116,115],[103,114,101,112],[115,116,111,112]]
def opns : List Bs:=[[106,111,105,110],[112,97,99,107],[112,105,99,107],[115,99,114,105,112,116]]
def plcAt (i : Int) : Bs:=plcs.getD i.toNat []
def knmAt (i : Int) : Bs:=knms.getD i.toNat []
def opnAt (i : Int) : Bs:=opns.getD i.toNat []
def cargs (k a b : Int) (t : Bs) : List Bs :=
 if k = 2 ∨ k = 4 then [plcAt a] else if k = 5 then [t,plcAt a] else if k = 6 then [] else [plcAt a,plcAt b]
def cwords (x : S56) : List Bs:=(if x.f1 then [[33]] else []) ++ knmAt x.f0 :: cargs x.f0 x.f2 x.f3 x.f4.data.toList
def cline (x : S56) : Bs:=textW (cwords x)
theorem atP (n : Nat) (h : n < 7) : [(⟨#[105,110,48]⟩ : ByteArray),⟨#[105,110,49]⟩,⟨#[105,110,50]⟩,⟨#[105,110,51]⟩,⟨#[111,117,116]⟩,⟨#[100,47,97]⟩,⟨#[100,47,98]⟩][n]? = some (mkB (plcAt (n : Int))):=by
 have h : n = 0 ∨ n = 1 ∨ n = 2 ∨ n = 3 ∨ n = 4 ∨ n = 5 ∨ n = 6:=by omega
 rcases h with rfl | rfl | rfl | rfl | rfl | rfl | rfl <;> rfl
theorem plcAt_len (a : Int) : (plcAt a).length ≤ 3:=by
 unfold plcAt
 by_cases h : a.toNat < 7
 ·have h2 : a.toNat = 0 ∨ a.toNat = 1 ∨ a.toNat = 2 ∨ a.toNat = 3 ∨ a.toNat = 4 ∨ a.toNat = 5 ∨ a.toNat = 6:=by omega
  rcases h2 with h | h | h | h | h | h | h <;> rw [h] <;> decide
 ·rw [List.getD_eq_getElem?_getD,List.getElem?_eq_none (by simp [plcs]; omega)]
  simp
set_option maxHeartbeats 4000000 in
set_option maxRecDepth 100000 in
theorem CmdLine_walk (w : World) (x : S56) (hk : 0 ≤ x.f0 ∧ x.f0 < 7) (ha : 0 ≤ x.f2 ∧ x.f2 < 7) (hb : 0 ≤ x.f3 ∧ x.f3 < 7) (ht : x.f4.size ≤ 2147483647) :
  Calls Tryz.prog 22 #[.agg #[.int .u8 x.f0,.bool x.f1,.int .u8 x.f2,.int .u8 x.f3,.string x.f4]] w fun e w' => e = .returned (.string (mkB (cline x))) ∧ Below w.heap.size w w':=by
 obtain ⟨kd,no,a0,b0,t⟩:=x
 simp only at hk ha hb ht ⊢
 obtain ⟨a,rfl⟩ : ∃ z : Nat,a0 = (z : Int):=⟨a0.toNat,by omega⟩
 obtain ⟨b,rfl⟩ : ∃ z : Nat,b0 = (z : Int):=⟨b0.toNat,by omega⟩
 obtain ⟨T,hT⟩ : ∃ z,z = cline ⟨kd,no,(a : Int),(b : Int),t⟩:=⟨_,rfl⟩
 rw [← hT]
 have HT:=Aside0.mk hT
 clear hT
 have hpa:=plcAt_len a
 have hpb:=plcAt_len b
 obtain ⟨pa,hpa2⟩ : ∃ z,z = plcAt a:=⟨_,rfl⟩
 obtain ⟨pb,hpb2⟩ : ∃ z,z = plcAt b:=⟨_,rfl⟩
 rw [← hpa2] at hpa
 rw [← hpb2] at hpb
 have HPA:=Aside0.mk hpa2
 have HPB:=Aside0.mk hpb2
 clear hpa2 hpb2
 have sa : (mkB pa).size ≤ 3:=by rw [mkB_size]; exact hpa
 have sb : (mkB pb).size ≤ 3:=by rw [mkB_size]; exact hpb
 go_enter Tryz.func22,Tryz.ntmps22
 go_wp2_with (first | ((with_reducible refine gate_dst (N:=1) rfl ?_); refine box_event ?hg (N:=1) ?hd (cs:=#[.int .u8 kd,.bool no,.int .u8 a,.int .u8 b,.string t]) (t:=56) ?hr ?_; (case hd => rfl); (case hg => rfl); (case hr => first | (go_simp; done) | (go_simp; rfl)); intro g hg w1 hbx hb; have HX:=Aside0.mk hbx; have HB1:=Aside0.mk hb; clear hbx hb hg))
 refine (spec_Places.calls _ w1 rfl).mono ?_
 rintro e w2 ⟨v,rfl,hR,hb2⟩
 obtain ⟨A,c,eF,hcF,hC⟩:=Kd.R_reads hR
 subst eF
 have HB:=Aside0.mk (HB1.out.trans (hb2.mono HB1.out.size))
 have hx:=blk_below HX.out hb2
 have d0:=(blk_cell hx 0).trans rfl
 have d1:=(blk_cell hx 1).trans rfl
 have d2:=(blk_cell hx 2).trans rfl
 have d3:=(blk_cell hx 3).trans rfl
 have d4:=(blk_cell hx 4).trans rfl
 obtain ⟨ad,hA,ca⟩:=rowS hC (atP a (by omega))
 obtain ⟨ad2,hA2,cb⟩:=rowS hC (atP b (by omega))
 subst hA
 injection hA2 with hA2
 subst hA2
 rw [← HPA.out] at ca
 rw [← HPB.out] at cb
 have z1 : (a : Int) < 7:=ha.2
 have z2 : (b : Int) < 7:=hb.2
 clear hx hb2 HX HB1 hR hC hcF
 have hkd : kd = 0 ∨ kd = 1 ∨ kd = 2 ∨ kd = 3 ∨ kd = 4 ∨ kd = 5 ∨ kd = 6:=by omega
 cases no <;> rcases hkd with rfl | rfl | rfl | rfl | rfl | rfl | rfl
 all_goals
  go_wp2
  (try go_quiet (fail))
  (try go_wp2)
  go_ret
  refine ⟨?_,(by first | exact HB.out | exact pw_below_drewN HB.out _)⟩
  rw [HT.out]
  refine congrArg (fun z => Ending.returned (Value.string z)) ?_
  show _ = mkB _
  apply ByteArray.ext
  apply Array.toList_inj.1
  simp [mkB,ByteArray.data_append,HPA.out,HPB.out,cline,cwords,cargs,textW,tailW,knmAt,knms]
end Go.Proofs.YtplbifmjnanceaaGreatDoor
end
section
namespace Go.Proofs.YtplbifmjnanceaaGreatDoor
open Go.RowKit Go.Proofs.YtplbifmjnanceaaGreatDoorW.PrintWords Go.Proofs.YtplbifmjnanceaaGreatDoorW.PrintLast Go.Proofs.YtplbifmjnanceaaGreatDoorW.PrintMore
open Go.Proofs.YtplbifmjnanceaaGreatDoor.PFnArchive
set_option linter.unusedVariables false
set_option linter.unusedSimpArgs false
set_option maxRecDepth 100000 in
theorem lit53 (u : Nat → Value) : FrOf 53 u = [u 0,u 1,u 2,u 3,u 4,u 5,u 6,u 7,u 8,u 9,u 10,u 11,u 12,u 13,u 14,u 15,u 16,u 17,u 18,u 19,u 20,u 21,u 22,u 23,u 24,u 25,u 26,u 27,u 28,u 29,u 30,u 31,u 32,u 33,u 34,u 35,u 36,u 37,u 38,u 39,u 40,u 41,u 42,u 43,u 44,u 45,u 46,u 47,u 48,u 49,u 50,u 51,u 52]:=rfl
theorem atO (n : Nat) (h : n < 4) : [(⟨#[106,111,105,110]⟩ : ByteArray),⟨#[112,97,99,107]⟩,⟨#[112,105,99,107]⟩,⟨#[115,99,114,105,112,116]⟩][n]? = some (mkB (opnAt (n : Int))):=by
 have h : n = 0 ∨ n = 1 ∨ n = 2 ∨ n = 3:=by omega
 rcases h with rfl | rfl | rfl | rfl <;> rfl
theorem opnAt_len (a : Int) : (opnAt a).length ≤ 6:=by
 unfold opnAt
 by_cases h : a.toNat < 4
 ·have h2 : a.toNat = 0 ∨ a.toNat = 1 ∨ a.toNat = 2 ∨ a.toNat = 3:=by omega
  rcases h2 with h | h | h | h <;> rw [h] <;> decide
 ·rw [List.getD_eq_getElem?_getD,List.getElem?_eq_none (by simp [opns]; omega)]
  simp
def rtail (x : S31) : List Bs:=x.f1.map (fun s => s.data.toList) ++ x.f4.flatMap fun c => [59] :: cwords c
def rwords (x : S31) : List Bs:=x.f0.data.toList :: opnAt x.f2 :: ((if x.f2 = 2 then [x.f3.data.toList] else []) ++ [111,102] :: rtail x)
def rline (x : S31) : Bs:=textW (rwords x)
theorem tailW_append (a b : List Bs) : tailW (a ++ b) = tailW a ++ tailW b:=by simp [tailW]
theorem tailW_cons (a : Bs) (b : List Bs) : tailW (a :: b) = 32 :: (a ++ tailW b):=by simp [tailW]
def rhead (x : S31) : Bs:=x.f0.data.toList ++ 32 :: (opnAt x.f2 ++ ((if x.f2 = 2 then 32 :: x.f3.data.toList else []) ++ [32,111,102]))
theorem rline_eq (x : S31) : rline x = rhead x ++ tailW (x.f1.map fun s => s.data.toList) ++ tailW (x.f4.flatMap fun c => [59] :: cwords c):=by
 unfold rline rwords rtail rhead
 show _ ++ tailW _ = _
 rw [tailW_cons,tailW_append,tailW_cons,tailW_append]
 split <;> simp [tailW]
theorem take_le (L : List ByteArray) (i : Nat) : (tailW ((L.take i).map fun s => s.data.toList)).length ≤ (tailW (L.map fun s => s.data.toList)).length:=by
 conv => rhs; rw [← List.take_append_drop i L,List.map_append,tailW_append,List.length_append]
 omega
theorem take_le2 (L : List S56) (i : Nat) : (tailW ((L.take i).flatMap fun c => [59] :: cwords c)).length ≤ (tailW (L.flatMap fun c => [59] :: cwords c)).length:=by
 conv => rhs; rw [← List.take_append_drop i L,List.flatMap_append,tailW_append,List.length_append]
 omega
theorem tailW_cwords (x : S56) : tailW (cwords x) = 32 :: cline x:=by
 unfold cline cwords
 cases x.f1 <;> simp [textW,tailW]
def CmdR (x : S56) : Prop:=(0 ≤ x.f0 ∧ x.f0 < 7) ∧ (0 ≤ x.f2 ∧ x.f2 < 7) ∧ (0 ≤ x.f3 ∧ x.f3 < 7) ∧ x.f4.size ≤ 2147483647
set_option maxHeartbeats 4000000 in
set_option maxRecDepth 100000 in
theorem RuleText_walk (w : World) (x : S31) (A1 : Option Addr) (c1 : Nat) (A4 : Option Addr) (c4 : Nat) (h1 : Kd.C Kd.string w A1 x.f1.length x.f1) (hc1 : x.f1.length ≤ c1) (h4 : Kd.C k56 w A4 x.f4.length x.f4) (hc4 : x.f4.length ≤ c4)
  (hop : 0 ≤ x.f2 ∧ x.f2 < 4) (hcm : ∀ c ∈ x.f4,CmdR c) (hl1 : x.f1.length ≤ 4294967295) (hl4 : x.f4.length ≤ 4294967295) (hsz : (rline x).length ≤ 1099511627776) :
  Calls Tryz.prog 7 #[.agg #[.string x.f0,.slice A1 x.f1.length c1,.int .u8 x.f2,.string x.f3,.slice A4 x.f4.length c4]] w fun e w' => e = .returned (.string (mkB (rline x))) ∧ Below w.heap.size w w':=by
 have hrl:=rline_eq x
 have hlen : (rhead x).length + (tailW (x.f1.map fun s => s.data.toList)).length + (tailW (x.f4.flatMap fun c => [59] :: cwords c)).length ≤ 1099511627776:=by
  rw [hrl,List.length_append,List.length_append] at hsz
  exact hsz
 rw [hrl]
 have hhead : rhead x = x.f0.data.toList ++ 32 :: (opnAt x.f2 ++ ((if x.f2 = 2 then 32 :: x.f3.data.toList else []) ++ [32,111,102])):=rfl
 obtain ⟨hd,hhd⟩ : ∃ z,z = rhead x:=⟨_,rfl⟩
 rw [← hhd] at hlen hhead ⊢
 clear hhd hrl hsz
 obtain ⟨tg,L1,op0,ag,L4⟩:=x
 simp only at *
 obtain ⟨op,rfl⟩ : ∃ z : Nat,op0 = (z : Int):=⟨op0.toNat,by omega⟩
 have hop4 : op < 4:=by omega
 have H1:=Aside0.mk h1
 have H4:=Aside0.mk h4
 have HCm:=Aside0.mk hcm
 have hpo:=opnAt_len (op : Int)
 obtain ⟨po,hpo2⟩ : ∃ z,z = opnAt (op : Int):=⟨_,rfl⟩
 rw [← hpo2] at hpo hhead
 have HPO:=Aside0.mk hpo2
 have so : (mkB po).size ≤ 6:=by rw [mkB_size]; exact hpo
 have stg : tg.size ≤ 1099511627776:=by
  have : tg.size = tg.data.toList.length:=rfl
  rw [hhead,List.length_append] at hlen
  omega
 have sag : op = 2 → ag.size ≤ 1099511627776:=by
  intro e
  have : ag.size = ag.data.toList.length:=rfl
  rw [hhead,List.length_append,List.length_cons,List.length_append,List.length_append,if_pos (by omega),List.length_cons] at hlen
  omega
 obtain ⟨n1,hn1⟩ : ∃ z,z = L1.length:=⟨_,rfl⟩
 obtain ⟨n4,hn4⟩ : ∃ z,z = L4.length:=⟨_,rfl⟩
 rw [← hn1] at hc1 hl1 ⊢
 rw [← hn4] at hc4 hl4 ⊢
 have HN1:=Aside0.mk hn1
 have HN4:=Aside0.mk hn4
 have HLen:=Aside0.mk hlen
 have HHead:=Aside0.mk hhead
 clear h1 h4 hcm hn1 hn4 hlen hhead hpo hpo2 hop
 go_enter Tryz.func7,Tryz.ntmps7
 go_wp2_with (first | ((with_reducible refine gate_dst (N:=1) rfl ?_); refine box_event ?hg (N:=1) ?hd (cs:=#[.string tg,.slice A1 n1 c1,.int .u8 op,.string ag,.slice A4 n4 c4]) (t:=31) ?hr ?_; (case hd => rfl); (case hg => rfl); (case hr => first | (go_simp; done) | (go_simp; rfl)); intro g hg w1 hbx hb; have HX:=Aside0.mk hbx; have HB1:=Aside0.mk hb; have d0 : w1.cell? ⟨g,0,none⟩ = some (.string tg):=(blk_cell hbx 0).trans rfl; have d2 : w1.cell? ⟨g,2,none⟩ = some (.int .u8 (op : Int)):=(blk_cell hbx 2).trans rfl; clear hbx hb hg))
 have t1 : (9223372036854775807 < tg.size + 1) = False:=eq_false (by omega)
 have t2 : (op : Int) < 4:=by omega
 have t3 : (9223372036854775807 < tg.size + 1 + (mkB po).size) = False:=eq_false (by omega)
 refine start_ (n:=10) (S:=fun w' => w'.cell? ⟨g,0,none⟩ = some (.string tg) ∧ w'.cell? ⟨g,2,none⟩ = some (.int .u8 (op : Int))) (ds:=[]) #[false,false,false,false,false,false,false,false,false,false] (by kernel_rfl) rfl rfl ⟨d0,d2⟩ (fun hHeld => ?_)
 refine pure_ (i:=0) (N:=some 8) (v:=?_) (a':=?_) #[true,false,false,false,false,false,false,false,false,false] rfl rfl (by kernel_rfl) (fun _ _ _ h => h) (Or.inl ⟨by rfl,?_⟩) ?_ ?_
 rotate_left
 ·intro w'
  go_simp
  with_reducible rfl
 rotate_left
 ·simp only [Act.put,List.setIfInBounds_toArray,List.set_cons_zero,List.set_cons_succ,i64_w,i32_w]
  rfl
 refine pure_ (i:=4) (N:=some 12) (v:=?_) (a':=?_) #[true,false,false,false,true,false,false,false,false,false] rfl rfl (by kernel_rfl) (fun _ _ _ h => h) (Or.inl ⟨by rfl,?_⟩) ?_ ?_
 rotate_left
 ·intro w'
  go_simp
  with_reducible rfl
 rotate_left
 ·simp only [Act.put,List.setIfInBounds_toArray,List.set_cons_zero,List.set_cons_succ,i64_w,i32_w]
  rfl
 refine take_ (i:=1) (N:=some 9) (v:=?_) (a':=?_) #[true,true,false,false,true,false,false,false,false,false] rfl rfl (by kernel_rfl) (fun _ _ _ h => h) (Or.inl ⟨by rfl,?_⟩) hHeld ?_ ?_
 rotate_left
 ·rintro w' ⟨s0,s1⟩
  go_simp
  with_reducible rfl
 rotate_left
 ·simp only [Act.put,List.setIfInBounds_toArray,List.set_cons_zero,List.set_cons_succ,i64_w,i32_w]
  rfl
 refine pure_ (i:=2) (N:=some 10) (v:=?_) (a':=?_) #[true,true,true,false,true,false,false,false,false,false] rfl rfl (by kernel_rfl) (fun _ _ _ h => h) (Or.inl ⟨by rfl,?_⟩) ?_ ?_
 rotate_left
 ·intro w'
  go_simp
  with_reducible rfl
 rotate_left
 ·simp only [Act.put,List.setIfInBounds_toArray,List.set_cons_zero,List.set_cons_succ,i64_w,i32_w]
  rfl
 refine take_ (i:=5) (N:=some 13) (v:=?_) (a':=?_) #[true,true,true,false,true,true,false,false,false,false] rfl rfl (by kernel_rfl) (fun _ _ _ h => h) (Or.inl ⟨by rfl,?_⟩) hHeld ?_ ?_
 rotate_left
 ·rintro w' ⟨s0,s1⟩
  go_simp
  with_reducible rfl
 rotate_left
 ·simp only [Act.put,List.setIfInBounds_toArray,List.set_cons_zero,List.set_cons_succ,i64_w,i32_w]
  rfl
 refine one_ (i:=3) (N:=some 11) #[true,true,true,true,true,true,false,false,false,false] rfl rfl (by kernel_rfl) (by decide) (fun K hK => ?_)
 refine goes_ Tryz.func21 (by kernel_rfl) rfl #[] (by rfl) rfl rfl (by simp only [List.map_toArray,List.map_cons,List.map_nil]) ?_
 with_reducible refine (spec_opNames.calls _ w1.drew rfl).mono ?_
 rintro e w3 ⟨v,rfl,hR,hb3⟩
 refine ⟨_,rfl,?_⟩
 obtain ⟨A,c,eF,hcF,hC⟩:=Kd.R_reads hR
 subst eF
 obtain ⟨ad,hA,ca⟩:=rowS hC (atO op (by omega))
 subst hA
 have HB3:=Aside0.mk ((below_drew HB1.out).trans (hb3.mono HB1.out.size))
 have HX3:=Aside0.mk (blk_below (blk_drew HX.out) hb3)
 clear hR hC hcF
 rw [← HPO.out] at ca
 have f0:=cell_later (w:=w1.drew) hb3 d0
 have f2:=cell_later (w:=w1.drew) hb3 d2
 clear hb3
 refine hK.out _ _ ⟨f0,f2⟩ (fun hHeld => ?_)
 clear hK K
 refine norm_ (a':=?_) ?_ ?_
 rotate_left
 ·show Act.put _ (some 11) _ = _
  simp only [Act.put,List.setIfInBounds_toArray,List.set_cons_zero,List.set_cons_succ,i64_w,i32_w]
  rfl
 refine pure_ (i:=6) (N:=some 14) (v:=?_) (a':=?_) #[true,true,true,true,true,true,true,false,false,false] rfl rfl (by kernel_rfl) (fun _ _ _ h => h) (Or.inl ⟨by rfl,?_⟩) ?_ ?_
 rotate_left
 ·intro w'
  go_simp
  with_reducible rfl
 rotate_left
 ·simp only [Act.put,List.setIfInBounds_toArray,List.set_cons_zero,List.set_cons_succ,i64_w,i32_w]
  rfl
 refine one_ (i:=7) (N:=some 15) #[true,true,true,true,true,true,true,true,false,false] rfl rfl (by kernel_rfl) (by decide) (fun K hK => ?_)
 refine value_ (w1:=?_) (v:=?_) (by rfl) rfl ?_ ?_
 rotate_left 2
 ·go_simp
  constructor
  ·rfl
  ·rfl
 refine hK.out _ _ ⟨f0,f2⟩ (fun hHeld => ?_)
 clear hK K
 refine norm_ (a':=?_) ?_ ?_
 rotate_left
 ·show Act.put _ (some 15) _ = _
  simp only [Act.put,List.setIfInBounds_toArray,List.set_cons_zero,List.set_cons_succ,i64_w,i32_w]
  rfl
 refine pure_ (i:=8) (N:=some 16) (v:=?_) (a':=?_) #[true,true,true,true,true,true,true,true,true,false] rfl rfl (by kernel_rfl) (fun _ _ _ h => h) (Or.inl ⟨by rfl,?_⟩) ?_ ?_
 rotate_left
 ·intro w'
  go_simp
  with_reducible rfl
 rotate_left
 ·simp only [Act.put,List.setIfInBounds_toArray,List.set_cons_zero,List.set_cons_succ,i64_w,i32_w]
  rfl
 refine pure_ (i:=9) (N:=some 3) (v:=?_) (a':=?_) #[true,true,true,true,true,true,true,true,true,true] rfl rfl (by kernel_rfl) (fun _ _ _ h => h) (Or.inl ⟨by rfl,?_⟩) ?_ ?_
 rotate_left
 ·intro w'
  go_simp
  with_reducible rfl
 rotate_left
 ·simp only [Act.put,List.setIfInBounds_toArray,List.set_cons_zero,List.set_cons_succ,i64_w,i32_w]
  rfl
 refine done_ (by kernel_rfl) ?_
 clear d0 d2 f0 f2 ca t1 t2 t3
 simp only [List.length_cons,List.length_nil]
 have e2:=(blk_cell HX3.out 2).trans rfl
 go_upto_if 19 with (fail)
 refine cutU 53 (fun u wc => u 1 = .pointer (some ⟨g,0,none⟩) ∧ u 3 = .string (mkB (tg.data.toList ++ 32 :: (po ++ if op = 2 then 32 :: ag.data.toList else []))) ∧ Below w3.heap.size w3 wc) ?rest ?first
 case first =>
  intro J K hJ hK
  have e3:=(blk_cell HX3.out 3).trans rfl
  by_cases o2 : op = 2
  ·have o3 : (op : Int) = 2:=by omega
   have sa:=sag o2
   have s1 : (tg ++ (⟨#[32]⟩ : ByteArray) ++ mkB po).size = tg.size + 1 + (mkB po).size:=by rw [ByteArray.size_append,ByteArray.size_append]; rfl
   have s2 : (9223372036854775807 < 1 + ag.size) = False:=eq_false (by omega)
   have s3 : (9223372036854775807 < tg.size + 1 + (mkB po).size + (1 + ag.size)) = False:=eq_false (by omega)
   go_wp2
   refine Met.intro (hJ _ _ rfl ⟨rfl,?_,Below.refl _ _⟩)
   refine congrArg Value.string ?_
   apply ByteArray.ext
   apply Array.toList_inj.1
   simp [mkB,ByteArray.data_append,o2]
  ·have o3 : ((op : Int) == 2) = false:=beq_eq_false_iff_ne.2 (by omega)
   go_wp2
   refine Met.intro (hJ _ _ rfl ⟨rfl,?_,Below.refl _ _⟩)
   refine congrArg Value.string ?_
   apply ByteArray.ext
   apply Array.toList_inj.1
   simp [mkB,ByteArray.data_append,o2]
 case rest =>
  rintro u W ⟨h1,h3,hB⟩
  rw [lit53]
  simp only [h1,h3]
  have hhd : tg.data.toList ++ 32 :: (po ++ if op = 2 then 32 :: ag.data.toList else []) ++ [32,111,102] = hd:=by
   rw [HHead.out]
   by_cases o2 : op = 2
   ·rw [if_pos o2,if_pos (by omega)]; simp
   ·rw [if_neg o2,if_neg (by omega)]; simp
  obtain ⟨pre,hpre⟩ : ∃ z,z = tg.data.toList ++ 32 :: (po ++ if op = 2 then 32 :: ag.data.toList else []):=⟨_,rfl⟩
  rw [← hpre] at hhd ⊢
  have hx:=blk_below HX3.out hB
  have HXW:=Aside0.mk hx
  have HBW:=Aside0.mk (HB3.out.trans (hB.mono HB3.out.size))
  have e1:=(blk_cell hx 1).trans rfl
  have e4:=(blk_cell hx 4).trans rfl
  have s0 : (mkB pre).size + 3 ≤ 1099511627776:=by
   have h:=HLen.out
   rw [← hhd,List.length_append] at h
   rw [mkB_size]
   simp only [List.length_cons,List.length_nil] at h
   omega
  have s1 : (9223372036854775807 < (mkB pre).size + 3) = False:=eq_false (by omega)
  clear hx hB h1 h3 hpre hHeld
  go_upto_block 0 with (fail)
  have HHd:=Aside0.mk hhd
  clear s0 s1 e1 e4 hhd
  refine cutU 53 (fun u wc => u 1 = .pointer (some ⟨g,0,none⟩) ∧ u 3 = .string (mkB (hd ++ tailW (L1.map fun s => s.data.toList))) ∧ Below W.heap.size W wc) ?rest2 ?first2
  case first2 =>
   intro J K hJ hK
   go_wp2
   refine loopG 53 (fun gh u wc => ∃ i : Nat,gh = n1 - i ∧ i ≤ n1 ∧ u 1 = .pointer (some ⟨g,0,none⟩) ∧ u 3 = .string (mkB (hd ++ tailW ((L1.take i).map fun s => s.data.toList))) ∧ u 28 = .slice A1 n1 c1 ∧ u 29 = .int .i64 n1 ∧ u 30 = .int .i64 i ∧ Below W.heap.size W wc) n1 rfl ?atStart ?round
   case atStart =>
    refine ⟨0,rfl,Nat.zero_le _,rfl,?_,rfl,rfl,rfl,Below.refl _ _⟩
    refine congrArg Value.string ?_
    show mkB pre ++ mkB [32,111,102] = _
    rw [mkB_append,HHd.out]
    simp [tailW]
   case round =>
    rintro gh u W2 ⟨i,hgh,hi,h1,h3,h28,h29,h30,hB⟩ J2 K2 hJ2 hK2
    rw [lit53]
    simp only [h1,h3,h28,h29,h30]
    have HB:=Aside0.mk hB
    clear h1 h3 h28 h29 h30 hB
    by_cases ci : i < n1
    ·obtain ⟨s,hs⟩ : ∃ s,L1[i]? = some s:=⟨L1[i]'(by have:=HN1.out; omega),List.getElem?_eq_getElem (by have:=HN1.out; omega)⟩
     obtain ⟨ad2,hA,b⟩:=rowS (Kd.C_below (Kd.C_below H1.out HBW.out) HB.out) hs
     subst hA
     have hnext : hd ++ tailW ((L1.take (i + 1)).map fun s => s.data.toList) = (hd ++ tailW ((L1.take i).map fun s => s.data.toList)) ++ 32 :: s.data.toList:=by
      rw [List.take_add_one,hs]
      simp [tailW]
     have hl:=take_le L1 (i + 1)
     have hl2:=HLen.out
     have hl3 : (hd ++ tailW ((L1.take (i + 1)).map fun s => s.data.toList)).length ≤ 1099511627776:=by rw [List.length_append]; omega
     rw [hnext,List.length_append,List.length_cons] at hl3
     have HNext:=Aside0.mk hnext
     obtain ⟨now,hnow⟩ : ∃ z,z = hd ++ tailW ((L1.take i).map fun s => s.data.toList):=⟨_,rfl⟩
     rw [← hnow] at hl3 HNext ⊢
     have hss : s.size = s.data.toList.length:=rfl
     have hns : (mkB now).size = now.length:=mkB_size _
     have s2 : (9223372036854775807 < 1 + s.size) = False:=eq_false (by omega)
     have s3 : (9223372036854775807 < (mkB now).size + (1 + s.size)) = False:=eq_false (by omega)
     have u1 : (i : Int) < (n1 : Int):=by omega
     have u2 : IntKind.i64.wrap ((i : Int) + 1) = (i : Int) + 1:=by rw [IntKind.wrap_i64]; omega
     have u3 : (0 : Int) ≤ (i : Int):=by omega
     clear hs hnext hl hl2 hl3 hnow hss hns
     go_wp2
     refine Met.intro (hJ2 (n1 - (i + 1)) _ _ rfl (by omega) ⟨i + 1,rfl,ci,rfl,?_,rfl,rfl,rfl,HB.out⟩)
     refine congrArg Value.string ?_
     rw [HNext.out,← mkB_append]
     refine congrArg (mkB now ++ ·) ?_
     apply ByteArray.ext
     apply Array.toList_inj.1
     simp [mkB,ByteArray.data_append]
    ·have u1 : decide ((i : Int) < (n1 : Int)) = false:=decide_eq_false (by omega)
     have ei : L1.take i = L1:=List.take_of_length_le (by have:=HN1.out; omega)
     rw [ei]
     go_wp2
     exact Met.intro (hJ _ _ rfl ⟨rfl,rfl,HB.out⟩)
  case rest2 =>
   rintro u W2 ⟨h1,h3,hB⟩
   rw [lit53]
   simp only [h1,h3]
   have hx:=blk_below HXW.out hB
   have HBV:=Aside0.mk (HBW.out.trans (hB.mono HBW.out.size))
   have e4:=(blk_cell hx 4).trans rfl
   clear hx hB h1 h3
   obtain ⟨H2,hH2⟩ : ∃ z,z = hd ++ tailW (L1.map fun s => s.data.toList):=⟨_,rfl⟩
   rw [← hH2]
   have hlen2 : H2.length + (tailW (L4.flatMap fun c => [59] :: cwords c)).length ≤ 1099511627776:=by
    have h:=HLen.out
    rw [hH2,List.length_append]
    omega
   have HLen2:=Aside0.mk hlen2
   have HH2:=Aside0.mk hH2
   clear hlen2 hH2
   go_upto_block 2 with (fail)
   clear e4
   refine cutU 53 (fun u wc => u 3 = .string (mkB (H2 ++ tailW (L4.flatMap fun c => [59] :: cwords c))) ∧ Below W2.heap.size W2 wc) ?rest3 ?first3
   case rest3 =>
    rintro u W3 ⟨h3,hB⟩
    rw [lit53]
    simp only [h3]
    have HB:=Aside0.mk hB
    clear h3 hB
    go_wp2
    go_ret
    exact ⟨by rw [HH2.out]; rfl,HBV.out.trans (HB.out.mono HBV.out.size)⟩
   case first3 =>
    intro J K hJ hK
    go_wp2
    refine loopG 53 (fun gh u wc => ∃ i : Nat,gh = n4 - i ∧ i ≤ n4 ∧ u 3 = .string (mkB (H2 ++ tailW ((L4.take i).flatMap fun c => [59] :: cwords c))) ∧ u 40 = .slice A4 n4 c4 ∧ u 41 = .int .i64 n4 ∧ u 42 = .int .i64 i ∧ Below W2.heap.size W2 wc) n4 rfl ?atStart2 ?round2
    case atStart2 =>
     refine ⟨0,rfl,Nat.zero_le _,?_,rfl,rfl,rfl,Below.refl _ _⟩
     refine congrArg Value.string ?_
     simp [tailW]
    case round2 =>
     rintro gh u W3 ⟨i,hgh,hi,h3,h40,h41,h42,hB⟩ J2 K2 hJ2 hK2
     rw [lit53]
     simp only [h3,h40,h41,h42]
     have HB:=Aside0.mk hB
     clear h3 h40 h41 h42 hB
     by_cases ci : i < n4
     ·obtain ⟨x,hs⟩ : ∃ x,L4[i]? = some x:=⟨L4[i]'(by have:=HN4.out; omega),List.getElem?_eq_getElem (by have:=HN4.out; omega)⟩
      obtain ⟨ad2,hA,b0,b1,b2,b3,b4⟩:=at_T56 (Kd.C_below (Kd.C_below H4.out HBV.out) HB.out) (i : Int) (by omega) (by have:=HN4.out; omega)
      subst hA
      rw [rd56 hs,Int.toNat_natCast] at b0 b1 b2 b3 b4
      obtain ⟨q1,q2,q3,q4⟩:=HCm.out x (List.mem_of_getElem? hs)
      have HP:=Aside0.mk (fun W => CmdLine_walk W x q1 q2 q3 q4)
      have hnext : H2 ++ tailW ((L4.take (i + 1)).flatMap fun c => [59] :: cwords c) = (H2 ++ tailW ((L4.take i).flatMap fun c => [59] :: cwords c)) ++ 32 :: 59 :: 32 :: cline x:=by
       rw [List.take_add_one,hs,List.flatMap_append,tailW_append]
       show _ ++ (_ ++ tailW (([59] :: cwords x) ++ [])) = _
       rw [List.append_nil,tailW_cons,tailW_cwords]
       simp
      have hl:=take_le2 L4 (i + 1)
      have hl2:=HLen2.out
      have hl3 : (H2 ++ tailW ((L4.take (i + 1)).flatMap fun c => [59] :: cwords c)).length ≤ 1099511627776:=by rw [List.length_append]; omega
      rw [hnext,List.length_append,List.length_cons,List.length_cons,List.length_cons] at hl3
      have HNext:=Aside0.mk hnext
      obtain ⟨now,hnow⟩ : ∃ z,z = H2 ++ tailW ((L4.take i).flatMap fun c => [59] :: cwords c):=⟨_,rfl⟩
      rw [← hnow] at hl3 HNext ⊢
      obtain ⟨cl,hcl⟩ : ∃ z,z = cline x:=⟨_,rfl⟩
      rw [← hcl] at hl3 HNext HP
      have hns : (mkB now).size = now.length:=mkB_size _
      have hcs : (mkB cl).size = cl.length:=mkB_size _
      have s2 : (9223372036854775807 < 3 + (mkB cl).size) = False:=eq_false (by omega)
      have s3 : (9223372036854775807 < (mkB now).size + (3 + (mkB cl).size)) = False:=eq_false (by omega)
      have u1 : (i : Int) < (n4 : Int):=by omega
      have u2 : IntKind.i64.wrap ((i : Int) + 1) = (i : Int) + 1:=by rw [IntKind.wrap_i64]; omega
      have u3 : (0 : Int) ≤ (i : Int):=by omega
      have hba:=below_alloc (Below.refl W3.heap.size W3) (.cells #[Value.int .u8 x.f0,.bool x.f1,.int .u8 x.f2,.int .u8 x.f3,.string x.f4] 56)
      have HBA:=Aside0.mk hba
      clear hs hnext hl hl2 hl3 hnow hcl hns hcs q1 q2 q3 q4 hba
      go_wp2_with fail
      refine (HP.out _).mono ?_
      rintro e w5 ⟨rfl,hb5⟩
      have HB5:=Aside0.mk (HB.out.trans ((HBA.out.trans (hb5.mono HBA.out.size)).mono HB.out.size))
      clear hb5 b0 b1 b2 b3 b4
      go_wp2
      refine Met.intro (hJ2 (n4 - (i + 1)) _ _ rfl (by omega) ⟨i + 1,rfl,ci,?_,rfl,rfl,rfl,HB5.out⟩)
      refine congrArg Value.string ?_
      rw [HNext.out,← mkB_append]
      refine congrArg (mkB now ++ ·) ?_
      apply ByteArray.ext
      apply Array.toList_inj.1
      simp [mkB,ByteArray.data_append]
     ·have u1 : decide ((i : Int) < (n4 : Int)) = false:=decide_eq_false (by omega)
      have ei : L4.take i = L4:=List.take_of_length_le (by have:=HN4.out; omega)
      rw [ei]
      go_wp2
      exact Met.intro (hJ _ _ rfl ⟨rfl,HB.out⟩)
end Go.Proofs.YtplbifmjnanceaaGreatDoor
end
