/- All rules of a text; EqualFunc and Same; the text of a rule gives back the rule. -/
import Derived.Test.YtplbifmjnanceaaGreatDoorVM
section
namespace Go.Proofs.YtplbifmjnanceaaGreatDoor
open Go.RowKit Go.Proofs.YtplbifmjnanceaaGreatDoorW.PrintWords Go.Proofs.YtplbifmjnanceaaGreatDoorW.PrintLast Go.Proofs.YtplbifmjnanceaaGreatDoorW.PrintMore
open Go.Proofs.YtplbifmjnanceaaGreatDoor.PFnArchive
set_option linter.unusedVariables false
set_option linter.unusedSimpArgs false
set_option maxRecDepth 100000 in
theorem lit35r (u : Nat → Value) : FrOf 35 u = [u 0,u 1,u 2,u 3,u 4,u 5,u 6,u 7,u 8,u 9,u 10,u 11,u 12,u 13,u 14,u 15,u 16,u 17,u 18,u 19,u 20,u 21,u 22,u 23,u 24,u 25,u 26,u 27,u 28,u 29,u 30,u 31,u 32,u 33,u 34]:=rfl
def rlines (L : List S31) : Bs:=L.flatMap fun x => rline x ++ [10]
theorem rlines_cons (x : S31) (L : List S31) : rlines (x :: L) = rline x ++ 10 :: rlines L:=by simp [rlines]
def RuleAll (nm pat wd : ByteArray → Bool) (x : S31) : Prop:=FitsR x ∧ cleanR nm pat wd x = true ∧ RuleOk wd x ∧ (10 : UInt8) ∉ rline x
theorem infoR : (Tryz.prog.info? 31).map (fun i => (i.zero,i.size,i.bytes)) = some (some (.agg #[.string ⟨#[]⟩,.slice none 0 0,.int .u8 0,.string ⟨#[]⟩,.slice none 0 0]),5,88):=by kernel_rfl
set_option maxHeartbeats 4000000 in
set_option maxRecDepth 100000 in
theorem RulesOf_walk (w : World) (nm pat dt wd : ByteArray → Bool) (V : Tests nm pat dt wd) (L : List S31) (hL : ∀ x ∈ L,RuleAll nm pat wd x) (hsz : (rlines L).length ≤ 1099511627776) (hl : L.length ≤ 1000) :
  Calls Tryz.prog 11 #[.string (mkB (rlines L))] w fun e w' => ∃ v,e = .returned (.tuple #[v,.bool true]) ∧ k31.R 31 w' w.heap.size (fun _ => True) v L ∧ Below w.heap.size w w':=by
 have HV:=Aside0.mk V
 have HL:=Aside0.mk hL
 have HSz:=Aside0.mk hsz
 obtain ⟨n,hn⟩ : ∃ z,z = L.length:=⟨_,rfl⟩
 have HN:=Aside0.mk hn
 rw [← hn] at hl
 clear V hL hsz hn
 go_enter Tryz.func11,Tryz.ntmps11
 go_upto_block 0 with (fail)
 refine cutU 35 (fun u wc => ∃ v,u 4 = v ∧ k31.R 31 wc w.heap.size (fun _ => True) v L ∧ Below w.heap.size w wc) ?rest ?first
 case rest =>
  rintro u W ⟨v,h4,hR,hB⟩
  rw [lit35r]
  simp only [h4]
  have HR:=Aside0.mk hR
  have HB:=Aside0.mk hB
  clear h4 hR hB
  go_wp2
  refine bodyPost_ret (v:=.tuple #[v,.bool true]) ?_ rfl ⟨_,rfl,HR.out,HB.out⟩
  simp [results,Tryz.results11,go_sem]
 case first =>
  intro J K hJ hK
  go_wp2
  refine loopG 35 (fun g u wc => ∃ (i : Nat) (v : Value),g = n - i ∧ i ≤ n ∧ u 0 = .string (mkB (rlines (L.drop i))) ∧ u 4 = v ∧ k31.R 31 wc w.heap.size (fun _ => True) v (L.take i) ∧ Below w.heap.size w wc) n rfl ?atStart ?round
  case atStart => exact ⟨0,_,rfl,Nat.zero_le _,rfl,rfl,Kd.R_nil _ _ _ _ _,Below.refl _ _⟩
  case round =>
   rintro g u W ⟨i,v,hg,hi,h0,h4,hR,hB⟩ J2 K2 hJ2 hK2
   rw [lit35r]
   simp only [h0,h4]
   have HR:=Aside0.mk hR
   have HB:=Aside0.mk hB
   clear h0 h4 hR hB
   by_cases ci : i < n
   ·have hin : i < L.length:=by have:=HN.out; omega
    obtain ⟨x,hx⟩ : ∃ x,L[i]? = some x:=⟨L[i],List.getElem?_eq_getElem hin⟩
    have hdrop : L.drop i = x :: L.drop (i + 1):=by
     rw [List.drop_eq_getElem_cons hin]
     rw [List.getElem?_eq_getElem hin] at hx
     injection hx with hx
     rw [hx]
    have hmem:=List.mem_of_getElem? hx
    obtain ⟨q1,q2,q3,q4⟩:=HL.out x hmem
    have hlen : (rlines (L.drop i)).length ≤ 1099511627776:=by
     have h:=HSz.out
     have e : rlines L = rlines (L.take i) ++ rlines (L.drop i):=by
      unfold rlines
      rw [← List.flatMap_append,List.take_append_drop]
     rw [e,List.length_append] at h
     omega
    rw [hdrop,rlines_cons] at hlen ⊢
    obtain ⟨ka,hka⟩:=line_f (rline x) (rlines (L.drop (i + 1))) hlen q4
    have HAr:=Aside0.mk (fun W' => spec_arcLine.calls ka (mkB (rline x ++ 10 :: rlines (L.drop (i + 1)))) (mkB (rline x)) (mkB (rlines (L.drop (i + 1)))) true W' hka)
    have HRu:=Aside0.mk (fun W' => ruleOf_walk W' nm pat dt wd HV.out x q1 q2 q3)
    have Hx:=Aside0.mk hx
    have e1 : ¬ (mkB (rline x ++ 10 :: rlines (L.drop (i + 1)))).toList = ([] : List UInt8):=by
     rw [toList_mk]
     simp
    have e2 : ((mkB (rline x ++ 10 :: rlines (L.drop (i + 1)))).toList == ([] : List UInt8)) = false:=beq_eq_false_iff_ne.2 e1
    obtain ⟨S,hS⟩ : ∃ z,z = mkB (rline x ++ 10 :: rlines (L.drop (i + 1))):=⟨_,rfl⟩
    obtain ⟨S1,hS1⟩ : ∃ z,z = mkB (rline x):=⟨_,rfl⟩
    obtain ⟨S2,hS2⟩ : ∃ z,z = mkB (rlines (L.drop (i + 1))):=⟨_,rfl⟩
    rw [← hS] at e1 e2 HAr ⊢
    rw [← hS1] at HAr HRu
    rw [← hS2] at HAr
    have HS2:=Aside0.mk hS2
    clear hx hdrop hmem q1 q2 q3 q4 hlen hka hS hS1 hS2
    go_wp2_with fail
    refine (HAr.out W).mono ?_
    rintro e w1 ⟨rfl,hd⟩
    have HB1:=Aside0.mk (HB.out.trans (hd.below.mono HB.out.size))
    have HR1:=Aside0.mk (Kd.R_below HR.out hd.below)
    clear hd
    go_wp2_with fail
    refine (HRu.out w1).mono ?_
    rintro e w2 ⟨v1,v4,rfl,hr1,hr4,hb2⟩
    obtain ⟨A1,k1,eV1,_,_⟩:=Kd.R_reads hr1
    obtain ⟨A4,k4,eV4,_,_⟩:=Kd.R_reads hr4
    subst eV1 eV4
    have hba : Below w2.heap.size w2 (w2.alloc (.cells #[Value.string x.f0,.slice A1 x.f1.length k1,.int .u8 x.f2,.string x.f3,.slice A4 x.f4.length k4] 31 (0,0))):=below_alloc (Below.refl _ _) _
    obtain ⟨w3,hw3⟩ : ∃ z,z = w2.alloc (.cells #[Value.string x.f0,.slice A1 x.f1.length k1,.int .u8 x.f2,.string x.f3,.slice A4 x.f4.length k4] 31 (0,0)):=⟨_,rfl⟩
    rw [← hw3] at hba
    have HW3:=Aside0.mk hw3
    have HR3:=Aside0.mk (Kd.R_below HR1.out (hb2.trans (hba.mono hb2.size)))
    have HB3:=Aside0.mk (HB1.out.trans ((hb2.trans (hba.mono hb2.size)).mono HB1.out.size))
    have HX1:=Aside0.mk (Kd.R_mono (Kd.R_lower (Kd.R_bound (Kd.R_below hr1 hba)) HB1.out.size) (ok':=fun k => w1.heap.size ≤ k) (fun k hk => hk.2.1))
    have HX4:=Aside0.mk (Kd.R_mono (Kd.R_lower (Kd.R_bound (Kd.R_below hr4 hba)) HB1.out.size) (ok':=fun k => w1.heap.size ≤ k) (fun k hk => hk.2.1))
    have hil : ((L.take i).length + 1) * 88 ≤ 140737488355328:=by rw [List.length_take]; omega
    clear hr1 hr4 hb2 hba hw3
    go_wp2_with (first | (at_builtin; rw [← HW3.out]; refine Kd.R_append k31 (w0:=w3) (W:=w3) w.heap.size rfl (.tmp 29) (.tmp 31) 23 31 (.agg #[.string ⟨#[]⟩,.slice none 0 0,.int .u8 0,.string ⟨#[]⟩,.slice none 0 0]) 88 rfl Tryz.underlying23 infoR rfl (by decide) (by decide) v (L.take i) x [.string x.f0,.slice A1 x.f1.length k1,.int .u8 x.f2,.string x.f3,.slice A4 x.f4.length k4] (fun _ => True) (fun k => w1.heap.size ≤ k) rfl (by show Value.slice (some ⟨w2.heap.size + 1,0,none⟩) 1 1 = _; rw [HW3.out,alloc_size]) (k31_mkM _ _ _ _ HX1.out HX4.out) (fun k hk => ⟨trivial,fun e => by have:=Kd.R_lt HR1.out k e.symm; omega⟩) (fun k hk => trivial) HR3.out (Below.refl _ _) HB3.out.size hil ?_; intro v5 w5 ho1 hb1 hg1 hat1; have HR5:=Aside0.mk ho1; have HB5:=Aside0.mk (HB3.out.trans hb1); clear ho1 hb1 hg1 hat1))
    have e5 : L.take i ++ [x] = L.take (i + 1):=by rw [List.take_add_one,Hx.out]; rfl
    have hR5:=HR5.out
    rw [e5] at hR5
    exact Met.intro (hJ2 (n - (i + 1)) _ _ rfl (by omega) ⟨i + 1,v5,rfl,ci,by rw [HS2.out]; rfl,rfl,hR5,HB5.out⟩)
   ·obtain rfl : i = n:=by omega
    have hR:=HR.out
    rw [List.take_of_length_le (by have:=HN.out; omega)] at hR
    have HR2:=Aside0.mk hR
    have e0 : mkB (rlines (L.drop i)) = ⟨#[]⟩:=by rw [List.drop_of_length_le (by have:=HN.out; omega)]; rfl
    rw [e0]
    clear hR e0
    go_wp2
    exact Met.intro (hJ _ _ rfl ⟨v,rfl,HR2.out,HB.out⟩)
end Go.Proofs.YtplbifmjnanceaaGreatDoor
end
section
namespace Go.Proofs.YtplbifmjnanceaaGreatDoor
open Go.RowKit Go.Proofs.YtplbifmjnanceaaGreatDoorW.PrintWords Go.Proofs.YtplbifmjnanceaaGreatDoorW.PrintLast Go.Proofs.YtplbifmjnanceaaGreatDoorW.PrintMore
open Go.Proofs.YtplbifmjnanceaaGreatDoor.PFnArchive
set_option linter.unusedVariables false
set_option linter.unusedSimpArgs false
set_option maxRecDepth 100000 in
theorem lit32 (u : Nat → Value) : FrOf 32 u = [u 0,u 1,u 2,u 3,u 4,u 5,u 6,u 7,u 8,u 9,u 10,u 11,u 12,u 13,u 14,u 15,u 16,u 17,u 18,u 19,u 20,u 21,u 22,u 23,u 24,u 25,u 26,u 27,u 28,u 29,u 30,u 31]:=rfl
def cells31 (x : S31) (B1 : Option Addr) (k1 : Nat) (B4 : Option Addr) (k4 : Nat) : Array Value:=#[.string x.f0,.slice B1 x.f1.length k1,.int .u8 x.f2,.string x.f3,.slice B4 x.f4.length k4]
set_option maxHeartbeats 4000000 in
set_option maxRecDepth 100000 in
theorem equal_calls (w : World) (A1 A2 : Option Addr) (c1 c2 : Nat) (L : List S31) (h1 : Kd.C k31 w A1 L.length L) (h2 : Kd.C k31 w A2 L.length L) (hl : L.length ≤ 1000) (hf : ∀ x ∈ L,x.f1.length ≤ 2147483647 ∧ x.f4.length ≤ 2147483647) :
  Calls Tryz.prog 29 #[.slice A1 L.length c1,.slice A2 L.length c2,.func (.func 30) #[] #[]] w fun e w' => e = .returned (.bool true) ∧ Below w.heap.size w w':=by
 have H1:=Aside0.mk h1
 have H2:=Aside0.mk h2
 have HF:=Aside0.mk hf
 obtain ⟨n,hn⟩ : ∃ z,z = L.length:=⟨_,rfl⟩
 rw [← hn] at hl ⊢
 have HN:=Aside0.mk hn
 clear h1 h2 hf hn
 go_enter Tryz.func29,Tryz.ntmps29
 go_wp2
 refine loopG 32 (fun g u wc => ∃ i : Nat,g = n - i ∧ i ≤ n ∧ u 0 = .slice A1 n c1 ∧ u 1 = .slice A2 n c2 ∧ u 2 = .func (.func 30) #[] #[] ∧ u 15 = .slice A1 n c1 ∧ u 16 = .int .i64 n ∧ u 17 = .int .i64 i ∧ Below w.heap.size w wc) n rfl ?atStart ?round
 case atStart => exact ⟨0,rfl,Nat.zero_le _,rfl,rfl,rfl,rfl,rfl,rfl,Below.refl _ _⟩
 case round =>
  rintro g u W ⟨i,hg,hi,h0,h1,h2,h15,h16,h17,hB⟩ J K hJ hK
  rw [lit32]
  simp only [h0,h1,h2,h15,h16,h17]
  have HB:=Aside0.mk hB
  clear h0 h1 h2 h15 h16 h17 hB
  by_cases ci : i < n
  ·obtain ⟨x,hx⟩ : ∃ x,L[i]? = some x:=⟨L[i]'(by have:=HN.out; omega),List.getElem?_eq_getElem (by have:=HN.out; omega)⟩
   obtain ⟨ad,B1,k1,B4,k4,hA,b0,b1,b2,b3,b4,l1,g1,l4,g4⟩:=at_T31 (Kd.C_below H1.out HB.out) (i : Int) (by omega) (by have:=HN.out; omega)
   subst hA
   rw [rd31 hx,Int.toNat_natCast] at b0 b1 b2 b3 b4
   rw [rd31 hx] at l1 g1 l4 g4
   have hba:=below_alloc (Below.refl W.heap.size W) (.cells (cells31 x B1 k1 B4 k4) 31 (0,0))
   obtain ⟨ad2,C1,m1,C4,m4,hA2,e0,e1,e2,e3,e4,p1,q1,p4,q4⟩:=at_T31 (Kd.C_below H2.out (HB.out.trans (hba.mono HB.out.size))) (i : Int) (by omega) (by have:=HN.out; omega)
   subst hA2
   rw [rd31 hx,Int.toNat_natCast] at e0 e1 e2 e3 e4
   rw [rd31 hx] at p1 q1 p4 q4
   have hbb:=below_alloc hba (.cells (cells31 x C1 m1 C4 m4) 31 (0,0))
   have hbc:=below_alloc (Below.refl (W.alloc (.cells (cells31 x B1 k1 B4 k4) 31 (0,0))).heap.size (W.alloc (.cells (cells31 x B1 k1 B4 k4) 31 (0,0)))) (.cells (cells31 x C1 m1 C4 m4) 31 (0,0))
   have hfit:=HF.out x (List.mem_of_getElem? hx)
   obtain ⟨k,hk⟩:=rule_same x hfit.1 hfit.2
   have HP:=Aside0.mk (spec_SameRule.calls k x.f0 B1 k1 x.f1 x.f2 x.f3 B4 k4 x.f4 x.f0 C1 m1 x.f1 x.f2 x.f3 C4 m4 x.f4 true ((W.alloc (.cells (cells31 x B1 k1 B4 k4) 31 (0,0))).alloc (.cells (cells31 x C1 m1 C4 m4) 31 (0,0))) (Kd.C_below g1 hbb) l1 (Kd.C_below g4 hbb) l4 (Kd.C_below q1 hbc) p1 (Kd.C_below q4 hbc) p4 hk)
   have HBB:=Aside0.mk hbb
   unfold cells31 at e0 e1 e2 e3 e4
   have u1 : (i : Int) < (n : Int):=by omega
   have u2 : IntKind.i64.wrap ((i : Int) + 1) = (i : Int) + 1:=by rw [IntKind.wrap_i64]; omega
   have u3 : (0 : Int) ≤ (i : Int):=by omega
   clear hx g1 g4 q1 q4 l1 l4 p1 p4 hba hbb hbc hfit hk
   go_wp2_with fail
   refine HP.out.mono ?_
   rintro e w5 ⟨rfl,hb5⟩
   have HB5:=Aside0.mk (HB.out.trans ((HBB.out.trans (hb5.mono HBB.out.size)).mono HB.out.size))
   clear hb5 b0 b1 b2 b3 b4 e0 e1 e2 e3 e4
   go_wp2
   exact Met.intro (hJ (n - (i + 1)) _ _ rfl (by omega) ⟨i + 1,rfl,ci,rfl,rfl,rfl,rfl,rfl,rfl,HB5.out⟩)
  ·have u1 : decide ((i : Int) < (n : Int)) = false:=decide_eq_false (by omega)
   go_wp2
   go_ret
   exact ⟨rfl,HB.out⟩
set_option maxHeartbeats 4000000 in
set_option maxRecDepth 100000 in
theorem Same_calls (w : World) (A1 A2 A3 A4 : Option Addr) (c1 c2 c3 c4 : Nat) (F : List S35) (L : List S31) (h1 : Kd.C k35 w A1 F.length F) (hc1 : F.length ≤ c1) (h2 : Kd.C k31 w A2 L.length L) (h3 : Kd.C k35 w A3 F.length F) (hc3 : F.length ≤ c3) (h4 : Kd.C k31 w A4 L.length L)
  (hl : L.length ≤ 1000) (hlf : F.length ≤ 2147483647) (hf : ∀ x ∈ L,x.f1.length ≤ 2147483647 ∧ x.f4.length ≤ 2147483647) :
  Calls Tryz.prog 12 #[.agg #[.slice A1 F.length c1,.slice A2 L.length c2],.agg #[.slice A3 F.length c3,.slice A4 L.length c4]] w fun e w' => e = .returned (.bool true) ∧ Below w.heap.size w w':=by
 obtain ⟨k,hk⟩:=file_same F hlf
 have HP:=Aside0.mk (fun W (hW : Below w.heap.size w W) => spec_File.calls k A1 c1 F A3 c3 F true W (Kd.C_below h1 hW) hc1 (Kd.C_below h3 hW) hc3 hk)
 have HQ:=Aside0.mk (fun W (hW : Below w.heap.size w W) => equal_calls W A2 A4 c2 c4 L (Kd.C_below h2 hW) (Kd.C_below h4 hW) hl hf)
 obtain ⟨n,hn⟩ : ∃ z,z = F.length:=⟨_,rfl⟩
 obtain ⟨m,hm⟩ : ∃ z,z = L.length:=⟨_,rfl⟩
 rw [← hn] at HP ⊢
 rw [← hm] at HQ ⊢
 clear h1 h2 h3 h4 hf hk hl hlf hc1 hc3 hn hm
 go_enter Tryz.func12,Tryz.ntmps12
 go_wp2_with (first | ((with_reducible refine gate_dst (N:=2) rfl ?_); refine box_event ?hg (N:=2) ?hd (cs:=#[.slice A1 n c1,.slice A2 m c2]) (t:=25) ?hr ?_; (case hd => rfl); (case hg => rfl); (case hr => first | (go_simp; done) | (go_simp; rfl)); intro g2 hg w1 hbx hb; have HX2:=Aside0.mk hbx; have HB1:=Aside0.mk hb; clear hbx hb hg) | ((with_reducible refine gate_dst (N:=3) rfl ?_); refine box_event ?hg (N:=3) ?hd (cs:=#[.slice A3 n c3,.slice A4 m c4]) (t:=25) ?hr ?_; (case hd => rfl); (case hg => rfl); (case hr => first | (go_simp; done) | (go_simp; rfl)); intro g3 hg w2 hbx hb; have HX3:=Aside0.mk hbx; have HY2:=Aside0.mk (blk_below HX2.out hb); have HB2:=Aside0.mk (HB1.out.trans (hb.mono HB1.out.size)); have a0:=(blk_cell HY2.out 0).trans rfl; have b0:=(blk_cell hbx 0).trans rfl; clear hbx hb hg))
 refine (HP.out w2 HB2.out).mono ?_
 rintro e w3 ⟨rfl,hb3⟩
 have HB3:=Aside0.mk (HB2.out.trans (hb3.below.mono HB2.out.size))
 have hx:=blk_below HY2.out hb3.below
 have hy:=blk_below HX3.out hb3.below
 have a1:=(blk_cell hx 1).trans rfl
 have b1:=(blk_cell hy 1).trans rfl
 clear hx hy hb3
 go_wp2_with fail
 refine (HQ.out w3 HB3.out).mono ?_
 rintro e w4 ⟨rfl,hb4⟩
 have HB4:=Aside0.mk (HB3.out.trans (hb4.mono HB3.out.size))
 clear hb4
 go_wp2
 go_ret
 exact ⟨rfl,HB4.out⟩
end Go.Proofs.YtplbifmjnanceaaGreatDoor
end
section
namespace Go.Proofs.YtplbifmjnanceaaGreatDoor
open Go.RowKit Go.Proofs.YtplbifmjnanceaaGreatDoorW.PrintWords Go.Proofs.YtplbifmjnanceaaGreatDoorW.PrintLast Go.Proofs.YtplbifmjnanceaaGreatDoorW.PrintMore
open Go.Proofs.YtplbifmjnanceaaGreatDoor.PFnArchive
set_option linter.unusedVariables false
set_option linter.unusedSimpArgs false
def GoodB (y : Bs) : Prop:=∀ b ∈ y,b ≠ 32 ∧ b ≠ 10 ∧ b ≠ 45
def NoSemi (y : Bs) : Prop:=(59 : UInt8) ∉ y
theorem byte_ne {b : UInt8} {n : Nat} (hn : n < 256) (h : (b.toNat : Int) ≠ (n : Int)) : b ≠ UInt8.ofNat n:=by
 intro e
 apply h
 rw [e,UInt8.toNat_ofNat']
 omega
theorem name_good {wild : Bool} {l : Bs} (h : NameB wild l) : GoodB l ∧ NoSemi l ∧ l ≠ []:=by
 refine ⟨fun b hb => ?_,fun hb => ?_,h.1⟩
 ·rcases h.2.1 b hb with e | e
  ·subst e; decide
  ·unfold okN at e
   exact ⟨byte_ne (n:=32) (by omega) (by omega),byte_ne (n:=10) (by omega) (by omega),byte_ne (n:=45) (by omega) (by omega)⟩
 ·rcases h.2.1 59 hb with e | e
  ·revert e; decide
  ·have h59 : ((59 : UInt8).toNat : Int) = 59:=rfl
   unfold okN at e
   rw [h59] at e
   omega
theorem word_good {l : Bs} (h : WordB l) : GoodB l ∧ NoSemi l:=by
 refine ⟨fun b hb => ?_,fun hb => ?_⟩
 ·have e:=h.2.2 b hb
  exact ⟨byte_ne (n:=32) (by omega) (by omega),byte_ne (n:=10) (by omega) (by omega),byte_ne (n:=45) (by omega) (by omega)⟩
 ·have e:=h.2.2 59 hb
  have h59 : ((59 : UInt8).toNat : Int) = 59:=rfl
  omega
theorem good_list {l : Bs} (h : (l.all fun b => b != 32 && b != 10 && b != 45 && b != 59) = true) : GoodB l ∧ NoSemi l:=by
 have h2 : ∀ b ∈ l,(b != 32 && b != 10 && b != 45 && b != 59) = true:=fun b hb => List.all_eq_true.1 h b hb
 refine ⟨fun b hb => ?_,fun hb => ?_⟩
 ·have:=h2 b hb
  simp only [Bool.and_eq_true,bne_iff_ne] at this
  exact ⟨this.1.1.1,this.1.1.2,this.1.2⟩
 ·have:=h2 59 hb
  simp at this
theorem plcAt_good (a : Int) : GoodB (plcAt a) ∧ NoSemi (plcAt a):=by
 apply good_list
 unfold plcAt
 by_cases h : a.toNat < 7
 ·have h2 : a.toNat = 0 ∨ a.toNat = 1 ∨ a.toNat = 2 ∨ a.toNat = 3 ∨ a.toNat = 4 ∨ a.toNat = 5 ∨ a.toNat = 6:=by omega
  rcases h2 with h | h | h | h | h | h | h <;> rw [h] <;> decide
 ·rw [List.getD_eq_getElem?_getD,List.getElem?_eq_none (by simp [plcs]; omega)]
  rfl
theorem knmAt_good (a : Int) : GoodB (knmAt a) ∧ NoSemi (knmAt a) ∧ (knmAt a).length ≤ 6:=by
 have h0 : ((knmAt a).all fun b => b != 32 && b != 10 && b != 45 && b != 59) = true ∧ (knmAt a).length ≤ 6:=by
  unfold knmAt
  by_cases h : a.toNat < 7
  ·have h2 : a.toNat = 0 ∨ a.toNat = 1 ∨ a.toNat = 2 ∨ a.toNat = 3 ∨ a.toNat = 4 ∨ a.toNat = 5 ∨ a.toNat = 6:=by omega
   rcases h2 with h | h | h | h | h | h | h <;> rw [h] <;> decide
  ·rw [List.getD_eq_getElem?_getD,List.getElem?_eq_none (by simp [knms]; omega)]
   exact ⟨rfl,by simp⟩
 exact ⟨(good_list h0.1).1,(good_list h0.1).2,h0.2⟩
theorem opnAt_good (a : Int) : GoodB (opnAt a):=by
 refine (good_list ?_).1
 unfold opnAt
 by_cases h : a.toNat < 4
 ·have h2 : a.toNat = 0 ∨ a.toNat = 1 ∨ a.toNat = 2 ∨ a.toNat = 3:=by omega
  rcases h2 with h | h | h | h <;> rw [h] <;> decide
 ·rw [List.getD_eq_getElem?_getD,List.getElem?_eq_none (by simp [opns]; omega)]
  rfl
structure CmdOk (wd : ByteArray → Bool) (c : S56) : Prop where
 r : CmdR c
 cl : cleanC wd c = true
 good : ∀ y ∈ cwords c,GoodB y ∧ NoSemi y ∧ y.length ≤ 2147483647
 few : (cwords c).length ≤ 5
theorem cmd_ok {nm pat dt wd : ByteArray → Bool} (V : Tests nm pat dt wd) (c : S56) (hs : c.f4.size ≤ 2147483647) (h0 : 0 ≤ c.f0 ∧ 0 ≤ c.f2 ∧ 0 ≤ c.f3) (h : cleanC wd c = true) : CmdOk wd c:=by
 have hcl:=h
 unfold cleanC at h
 simp only [Bool.and_eq_true,Bool.or_eq_true,Bool.not_eq_true',Bool.or_eq_false_iff,Bool.and_eq_false_iff,beq_iff_eq,bne_iff_ne,decide_eq_true_eq,decide_eq_false_iff_not,Bool.not_eq_false',beq_eq_false_iff_ne,bne_eq_false_iff_eq] at h
 obtain ⟨⟨⟨⟨⟨⟨h1,h2⟩,h3⟩,h4⟩,h5⟩,h6⟩,h7⟩:=h
 have hr : CmdR c:=⟨⟨h0.1,by omega⟩,⟨h0.2.1,by omega⟩,⟨h0.2.2,by omega⟩,hs⟩
 have ha:=plcAt_good c.f2
 have hb:=plcAt_good c.f3
 have hla:=plcAt_len c.f2
 have hlb:=plcAt_len c.f3
 have hk:=knmAt_good c.f0
 have ht : c.f0 = 5 → GoodB c.f4.data.toList ∧ NoSemi c.f4.data.toList:=by
  intro e
  rcases h7 with h | h
  ·exact word_good (V.wdB c.f4 h.2)
  ·omega
 have hlt : c.f4.data.toList.length ≤ 2147483647:=hs
 refine ⟨hr,hcl,fun y hy => ?_,?_⟩
 ·unfold cwords at hy
  rcases List.mem_append.1 hy with hy | hy
  ·split at hy
   ·rw [List.mem_singleton.1 hy]
    have:=good_list (l:=[33]) (by decide)
    exact ⟨this.1,this.2,by simp⟩
   ·cases hy
  ·rcases List.mem_cons.1 hy with rfl | hy
   ·exact ⟨hk.1,hk.2.1,by omega⟩
   ·unfold cargs at hy
    split at hy
    ·rw [List.mem_singleton.1 hy]; exact ⟨ha.1,ha.2,by omega⟩
    ·split at hy
     ·rename_i e5
      rcases List.mem_cons.1 hy with rfl | hy
      ·exact ⟨(ht e5).1,(ht e5).2,hlt⟩
      ·rw [List.mem_singleton.1 hy]; exact ⟨ha.1,ha.2,by omega⟩
     ·split at hy
      ·cases hy
      ·rcases List.mem_cons.1 hy with rfl | hy
       ·exact ⟨ha.1,ha.2,by omega⟩
       ·rw [List.mem_singleton.1 hy]; exact ⟨hb.1,hb.2,by omega⟩
 ·unfold cwords cargs
  split <;> split <;> (try split) <;> (try split) <;> simp
theorem tailW_len (B : Nat) (t : List Bs) (h : ∀ y ∈ t,y.length ≤ B) : (tailW t).length ≤ t.length * (B + 1):=by
 induction t with
 | nil => simp [tailW]
 | cons a t ih =>
  rw [tailW_cons,List.length_cons,List.length_append,List.length_cons]
  have:=ih (fun y hy => h y (List.mem_cons_of_mem _ hy))
  have h1:=h a List.mem_cons_self
  rw [Nat.add_mul]
  omega
theorem tailW_good (t : List Bs) (h : ∀ y ∈ t,GoodB y) : ∀ b ∈ tailW t,b ≠ 10 ∧ b ≠ 45:=by
 intro b hb
 unfold tailW at hb
 obtain ⟨y,hy,hb⟩:=List.mem_flatMap.1 hb
 rcases List.mem_cons.1 hb with rfl | hb
 ·decide
 ·exact (h y hy b hb).2
theorem rule_all {nm pat dt wd : ByteArray → Bool} (V : Tests nm pat dt wd) (x : S31) (hF : FitsR x) (hcl : cleanR nm pat wd x = true) (hop : 0 ≤ x.f2) (hcr : ∀ c ∈ x.f4,0 ≤ c.f0 ∧ 0 ≤ c.f2 ∧ 0 ≤ c.f3) :
  RuleAll nm pat wd x ∧ (45 : UInt8) ∉ rline x ∧ (rline x).length ≤ 109951162777:=by
 have h:=hcl
 unfold cleanR at h
 simp only [Bool.and_eq_true,Bool.or_eq_true,Bool.not_eq_true',decide_eq_true_eq,decide_eq_false_iff_not,beq_iff_eq] at h
 obtain ⟨⟨⟨⟨⟨⟨⟨⟨⟨g1,g2⟩,g3⟩,g4⟩,g5⟩,g6⟩,g7⟩,g8⟩,g9⟩,g10⟩:=h
 obtain ⟨fx0,⟨fx1,fx2⟩,fx3,fx4,fx5⟩:=hF
 have hn0:=name_good (V.nmB x.f0 g1)
 have hins : ∀ s ∈ x.f1,pat s = true:=by
  intro s hs
  have:=List.any_eq_false.1 g6 s hs
  simpa using this
 have hcs : ∀ c ∈ x.f4,CmdOk wd c:=by
  intro c hc
  have:=List.any_eq_false.1 g7 c hc
  exact cmd_ok V c (fx5 c hc) (hcr c hc) (by simpa using this)
 have harg : x.f2 = 2 → nm x.f3 = true:=by
  intro e
  rw [← g8,decide_eq_true e]
 have hof : GoodB [111,102]:=(good_list (by decide)).1
 have hsm : GoodB [59]:=by intro b hb; rw [List.mem_singleton.1 hb]; decide
 have htail : ∀ y ∈ rtail x,GoodB y ∧ y.length ≤ 2147483647:=by
  intro y hy
  unfold rtail at hy
  rcases List.mem_append.1 hy with hy | hy
  ·obtain ⟨s,hs,rfl⟩:=List.mem_map.1 hy
   exact ⟨(name_good (V.patB s (hins s hs))).1,fx2 s hs⟩
  ·obtain ⟨c,hc,hy⟩:=List.mem_flatMap.1 hy
   rcases List.mem_cons.1 hy with rfl | hy
   ·exact ⟨hsm,by simp⟩
   ·exact ⟨((hcs c hc).good y hy).1,((hcs c hc).good y hy).2.2⟩
 have hlo:=opnAt_len x.f2
 have hall : ∀ y ∈ rwords x,GoodB y ∧ y.length ≤ 2147483647:=by
  intro y hy
  unfold rwords at hy
  rcases List.mem_cons.1 hy with rfl | hy
  ·exact ⟨hn0.1,fx0⟩
  ·rcases List.mem_cons.1 hy with rfl | hy
   ·exact ⟨opnAt_good _,by omega⟩
   ·rcases List.mem_append.1 hy with hy | hy
    ·split at hy
     ·rename_i e
      rw [List.mem_singleton.1 hy]
      exact ⟨(name_good (V.nmB x.f3 (harg e))).1,fx3⟩
     ·cases hy
    ·rcases List.mem_cons.1 hy with rfl | hy
     ·exact ⟨hof,by simp⟩
     ·exact htail y hy
 have hflat : ∀ (L : List S56),(∀ c ∈ L,CmdOk wd c) → (L.flatMap fun c => [59] :: cwords c).length ≤ 6 * L.length:=by
  intro L
  induction L with
  | nil => intro _; simp
  | cons c t ih =>
   intro h
   rw [List.flatMap_cons,List.length_append,List.length_cons,List.length_cons]
   have h1:=(h c List.mem_cons_self).few
   have h2:=ih (fun c' hc => h c' (List.mem_cons_of_mem _ hc))
   omega
 have hcount : (rwords x).length ≤ 50:=by
  have h1:=hflat x.f4 hcs
  have h2 : (rtail x).length ≤ 40:=by
   unfold rtail
   rw [List.length_append,List.length_map]
   omega
  unfold rwords
  split <;> simp <;> omega
 have hlen : (rline x).length ≤ 109951162777:=by
  unfold rline
  have h1 : rwords x = x.f0.data.toList :: (rwords x).tail:=rfl
  rw [h1]
  show (x.f0.data.toList ++ tailW (rwords x).tail).length ≤ _
  have h2:=tailW_len 2147483647 (rwords x).tail (fun y hy => (hall y (List.mem_of_mem_tail hy)).2)
  have h3 : (rwords x).tail.length ≤ 49:=by rw [List.length_tail]; omega
  have h4 : x.f0.data.toList.length ≤ 2147483647:=fx0
  have h5 : (rwords x).tail.length * (2147483647 + 1) ≤ 49 * (2147483647 + 1):=Nat.mul_le_mul_right _ h3
  rw [List.length_append]
  omega
 have hbytes : ∀ b ∈ rline x,b ≠ 10 ∧ b ≠ 45:=by
  intro b hb
  have h1 : rwords x = x.f0.data.toList :: (rwords x).tail:=rfl
  unfold rline at hb
  rw [h1] at hb
  rcases List.mem_append.1 hb with hb | hb
  ·exact (hn0.1 b hb).2
  ·exact tailW_good _ (fun y hy => (hall y (List.mem_of_mem_tail hy)).1) b hb
 refine ⟨⟨⟨fx0,⟨fx1,fx2⟩,fx3,fx4,fx5⟩,hcl,?_,fun hb => (hbytes 10 hb).1 rfl⟩,fun hb => (hbytes 45 hb).2 rfl,hlen⟩
 exact {
  op:=⟨hop,g4⟩
  n1:=⟨by omega,g3⟩
  n4:=g5
  arg:=fun e => by
   rcases g9 with h | h
   ·exact absurd h e
   ·have:=(toList_nil x.f3).1 h
    apply ByteArray.ext
    apply Array.toList_inj.1
    exact this
  cmd:=fun c hc => ⟨(hcs c hc).r,(hcs c hc).cl⟩
  blank:=fun y hy hb => ((hall y hy).1 32 hb).1 rfl
  ins:=fun s hs e => by
   have h1:=(name_good (V.patB s (hins s hs))).2.1
   apply h1
   rw [e]
   exact List.mem_singleton.2 rfl
  cws:=fun c hc s hs e => by
   obtain ⟨y,hy,rfl⟩:=List.mem_map.1 hs
   have h1:=((hcs c hc).good y hy).2.1
   apply h1
   have h2 : (mkB y).data.toList = semi.data.toList:=by rw [e]
   rw [mkB_list] at h2
   rw [h2]
   exact List.mem_singleton.2 rfl
  few:=by omega
  sz:=by omega }
end Go.Proofs.YtplbifmjnanceaaGreatDoor
end
