/- FnArchive walked. -/
import Derived.Test.YtplbifmjnanceaaGreatDoorVW
namespace Go.Proofs.YtplbifmjnanceaaGreatDoor
open Go.RowKit Go.Proofs.YtplbifmjnanceaaGreatDoorW.PrintWords Go.Proofs.YtplbifmjnanceaaGreatDoorW.PrintLast Go.Proofs.YtplbifmjnanceaaGreatDoorW.PrintMore
open Go.Proofs.YtplbifmjnanceaaGreatDoor.PFnArchive
set_option linter.unusedVariables false
set_option linter.unusedSimpArgs false
theorem powTab.on {w w1 : World} (h : powTab w) (hb : Below w.heap.size w w1) : powTab w1:=fun w' hb' => h w' (hb.trans (hb'.mono hb.size))
set_option maxRecDepth 100000 in
theorem lit117 (u : Nat → Value) : FrOf 117 u = [u 0,u 1,u 2,u 3,u 4,u 5,u 6,u 7,u 8,u 9,u 10,u 11,u 12,u 13,u 14,u 15,u 16,u 17,u 18,u 19,u 20,u 21,u 22,u 23,u 24,u 25,u 26,u 27,u 28,u 29,u 30,u 31,u 32,u 33,u 34,u 35,u 36,u 37,u 38,u 39,u 40,u 41,u 42,u 43,u 44,u 45,u 46,u 47,u 48,u 49,u 50,u 51,u 52,u 53,u 54,u 55,u 56,u 57,u 58,u 59,u 60,u 61,u 62,u 63,u 64,u 65,u 66,u 67,u 68,u 69,u 70,u 71,u 72,u 73,u 74,u 75,u 76,u 77,u 78,u 79,u 80,u 81,u 82,u 83,u 84,u 85,u 86,u 87,u 88,u 89,u 90,u 91,u 92,u 93,u 94,u 95,u 96,u 97,u 98,u 99,u 100,u 101,u 102,u 103,u 104,u 105,u 106,u 107,u 108,u 109,u 110,u 111,u 112,u 113,u 114,u 115,u 116]:=rfl
theorem infoF : (Tryz.prog.info? 35).map (fun i => (i.zero,i.size,i.bytes)) = some (some (.agg #[.string ⟨#[]⟩,.string ⟨#[]⟩]),2,32):=by kernel_rfl
def pairs (F : List S35) : List (ByteArray × ByteArray):=F.map fun x => (x.f0,x.f1)
def backs (F : List S35) : List (ByteArray × ByteArray):=F.map fun x => (x.f0,mkB (nl x.f1.data.toList))
theorem pairs_eq (F : List S35) : (F.map flOf).map aF = pairs F:=by
 unfold pairs
 rw [List.map_map]
 refine List.map_congr_left (fun x _ => ?_)
 show (mkB x.f0.data.toList,mkB x.f1.data.toList) = _
 rw [mkB_data,mkB_data]
theorem backs_eq (F : List S35) : ((F.map flOf).map nlF).map aF = backs F:=by
 unfold backs
 rw [List.map_map,List.map_map]
 refine List.map_congr_left (fun x _ => ?_)
 show (mkB x.f0.data.toList,mkB (nl x.f1.data.toList)) = _
 rw [mkB_data]
structure Right (nm pat dt wd : ByteArray → Bool) (F : List S35) (L : List S31) : Prop where
 f : ∀ x ∈ F,FitsF x ∧ fileOk nm dt x
 l : ∀ x ∈ L,RuleAll nm pat wd x ∧ (45 : UInt8) ∉ rline x ∧ (rline x).length ≤ 109951162777
 nf : F.length ≤ 12
 nl : L.length ≤ 8
set_option maxHeartbeats 8000000 in
set_option maxRecDepth 100000 in
theorem FnArchive_calls (w : World) (A1 A2 : Option Addr) (c1 c2 : Nat) (F : List S35) (L : List S31) (h1 : Kd.C k35 w A1 F.length F) (hc1 : F.length ≤ c1) (h2 : Kd.C k31 w A2 L.length L) (hc2 : L.length ≤ c2)
  (hr : ∀ x ∈ L,0 ≤ x.f2 ∧ ∀ c ∈ x.f4,0 ≤ c.f0 ∧ 0 ≤ c.f2 ∧ 0 ≤ c.f3) (hT : spTab w) (hP : powTab w) :
  Calls Tryz.prog 3 #[.agg #[.slice A1 F.length c1,.slice A2 L.length c2]] w fun e w' => e = .returned (.bool true) ∧ Below w.heap.size w w':=by
 obtain ⟨nm,pat,dt,wd,V⟩:=vals_exist
 obtain ⟨k,r,hk,hfit⟩:=fits7 F L
 have H1:=Aside0.mk h1
 have H2:=Aside0.mk h2
 have HV:=Aside0.mk V
 have HR:=Aside0.mk hr
 have HT:=Aside0.mk hT
 have HK:=Aside0.mk (fun W (hW : Below w.heap.size w W) => laws_zzFits7.calls k A1 c1 F A2 c2 L r W (Kd.C_below h1 hW) hc1 (Kd.C_below h2 hW) hc2 hk)
 have HFit:=Aside0.mk hfit
 have HPr:=Aside0.mk (fun W (hW : Below w.heap.size w W) (f1 : F.length ≤ 2147483647 ∧ ∀ x ∈ F,FitsF x) (f2 : L.length ≤ 2147483647 ∧ ∀ x ∈ L,FitsR x) => right_calls W nm pat dt wd V A1 A2 c1 c2 F L (Kd.C_below h1 hW) hc1 (Kd.C_below h2 hW) hc2 f1 f2)
 have HAw:=Aside0.mk (fun W (hW : Below w.heap.size w W) => textsAwake_calls W (hT.on hW) (hP.on hW))
 obtain ⟨n1,hn1⟩ : ∃ z,z = F.length:=⟨_,rfl⟩
 obtain ⟨n2,hn2⟩ : ∃ z,z = L.length:=⟨_,rfl⟩
 rw [← hn1] at hc1
 rw [← hn2] at hc2
 rw [← hn1,← hn2] at HK HPr ⊢
 have HN1:=Aside0.mk hn1
 have HN2:=Aside0.mk hn2
 clear h1 h2 hr hT hP V hk hfit hn1 hn2
 go_enter Tryz.func3,Tryz.ntmps3
 go_wp2_with (first | ((with_reducible refine gate_dst (N:=1) rfl ?_); refine box_event ?hg (N:=1) ?hd (cs:=#[.slice A1 n1 c1,.slice A2 n2 c2]) (t:=25) ?hr ?_; (case hd => rfl); (case hg => rfl); (case hr => first | (go_simp; done) | (go_simp; rfl)); intro g1 hg w1 hbx hb; have HX1:=Aside0.mk hbx; have HB1:=Aside0.mk hb; have a0:=(blk_cell hbx 0).trans rfl; have a1:=(blk_cell hbx 1).trans rfl; clear hbx hb hg))
 refine (HK.out w1 HB1.out).mono ?_
 rintro e w2 ⟨rfl,hd2⟩
 have HB2:=Aside0.mk (HB1.out.trans (hd2.mono HB1.out.size))
 have hx2:=blk_below HX1.out hd2
 have HX2:=Aside0.mk hx2
 clear hd2 a0 a1 HK HX1 HB1
 cases r with
 | false =>
  clear hx2
  go_wp2
  go_ret
  exact ⟨rfl,HB2.out⟩
 | true =>
  have a0:=(blk_cell hx2 0).trans rfl
  have a1:=(blk_cell hx2 1).trans rfl
  clear hx2
  go_wp2_with fail
  refine (HPr.out w2 HB2.out (by rw [HN1.out]; exact (HFit.out trivial).1) (by rw [HN2.out]; exact (HFit.out trivial).2)).mono ?_
  rintro e w3 ⟨⟨r2,rfl,hr2⟩,hb3⟩
  have HB3:=Aside0.mk (HB2.out.trans (hb3.mono HB2.out.size))
  have hx3:=blk_below HX2.out hb3
  have HX3:=Aside0.mk hx3
  clear a0 a1 hb3 HPr HX2 HB2
  cases r2 with
  | false =>
   clear hx3 hr2
   go_wp2_with fail
   refine (HAw.out w3 HB3.out).mono ?_
   rintro e w4 ⟨rfl,hb4⟩
   have HB4:=Aside0.mk (HB3.out.trans (hb4.mono HB3.out.size))
   clear hb4
   go_wp2
   go_ret
   exact ⟨rfl,HB4.out⟩
  | true =>
   obtain ⟨r1,r2,r3,r4⟩:=hr2 rfl
   have hright : Right nm pat dt wd F L:=⟨fun x hx => ⟨(HFit.out trivial).1.2 x hx,r1 x hx⟩,fun x hx => rule_all HV.out x ((HFit.out trivial).2.2 x hx) (r2 x hx) (HR.out x hx).1 (HR.out x hx).2,by have:=HN1.out; omega,by have:=HN2.out; omega⟩
   have HRi:=Aside0.mk hright
   have hcm : (rlines L).length ≤ 879609302224:=by
    have h:=rlines_le L (fun x hx => (hright.l x hx).2.2)
    have h2 : L.length * 109951162778 ≤ 8 * 109951162778:=Nat.mul_le_mul_right _ hright.nl
    omega
   have HCm:=Aside0.mk hcm
   have m1 : n1 ≤ 12:=r3
   have m2 : n2 ≤ 8:=r4
   have a0:=(blk_cell hx3 0).trans rfl
   have a1:=(blk_cell hx3 1).trans rfl
   clear hr2 r1 r2 r3 r4 hright hcm hx3 HFit HR
   go_upto_block 0 with (fail)
   clear a0 a1
   refine cutU 117 (fun u wc => u 1 = .pointer (some ⟨g1,0,none⟩) ∧ u 3 = .string (mkB (rlines L)) ∧ Below w3.heap.size w3 wc) ?rest ?first
   case first =>
    intro J K hJ hK
    go_wp2
    refine loopG 117 (fun gh u wc => ∃ i : Nat,gh = n2 - i ∧ i ≤ n2 ∧ u 1 = .pointer (some ⟨g1,0,none⟩) ∧ u 3 = .string (mkB (rlines (L.take i))) ∧ u 26 = .slice A2 n2 c2 ∧ u 27 = .int .i64 n2 ∧ u 28 = .int .i64 i ∧ Below w3.heap.size w3 wc) n2 rfl ?atStart ?round
    case atStart => exact ⟨0,rfl,Nat.zero_le _,rfl,rfl,rfl,rfl,rfl,Below.refl _ _⟩
    case round =>
     rintro gh u W ⟨i,hgh,hi,h1,h3,h26,h27,h28,hB⟩ J2 K2 hJ2 hK2
     rw [lit117]
     simp only [h1,h3,h26,h27,h28]
     have HB:=Aside0.mk hB
     clear h1 h3 h26 h27 h28 hB
     by_cases ci : i < n2
     ·obtain ⟨x,hx⟩ : ∃ x,L[i]? = some x:=⟨L[i]'(by have:=HN2.out; omega),List.getElem?_eq_getElem (by have:=HN2.out; omega)⟩
      obtain ⟨ad,B1,k1,B4,k4,hA,b0,b1,b2,b3,b4,l1,g1',l4,g4⟩:=at_T31 (Kd.C_below H2.out (HB3.out.trans (HB.out.mono HB3.out.size))) (i : Int) (by omega) (by have:=HN2.out; omega)
      subst hA
      rw [rd31 hx,Int.toNat_natCast] at b0 b1 b2 b3 b4
      rw [rd31 hx] at l1 g1' l4 g4
      have hall:=HRi.out.l x (List.mem_of_getElem? hx)
      have hok:=hall.1.2.2.1
      have hba:=below_alloc (Below.refl W.heap.size W) (.cells (cells31 x B1 k1 B4 k4) 31 (0,0))
      have HP:=Aside0.mk (RuleText_walk (W.alloc (.cells (cells31 x B1 k1 B4 k4) 31 (0,0))) x B1 k1 B4 k4 (Kd.C_below g1' hba) l1 (Kd.C_below g4 hba) l4 hok.op (fun c hc => (hok.cmd c hc).1) (by have:=hok.n1; omega) (by have:=hok.n4; omega) hok.sz)
      have HBA:=Aside0.mk hba
      have hnext : rlines (L.take (i + 1)) = rlines (L.take i) ++ (rline x ++ [10]):=by
       rw [List.take_add_one,hx]
       simp [rlines]
      have hle : (rlines (L.take (i + 1))).length ≤ (rlines L).length:=by
       conv => rhs; rw [← List.take_append_drop (i + 1) L]
       unfold rlines
       rw [List.flatMap_append,List.length_append]
       omega
      rw [hnext] at hle
      rw [List.length_append,List.length_append,List.length_singleton] at hle
      have HNext:=Aside0.mk hnext
      obtain ⟨now,hnow⟩ : ∃ z,z = rlines (L.take i):=⟨_,rfl⟩
      obtain ⟨rl,hrl⟩ : ∃ z,z = rline x:=⟨_,rfl⟩
      rw [← hnow,← hrl] at hle HNext
      rw [← hrl] at HP
      rw [← hnow]
      have hcm:=HCm.out
      have hs1 : (mkB now).size = now.length:=mkB_size _
      have hs2 : (mkB rl).size = rl.length:=mkB_size _
      have s2 : (9223372036854775807 < (mkB rl).size + 1) = False:=eq_false (by omega)
      have s3 : (9223372036854775807 < (mkB now).size + ((mkB rl).size + 1)) = False:=eq_false (by omega)
      have u1 : (i : Int) < (n2 : Int):=by omega
      have u2 : IntKind.i64.wrap ((i : Int) + 1) = (i : Int) + 1:=by rw [IntKind.wrap_i64]; omega
      have u3 : (0 : Int) ≤ (i : Int):=by omega
      clear hx l1 g1' l4 g4 hall hok hba hnext hle hnow hrl hcm hs1 hs2
      go_wp2_with fail
      refine HP.out.mono ?_
      rintro e w5 ⟨rfl,hb5⟩
      have HB5:=Aside0.mk (HB.out.trans ((HBA.out.trans (hb5.mono HBA.out.size)).mono HB.out.size))
      clear hb5 b0 b1 b2 b3 b4
      go_wp2
      refine Met.intro (hJ2 (n2 - (i + 1)) _ _ rfl (by omega) ⟨i + 1,rfl,ci,rfl,?_,rfl,rfl,rfl,HB5.out⟩)
      refine congrArg Value.string ?_
      rw [HNext.out,← mkB_append,← mkB_append]
      rfl
     ·have u1 : decide ((i : Int) < (n2 : Int)) = false:=decide_eq_false (by omega)
      have ei : L.take i = L:=List.take_of_length_le (by have:=HN2.out; omega)
      rw [ei]
      go_wp2
      exact Met.intro (hJ _ _ rfl ⟨rfl,rfl,HB.out⟩)
   case rest =>
    rintro u W0 ⟨h1,h3,hB⟩
    rw [lit117]
    simp only [h1,h3]
    have hx1:=blk_below HX3.out hB
    have HX1:=Aside0.mk hx1
    have HBa:=Aside0.mk hB
    have HB0:=Aside0.mk (HB3.out.trans (hB.mono HB3.out.size))
    have a1:=(blk_cell hx1 1).trans rfl
    have hxa:=blk_alloc hx1 (.cells #[Value.slice none 0 0,.slice A2 n2 c2] 25 (0,0))
    have a0:=(blk_cell hxa 0).trans rfl
    clear h1 h3 hB hx1 hxa HX3
    go_upto_block 2 with (fail)
    clear a0 a1
    refine to_world (Pr:=fun z => z.heap[W0.heap.size]? = some (.cells #[Value.slice none 0 0,.slice A2 n2 c2] 25 (0,0)) ∧ Below w3.heap.size w3 z) ⟨blk_new W0 _,below_alloc HBa.out _⟩ (fun w4 h4 => ?_)
    have H4:=Aside0.mk h4.1
    have HB4:=Aside0.mk h4.2
    have HG7:=Aside0.mk HBa.out.size
    generalize W0.heap.size = g7 at *
    clear h4 HBa HX1 HB0
    refine cutU 117 (fun u wc => ∃ vf vs,u 3 = .string (mkB (rlines L)) ∧ u 6 = vf ∧ u 7 = .pointer (some ⟨g7,0,none⟩) ∧ wc.heap[g7]? = some (.cells #[vs,.slice A2 n2 c2] 25 (0,0)) ∧ Kd.R kA 36 wc w3.heap.size (fun _ => True) vf (pairs F) ∧ k35.R 35 wc w3.heap.size (fun _ => True) vs (F.map wantF) ∧ Below w3.heap.size w3 wc) ?rest2 ?first2
    case first2 =>
     intro J K hJ hK
     go_wp2
     refine loopG 117 (fun gh u wc => ∃ (i : Nat) (vf vs : Value),gh = n1 - i ∧ i ≤ n1 ∧ u 3 = .string (mkB (rlines L)) ∧ u 6 = vf ∧ u 7 = .pointer (some ⟨g7,0,none⟩) ∧ u 42 = .slice A1 n1 c1 ∧ u 43 = .int .i64 n1 ∧ u 44 = .int .i64 i ∧ wc.heap[g7]? = some (.cells #[vs,.slice A2 n2 c2] 25 (0,0)) ∧ Kd.R kA 36 wc w3.heap.size (fun _ => True) vf (pairs (F.take i)) ∧ k35.R 35 wc w3.heap.size (fun _ => True) vs ((F.take i).map wantF) ∧ Below w3.heap.size w3 wc) n1 rfl ?atStart2 ?round2
     case atStart2 => exact ⟨0,_,_,rfl,Nat.zero_le _,rfl,rfl,rfl,rfl,rfl,rfl,H4.out,Kd.R_nil _ _ _ _ _,Kd.R_nil _ _ _ _ _,HB4.out⟩
     case round2 =>
      rintro gh u W ⟨i,vf,vs,hgh,hi,h3,h6,h7,h42,h43,h44,hx7,hvf,hvs,hB⟩ J2 K2 hJ2 hK2
      rw [lit117]
      simp only [h3,h6,h7,h42,h43,h44]
      have HX7:=Aside0.mk hx7
      have HVf:=Aside0.mk hvf
      have HVs:=Aside0.mk hvs
      have HB:=Aside0.mk hB
      clear h3 h6 h7 h42 h43 h44 hvf hvs hB
      by_cases ci : i < n1
      ·obtain ⟨x,hx⟩ : ∃ x,F[i]? = some x:=⟨F[i]'(by have:=HN1.out; omega),List.getElem?_eq_getElem (by have:=HN1.out; omega)⟩
       obtain ⟨ad,hA,b0,b1⟩:=at_T35 (Kd.C_below H1.out (HB3.out.trans (HB.out.mono HB3.out.size))) (i : Int) (by omega) (by have:=HN1.out; omega)
       subst hA
       rw [rd35 hx,Int.toNat_natCast] at b0 b1
       have hend:=ended_f x.f1 (HRi.out.f x (List.mem_of_getElem? hx)).1.2
       have HEnd:=Aside0.mk (fun W' => spec_Ended.calls x.f1 (mkB (nl x.f1.data.toList)) W' hend)
       have Hx:=Aside0.mk hx
       obtain ⟨o9,ho9⟩ : ∃ z,z = Obj.cells #[Value.string x.f0,.string x.f1] 35 (0,0):=⟨_,rfl⟩
       obtain ⟨w5,hw5⟩ : ∃ z,z = W.alloc o9:=⟨_,rfl⟩
       have hba : Below W.heap.size W w5:=by rw [hw5]; exact below_alloc (Below.refl _ _) _
       have hx9 : w5.heap[W.heap.size]? = some (Obj.cells #[Value.string x.f0,.string x.f1] 35 (0,0)):=by rw [hw5,ho9]; exact blk_new W _
       rw [ho9] at hw5
       have HW5:=Aside0.mk hw5
       have HX9:=Aside0.mk hx9
       have HBA:=Aside0.mk hba
       have hl1 : ((pairs (F.take i)).length + 1) * 32 ≤ 140737488355328:=by unfold pairs; rw [List.length_map,List.length_take]; omega
       have hl2 : (((F.take i).map wantF).length + 1) * 32 ≤ 140737488355328:=by rw [List.length_map,List.length_take]; omega
       have u1 : (i : Int) < (n1 : Int):=by omega
       have u2 : IntKind.i64.wrap ((i : Int) + 1) = (i : Int) + 1:=by rw [IntKind.wrap_i64]; omega
       have u3 : (0 : Int) ≤ (i : Int):=by omega
       clear hx hend ho9 o9 hw5 hx9 hba hx7
       go_upto_region 17 with (first | (at_builtin; rw [← HW5.out]; refine Kd.R_append kA (w0:=w5) (W:=w5) w3.heap.size rfl (.tmp 48) (.tmp 54) 33 36 (.agg #[.string ⟨#[]⟩,.string ⟨#[]⟩]) 32 rfl Tryz.underlying33 info40 rfl (by decide) (by decide) vf (pairs (F.take i)) (x.f0,x.f1) [.string x.f0,.string x.f1] (fun _ => True) (fun _ => False) rfl (by show Value.slice (some ⟨W.heap.size + 1,0,none⟩) 1 1 = _; rw [HW5.out,alloc_size]) (kA_M _ _ _ _ _) (fun _ hk => hk.elim) (fun k hk => trivial) (Kd.R_below HVf.out HBA.out) (Below.refl _ _) (Nat.le_trans HB.out.size HBA.out.size) hl1 ?_; intro v1 w6 ho1 hb1 hg1 hat1; have hne7 : some g7 ≠ vf.ownBlock:=(fun e => by obtain ⟨cl,hc⟩:=Kd.R_typed HVf.out g7 e.symm; rw [HX7.out] at hc; injection hc with hc; injection hc with _ hc; exact absurd hc (by decide)); have hne9 : some W.heap.size ≠ vf.ownBlock:=(fun e => by have:=Kd.R_lt HVf.out _ e.symm; omega); have HX76:=Aside0.mk (blk_grown (blk_below HX7.out HBA.out) hg1 hne7); have HX96:=Aside0.mk (blk_grown HX9.out hg1 hne9); have HVf6:=Aside0.mk ho1; have HVs6:=Aside0.mk (Kd.R_over (Kd.R_below HVs.out HBA.out) (Kd.R_below HVf.out HBA.out) (by decide) hg1); have HB6:=Aside0.mk ((HB.out.trans (HBA.out.mono HB.out.size)).trans hb1); clear ho1 hb1 hg1 hat1 hne7 hne9))
       obtain ⟨g9,hg9⟩ : ∃ z,z = W.heap.size:=⟨_,rfl⟩
       rw [← hg9] at HX96 ⊢
       have e7 : w6.cell? ⟨g7,0,none⟩ = some vs:=(blk_cell HX76.out 0).trans rfl
       have e8 : w6.cell? ⟨g9,0,none⟩ = some (.string x.f0):=(blk_cell HX96.out 0).trans rfl
       have e9 : w6.cell? ⟨g9,1,none⟩ = some (.string x.f1):=(blk_cell HX96.out 1).trans rfl
       have HL2:=Aside0.mk hl2
       have HEL:=Aside0.mk (show ((F.take i).map wantF ++ [wantF x]).length = i + 1 by rw [List.length_append,List.length_map,List.length_take,List.length_singleton]; have:=HN1.out; omega)
       clear hl1 hl2 b0 b1 hg9
       refine start_ (n:=12) (S:=fun w' => w'.cell? ⟨g7,0,none⟩ = some vs ∧ w'.cell? ⟨g9,0,none⟩ = some (.string x.f0) ∧ w'.cell? ⟨g9,1,none⟩ = some (.string x.f1)) (ds:=[9,11]) #[false,false,false,false,false,false,false,false,false,false,false,false] (by kernel_rfl) rfl rfl ⟨e7,e8,e9⟩ (fun hHeld => ?_)
       refine pure_ (i:=0) (N:=some 56) (v:=?_) (a':=?_) #[true,false,false,false,false,false,false,false,false,false,false,false] rfl rfl (by kernel_rfl) (fun _ _ _ h => h) (Or.inl ⟨by rfl,?_⟩) ?_ ?_
       rotate_left
       ·intro w'
        go_simp
        with_reducible rfl
       rotate_left
       ·simp only [Act.put,List.setIfInBounds_toArray,List.set_cons_zero,List.set_cons_succ,i64_w,i32_w]
        rfl
       refine pure_ (i:=2) (N:=some 58) (v:=?_) (a':=?_) #[true,false,true,false,false,false,false,false,false,false,false,false] rfl rfl (by kernel_rfl) (fun _ _ _ h => h) (Or.inl ⟨by rfl,?_⟩) ?_ ?_
       rotate_left
       ·intro w'
        go_simp
        with_reducible rfl
       rotate_left
       ·simp only [Act.put,List.setIfInBounds_toArray,List.set_cons_zero,List.set_cons_succ,i64_w,i32_w]
        rfl
       refine pure_ (i:=4) (N:=some 60) (v:=?_) (a':=?_) #[true,false,true,false,true,false,false,false,false,false,false,false] rfl rfl (by kernel_rfl) (fun _ _ _ h => h) (Or.inl ⟨by rfl,?_⟩) ?_ ?_
       rotate_left
       ·intro w'
        go_simp
        with_reducible rfl
       rotate_left
       ·simp only [Act.put,List.setIfInBounds_toArray,List.set_cons_zero,List.set_cons_succ,i64_w,i32_w]
        rfl
       refine take_ (i:=1) (N:=some 57) (v:=?_) (a':=?_) #[true,true,true,false,true,false,false,false,false,false,false,false] rfl rfl (by kernel_rfl) (fun _ _ _ h => h) (Or.inl ⟨by rfl,?_⟩) hHeld ?_ ?_
       rotate_left
       ·rintro w' ⟨s0,s1,s2⟩
        go_simp
        with_reducible rfl
       rotate_left
       ·simp only [Act.put,List.setIfInBounds_toArray,List.set_cons_zero,List.set_cons_succ,i64_w,i32_w]
        rfl
       refine take_ (i:=3) (N:=some 59) (v:=?_) (a':=?_) #[true,true,true,true,true,false,false,false,false,false,false,false] rfl rfl (by kernel_rfl) (fun _ _ _ h => h) (Or.inl ⟨by rfl,?_⟩) hHeld ?_ ?_
       rotate_left
       ·rintro w' ⟨s0,s1,s2⟩
        go_simp
        with_reducible rfl
       rotate_left
       ·simp only [Act.put,List.setIfInBounds_toArray,List.set_cons_zero,List.set_cons_succ,i64_w,i32_w]
        rfl
       refine take_ (i:=5) (N:=some 61) (v:=?_) (a':=?_) #[true,true,true,true,true,true,false,false,false,false,false,false] rfl rfl (by kernel_rfl) (fun _ _ _ h => h) (Or.inl ⟨by rfl,?_⟩) hHeld ?_ ?_
       rotate_left
       ·rintro w' ⟨s0,s1,s2⟩
        go_simp
        with_reducible rfl
       rotate_left
       ·simp only [Act.put,List.setIfInBounds_toArray,List.set_cons_zero,List.set_cons_succ,i64_w,i32_w]
        rfl
       refine one_ (i:=6) (N:=some 62) #[true,true,true,true,true,true,true,false,false,false,false,false] rfl rfl (by kernel_rfl) (by decide) (fun K hK => ?_)
       refine goes_ Tryz.func8 (by kernel_rfl) rfl #[.string x.f1] (by rfl) rfl rfl (by simp only [List.map_toArray,List.map_cons,List.map_nil]; rfl) ?_
       with_reducible refine (HEnd.out w6.drew).mono ?_
       rintro e w8 ⟨rfl,hd8⟩
       refine ⟨_,rfl,?_⟩
       have HX78:=Aside0.mk (blk_below (blk_drew HX76.out) hd8.below)
       have HVf8:=Aside0.mk (Kd.R_below (Kd.R_drew HVf6.out) hd8.below)
       have HVs8:=Aside0.mk (Kd.R_below (Kd.R_drew HVs6.out) hd8.below)
       have HB8:=Aside0.mk ((below_drew HB6.out).trans (hd8.below.mono HB6.out.size))
       have f7:=cell_later (w:=w6.drew) hd8.below e7
       have f8:=cell_later (w:=w6.drew) hd8.below e8
       have f9:=cell_later (w:=w6.drew) hd8.below e9
       clear hd8
       refine hK.out _ _ ⟨f7,f8,f9⟩ (fun hHeld => ?_)
       clear hK K
       refine norm_ (a':=?_) ?_ ?_
       rotate_left
       ·show Act.put _ (some 62) _ = _
        simp only [Act.put,List.setIfInBounds_toArray,List.set_cons_zero,List.set_cons_succ,i64_w,i32_w]
        rfl
       refine pure_ (i:=7) (N:=some 63) (v:=?_) (a':=?_) #[true,true,true,true,true,true,true,true,false,false,false,false] rfl rfl (by kernel_rfl) (fun _ _ _ h => h) (Or.inl ⟨by rfl,?_⟩) ?_ ?_
       rotate_left
       ·intro w'
        go_simp
        with_reducible rfl
       rotate_left
       ·simp only [Act.put,List.setIfInBounds_toArray,List.set_cons_zero,List.set_cons_succ,i64_w,i32_w]
        rfl
       refine one_ (i:=8) (N:=some 64) #[true,true,true,true,true,true,true,true,true,false,false,false] rfl rfl (by kernel_rfl) (by decide) (fun K hK => ?_)
       refine value_ (w1:=?_) (v:=?_) (by rfl) rfl ?_ ?_
       rotate_left 2
       ·go_simp
        constructor
        ·rfl
        ·rfl
       refine hK.out _ _ ⟨Lib.cell?_alloc_marked _ f7,Lib.cell?_alloc_marked _ f8,Lib.cell?_alloc_marked _ f9⟩ (fun hHeld => ?_)
       clear hK K
       refine norm_ (a':=?_) ?_ ?_
       rotate_left
       ·show Act.put _ (some 64) _ = _
        simp only [Act.put,List.setIfInBounds_toArray,List.set_cons_zero,List.set_cons_succ,i64_w,i32_w]
        rfl
       refine last_ (i:=9) (N:=some 65) #[true,true,true,true,true,true,true,true,true,true,false,false] rfl rfl (by kernel_rfl) (by decide) (fun K hK => ?_)
       refine Kd.R_append_step k35 (w0:=w8) (W:=w8) w3.heap.size (by rfl) (.tmp 57) (.tmp 64) 22 35 (.agg #[.string ⟨#[]⟩,.string ⟨#[]⟩]) 32 rfl Tryz.underlying22 infoF rfl (by decide) (by decide) vs ((F.take i).map wantF) (wantF x) [.string x.f0,.string (mkB (nl x.f1.data.toList))] (fun _ => True) (fun _ => False) rfl rfl (k35_mkM _ _ _ (wantF x)) (fun _ hk => hk.elim) (fun _ _ => trivial) HVs8.out (Below.refl _ _) HB8.out.size HL2.out ?_
       intro v2 w9 ho2 hb2 hg2 hat2
       obtain ⟨AV,cV,eV,_,_⟩:=Kd.R_reads ho2
       subst eV
       rw [HEL.out] at ho2 hat2 ⊢
       have hne : some g7 ≠ vs.ownBlock:=(fun e => by obtain ⟨cl,hc⟩:=Kd.R_typed HVs8.out g7 e.symm; rw [HX78.out] at hc; injection hc with hc; injection hc with _ hc; exact absurd hc (by decide))
       have hx9:=blk_grown HX78.out hg2 hne
       have HX79:=Aside0.mk hx9
       have HVs9:=Aside0.mk ho2
       have HVf9:=Aside0.mk (Kd.R_over HVf8.out HVs8.out (by decide) hg2)
       have HB9:=Aside0.mk (HB8.out.trans hb2)
       have c7:=(blk_cell hx9 0).trans rfl
       have y7:=blk_frozen hx9 0
       clear ho2 hb2 hg2 hat2 hne hx9
       refine hK.out _ _ ?_
       clear hK K
       refine norm_ (a':=?_) ?_ ?_
       rotate_left
       ·show Act.put _ (some 65) _ = _
        simp only [Act.put,List.setIfInBounds_toArray,List.set_cons_zero,List.set_cons_succ,i64_w,i32_w]
        rfl
       refine pure_ (i:=10) (N:=some 66) (v:=?_) (a':=?_) #[true,true,true,true,true,true,true,true,true,true,true,false] rfl rfl (by kernel_rfl) (fun _ _ _ h => h) (Or.inl ⟨by rfl,?_⟩) ?_ ?_
       rotate_left
       ·intro w'
        go_simp
        with_reducible rfl
       rotate_left
       ·simp only [Act.put,List.setIfInBounds_toArray,List.set_cons_zero,List.set_cons_succ,i64_w,i32_w]
        rfl
       refine last_ (i:=11) (N:=none) #[true,true,true,true,true,true,true,true,true,true,true,true] rfl rfl (by kernel_rfl) (by decide) (fun K hK => ?_)
       refine skip_ (w1:=?_) (by rfl) rfl ?_ ?_
       rotate_left
       ·go_simp
        rfl
       refine hK.out _ _ ?_
       clear hK K
       refine done_ (by kernel_rfl) ?_
       clear e7 e8 e9 f7 f8 f9 c7 y7
       have e1 : pairs (F.take i) ++ [(x.f0,x.f1)] = pairs (F.take (i + 1)):=by
        rw [List.take_add_one,Hx.out]; simp [pairs]
       have e2 : (F.take i).map wantF ++ [wantF x] = (F.take (i + 1)).map wantF:=by
        rw [List.take_add_one,Hx.out]; simp
       rw [e1] at HVf9
       rw [e2] at HVs9
       go_wp2
       exact Met.intro (hJ2 (n1 - (i + 1)) _ _ rfl (by omega) ⟨i + 1,v1,_,rfl,ci,rfl,rfl,rfl,rfl,rfl,rfl,blk_put HX79.out 0 _ rfl,Kd.R_set HVf9.out HX79.out (by decide) 0 _,Kd.R_set HVs9.out HX79.out (by decide) 0 _,below_set HB9.out HG7.out⟩)
      ·have u1 : decide ((i : Int) < (n1 : Int)) = false:=decide_eq_false (by omega)
       have ei : F.take i = F:=List.take_of_length_le (by have:=HN1.out; omega)
       rw [ei] at HVf HVs
       clear hx7
       go_wp2
       exact Met.intro (hJ _ _ rfl ⟨vf,vs,rfl,rfl,rfl,HX7.out,HVf.out,HVs.out,HB.out⟩)
    case rest2 =>
     rintro u W ⟨vf,vs,h3,h6,h7,hx7,hvf,hvs,hB⟩
     rw [lit117]
     simp only [h3,h6,h7]
     obtain ⟨Af,cf,eF,hcf,hCf⟩:=Kd.R_reads hvf
     obtain ⟨As,cs,eS,hcs,hCs⟩:=Kd.R_reads hvs
     have el1 : (pairs F).length = n1:=by unfold pairs; rw [List.length_map]; exact HN1.out.symm
     have el2 : (F.map wantF).length = n1:=by rw [List.length_map]; exact HN1.out.symm
     have el3 : (F.map flOf).length = n1:=by rw [List.length_map]; exact HN1.out.symm
     rw [el1] at eF hcf hCf
     rw [el2] at eS hcs hCs
     subst eF eS
     have hfl:=ftxt_le F (fun x hx => ⟨(HV.out.nmB x.f0 (HRi.out.f x hx).2.1).2.2,(HV.out.dtB x.f1 (HRi.out.f x hx).2.2).1⟩)
     have hfn:=ftxt_nl (F.map flOf)
     have hcm:=HCm.out
     have hn1:=HN1.out
     have hbytes : (rlines L ++ ftxt (F.map flOf)).length ≤ 1099511627776:=by rw [List.length_append]; omega
     have hAF:=ArcFormat_calls W (rlines L) (F.map flOf) Af cf (by rw [el3,pairs_eq]; exact hCf) hbytes
     rw [el3,nl_of (rlines_NL L)] at hAF
     obtain ⟨S,hS⟩ : ∃ z,z = mkB (rlines L ++ ftxt ((F.map flOf).map nlF)):=⟨_,rfl⟩
     rw [← hS] at hAF
     have hSl : S.data.toList = rlines L ++ ftxt ((F.map flOf).map nlF):=by rw [hS,mkB_list]
     have hSz : S.size ≤ 1099511627776:=by
      have h : S.size = S.data.toList.length:=rfl
      rw [h,hSl,List.length_append]
      omega
     have HAF:=Aside0.mk hAF
     have HAP:=Aside0.mk (fun W' (hW : Below w.heap.size w W') => ArcParse_calls W' S (rlines L) ((F.map flOf).map nlF) hSl hSz (rlines_no L (fun x hx => (HRi.out.l x hx).2.1)) (rlines_NL L) (fun f hf => by
      obtain ⟨g,hg,rfl⟩:=List.mem_map.1 hf
      obtain ⟨x,hx,rfl⟩:=List.mem_map.1 hg
      exact fl_ok HV.out x (HRi.out.f x hx).2) (HT.out.on hW))
     have HRO:=Aside0.mk (fun W' => RulesOf_walk W' nm pat dt wd HV.out L (fun x hx => (HRi.out.l x hx).1) (by omega) (by have:=HN2.out; omega))
     have HX7:=Aside0.mk hx7
     have HVf:=Aside0.mk hvf
     have HVs:=Aside0.mk hvs
     have HB:=Aside0.mk (HB3.out.trans (hB.mono HB3.out.size))
     have HG7':=Aside0.mk (Nat.le_trans HB3.out.size HG7.out)
     have HCs:=Aside0.mk hcs
     clear h3 h6 h7 hx7 hvf hvs hB hcf hCf hcs hCs hfl hfn hcm hn1 hbytes hAF hS hSl hSz el1 el2 el3 H4 HB4
     go_wp2_with fail
     refine HAF.out.mono ?_
     rintro e wa ⟨rfl,hba⟩
     have HBa:=Aside0.mk (HB.out.trans (hba.mono HB.out.size))
     have HXa:=Aside0.mk (blk_below HX7.out hba)
     have HVfa:=Aside0.mk (Kd.R_below HVf.out hba)
     have HVsa:=Aside0.mk (Kd.R_below HVs.out hba)
     clear hba HX7 HVf HVs HB
     go_wp2_with fail
     refine (HAP.out wa HBa.out).mono ?_
     rintro e wb ⟨vb,rfl,hvb,hbb⟩
     have HBb:=Aside0.mk (HBa.out.trans (hbb.mono HBa.out.size))
     have HXb:=Aside0.mk (blk_below HXa.out hbb)
     have HVfb:=Aside0.mk (Kd.R_below HVfa.out hbb)
     have HVsb:=Aside0.mk (Kd.R_below HVsa.out hbb)
     rw [backs_eq] at hvb
     obtain ⟨Ab,cb,eB,hcb,hCb⟩:=Kd.R_reads hvb
     have el4 : (backs F).length = n1:=by unfold backs; rw [List.length_map]; exact HN1.out.symm
     rw [el4] at eB hcb
     subst eB
     have HCb:=Aside0.mk hCb
     clear hbb hvb hCb hcb el4 HXa HVfa HVsa HBa
     go_wp2_with fail
     refine (HRO.out wb).mono ?_
     rintro e wc ⟨v2,rfl,hv2,hbc⟩
     obtain ⟨A5,c5,e5,hc5,hC5⟩:=Kd.R_reads hv2
     rw [← HN2.out] at e5
     subst e5
     have HBc:=Aside0.mk (HBb.out.trans (hbc.mono HBb.out.size))
     have HXc:=Aside0.mk (blk_below HXb.out hbc)
     have HVfc:=Aside0.mk (Kd.R_below HVfb.out hbc)
     have HVsc:=Aside0.mk (Kd.R_below HVsb.out hbc)
     have HCc:=Aside0.mk (Kd.C_below HCb.out hbc)
     have HC5:=Aside0.mk hC5
     clear hbc hv2 hC5 hc5 HXb HVfb HVsb HBb HCb
     go_upto_block 4 with (fail)
     refine to_world (Pr:=fun z => z.heap[wc.heap.size]? = some (.cells #[Value.slice none 0 0,.slice A5 n2 c5] 25 (0,0)) ∧ Below wc.heap.size wc z) ⟨blk_new wc _,below_alloc (Below.refl _ _) _⟩ (fun wd hd => ?_)
     have HD:=Aside0.mk hd.1
     have HBd:=Aside0.mk hd.2
     obtain ⟨g15,hg15⟩ : ∃ z,z = wc.heap.size:=⟨_,rfl⟩
     rw [← hg15] at HD ⊢
     have HG15:=Aside0.mk (Nat.le_of_eq hg15.symm)
     clear hd hg15
     refine cutU 117 (fun u wx => ∃ v5,u 6 = .slice Af n1 cf ∧ u 7 = .pointer (some ⟨g7,0,none⟩) ∧ u 13 = .slice A5 n2 c5 ∧ u 14 = .bool true ∧ u 15 = .pointer (some ⟨g15,0,none⟩) ∧ wx.heap[g15]? = some (.cells #[v5,.slice A5 n2 c5] 25 (0,0)) ∧ k35.R 35 wx wc.heap.size (fun _ => True) v5 (F.map wantF) ∧ Below wc.heap.size wc wx) ?rest3 ?first3
     case first3 =>
      intro J K hJ hK
      go_wp2
      refine loopG 117 (fun gh u wx => ∃ (i : Nat) (v5 : Value),gh = n1 - i ∧ i ≤ n1 ∧ u 6 = .slice Af n1 cf ∧ u 7 = .pointer (some ⟨g7,0,none⟩) ∧ u 13 = .slice A5 n2 c5 ∧ u 14 = .bool true ∧ u 15 = .pointer (some ⟨g15,0,none⟩) ∧ u 83 = .slice Ab n1 cb ∧ u 84 = .int .i64 n1 ∧ u 85 = .int .i64 i ∧ wx.heap[g15]? = some (.cells #[v5,.slice A5 n2 c5] 25 (0,0)) ∧ k35.R 35 wx wc.heap.size (fun _ => True) v5 ((F.take i).map wantF) ∧ Below wc.heap.size wc wx) n1 rfl ?atStart3 ?round3
      case atStart3 => exact ⟨0,_,rfl,Nat.zero_le _,rfl,rfl,rfl,rfl,rfl,rfl,rfl,rfl,HD.out,Kd.R_nil _ _ _ _ _,HBd.out⟩
      case round3 =>
       rintro gh u W5 ⟨i,v5,hgh,hi,h6,h7,h13,h14,h15,h83,h84,h85,hx15,hv5,hB⟩ J2 K2 hJ2 hK2
       rw [lit117]
       simp only [h6,h7,h13,h14,h15,h83,h84,h85]
       have HX15:=Aside0.mk hx15
       have HV5:=Aside0.mk hv5
       have HB5:=Aside0.mk hB
       clear h6 h7 h13 h14 h15 h83 h84 h85 hv5 hB
       by_cases ci : i < n1
       ·obtain ⟨x,hx⟩ : ∃ x,F[i]? = some x:=⟨F[i]'(by have:=HN1.out; omega),List.getElem?_eq_getElem (by have:=HN1.out; omega)⟩
        obtain ⟨ad,hA,b0,b1⟩:=kA_at (xs:=backs F) (Kd.C_below HCc.out HB5.out) (i:=i) (a:=x.f0) (b:=mkB (nl x.f1.data.toList)) (by unfold backs; rw [List.getElem?_map,hx]; rfl)
        subst hA
        have Hx:=Aside0.mk hx
        obtain ⟨o9,ho9⟩ : ∃ z,z = Obj.cells #[Value.string x.f0,.string (mkB (nl x.f1.data.toList))] 36 (0,0):=⟨_,rfl⟩
        obtain ⟨w6,hw6⟩ : ∃ z,z = W5.alloc o9:=⟨_,rfl⟩
        have hba : Below W5.heap.size W5 w6:=by rw [hw6]; exact below_alloc (Below.refl _ _) _
        have hx6:=blk_below hx15 hba
        have HX6:=Aside0.mk hx6
        have HBA:=Aside0.mk hba
        have z0:=(blk_cell hx6 0).trans rfl
        rw [ho9] at hw6
        have HW6:=Aside0.mk hw6
        rw [hw6] at z0
        have hl2 : (((F.take i).map wantF).length + 1) * 32 ≤ 140737488355328:=by rw [List.length_map,List.length_take]; omega
        have HL2:=Aside0.mk hl2
        have HEL:=Aside0.mk (show ((F.take i).map wantF ++ [wantF x]).length = i + 1 by rw [List.length_append,List.length_map,List.length_take,List.length_singleton]; have:=HN1.out; omega)
        have u1 : (i : Int) < (n1 : Int):=by omega
        have u2 : IntKind.i64.wrap ((i : Int) + 1) = (i : Int) + 1:=by rw [IntKind.wrap_i64]; omega
        have u3 : (0 : Int) ≤ (i : Int):=by omega
        clear hx hx15 hx6 hba ho9 o9 hw6 hl2
        go_wp2_with (first | (at_builtin; rw [← HW6.out]; refine Kd.R_append k35 (w0:=w6) (W:=w6) wc.heap.size rfl (.tmp 90) (.tmp 96) 22 35 (.agg #[.string ⟨#[]⟩,.string ⟨#[]⟩]) 32 rfl Tryz.underlying22 infoF rfl (by decide) (by decide) v5 ((F.take i).map wantF) (wantF x) [.string x.f0,.string (mkB (nl x.f1.data.toList))] (fun _ => True) (fun _ => False) rfl (by show Value.slice (some ⟨W5.heap.size + 1,0,none⟩) 1 1 = _; rw [HW6.out,alloc_size]) (k35_mkM _ _ _ (wantF x)) (fun _ hk => hk.elim) (fun k hk => trivial) (Kd.R_below HV5.out HBA.out) (Below.refl _ _) (Nat.le_trans HB5.out.size HBA.out.size) HL2.out ?_; intro v1 w7 ho1 hb1 hg1 hat1; obtain ⟨AV,cV,eV,_,_⟩:=Kd.R_reads ho1; subst eV; rw [HEL.out] at ho1 hat1 ⊢; have hne : some g15 ≠ v5.ownBlock:=(fun e => by obtain ⟨cl,hc⟩:=Kd.R_typed HV5.out g15 e.symm; rw [HX15.out] at hc; injection hc with hc; injection hc with _ hc; exact absurd hc (by decide)); have hx7:=blk_grown HX6.out hg1 hne; have HX7':=Aside0.mk hx7; have HV7:=Aside0.mk ho1; have HB7:=Aside0.mk ((HB5.out.trans (HBA.out.mono HB5.out.size)).trans hb1); have f0:=(blk_cell hx7 0).trans rfl; have y0:=blk_frozen hx7 0; clear ho1 hb1 hg1 hat1 hne hx7))
        have e2 : (F.take i).map wantF ++ [wantF x] = (F.take (i + 1)).map wantF:=by
         rw [List.take_add_one,Hx.out]; simp
        rw [e2] at HV7
        exact Met.intro (hJ2 (n1 - (i + 1)) _ _ rfl (by omega) ⟨i + 1,_,rfl,ci,rfl,rfl,rfl,rfl,rfl,rfl,rfl,rfl,blk_put HX7'.out 0 _ rfl,Kd.R_set HV7.out HX7'.out (by decide) 0 _,below_set HB7.out HG15.out⟩)
       ·have u1 : decide ((i : Int) < (n1 : Int)) = false:=decide_eq_false (by omega)
        have ei : F.take i = F:=List.take_of_length_le (by have:=HN1.out; omega)
        rw [ei] at HV5
        clear hx15
        go_wp2
        exact Met.intro (hJ _ _ rfl ⟨v5,rfl,rfl,rfl,rfl,rfl,HX15.out,HV5.out,HB5.out⟩)
     case rest3 =>
      rintro u W5 ⟨v5,h6,h7,h13,h14,h15,hx15,hv5,hB⟩
      rw [lit117]
      simp only [h6,h7,h13,h14,h15]
      obtain ⟨A6,c6,e6,hc6,hC6⟩:=Kd.R_reads hv5
      have el2 : (F.map wantF).length = n1:=by rw [List.length_map]; exact HN1.out.symm
      have hx7:=blk_below HXc.out hB
      have hvs:=Kd.R_below HVsc.out hB
      obtain ⟨hn,hcs,hCs⟩:=Kd.R_reads' hvs
      have hC2:=Kd.C_below H2.out (HBc.out.trans (hB.mono HBc.out.size))
      have hsame:=Same_calls W5 A6 A5 As A2 c6 c5 cs c2 (F.map wantF) L hC6 hc6 (Kd.C_below HC5.out hB) hCs (by rw [el2]; exact HCs.out) hC2 (by have:=HN2.out; omega) (by rw [el2]; omega) (fun x hx => by
       have h:=(HRi.out.l x hx).1.1
       exact ⟨h.2.1.1,h.2.2.2.1⟩)
      rw [el2,← HN2.out] at hsame
      rw [el2] at e6
      subst e6
      have HSame:=Aside0.mk hsame
      have HB5:=Aside0.mk (HBc.out.trans (hB.mono HBc.out.size))
      have a0:=(blk_cell hx15 0).trans rfl
      have a1:=(blk_cell hx15 1).trans rfl
      have b0:=(blk_cell hx7 0).trans rfl
      have b1:=(blk_cell hx7 1).trans rfl
      have w0 : IntKind.i64.wrap ((n1 : Int) + (n2 : Int)) = (n1 : Int) + (n2 : Int):=by rw [IntKind.wrap_i64]; omega
      clear h6 h7 h13 h14 h15 hx15 hv5 hB hc6 hC6 el2 hx7 hvs hn hcs hCs hC2 hsame
      go_wp2_with fail
      refine HSame.out.mono ?_
      rintro e W6 ⟨rfl,hb6⟩
      have HB6:=Aside0.mk (HB5.out.trans (hb6.mono HB5.out.size))
      clear hb6 a0 a1 b0 b1
      by_cases cz : 0 < n1 + n2
      ·have u1 : (n1 : Int) + (n2 : Int) > 0:=by omega
       have u2 : decide ((n1 : Int) + (n2 : Int) > 0) = true:=decide_eq_true u1
       go_wp2
       go_ret
       exact ⟨rfl,HB6.out⟩
      ·have u2 : decide ((n1 : Int) + (n2 : Int) > 0) = false:=decide_eq_false (by omega)
       obtain rfl : n1 = 0:=by omega
       obtain rfl : n2 = 0:=by omega
       go_wp2_with fail
       refine (HAw.out W6 HB6.out).mono ?_
       rintro e W7 ⟨rfl,hb7⟩
       have HB7:=Aside0.mk (HB6.out.trans (hb7.mono HB6.out.size))
       clear hb7
       go_wp2
       go_ret
       exact ⟨rfl,HB7.out⟩
end Go.Proofs.YtplbifmjnanceaaGreatDoor
