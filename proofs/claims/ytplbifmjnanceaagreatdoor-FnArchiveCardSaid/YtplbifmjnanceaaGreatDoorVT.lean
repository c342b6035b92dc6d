/- spec.Diffed walked. -/
import Derived.Test.YtplbifmjnanceaaGreatDoorVS
import Derived.Test.YtplbifmjnanceaaGreatDoorVF
section
namespace Go.Proofs.YtplbifmjnanceaaGreatDoor
open Go.RowKit Go.Proofs.YtplbifmjnanceaaGreatDoorW.PrintWords Go.Proofs.YtplbifmjnanceaaGreatDoorW.PrintLast Go.Proofs.YtplbifmjnanceaaGreatDoorW.PrintMore
open Go.Proofs.YtplbifmjnanceaaGreatDoor.PApplied
set_option linter.unusedVariables false
set_option linter.unusedSimpArgs false
set_option maxRecDepth 100000 in
theorem lit193 (u : Nat → Value) : FrOf 193 u = [u 0,u 1,u 2,u 3,u 4,u 5,u 6,u 7,u 8,u 9,u 10,u 11,u 12,u 13,u 14,u 15,u 16,u 17,u 18,u 19,u 20,u 21,u 22,u 23,u 24,u 25,u 26,u 27,u 28,u 29,u 30,u 31,u 32,u 33,u 34,u 35,u 36,u 37,u 38,u 39,u 40,u 41,u 42,u 43,u 44,u 45,u 46,u 47,u 48,u 49,u 50,u 51,u 52,u 53,u 54,u 55,u 56,u 57,u 58,u 59,u 60,u 61,u 62,u 63,u 64,u 65,u 66,u 67,u 68,u 69,u 70,u 71,u 72,u 73,u 74,u 75,u 76,u 77,u 78,u 79,u 80,u 81,u 82,u 83,u 84,u 85,u 86,u 87,u 88,u 89,u 90,u 91,u 92,u 93,u 94,u 95,u 96,u 97,u 98,u 99,u 100,u 101,u 102,u 103,u 104,u 105,u 106,u 107,u 108,u 109,u 110,u 111,u 112,u 113,u 114,u 115,u 116,u 117,u 118,u 119,u 120,u 121,u 122,u 123,u 124,u 125,u 126,u 127,u 128,u 129,u 130,u 131,u 132,u 133,u 134,u 135,u 136,u 137,u 138,u 139,u 140,u 141,u 142,u 143,u 144,u 145,u 146,u 147,u 148,u 149,u 150,u 151,u 152,u 153,u 154,u 155,u 156,u 157,u 158,u 159,u 160,u 161,u 162,u 163,u 164,u 165,u 166,u 167,u 168,u 169,u 170,u 171,u 172,u 173,u 174,u 175,u 176,u 177,u 178,u 179,u 180,u 181,u 182,u 183,u 184,u 185,u 186,u 187,u 188,u 189,u 190,u 191,u 192]:=rfl
theorem rws_len (l : List UInt8) : ∀ acc,(rws acc l).length ≤ l.length + 1:=by
 induction l with
 | nil => intro acc; by_cases h : acc = [] <;> simp [rws,h]
 | cons b t ih =>
  intro acc
  by_cases h : b = 10
  ·have:=ih []; simp [rws,h]; omega
  ·have:=ih (acc ++ [b]); simp [rws,h]; omega
theorem rws_sz (l : List UInt8) : ∀ acc,∀ p ∈ rws acc l,p.length ≤ acc.length + l.length:=by
 induction l with
 | nil =>
  intro acc p hp
  by_cases h : acc = []
  ·simp [rws,h] at hp
  ·simp [rws,h] at hp; subst hp; simp
 | cons b t ih =>
  intro acc p hp
  by_cases h : b = 10
  ·simp [rws,h] at hp
   rcases hp with rfl | hp
   ·simp
   ·have:=ih [] p hp; simp at this ⊢; omega
  ·simp [rws,h] at hp
   have:=ih _ p hp; simp at this ⊢; omega
theorem alloc_size (w : World) (o : Obj) : (w.alloc o).heap.size = w.heap.size + 1:=by
 show (w.heap.push o).size = _
 rw [Array.size_push]
structure FrD (S v : Value) (i gx : Nat) (oc nc : Int) (u : Nat → Value) : Prop where
 s9 : u 9 = S
 s10 : u 10 = v
 s11 : u 11 = .int .i64 i
 s14 : u 14 = .pointer (some ⟨gx,0,none⟩)
 s15 : u 15 = .int .i64 oc
 s16 : u 16 = .int .i64 nc
theorem row_cell {w : World} {A : Option Addr} {x : List ByteArray} {k : Nat} {s : ByteArray} (h : Kd.C Kd.string w A x.length x) (hk : x[k]? = some s) : ∃ ad,A = some ad ∧ w.cell? (ad.add k) = some (.string s):=by
 obtain ⟨ad,e,c⟩:=str_cell h k (get_lt hk)
 refine ⟨ad,e,?_⟩
 rw [c,List.getD_eq_getElem?_getD,hk]
 rfl
theorem info48 : (Tryz.prog.info? 87).map (fun i => (i.zero,i.size,i.bytes)) = some (some (.agg #[.int .i64 0,.int .i64 0,.slice none 0 0]),3,40):=by kernel_rfl
set_option maxHeartbeats 2000000 in
set_option maxRecDepth 100000 in
theorem Diffed_calls (w : World) (a b d : ByteArray) (hs : List Dp.Hk) (ha : a.size ≤ 1048576) (hb : b.size ≤ 1048576) (hd : d.data.toList = diffText a b hs) (hsz : d.size ≤ 1099511627776) (hok : ∀ h ∈ hs,HkSm h) (hne : hs ≠ []) :
  Calls Tryz.prog 19 #[.string a,.string b,.string d] w fun e w' => ∃ v,e = .returned (.tuple #[v,.bool true]) ∧ Kd.R k48 87 w' w.heap.size (fun _ => True) v (hs.map pz) ∧ Below w.heap.size w w':=by
 obtain ⟨T,hT⟩ : ∃ T,T = hs.flatMap hkText:=⟨_,rfl⟩
 have HT:=Aside0.mk hT
 have hfl : (firstB a b).data.toList = hdr a b:=firstB_list a b
 have hfe : firstB a b = mkB (hdr a b):=by rw [← hfl,mkB_data]
 have hde : d = mkB (hdr a b ++ T):=by rw [← mkB_data d,hd,hT]; rfl
 have hF1 : Aside0 (((d.extract 0 (firstB a b).size).toList != (firstB a b).toList) = false):=⟨by
  have h1:=mk_pre (hdr a b) T
  rw [hfe,hde,mkB_size,h1]
  simp⟩
 have hF2 : Aside0 (d.extract (firstB a b).size d.size = mkB T):=⟨by
  rw [hfe,mkB_size,hde,mk_post]⟩
 have hFs : (firstB a b).size ≤ d.size:=by
  rw [hfe,hde,mkB_size,mkB_size,List.length_append]; omega
 have hTs : T.length ≤ d.size:=by
  rw [hde,mkB_size,List.length_append]; omega
 have HD:=Aside0.mk hd
 have HOK:=Aside0.mk hok
 clear hfl hfe hde hd hT hok
 have u1 : ¬ 9223372036854775807 < 5 + a.size:=by omega
 have u2 : ¬ 9223372036854775807 < 5 + a.size + 1:=by omega
 have u3 : ¬ 9223372036854775807 < 5 + a.size + 1 + b.size:=by omega
 have u4 : ¬ 9223372036854775807 < 5 + a.size + 1 + b.size + 5:=by omega
 have u5 : ¬ 9223372036854775807 < 5 + a.size + 1 + b.size + 5 + a.size:=by omega
 have u6 : ¬ 9223372036854775807 < 5 + a.size + 1 + b.size + 5 + a.size + 5:=by omega
 have u7 : ¬ 9223372036854775807 < 5 + a.size + 1 + b.size + 5 + a.size + 5 + b.size:=by omega
 have u8 : ¬ 9223372036854775807 < 5 + a.size + 1 + b.size + 5 + a.size + 5 + b.size + 1:=by omega
 go_enter Tryz.func19,Tryz.ntmps19
 go_upto_region 2 with (fail)
 clear u1 u2 u3 u4 u5 u6 u7 u8
 have u9 : ¬ d.size < (firstB a b).size:=by omega
 have hFF : (⟨#[100,105,102,102,32]⟩ ++ a ++ ⟨#[32]⟩ ++ b ++ ⟨#[10,45,45,45,32]⟩ ++ a ++ ⟨#[10,43,43,43,32]⟩ ++ b ++ ⟨#[10]⟩ : ByteArray) = firstB a b:=rfl
 rw [hFF]
 clear hFF
 generalize firstB a b = F at *
 have hF3:=hF1.out
 rw [bne_eq_false_iff_eq] at hF3
 have hF5 : ((d.extract 0 F.size).toList == F.toList) = true:=beq_iff_eq.2 hF3
 have hF4:=hF2.out
 clear hF3
 go_wp2_with fail
 have hrf : PRows.spec_Rows.f (T.length + 1) (mkB T) = some ((hs.flatMap hkRows).map mkB):=by
  have h1:=rows_l0 (mkB T) (by rw [mkB_size]; omega) (T.length + 1) [] 0 0 (Nat.le_refl _) (Nat.zero_le _) (by rw [mkB_size]; omega) (Nat.zero_le _)
  have h2:=hunks_rows hs (fun h hh => ⟨(HOK.out h hh).ln,(HOK.out h hh).ne⟩)
  rw [← HT.out] at h2
  rw [mkB_list] at h1
  simpa [PRows.spec_Rows.f,h2] using h1
 refine (PRows.spec_Rows.calls _ _ _ w hrf).mono ?_
 rintro e w1 ⟨v0,rfl,hR,hB⟩
 obtain ⟨A,c,rfl,hc,hC⟩:=Kd.R_reads hR
 obtain ⟨RR,hRR⟩ : ∃ RR,RR = (hs.flatMap hkRows).map mkB:=⟨_,rfl⟩
 rw [← hRR] at hC hc hR ⊢
 have hRl : RR.length ≤ 1099511627777:=by
  have h1:=rws_len T []
  have h2:=hunks_rows hs (fun h hh => ⟨(HOK.out h hh).ln,(HOK.out h hh).ne⟩)
  rw [← HT.out] at h2
  rw [hRR,List.length_map,← h2]
  omega
 have HRs : Aside0 (∀ s ∈ RR,s.size ≤ 1099511627777):=⟨by
  intro s hs'
  have h2:=hunks_rows hs (fun h hh => ⟨(HOK.out h hh).ln,(HOK.out h hh).ne⟩)
  rw [← HT.out] at h2
  rw [hRR,← h2] at hs'
  obtain ⟨q,hq,rfl⟩:=List.mem_map.1 hs'
  have:=rws_sz T [] q hq
  rw [mkB_size]
  simp at this
  omega⟩
 have HRR:=Aside0.mk hRR
 have HC:=Aside0.mk hC
 have HLR:=Aside0.mk hR
 have HB:=Aside0.mk hB
 clear hRR hC hB hR hrf hF4 hF5 hF1 hF2 u9
 go_upto_block 0 with (fail)
 refine cutU 193 (fun u wc => ∃ v : Value,u 10 = v ∧ Kd.R k48 87 wc w.heap.size (fun _ => True) v (hs.map pz) ∧ Below w.heap.size w wc) ?rest ?first
 case first =>
  intro J K hJ hK
  go_wp2
  refine loopG 193 (fun g u wc => ∃ (rest done : List Dp.Hk) (i : Nat) (v : Value),g = rest.length ∧ done ++ rest = hs ∧ u 9 = .slice A RR.length c ∧ u 10 = v ∧ u 11 = .int .i64 i ∧ i ≤ RR.length ∧ RR.drop i = (rest.flatMap hkRows).map mkB ∧ Kd.R Kd.string 9 wc w.heap.size (fun _ => True) (.slice A RR.length c) RR ∧ Kd.R k48 87 wc w.heap.size (fun _ => True) v (done.map pz) ∧ Below w.heap.size w wc) hs.length rfl ?atStart ?round
  case atStart =>
   exact ⟨hs,[],0,_,rfl,rfl,rfl,rfl,rfl,Nat.zero_le _,HRR.out,HLR.out,Kd.R_nil _ _ _ _ _,HB.out⟩
  case round =>
   intro g u W hrel J2 K2 hJ2 hK2
   obtain ⟨rest,done,i,v,hg,hdr,h9,h10,h11,hi,hdrop,hLR,hR,hB⟩:=hrel
   have hC:=(Kd.R_reads' hLR).2.2
   rw [lit193]
   simp only [h9,h10,h11]
   clear HC HB HLR
   have HC:=Aside0.mk hC
   have HLR:=Aside0.mk hLR
   have HB:=Aside0.mk hB
   have HR:=Aside0.mk hR
   have HD2:=Aside0.mk hdr
   have HDrop:=Aside0.mk hdrop
   clear hC hLR hB hR hdr hdrop h9 h10 h11
   cases rest with
   | nil =>
    have e0 : i = RR.length:=by
     have:=List.drop_eq_nil_iff.1 HDrop.out
     omega
    subst e0
    have u1 : decide ((RR.length : Int) < (RR.length : Int)) = false:=by simp
    go_wp2
    refine Met.intro (hJ _ _ rfl ⟨v,rfl,?_,HB.out⟩)
    have h1:=HR.out
    rw [← HD2.out,List.append_nil]
    exact h1
   | cons h t =>
    have hOK:=HOK.out h (by rw [← HD2.out]; simp)
    have hd0:=HDrop.out
    rw [List.flatMap_cons,hkRows_eq,List.cons_append,List.map_cons,mkB_data] at hd0
    have hri : RR[i]? = some (hkHead h.o (Dp.olds h.ls).length h.n (Dp.news h.ls).length):=by
     have:=congrArg (fun l => l[0]?) hd0
     simpa using this
    have hd1 : RR.drop (i + 1) = (h.ls.flatMap lrows ++ t.flatMap hkRows).map mkB:=by
     rw [← List.drop_drop,hd0]; rfl
    have hilt:=get_lt hri
    obtain ⟨ad,hA,hcell⟩:=row_cell HC.out hri
    subst hA
    have u1 : (i : Int) < (RR.length : Int):=by omega
    have HD1:=Aside0.mk hd1
    have Hok:=Aside0.mk hOK
    clear hd0 hri hd1 hOK HDrop
    go_wp2_with fail
    refine (head_text W h.o (Dp.olds h.ls).length h.n (Dp.news h.ls).length Hok.out.o Hok.out.oc Hok.out.n Hok.out.nc).mono ?_
    rintro e w2 ⟨rfl,hb2⟩
    have l1:=Hok.out.oc
    have l2:=Hok.out.nc
    obtain ⟨oc,hoc⟩ : ∃ z,z = (Dp.olds h.ls).length:=⟨_,rfl⟩
    obtain ⟨nc,hnc⟩ : ∃ z,z = (Dp.news h.ls).length:=⟨_,rfl⟩
    rw [← hoc] at l1
    rw [← hnc] at l2
    rw [← hoc,← hnc]
    have Hoc:=Aside0.mk hoc
    have Hnc:=Aside0.mk hnc
    obtain ⟨o',ho'⟩ : ∃ z,z = (if 0 < oc then h.o + 1 else h.o):=⟨_,rfl⟩
    obtain ⟨n',hn'⟩ : ∃ z,z = (if 0 < nc then h.n + 1 else h.n):=⟨_,rfl⟩
    rw [← ho',← hn']
    have Ho:=Aside0.mk ho'
    have Hn:=Aside0.mk hn'
    have Hb2:=Aside0.mk hb2
    have u3 : IntKind.i64.wrap ((i : Int) + 1) = (i : Int) + 1:=by rw [IntKind.wrap_i64]; omega
    clear hoc hnc ho' hn' hb2 u1 hcell
    go_upto_region 13 with (fail)
    have ha1:=blk_alloc (blk_new w2 (.cells #[Value.int IntKind.i64 ↑o',Value.int IntKind.i64 ↑n',Value.int IntKind.i64 ↑oc,Value.int IntKind.i64 ↑nc] 83)) (Obj.cells #[Value.int IntKind.i64 ↑o',Value.int IntKind.i64 ↑n',Value.slice none 0 0] 87)
    have hx1:=blk_new (w2.alloc (.cells #[Value.int IntKind.i64 ↑o',Value.int IntKind.i64 ↑n',Value.int IntKind.i64 ↑oc,Value.int IntKind.i64 ↑nc] 83)) (.cells #[Value.int IntKind.i64 ↑o',Value.int IntKind.i64 ↑n',Value.slice none 0 0] 87)
    rw [show (w2.alloc (.cells #[Value.int IntKind.i64 ↑o',Value.int IntKind.i64 ↑n',Value.int IntKind.i64 ↑oc,Value.int IntKind.i64 ↑nc] 83)).heap.size = w2.heap.size + 1 from alloc_size _ _] at hx1
    have hB3:=below_alloc (below_alloc Hb2.out (.cells #[Value.int IntKind.i64 ↑o',Value.int IntKind.i64 ↑n',Value.int IntKind.i64 ↑oc,Value.int IntKind.i64 ↑nc] 83)) (.cells #[Value.int IntKind.i64 ↑o',Value.int IntKind.i64 ↑n',Value.slice none 0 0] 87)
    have hgx : W.heap.size ≤ w2.heap.size + 1:=by have:=Hb2.out.size; omega
    obtain ⟨gx,egx⟩ : ∃ z,z = w2.heap.size + 1:=⟨_,rfl⟩
    rw [← egx] at hx1 hgx ⊢
    generalize hw3 : (w2.alloc (.cells #[Value.int IntKind.i64 ↑o',Value.int IntKind.i64 ↑n',Value.int IntKind.i64 ↑oc,Value.int IntKind.i64 ↑nc] 83)).alloc (.cells #[Value.int IntKind.i64 ↑o',Value.int IntKind.i64 ↑n',Value.slice none 0 0] 87) = w3 at *
    have HX3:=Aside0.mk hx1
    have HB3:=Aside0.mk hB3
    have q2:=(blk_cell ha1 2).trans rfl
    have q3:=(blk_cell ha1 3).trans rfl
    have qf2:=blk_frozen ha1 2
    have qf3:=blk_frozen ha1 3
    clear hx1 hB3 ha1 hw3 egx
    go_upto_region 14 with (go_quiet (fail))
    generalize hw4 : w3.drewN nq = w4
    have HX4:=Aside0.mk (by rw [← hw4]; exact blk_drewN HX3.out nq : w4.heap[gx]? = some (.cells #[Value.int IntKind.i64 ↑o',Value.int IntKind.i64 ↑n',Value.slice none 0 0] 87 (0,0)))
    have HB4:=Aside0.mk (by rw [← hw4]; exact pw_below_drewN HB3.out nq : Below W.heap.size W w4)
    clear HX3 HB3 q2 q3 qf2 qf3 hw4
    go_upto_if 74 with (fail)
    refine cutU 193 (fun u wc => FrD (.slice (some ad) RR.length c) v (i + 1) gx oc nc u ∧ wc.heap[gx]? = some (.cells #[Value.int IntKind.i64 ↑h.o,Value.int IntKind.i64 ↑n',Value.slice none 0 0] 87 (0,0)) ∧ Below W.heap.size W wc) ?rest2 ?first2
    case first2 =>
     intro J3 K3 hJ3 hK3
     by_cases c1 : 0 < oc
     ·have f0:=blk_frozen HX4.out 0
      have b1:=(blk_cell HX4.out 0).trans rfl
      have u1 : (0 : Int) < (oc : Int):=by omega
      have e1 : IntKind.i64.wrap ((o' : Int) - 1) = (h.o : Int):=by
       have:=Ho.out
       rw [if_pos c1] at this
       have:=Hok.out.o
       rw [IntKind.wrap_i64]
       omega
      go_wp2
      exact Met.intro (hJ3 _ _ rfl ⟨⟨rfl,rfl,rfl,rfl,rfl,rfl⟩,blk_put HX4.out 0 _ rfl,below_put HB4.out _ _ _ hgx⟩)
     ·have u1 : decide ((0 : Int) < (oc : Int)) = false:=by simp; omega
      have u2 : decide ((oc : Int) > 0) = false:=by simp; omega
      have e1:=Ho.out
      rw [if_neg c1] at e1
      subst e1
      go_wp2
      exact Met.intro (hJ3 _ _ rfl ⟨⟨rfl,rfl,rfl,rfl,rfl,rfl⟩,HX4.out,HB4.out⟩)
    case rest2 =>
     intro u2 W5 hr
     obtain ⟨hF,hX,hB5⟩:=hr
     rw [lit193]
     simp only [hF.s9,hF.s10,hF.s11,hF.s14,hF.s15,hF.s16]
     clear HX4 HB4 Ho hF
     have HX5:=Aside0.mk hX
     have HB5:=Aside0.mk hB5
     clear hX hB5
     go_upto_if 80 with (fail)
     refine cutU 193 (fun u wc => FrD (.slice (some ad) RR.length c) v (i + 1) gx oc nc u ∧ wc.heap[gx]? = some (.cells #[Value.int IntKind.i64 ↑h.o,Value.int IntKind.i64 ↑h.n,Value.slice none 0 0] 87 (0,0)) ∧ Below W.heap.size W wc) ?rest3 ?first3
     case first3 =>
      intro J3 K3 hJ3 hK3
      by_cases c1 : 0 < nc
      ·have f0:=blk_frozen HX5.out 1
       have b1:=(blk_cell HX5.out 1).trans rfl
       have u1 : (0 : Int) < (nc : Int):=by omega
       have e1 : IntKind.i64.wrap ((n' : Int) - 1) = (h.n : Int):=by
        have:=Hn.out
        rw [if_pos c1] at this
        have:=Hok.out.n
        rw [IntKind.wrap_i64]
        omega
       go_wp2
       exact Met.intro (hJ3 _ _ rfl ⟨⟨rfl,rfl,rfl,rfl,rfl,rfl⟩,blk_put HX5.out 1 _ rfl,below_put HB5.out _ _ _ hgx⟩)
      ·have u1 : decide ((0 : Int) < (nc : Int)) = false:=by simp; omega
       have u2 : decide ((nc : Int) > 0) = false:=by simp; omega
       have e1:=Hn.out
       rw [if_neg c1] at e1
       subst e1
       go_wp2
       exact Met.intro (hJ3 _ _ rfl ⟨⟨rfl,rfl,rfl,rfl,rfl,rfl⟩,HX5.out,HB5.out⟩)
     case rest3 =>
      intro u3 W6 hr
      obtain ⟨hF,hX,hB6⟩:=hr
      rw [lit193]
      simp only [hF.s9,hF.s10,hF.s11,hF.s14,hF.s15,hF.s16]
      clear HX5 HB5 Hn hF
      have HX6:=Aside0.mk hX
      have HB6:=Aside0.mk hB6
      clear hX hB6
      go_upto_block 2 with (fail)
      refine cutU 193 (fun u wc => ∃ (j : Nat) (vL : Value),FrD (.slice (some ad) RR.length c) v j gx 0 0 u ∧ j ≤ RR.length ∧ RR.drop j = (t.flatMap hkRows).map mkB ∧ wc.heap[gx]? = some (.cells #[Value.int IntKind.i64 ↑h.o,Value.int IntKind.i64 ↑h.n,vL] 87 (0,0)) ∧ Kd.R Kd.string 9 wc (gx + 1) (fun _ => True) vL (h.ls.map pl) ∧ Below W.heap.size W wc) ?rest4 ?first4
      case first4 =>
       intro J3 K3 hJ3 hK3
       go_wp2
       refine loopG 193 (fun g u wc => ∃ (ls dn : List Dp.Ln) (j : Nat) (vL : Value),g = ls.length ∧ dn ++ ls = h.ls ∧ FrD (.slice (some ad) RR.length c) v j gx (Dp.olds ls).length (Dp.news ls).length u ∧ j ≤ RR.length ∧ RR.drop j = (ls.flatMap lrows ++ t.flatMap hkRows).map mkB ∧ wc.heap[gx]? = some (.cells #[Value.int IntKind.i64 ↑h.o,Value.int IntKind.i64 ↑h.n,vL] 87 (0,0)) ∧ Kd.R Kd.string 9 wc (gx + 1) (fun _ => True) vL (dn.map pl) ∧ Below W.heap.size W wc) h.ls.length rfl ?atStart2 ?round2
       case atStart2 =>
        refine ⟨h.ls,[],i + 1,_,rfl,rfl,⟨rfl,rfl,rfl,rfl,?_,?_⟩,by omega,HD1.out,HX6.out,Kd.R_nil _ _ _ _ _,HB6.out⟩
        ·rw [← Hoc.out]; rfl
        ·rw [← Hnc.out]; rfl
       case round2 =>
        intro g2 u4 W7 hrel J4 K4 hJ4 hK4
        obtain ⟨ls,dn,j,vL,hg2,hdl,hF,hj,hdrop,hX,hRL,hB7⟩:=hrel
        rw [lit193]
        simp only [hF.s9,hF.s10,hF.s11,hF.s14,hF.s15,hF.s16]
        clear HX6 HB6 hF HD1 hilt u3
        have HX7:=Aside0.mk hX
        have HB7:=Aside0.mk hB7
        have HRL:=Aside0.mk hRL
        have HDL:=Aside0.mk hdl
        have HDrop:=Aside0.mk hdrop
        clear hX hB7 hRL hdl hdrop
        cases ls with
        | nil =>
         have e1 : decide ((((Dp.olds []).length : Nat) : Int) > 0) = false:=by simp [Dp.olds]
         have e2 : decide ((((Dp.news []).length : Nat) : Int) > 0) = false:=by simp [Dp.news]
         have z1 : (Dp.olds []).length = 0:=rfl
         have z2 : (Dp.news []).length = 0:=rfl
         simp only [z1,z2]
         go_wp2
         refine Met.intro (hJ3 _ _ rfl ⟨j,vL,⟨rfl,rfl,rfl,rfl,rfl,rfl⟩,hj,HDrop.out,HX7.out,?_,HB7.out⟩)
         have:=HRL.out
         have e3:=HDL.out
         rw [List.append_nil] at e3
         rw [e3] at this
         exact this
        | cons l ls =>
         have hL:=Hok.out.ln l (by rw [← HDL.out]; simp)
         obtain ⟨s,nx,enx,hLA⟩:=line_at l hL (ls.flatMap lrows ++ t.flatMap hkRows)
         have hd0:=HDrop.out
         rw [List.flatMap_cons,List.append_assoc,enx,List.map_cons,mkB_data] at hd0
         have hrj : RR[j]? = some s:=by
          have:=congrArg (fun l => l[0]?) hd0
          simpa using this
         have hd1 : RR.drop (j + 1) = nx.map mkB:=by
          rw [← List.drop_drop,hd0]; rfl
         have hjlt:=get_lt hrj
         obtain ⟨ad',hA',hcell⟩:=row_cell (Kd.C_below HC.out HB7.out) hrj
         have hA'' : ad' = ad:=by injection hA' with h; exact h.symm
         subst hA''
         have HD8:=Aside0.mk hd1
         have HLA:=Aside0.mk hLA
         have two:=hLA.two
         have hss:=HRs.out s (List.mem_of_getElem? hrj)
         have HRj:=Aside0.mk hrj
         have hcnt:=counts l.1 l.2 ls hL.1
         rw [show ((l.1,l.2) : Dp.Ln) = l from rfl] at hcnt
         have lO : (Dp.olds (l :: ls)).length ≤ oc:=by
          rw [Hoc.out,← HDL.out,Dp.olds_app,List.length_append]; omega
         have lN : (Dp.news (l :: ls)).length ≤ nc:=by
          rw [Hnc.out,← HDL.out,Dp.news_app,List.length_append]; omega
         obtain ⟨O,hO⟩ : ∃ z,z = (Dp.olds (l :: ls)).length:=⟨_,rfl⟩
         obtain ⟨N,hN⟩ : ∃ z,z = (Dp.news (l :: ls)).length:=⟨_,rfl⟩
         rw [← hO] at hcnt lO
         rw [← hN] at hcnt lN
         rw [← hO,← hN]
         have hsum : 0 < O ∨ 0 < N:=by
          rcases hcnt with ⟨_,h1,h2⟩ | ⟨_,h1,h2⟩ | ⟨_,h1,h2⟩ <;> omega
         have HCnt:=Aside0.mk hcnt
         have HEnx:=Aside0.mk enx
         clear hd0 hrj hd1 hA' hLA hcnt enx hO hN
         go_upto_region 18 with (fail)
         refine cutU 193 (fun u wc => FrD (.slice (some ad') RR.length c) v j gx O N u ∧ u 90 = .bool true ∧ wc = W7) ?restA ?firstA
         case firstA =>
          intro J5 K5 hJ5 hK5
          by_cases c1 : 0 < O
          ·have u1 : (0 : Int) < (O : Int):=by omega
           go_wp2
           exact Met.intro (hJ5 _ _ rfl ⟨⟨rfl,rfl,rfl,rfl,rfl,rfl⟩,rfl,rfl⟩)
          ·have u1 : decide ((O : Int) > 0) = false:=by simp; omega
           have u2 : decide ((0 : Int) < (O : Int)) = false:=by simp; omega
           have u3 : 0 < N:=by omega
           go_wp2
           exact Met.intro (hJ5 _ _ rfl ⟨⟨rfl,rfl,rfl,rfl,rfl,rfl⟩,rfl,rfl⟩)
         case restA =>
          rintro u5 W8 ⟨hF,h90,rfl⟩
          rw [lit193]
          simp only [hF.s9,hF.s10,hF.s11,hF.s14,hF.s15,hF.s16,h90]
          clear hF h90 u4 hsum
          have u1 : ((j : Int) == (RR.length : Int)) = false:=beq_eq_false_iff_ne.mpr (by omega)
          have u2 : decide ((s.size : Int) < 2) = false:=decide_eq_false (by omega)
          have u3 : (j : Int) < (RR.length : Int):=by omega
          obtain ⟨z,hz⟩ : ∃ z : Int,z = (s.size : Int) - 1:=⟨_,rfl⟩
          have q1 : ((s.size - 1 : Nat) : Int) = z:=by omega
          have u4:=HLA.out.last
          rw [q1] at u4
          have u5 : IntKind.i64.wrap ((s.size : Int) - 1) = z:=by rw [IntKind.wrap_i64]; omega
          have u6 : (0 : Int) ≤ z:=by omega
          have u7 : z < (s.size : Int):=by omega
          have u8:=bt_at s z
          replace u6:=eq_true u6
          replace u7:=eq_true u7
          clear q1 hz
          go_upto_region 19 with (fail)
          go_quiet (fail)
          generalize hw9 : W8.drewN nq = W9
          have HX9:=Aside0.mk (by rw [← hw9]; exact blk_drewN HX7.out nq : W9.heap[gx]? = some (.cells #[Value.int IntKind.i64 ↑h.o,Value.int IntKind.i64 ↑h.n,vL] 87 (0,0)))
          have HB9:=Aside0.mk (by rw [← hw9]; exact pw_below_drewN HB7.out nq : Below W.heap.size W W9)
          have HRL9:=Aside0.mk (by rw [← hw9]; exact Kd.R_drewN HRL.out nq : Kd.R Kd.string 9 W9 (gx + 1) (fun _ => True) vL (dn.map pl))
          clear HX7 HB7 HRL hw9 hcell u1 u2 u3 u4 u5 u6 u7 u8
          obtain ⟨ad2,hA2,hcell⟩:=row_cell (Kd.C_below HC.out HB9.out) HRj.out
          have hA3 : ad2 = ad':=by injection hA2 with h; exact h.symm
          subst hA3
          have u3 : (j : Int) < (RR.length : Int):=by omega
          have u4 : IntKind.i64.wrap ((j : Int) + 1) = (j : Int) + 1:=by rw [IntKind.wrap_i64]; omega
          have u5:=HLA.out.b0
          have u6 : (0 : Int) < (s.size : Int):=by omega
          have u7:=bt_at s 0
          replace u6:=eq_true u6
          clear hA2
          go_upto_block 4 with (fail)
          refine cutU 193 (fun u wc => FrD (.slice (some ad2) RR.length c) v (j + 1) gx (Dp.olds ls).length (Dp.news ls).length u ∧ u 17 = .string s ∧ wc = W9) ?restB ?firstB
          case firstB =>
           intro J5 K5 hJ5 hK5
           have hcn:=HCnt.out
           have hz0 : 0 < s.size:=by omega
           clear hcell u3 u4 u5 u6 u7 hss two
           rcases hcn with ⟨e1,e2,e3⟩ | ⟨e1,e2,e3⟩ | ⟨e1,e2,e3⟩
           ·have u5:=HLA.out.b0
            rw [e1,show (((32 : UInt8).toNat : Nat) : Int) = 32 from rfl] at u5
            have hb : ((s[0]'hz0).toNat : Int) = 32:=(bt_at s 0 hz0).trans u5
            have w1 : IntKind.i64.wrap ((O : Int) - 1) = ((Dp.olds ls).length : Int):=by clear u5 hb; rw [IntKind.wrap_i64]; omega
            have w2 : IntKind.i64.wrap ((N : Int) - 1) = ((Dp.news ls).length : Int):=by clear u5 hb; rw [IntKind.wrap_i64]; omega
            clear e1 e2 e3
            go_wp2
            exact Met.intro (hJ5 _ _ rfl ⟨⟨rfl,rfl,rfl,rfl,rfl,rfl⟩,rfl,rfl⟩)
           ·have u5:=HLA.out.b0
            rw [e1,show (((45 : UInt8).toNat : Nat) : Int) = 45 from rfl] at u5
            have hb : ((s[0]'hz0).toNat : Int) = 45:=(bt_at s 0 hz0).trans u5
            have w1 : IntKind.i64.wrap ((O : Int) - 1) = ((Dp.olds ls).length : Int):=by clear u5 hb; rw [IntKind.wrap_i64]; omega
            subst e3
            clear e1 e2
            go_wp2
            exact Met.intro (hJ5 _ _ rfl ⟨⟨rfl,rfl,rfl,rfl,rfl,rfl⟩,rfl,rfl⟩)
           ·have u5:=HLA.out.b0
            rw [e1,show (((43 : UInt8).toNat : Nat) : Int) = 43 from rfl] at u5
            have hb : ((s[0]'hz0).toNat : Int) = 43:=(bt_at s 0 hz0).trans u5
            have w2 : IntKind.i64.wrap ((N : Int) - 1) = ((Dp.news ls).length : Int):=by clear u5 hb; rw [IntKind.wrap_i64]; omega
            subst e2
            clear e1 e3
            go_wp2
            exact Met.intro (hJ5 _ _ rfl ⟨⟨rfl,rfl,rfl,rfl,rfl,rfl⟩,rfl,rfl⟩)
          case restB =>
           rintro f6 W10 ⟨hF,h17,rfl⟩
           rw [lit193]
           simp only [hF.s9,hF.s10,hF.s11,hF.s14,hF.s15,hF.s16,h17]
           clear hF h17 hcell u3 u4 u5 u6 u7
           obtain ⟨J1,hJ1⟩ : ∃ z,z = j + 1:=⟨_,rfl⟩
           have HD9:=Aside0.mk (by rw [hJ1]; exact HD8.out : RR.drop J1 = nx.map mkB)
           have hJl : J1 ≤ RR.length:=by omega
           rw [← hJ1]
           clear hJ1
           have hrst:=noRem_lines ls (fun l' hl' => Hok.out.ln l' (by rw [← HDL.out]; simp [hl'])) t
           obtain ⟨rst,hrs⟩ : ∃ z,z = ls.flatMap lrows ++ t.flatMap hkRows:=⟨_,rfl⟩
           rw [← hrs] at hrst
           have HRst:=Aside0.mk hrst
           have HRs:=Aside0.mk hrs
           have HOr:=Aside0.mk (by rw [hrs]; exact HLA.out.or : (nx = rst ∧ s = pl l) ∨ (nx = remark :: rst ∧ s.extract 0 (s.size - 1) = pl l))
           clear hrst hrs
           go_upto_region 31 with (fail)
           refine cutU 193 (fun u wc => ∃ bb : Bool,FrD (.slice (some ad2) RR.length c) v J1 gx (Dp.olds ls).length (Dp.news ls).length u ∧ u 17 = .string s ∧ u 149 = .bool bb ∧ (bb = true → nx = remark :: rst ∧ s.extract 0 (s.size - 1) = pl l) ∧ (bb = false → nx = rst ∧ s = pl l) ∧ wc.heap[gx]? = some (.cells #[Value.int IntKind.i64 ↑h.o,Value.int IntKind.i64 ↑h.n,vL] 87 (0,0)) ∧ Kd.R Kd.string 9 wc (gx + 1) (fun _ => True) vL (dn.map pl) ∧ Below W.heap.size W wc) ?restC ?firstC
           case firstC =>
            intro J5 K5 hJ5 hK5
            rcases HOr.out with ⟨e1,e2⟩ | ⟨e1,e2⟩
            ·cases hr : rst with
             | nil =>
              have e3 : RR.length = J1:=by
               have:=HD9.out
               rw [e1,hr,List.map_nil] at this
               have:=List.drop_eq_nil_iff.1 this
               omega
              have u0 : ¬ J1 < RR.length:=by omega
              have u1 : decide ((J1 : Int) < (RR.length : Int)) = false:=decide_eq_false (by omega)
              have E1:=Aside0.mk e1
              have E2:=Aside0.mk e2
              have HRnil:=Aside0.mk hr
              clear e1 e2 e3 hr
              go_wp2
              exact Met.intro (hJ5 _ _ rfl ⟨false,⟨rfl,rfl,rfl,rfl,rfl,rfl⟩,rfl,rfl,(fun hh => by cases hh),fun _ => ⟨E1.out,E2.out⟩,HX9.out,HRL9.out,HB9.out⟩)
             | cons q tl =>
              have hd:=HD9.out
              rw [e1,hr,List.map_cons] at hd
              have hrx : RR[J1]? = some (mkB q):=by
               have:=congrArg (fun l => l[0]?) hd
               simpa using this
              have hq:=HRst.out q tl hr
              have hq2 : ((mkB q).toList == [92,32,78,111,32,110,101,119,108,105,110,101,32,97,116,32,101,110,100,32,111,102,32,102,105,108,101,10]) = false:=by
               rw [mkB_toList]
               exact beq_eq_false_iff_ne.mpr hq
              obtain ⟨ad3,hA3,hcell⟩:=row_cell (Kd.C_below HC.out HB9.out) hrx
              have hA4 : ad3 = ad2:=by injection hA3 with h; exact h.symm
              subst hA4
              have u0 : J1 < RR.length:=get_lt hrx
              have u1 : (J1 : Int) < (RR.length : Int):=by omega
              have E1:=Aside0.mk e1
              have E2:=Aside0.mk e2
              have HRnil:=Aside0.mk hr
              clear e1 e2 hr hd hrx hq hA3
              generalize mkB q = x at *
              go_wp2
              exact Met.intro (hJ5 _ _ rfl ⟨false,⟨rfl,rfl,rfl,rfl,rfl,rfl⟩,rfl,rfl,(fun hh => by cases hh),fun _ => ⟨E1.out,E2.out⟩,HX9.out,HRL9.out,HB9.out⟩)
            ·have hd:=HD9.out
             rw [e1,List.map_cons] at hd
             have hrx : RR[J1]? = some (mkB remark):=by
              have:=congrArg (fun l => l[0]?) hd
              simpa using this
             have hq2 : ((mkB remark).toList == [92,32,78,111,32,110,101,119,108,105,110,101,32,97,116,32,101,110,100,32,111,102,32,102,105,108,101,10]) = true:=by
              rw [mkB_toList]
              rfl
             obtain ⟨ad3,hA3,hcell⟩:=row_cell (Kd.C_below HC.out HB9.out) hrx
             have hA4 : ad3 = ad2:=by injection hA3 with h; exact h.symm
             subst hA4
             have u0 : J1 < RR.length:=get_lt hrx
             have u1 : (J1 : Int) < (RR.length : Int):=by omega
             have E1:=Aside0.mk e1
             have E2:=Aside0.mk e2
             clear e1 e2 hd hrx hA3
             generalize mkB remark = x at *
             go_wp2
             exact Met.intro (hJ5 _ _ rfl ⟨true,⟨rfl,rfl,rfl,rfl,rfl,rfl⟩,rfl,rfl,fun _ => ⟨E1.out,E2.out⟩,(fun hh => by cases hh),HX9.out,HRL9.out,HB9.out⟩)
           case restC =>
            rintro f7 W11 ⟨bb,hF,h17,h149,ht,hf,hX,hRL,hB⟩
            rw [lit193]
            simp only [hF.s9,hF.s10,hF.s11,hF.s14,hF.s15,hF.s16,h17,h149]
            clear hF h17 h149 HX9 HB9 HRL9
            have HX9:=Aside0.mk hX
            have HB9:=Aside0.mk hB
            have HRL9:=Aside0.mk hRL
            have HBT:=Aside0.mk ht
            have HBF:=Aside0.mk hf
            clear ht hf hX hRL hB
            go_upto_if 149 with (fail)
            refine cutU 193 (fun u wc => ∃ J : Nat,FrD (.slice (some ad2) RR.length c) v J gx (Dp.olds ls).length (Dp.news ls).length u ∧ u 17 = .string (pl l) ∧ J ≤ RR.length ∧ RR.drop J = rst.map mkB ∧ wc.heap[gx]? = some (.cells #[Value.int IntKind.i64 ↑h.o,Value.int IntKind.i64 ↑h.n,vL] 87 (0,0)) ∧ Kd.R Kd.string 9 wc (gx + 1) (fun _ => True) vL (dn.map pl) ∧ Below W.heap.size W wc) ?restD ?firstD
            case firstD =>
             intro J5 K5 hJ5 hK5
             cases bb with
             | false =>
              obtain ⟨e1,e2⟩:=HBF.out rfl
              have E2:=Aside0.mk e2
              have HD10:=Aside0.mk (by rw [← e1]; exact HD9.out : RR.drop J1 = rst.map mkB)
              clear e1 e2
              go_wp2
              exact Met.intro (hJ5 _ _ rfl ⟨J1,⟨rfl,rfl,rfl,rfl,rfl,rfl⟩,congrArg Value.string E2.out,hJl,HD10.out,HX9.out,HRL9.out,HB9.out⟩)
             | true =>
              obtain ⟨e1,e2⟩:=HBT.out rfl
              have hd:=HD9.out
              rw [e1,List.map_cons] at hd
              have hrx : RR[J1]? = some (mkB remark):=by
               have:=congrArg (fun l => l[0]?) hd
               simpa using this
              have hd2 : RR.drop (J1 + 1) = rst.map mkB:=by
               rw [← List.drop_drop,hd]; rfl
              have hlt:=get_lt hrx
              have HD10:=Aside0.mk hd2
              obtain ⟨z,hz⟩ : ∃ z : Int,z = (s.size : Int) - 1:=⟨_,rfl⟩
              have u5 : IntKind.i64.wrap ((s.size : Int) - 1) = z:=by rw [IntKind.wrap_i64]; omega
              have u6 : (0 : Int) ≤ z:=by omega
              have u7 : z ≤ (s.size : Int):=by omega
              have u4 : IntKind.i64.wrap ((J1 : Int) + 1) = (J1 : Int) + 1:=by rw [IntKind.wrap_i64]; omega
              have E2:=Aside0.mk (by rw [hz,show ((s.size : Int) - 1).toNat = s.size - 1 by omega]; exact e2 : s.extract 0 z.toNat = pl l)
              replace u6:=eq_true u6
              replace u7:=eq_true u7
              clear e1 e2 hd hrx hd2 hz
              go_wp2
              exact Met.intro (hJ5 _ _ rfl ⟨J1 + 1,⟨rfl,rfl,rfl,rfl,rfl,rfl⟩,congrArg Value.string E2.out,hlt,HD10.out,HX9.out,HRL9.out,HB9.out⟩)
            case restD =>
             rintro f8 W12 ⟨J,hF,h17,hJ',hdr,hX,hRL,hB⟩
             rw [lit193]
             simp only [hF.s9,hF.s10,hF.s11,hF.s14,hF.s15,hF.s16,h17]
             clear hF h17 HX9 HB9 HRL9 HBT HBF
             have hbz : gx + 1 ≤ W12.heap.size:=blk_lt hX
             have hdn : (dn.map pl).length ≤ 2000000000:=by
              have h1:=Dp.lines_len h.ls
              have h2:=congrArg List.length HDL.out
              rw [List.length_append,List.length_cons] at h2
              rw [← Hoc.out,← Hnc.out] at h1
              rw [List.length_map]
              omega
             have b0:=(blk_cell hX 2).trans rfl
             have HX9:=Aside0.mk hX
             have HB9:=Aside0.mk hB
             have HRL9:=Aside0.mk hRL
             have HDr:=Aside0.mk hdr
             clear hX hRL hB hdr
             go_wp2_with (first | (at_builtin; refine Kd.R_append Kd.string (w0:=W12) (gx + 1) rfl (.tmp 158) (.tmp 160) 28 9 (.string ⟨#[]⟩) 16 rfl Tryz.underlying28 PApplied.info9 rfl (by decide) (by decide) vL (dn.map pl) (pl l) [.string (pl l)] (fun _ => True) (fun _ => False) rfl rfl rfl (fun _ hk => hk.elim) (fun _ _ => trivial) HRL9.out (Below.refl _ _) hbz ?aL ?_; (case aL => omega); intro v1 w1 ho1 hb1 hg1 hat1; obtain ⟨A4,c4,e4,_,_⟩:=Kd.R_reads ho1; subst e4; have hx1:=(hb1.block gx (Nat.lt_succ_self gx)).trans HX9.out; have bx:=(blk_cell hx1 2).trans rfl; have bxf:=blk_frozen hx1 2; have HX1:=Aside0.mk hx1; have HO1:=Aside0.mk ho1; have HB1:=Aside0.mk hb1; clear ho1 hb1 hg1 hat1 hx1))
             have hR2:=Kd.R_set HO1.out HX1.out (by intro t ht; simp [Kd.string,Kd.scalar] at ht; subst ht; decide) 2 (.slice A4 (dn.map pl ++ [pl l]).length c4)
             have el : dn.map pl ++ [pl l] = (dn ++ [l]).map pl:=by simp
             rw [show (dn.map pl ++ [pl l]).length = dn.length + 1 by simp,el] at hR2
             have hlt2 : ls.length < g2:=by rw [hg2]; exact Nat.lt_succ_self _
             exact Met.intro (hJ4 ls.length _ _ rfl hlt2 ⟨ls,dn ++ [l],J,_,rfl,by rw [← HDL.out]; simp,⟨rfl,rfl,rfl,rfl,rfl,rfl⟩,hJ',by rw [← HRs.out]; exact HDr.out,blk_put HX1.out 2 _ rfl,hR2,below_put (HB9.out.trans (HB1.out.mono (Nat.le_succ_of_le hgx))) _ _ _ hgx⟩)
      case rest4 =>
       rintro u9 W13 ⟨j,vL,hF,hj,hdrop,hX,hRL,hB9⟩
       rw [lit193]
       simp only [hF.s9,hF.s10,hF.s11,hF.s14,hF.s15,hF.s16]
       clear HX6 HB6 hF HD1
       obtain ⟨A4,c4,e4,_,_⟩:=Kd.R_reads hRL
       obtain ⟨n4,hn4⟩ : ∃ z,z = (h.ls.map pl).length:=⟨_,rfl⟩
       rw [← hn4] at e4
       subst e4
       have hn0 : ¬ n4 = 0:=by
        rw [hn4,List.length_map]
        intro e
        exact Hok.out.ne (List.eq_nil_of_length_eq_zero e)
       have hgw : w.heap.size ≤ W.heap.size:=HB.out.size
       have hWg : W.heap.size ≤ W13.heap.size:=hB9.size
       have hhs : (done.map pz).length ≤ 1099511627777:=by
        have h1 : ∀ l : List Dp.Hk,l.length ≤ (l.flatMap hkRows).length:=by
         intro l
         induction l with
         | nil => simp
         | cons a t ih => rw [List.flatMap_cons,List.length_append,hkRows_eq,List.length_cons,List.length_cons]; omega
        have h2:=h1 hs
        have h3:=congrArg List.length HRR.out
        rw [List.length_map] at h3
        have h4:=congrArg List.length HD2.out
        rw [List.length_append,List.length_cons] at h4
        rw [List.length_map]
        omega
       have hM:=k48_mkM W13 w.heap.size (fun k => gx + 1 ≤ k) (pz h) (v2:=.slice A4 n4 c4) (Kd.R_mono (Kd.R_lower (Kd.R_bound (by rw [pz_eq]; exact hRL)) (by omega)) (fun k hk => hk.2.1))
       rw [pz_eq] at hM
       have hRW:=HR.out
       have hov : ∀ k,gx + 1 ≤ k → some k ≠ v.ownBlock:=by
        intro k hk e
        obtain ⟨inner,ho⟩:=Kd.R_own hRW
        have:=own_lt ho k e.symm
        omega
       have b0:=(blk_cell hX 0).trans rfl
       have b1:=(blk_cell hX 1).trans rfl
       have b2:=(blk_cell hX 2).trans rfl
       have v1 : decide ((h.o : Int) < 0) = false:=decide_eq_false (by omega)
       have v2 : decide ((h.n : Int) < 0) = false:=decide_eq_false (by omega)
       have v3 : ((n4 : Int) == 0) = false:=beq_eq_false_iff_ne.mpr (by omega)
       have HX9:=Aside0.mk hX
       have HB9:=Aside0.mk hB9
       have HM:=Aside0.mk hM
       have HOv:=Aside0.mk hov
       have HDr:=Aside0.mk hdrop
       have HR9:=Aside0.mk (Kd.R_below HR.out hB9)
       have HLR9:=Aside0.mk (Kd.R_below HLR.out hB9)
       have hbs : w.heap.size ≤ W13.heap.size:=by omega
       clear hX hRL hB9 hM hov hdrop hRW hn4
       go_wp2_with (first | (at_builtin; refine Kd.R_append k48 (w0:=W13) w.heap.size rfl (.tmp 185) (.tmp 187) 50 87 _ 40 rfl Tryz.underlying50 info48 rfl (by decide) (by decide) v (done.map pz) (pz h) [.int .i64 h.o,.int .i64 h.n,.slice A4 n4 c4] (fun _ => True) (fun k => gx + 1 ≤ k) rfl rfl (by rw [pz_eq]; exact HM.out) (fun k hk => ⟨trivial,HOv.out k hk⟩) (fun _ _ => trivial) HR9.out (Below.refl _ _) hbs ?aL ?_; (case aL => omega); intro v1 w1 ho1 hb1 hg1 hat1; have HO1:=Aside0.mk ho1; have HB1:=Aside0.mk hb1; have HG1:=Aside0.mk hg1; clear ho1 hb1 hg1 hat1))
       have hlt2 : t.length < g:=by rw [hg]; exact Nat.lt_succ_self _
       have hL1:=Kd.R_over HLR9.out HR9.out (by intro t ht; simp [Kd.string,Kd.scalar] at ht; subst ht; decide) HG1.out
       have el : done.map pz ++ [pz h] = (done ++ [h]).map pz:=by simp
       have hO1:=HO1.out
       rw [el] at hO1
       exact Met.intro (hJ2 t.length _ _ rfl hlt2 ⟨t,done ++ [h],j,_,rfl,by rw [← HD2.out]; simp,rfl,rfl,rfl,hj,HDr.out,hL1,hO1,(HB.out.trans (HB9.out.mono hgw)).trans HB1.out⟩)
 case rest =>
  intro u W hrel
  obtain ⟨v,h10,hR,hB⟩:=hrel
  rw [lit193]
  simp only [h10]
  clear HC HB
  obtain ⟨A2,c2,rfl,hc2,hC2⟩:=Kd.R_reads hR
  have HR:=Aside0.mk hR
  have HB:=Aside0.mk hB
  have hp : 0 < hs.length:=List.length_pos_iff.2 hne
  clear hR hB hC2 h10
  go_wp2
  refine bodyPost_ret (v:=.tuple #[.slice A2 (hs.map pz).length c2,.bool true]) ?_ rfl ⟨_,rfl,HR.out,HB.out⟩
  simp [results,Tryz.results19,go_sem]
end Go.Proofs.YtplbifmjnanceaaGreatDoor
end
section
namespace Go.Proofs.YtplbifmjnanceaaGreatDoor
open Go.RowKit Go.Proofs.YtplbifmjnanceaaGreatDoorW.PrintWords Go.Proofs.YtplbifmjnanceaaGreatDoorW.PrintLast Go.Proofs.YtplbifmjnanceaaGreatDoorW.PrintMore
open Go.Proofs.YtplbifmjnanceaaGreatDoor.PApplied
set_option linter.unusedVariables false
set_option linter.unusedSimpArgs false
theorem rws_flatten (l : List UInt8) : ∀ acc,(rws acc l).flatten = acc ++ l:=by
 induction l with
 | nil => intro acc; by_cases h : acc = [] <;> simp [rws,h]
 | cons b t ih =>
  intro acc
  by_cases h : b = 10
  ·simp [rws,h,ih]
  ·simp [rws,h,ih]
theorem cat_rws (t : ByteArray) : cat ((rws [] t.data.toList).map mkB) = t:=by
 unfold cat
 rw [List.flatMap_map]
 have : (fun (a : List UInt8) => (mkB a).data.toList) = id:=by funext a; exact mkB_list a
 rw [this,List.flatMap_id,rws_flatten,List.nil_append,mkB_data]
theorem unB_map (l : List UInt8) : ((lns [] l).map mkB).map unB = (rws [] l).map mkB:=by
 rw [lns_rws l [] (by simp),List.map_map,List.map_map]
 apply List.map_congr_left
 intro r hr
 show unB (mkB (mk r)) = mkB r
 unfold unB
 rw [mkB_list,unm_mk (rws_row l [] (by simp) r hr)]
theorem rws_le (l : List UInt8) : ∀ acc,(rws acc l).length ≤ l.length + (if acc = [] then 0 else 1):=by
 induction l with
 | nil => intro acc; by_cases h : acc = [] <;> simp [rws,h]
 | cons b t ih =>
  intro acc
  by_cases h : b = 10
  ·have:=ih []; simp [rws,h] at this ⊢; omega
  ·have:=ih (acc ++ [b]); simp [rws,h] at this ⊢; split <;> omega
theorem pair_law (s t : ByteArray) (hs : s.size ≤ 1000) (ht : t.size ≤ 1000) (hks : List Dp.Hk) (hL : Dp.Leads ((lns [] s.data.toList).map mkB) ((lns [] t.data.toList).map mkB) hks) :
  ∀ h ∈ hks,HkSm h:=by
 have lx : ((lns [] s.data.toList).map mkB).length ≤ 1000:=by
  rw [lns_rws _ [] (by simp),List.length_map,List.length_map]
  have:=rws_le s.data.toList []
  simp at this
  have e : s.data.size = s.size:=rfl
  omega
 have ly : ((lns [] t.data.toList).map mkB).length ≤ 1000:=by
  rw [lns_rws _ [] (by simp),List.length_map,List.length_map]
  have:=rws_le t.data.toList []
  simp at this
  have e : t.data.size = t.size:=rfl
  omega
 obtain ⟨e,f,hC,he,hf,hd⟩:=id hL
 have hok:=chain_ok (lns_marked _) (lns_marked _) hks 0 0 e f hC
 have hsm : ∀ h ∈ hks,HkSm h:=fun h hh => by
  have:=hok h hh
  have a1:=this.o
  have a2:=this.n
  have a3:=this.oc
  have a4:=this.nc
  exact ⟨this.ln,this.ne,by omega,by omega,by omega,by omega⟩
 exact hsm
theorem rws_row_le (l : List UInt8) : ∀ acc,∀ p ∈ rws acc l,p.length ≤ acc.length + l.length:=by
 induction l with
 | nil =>
  intro acc p hp
  by_cases h : acc = []
  ·simp [rws,h] at hp
  ·simp [rws,h] at hp; subst hp; simp
 | cons b t ih =>
  intro acc p hp
  by_cases h : b = 10
  ·simp [rws,h] at hp
   rcases hp with rfl | hp
   ·simp
   ·have:=ih [] p hp; simp at this ⊢; omega
  ·simp [rws,h] at hp
   have:=ih _ p hp; simp at this ⊢; omega
theorem lns_bounds (s : ByteArray) (hs : s.size ≤ 1000) : ((lns [] s.data.toList).map mkB).length ≤ 1000 ∧ ∀ q ∈ (lns [] s.data.toList).map mkB,q.size ≤ 1048576:=by
 have e : s.data.size = s.size:=rfl
 have e2 : s.data.toList.length = s.size:=rfl
 constructor
 ·rw [lns_rws _ [] (by simp),List.length_map,List.length_map]
  have:=rws_le s.data.toList []
  simp at this
  omega
 ·intro q hq
  rw [lns_rws _ [] (by simp),List.map_map] at hq
  obtain ⟨r,hr,rfl⟩:=List.mem_map.1 hq
  have h1 : r.length ≤ s.size:=by
   have:=rws_row_le s.data.toList [] r hr
   simp at this
   omega
  show (mkB (mk r)).size ≤ _
  rw [mkB_size]
  unfold mk
  split
  ·omega
  ·rw [List.length_append]
   have : msg.length = 29:=rfl
   omega
theorem lns_ne (s t : ByteArray) (h : s ≠ t) : (lns [] s.data.toList).map mkB ≠ (lns [] t.data.toList).map mkB:=by
 intro e
 have e2:=congrArg (fun l => cat (l.map unB)) e
 simp only [unB_map,cat_rws] at e2
 exact h e2
end Go.Proofs.YtplbifmjnanceaaGreatDoor
end
