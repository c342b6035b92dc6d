/- diff.Diff of equal texts; textsAwake; the files of a project. -/
import Derived.Test.YtplbifmjnanceaaGreatDoorVU
import Derived.Laws.AppendOwn
import Derived.Lib.SlBytesRow
import Derived.Lib.BufferRead
import Derived.Test.YtplbifmjnanceaaGreatDoorVR
import Derived.Test.YtplbifmjnanceaaGreatDoorVT
import Derived.Test.YtplbifmjnanceaaGreatDoorVD
import Derived.Test.YtplbifmjnanceaaGreatDoorVN
section
namespace Go.Proofs.YtplbifmjnanceaaGreatDoor
open Go.RowKit Go.Proofs.YtplbifmjnanceaaGreatDoorW.PrintWords Go.Proofs.YtplbifmjnanceaaGreatDoorW.PrintLast Go.Proofs.YtplbifmjnanceaaGreatDoorW.PrintMore
open Go.Proofs.YtplbifmjnanceaaGreatDoor.Plines
set_option linter.unusedVariables false
set_option linter.unusedSimpArgs false
theorem conv_reads (W : World) (s : ByteArray) (hs : s.size ≤ 9223372036854775807) : Kd.C (Kd.int .u8) (Lib.bytesWorld W 5 s) (some ⟨W.heap.size,0,none⟩) (bytesOf s).length (bytesOf s):=by
 rw [bytesOf_length]
 exact Kd.C_of_reads (d:=(0 : Int)) (bytes_reads W 5 s hs)
theorem own_text {w : World} {B : Nat} {v : Value} {l : List UInt8} (h : w.ownsRow B 5 1 v l.length (Lib.byteCells l)) (hp : 0 < l.length) : ∃ g cap,v = .slice (some ⟨g,0,none⟩) l.length cap ∧ Lib.Bytes w g 0 ⟨l.toArray⟩:=by
 rcases h.2 with ⟨_,h0⟩ | ⟨g,cap,cur,hv,_,hg,hn,_,hsz,ht⟩
 ·omega
 ·refine ⟨g,cap,hv,fun i hi => ?_⟩
  have hi2 : i < l.length:=by simpa [ByteArray.size] using hi
  rw [Nat.zero_add,blk_cell hg i]
  have h1 : (Lib.byteCells l)[i]? = some (.int .u8 (l[i].toNat)):=by simp [Lib.byteCells,List.getElem?_eq_getElem hi2]
  rw [← ht,List.getElem?_take,if_pos (by omega)] at h1
  rw [Array.getElem?_toList] at h1
  rw [h1]
  rfl
set_option maxHeartbeats 2000000 in
set_option maxRecDepth 100000 in
theorem implDiff_ne (w : World) (a b s t : ByteArray) (k : Nat) (x y : List ByteArray) (hs : s.size ≤ 1048576) (ht : t.size ≤ 1048576)
  (hne : (Lib.bytesOf (bytesOf s) == Lib.bytesOf (bytesOf t)) = false) (hx : diff_lines.f k (bytesOf s) = some x) (hy : diff_lines.f k (bytesOf t) = some y) (lx : x.length ≤ 1048576) (ly : y.length ≤ 1048576) (sx : ∀ s ∈ x,s.size ≤ 1048576) (sy : ∀ s ∈ y,s.size ≤ 1048576)
  (sa : a.size ≤ 1048576) (sb : b.size ≤ 1048576) (hT : powTab w) :
  Calls Tryz.prog 20 #[.string a,.string s,.string b,.string t] w fun e w' => ∃ (d : ByteArray) (hs : List Dp.Hk),e = .returned (.string d) ∧ Dp.Leads x y hs ∧ ((diffText a b hs).length ≤ 4194321 + (x.length + y.length) * 2097152 ∧ (hs.length ≤ 1 ∨ 3 ≤ x.length)) ∧ d.data.toList = diffText a b hs ∧ Below w.heap.size w w':=by
 have ks:=fun W => print_bytes (P:=Tryz.prog) 9 59 5 Tryz.underlying9 Tryz.underlying59 Tryz.underlying5 s W
 have kt:=fun W => print_bytes (P:=Tryz.prog) 9 59 5 Tryz.underlying9 Tryz.underlying59 Tryz.underlying5 t W
 have HX:=Aside0.mk hx
 have HY:=Aside0.mk hy
 have SX:=Aside0.mk sx
 have SY:=Aside0.mk sy
 have HT:=Aside0.mk hT
 have HN:=Aside0.mk hne
 clear hx hy sx sy hT hne
 go_enter Tryz.func20,Tryz.ntmps20
 go_wp2_with fail
 have c1:=conv_reads w s (by omega)
 have c2:=conv_reads (Lib.bytesWorld w 5 s) t (by omega)
 have b1 : Below w.heap.size w (Lib.bytesWorld w 5 s):=bytes_below (Below.refl _ _) (Nat.le_refl _) _ _
 have b2 : Below (Lib.bytesWorld w 5 s).heap.size (Lib.bytesWorld w 5 s) (Lib.bytesWorld (Lib.bytesWorld w 5 s) 5 t):=bytes_below (Below.refl _ _) (Nat.le_refl _) _ _
 have B:=b1.trans (b2.mono b1.size)
 have H:=Diff_calls (Lib.bytesWorld (Lib.bytesWorld w 5 s) 5 t) a b _ _ (grownCap w s.size 0 5) (grownCap (Lib.bytesWorld w 5 s) t.size 0 5) k _ _ x y (Kd.C_below c1 b2) c2 (by rw [bytesOf_length]; exact grownCap_ge _ _ _ _) (by rw [bytesOf_length]; exact grownCap_ge _ _ _ _) HN.out HX.out HY.out lx ly SX.out SY.out sa sb (fun w' hb => HT.out w' (B.trans (hb.mono B.size)))
 rw [bytesOf_length,bytesOf_length] at H
 refine H.mono ?_
 rintro e w1 ⟨v,hs,Bq,rfl,hB,hl,hlen,hown,hb⟩
 have hp : 0 < (diffText a b hs).length:=by
  unfold diffText
  rw [List.length_append,hdr_len]
  omega
 obtain ⟨g,cap,rfl,hby⟩:=own_text hown hp
 have hc:=Lib.run_convert_window (P:=Tryz.prog) w1 59 5 9 Tryz.underlying59 Tryz.underlying5 Tryz.underlying9 g 0 ⟨(diffText a b hs).toArray⟩ hby 0 (diffText a b hs).length cap (by simp [ByteArray.size])
 rw [Nat.add_zero] at hc
 have HL:=Aside0.mk hl
 have HN2:=Aside0.mk hlen
 have HBB:=Aside0.mk (B.trans (hb.mono B.size))
 clear H hl hlen hown hb hby hp c1 c2 b1 b2 B
 go_wp2_with fail
 go_ret
 refine ⟨_,hs,rfl,HL.out,HN2.out,?_,HBB.out⟩
 simp [ByteArray.data_extract]
end Go.Proofs.YtplbifmjnanceaaGreatDoor
end
section
namespace Go.Proofs.YtplbifmjnanceaaGreatDoor
open Go.RowKit Go.Proofs.YtplbifmjnanceaaGreatDoorW.PrintWords Go.Proofs.YtplbifmjnanceaaGreatDoorW.PrintLast Go.Proofs.YtplbifmjnanceaaGreatDoorW.PrintMore
set_option linter.unusedVariables false
set_option linter.unusedSimpArgs false
theorem bytes_ne {s t : ByteArray} (h : s ≠ t) : (Lib.bytesOf (bytesOf s) == Lib.bytesOf (bytesOf t)) = false:=by
 apply beq_eq_false_iff_ne.mpr
 intro e
 have e1:=bytesOf_ni s.data.toList
 have e2:=bytesOf_ni t.data.toList
 have e3 : Lib.bytesOf (bytesOf s) = s.data.toList:=e1
 have e4 : Lib.bytesOf (bytesOf t) = t.data.toList:=e2
 rw [e3,e4] at e
 exact h (ByteArray.ext (Array.toList_inj.1 e))
def PairOk (a b s t d : ByteArray) (hs : List Dp.Hk) : Prop :=
 d.size ≤ 1099511627776 ∧ d.data.toList = diffText a b hs ∧ (∀ h ∈ hs,HkSm h) ∧ hs ≠ [] ∧ (hs.length ≤ 1 ∨ 3 ≤ ((lns [] s.data.toList).map mkB).length)
theorem diff_pair (w : World) (a b s t : ByteArray) (ha : a.size ≤ 1000) (hb : b.size ≤ 1000) (hs : s.size ≤ 1000) (ht : t.size ≤ 1000) (hne : s ≠ t) (hT : powTab w) :
  Calls Tryz.prog 20 #[.string a,.string s,.string b,.string t] w fun e w' => ∃ (d : ByteArray) (hs : List Dp.Hk),e = .returned (.string d) ∧ PairOk a b s t d hs ∧ Below w.heap.size w w':=by
 obtain ⟨lx,sx⟩:=lns_bounds s hs
 obtain ⟨ly,sy⟩:=lns_bounds t ht
 have k1:=lines_f s (by omega) 2000 (by omega)
 have k2:=lines_f t (by omega) 2000 (by omega)
 refine (implDiff_ne w a b s t 2000 _ _ (by omega) (by omega) (bytes_ne hne) k1 k2 (by omega) (by omega) sx sy (by omega) (by omega) hT).mono ?_
 rintro e w' ⟨d,hks,rfl,hL,⟨hlen,hfew⟩,hd,hB⟩
 have p1:=pair_law s t hs ht hks hL
 refine ⟨d,hks,rfl,⟨?_,hd,p1,hL.some (lns_ne s t hne),hfew⟩,hB⟩
 have : d.size = d.data.toList.length:=rfl
 rw [this,hd]
 omega
def awF : Fl:=([120],[121,10])
theorem awF_ok : FlOk awF:=⟨⟨by decide,by decide,by decide,by decide,by decide⟩,by decide,Or.inr (by decide)⟩
theorem aw_text : nl [99,10] ++ ftxt ([awF].map nlF) = [99,10] ++ ftxt [awF]:=by
 have e : nlF awF = awF:=by
  unfold nlF
  rw [nl_of awF_ok.nl]
 rw [nl_of (Or.inr (by decide)),List.map_cons,List.map_nil,e]
set_option maxHeartbeats 2000000 in
set_option maxRecDepth 100000 in
theorem textsAwake_calls (w : World) (hT : spTab w) (hP : powTab w) :
  Calls Tryz.prog 6 #[] w fun e w' => e = .returned (.bool true) ∧ Below w.heap.size w w':=by
 have hb1:=below_alloc (Below.refl w.heap.size w) (.cells #[Value.string ⟨#[120]⟩,Value.string ⟨#[121,10]⟩] 36)
 have hC : Kd.C kA (w.alloc (.cells #[Value.string ⟨#[120]⟩,Value.string ⟨#[121,10]⟩] 36)) (some ⟨w.heap.size,0,none⟩) 1 [(mkB [120],mkB [121,10])]:=by
  refine ⟨rfl,by decide,fun _ => ⟨_,rfl,fun j p hj => ?_⟩⟩
  obtain rfl : j = 0:=by
   rcases Nat.eq_zero_or_pos j with e | e
   ·exact e
   ·rw [List.getElem?_eq_none (by simp; omega)] at hj; cases hj
  injection hj with hj
  subst hj
  refine ⟨[.string (mkB [120]),.string (mkB [121,10])],rfl,⟨[.string (mkB [120])],[.string (mkB [121,10])],rfl,rfl,rfl⟩,fun i u hu => ?_⟩
  rw [add_plain,Nat.zero_mul,Nat.zero_add,World.cell?_alloc_mark]
  rw [← hu]
  exact (Array.getElem?_toList).symm
 have hF:=ArcFormat_calls (w.alloc (.cells #[Value.string ⟨#[120]⟩,Value.string ⟨#[121,10]⟩] 36)) [99,10] [awF] (some ⟨w.heap.size,0,none⟩) 1 hC (by decide)
 rw [aw_text] at hF
 obtain ⟨s,hs⟩ : ∃ s,s = mkB ([99,10] ++ ftxt [awF]):=⟨_,rfl⟩
 rw [← hs] at hF
 have hPr:=fun w1 (hw1 : Below w.heap.size w w1) => ArcParse_calls w1 s [99,10] [awF] (by rw [hs,mkB_list]) (by rw [hs,mkB_size]; decide) (by decide) (Or.inr (by decide)) (by intro f hf; simp only [List.mem_singleton] at hf; subst hf; exact awF_ok) (hT.on hw1)
 have hD:=fun w1 (hw1 : Below w.heap.size w w1) => diff_pair w1 ⟨#[97]⟩ ⟨#[98]⟩ ⟨#[120,10]⟩ ⟨#[121,10]⟩ (by decide) (by decide) (by decide) (by decide) (by decide) (fun w' hb => hP w' (hw1.trans (hb.mono hw1.size)))
 have HF:=Aside0.mk hF
 have HPr:=Aside0.mk hPr
 have HD:=Aside0.mk hD
 have HB1:=Aside0.mk hb1
 clear hb1 hC hF hPr hD hs
 go_enter Tryz.func6,Tryz.ntmps6
 go_wp2_with fail
 refine HF.out.mono ?_
 rintro e w2 ⟨rfl,hb2⟩
 have HB2:=Aside0.mk (HB1.out.trans (hb2.mono HB1.out.size))
 clear hb2 HB1 HF
 go_wp2_with fail
 refine (HPr.out w2 HB2.out).mono ?_
 rintro e w3 ⟨v3,rfl,hR3,hb3⟩
 obtain ⟨A3,c3,e3,hc3,hC3⟩:=Kd.R_reads hR3
 subst e3
 have HB3:=Aside0.mk (HB2.out.trans (hb3.mono HB2.out.size))
 have HC3:=Aside0.mk hC3
 clear hR3 hb3 hC3 HPr HB2
 go_wp2_with fail
 refine (HD.out w3 HB3.out).mono ?_
 rintro e w4 ⟨d,hks,rfl,⟨d1,d2,d3,d4,d5⟩,hb4⟩
 have HB4:=Aside0.mk (HB3.out.trans (hb4.mono HB3.out.size))
 have HC4:=Aside0.mk (Kd.C_below HC3.out hb4)
 have HDf:=Aside0.mk (Diffed_calls w4 ⟨#[97]⟩ ⟨#[98]⟩ d hks (by decide) (by decide) d2 d1 d3 d4)
 have hl1 : (hks.map pz).length = 1:=by
  rw [List.length_map]
  have h1 : 0 < hks.length:=List.length_pos_iff.2 d4
  have h2 : ((lns [] (⟨#[120,10]⟩ : ByteArray).data.toList).map mkB).length = 1:=by decide
  rw [h2] at d5
  omega
 clear d1 d2 d3 d4 d5 hb4 HD HB3 HC3
 go_wp2_with fail
 refine HDf.out.mono ?_
 rintro e w5 ⟨v5,rfl,hR5,hb5⟩
 obtain ⟨A5,c5,e5,hc5,hC5⟩:=Kd.R_reads hR5
 rw [hl1] at e5
 subst e5
 have HB5:=Aside0.mk (HB4.out.trans (hb5.mono HB4.out.size))
 obtain ⟨ad,hA,b0,b1⟩:=kA_at (Kd.C_below HC4.out hb5) (i:=0) (a:=mkB [120]) (b:=mkB [121,10]) rfl
 subst hA
 have b2 : w5.cell? ⟨ad.block,ad.off + 1,none⟩ = some (.string (mkB [121,10])):=by simpa [Addr.add] using b1
 have e1 : ((mkB [99,10]).toList == [99,10]) = true:=by rw [mkB_toList2]; decide
 have e2 : ((mkB [121,10]).toList == [121,10]) = true:=by rw [mkB_toList2]; decide
 clear b0 b1
 clear hR5 hb5 hC5 hc5 hl1 HDf HB4 HC4
 go_wp2_with fail
 go_ret
 exact ⟨rfl,HB5.out⟩
end Go.Proofs.YtplbifmjnanceaaGreatDoor
end
section
namespace Go.Proofs.YtplbifmjnanceaaGreatDoor.PFnArchive
open Go.RowKit Go.Proofs.YtplbifmjnanceaaGreatDoorW.PrintWords Go.Proofs.YtplbifmjnanceaaGreatDoorW.PrintLast Go.Proofs.YtplbifmjnanceaaGreatDoorW.PrintMore
attribute [local go_sem] max2_int min2_int max_two min_two max_three min_three max_four min_four
set_option linter.unusedVariables false
set_option linter.unusedSimpArgs false
def spec_arcEnded.f (a0 : ByteArray) : Option (ByteArray):=if a0.toList = ([] : List UInt8) then (some a0) else (if 0 ≤ (wrap64 ((a0.size : Int) - 1)) then (if (wrap64 ((a0.size : Int) - 1)) < (a0.size : Int) then (if (bt a0 (wrap64 ((a0.size : Int) - 1))) = 10 then (some a0) else (if a0.size + 1 ≤ 9223372036854775807 then (some (a0 ++ (⟨#[10]⟩ : ByteArray))) else (none))) else (none)) else (none))
set_option maxHeartbeats 8000000 in
set_option maxRecDepth 100000 in
theorem spec_arcEnded.calls (a0 : ByteArray) (r : ByteArray) (w : World) (h : spec_arcEnded.f a0 = some r) :
  Calls Tryz.prog 23 #[.string a0] w fun e w' => e = .returned (.string r) ∧ Drawn0 w w':=by
 have H : (if a0.toList = ([] : List UInt8) then (some a0) else (if 0 ≤ (wrap64 ((a0.size : Int) - 1)) then (if (wrap64 ((a0.size : Int) - 1)) < (a0.size : Int) then (if (bt a0 (wrap64 ((a0.size : Int) - 1))) = 10 then (some a0) else (if a0.size + 1 ≤ 9223372036854775807 then (some (a0 ++ (⟨#[10]⟩ : ByteArray))) else (none))) else (none)) else (none))) = some r:=h
 clear h
 by_cases c2 : a0.toList = ([] : List UInt8)
 ·rw [if_pos c2] at H
  have c2b0 : (a0.toList == ([] : List UInt8)) = true:=beq_iff_eq.mpr c2
  have c2b1 : (a0.toList != ([] : List UInt8)) = false:=bne_eq_false_iff_eq.mpr c2
  clear c2
  obtain rfl:=Option.some.inj H
  go_enter Tryz.func23,Tryz.ntmps23
  go_wp2
  go_ret
  exact ⟨by first | rfl | (simp; done) | (simp [*]; done),by repeat (first | exact Drawn0.refl _ | apply Drawn0.step)⟩
 ·rw [if_neg c2] at H
  have c2b0 : (a0.toList == ([] : List UInt8)) = false:=beq_eq_false_iff_ne.mpr c2
  have c2b1 : (a0.toList != ([] : List UInt8)) = true:=bne_iff_ne.mpr c2
  obtain ⟨ji3,hji3⟩ : ∃ j_ : Int,(wrap64 ((a0.size : Int) - 1)) = j_:=⟨_,rfl⟩
  replace H : (if 0 ≤ (ji3) then (if (ji3) < (a0.size : Int) then (if (bt a0 (ji3)) = 10 then (some a0) else (if a0.size + 1 ≤ 9223372036854775807 then (some (a0 ++ (⟨#[10]⟩ : ByteArray))) else (none))) else (none)) else (none)) = some r:=by first | (rw [hji3] at H; exact H) | (simp only [hji3] at H ⊢; exact H)
  have hji3w : (IntKind.i64.wrap ((a0.size : Int) - 1)) = ji3:=(i64_w _).trans hji3
  by_cases c4 : 0 ≤ (ji3)
  ·rw [if_pos c4] at H
   have c4b0 : decide (0 ≤ (ji3)) = true:=decide_eq_true c4
   clear c4
   by_cases c5 : (ji3) < (a0.size : Int)
   ·rw [if_pos c5] at H
    have c5b0 : decide ((ji3) < (a0.size : Int)) = true:=decide_eq_true c5
    clear c5
    by_cases c7 : (bt a0 (ji3)) = 10
    ·rw [if_pos c7] at H
     have c7b0 : ((bt a0 (ji3)) == 10) = true:=beq_iff_eq.mpr c7
     have c7b1 : ((bt a0 (ji3)) != 10) = false:=bne_eq_false_iff_eq.mpr c7
     clear c7
     obtain rfl:=Option.some.inj H
     have p6 : 0 ≤ ((ji3) : Int):=of_decide_eq_true (by first | (with_reducible assumption) | assumption)
     have q6 : (ji3) < (a0.size : Int):=of_decide_eq_true (by first | (with_reducible assumption) | assumption)
     have hx6:=bt_at a0 (ji3)
     replace p6:=eq_true p6
     replace q6:=eq_true q6
     go_enter Tryz.func23,Tryz.ntmps23
     go_wp2
     go_ret
     exact ⟨by first | rfl | (simp; done) | (simp only [← hji3] <;> (first | rfl | simp)) | (simp [*]; done),by repeat (first | exact Drawn0.refl _ | apply Drawn0.step)⟩
    ·rw [if_neg c7] at H
     have c7b0 : ((bt a0 (ji3)) == 10) = false:=beq_eq_false_iff_ne.mpr c7
     have c7b1 : ((bt a0 (ji3)) != 10) = true:=bne_iff_ne.mpr c7
     by_cases c8 : a0.size + 1 ≤ 9223372036854775807
     ·rw [if_pos c8] at H
      have c8b0:=eq_true c8
      have c8b1 : decide (a0.size + 1 ≤ 9223372036854775807) = true:=decide_eq_true c8
      try have c8b2 : (9223372036854775807 < a0.size + 1) = False:=eq_false (Nat.not_lt.2 c8)
      obtain rfl:=Option.some.inj H
      have p6 : 0 ≤ ((ji3) : Int):=of_decide_eq_true (by first | (with_reducible assumption) | assumption)
      have q6 : (ji3) < (a0.size : Int):=of_decide_eq_true (by first | (with_reducible assumption) | assumption)
      have hx6:=bt_at a0 (ji3)
      replace p6:=eq_true p6
      replace q6:=eq_true q6
      go_enter Tryz.func23,Tryz.ntmps23
      go_wp2
      go_ret
      exact ⟨by first | rfl | (simp; done) | (simp only [← hji3] <;> (first | rfl | simp)) | (simp [*]; done),by repeat (first | exact Drawn0.refl _ | apply Drawn0.step)⟩
     ·rw [if_neg c8] at H
      exact absurd H (by simp)
   ·rw [if_neg c5] at H
    exact absurd H (by simp)
  ·rw [if_neg c4] at H
   exact absurd H (by simp)
def spec_Ended.f (a0 : ByteArray) : Option (ByteArray):=(spec_arcEnded.f a0).bind fun t254 => (some t254)
set_option maxHeartbeats 8000000 in
set_option maxRecDepth 100000 in
theorem spec_Ended.calls (a0 : ByteArray) (r : ByteArray) (w : World) (h : spec_Ended.f a0 = some r) :
  Calls Tryz.prog 8 #[.string a0] w fun e w' => e = .returned (.string r) ∧ Drawn0 w w':=by
 have H : ((spec_arcEnded.f a0).bind fun t254 => (some t254)) = some r:=h
 clear h
 replace H:=Option.bind_eq_some_iff.mp H
 obtain ⟨t254,A20,H⟩:=H
 replace H : (some t254) = some r:=H
 have A2:=Aside0.mk A20
 clear A20
 obtain rfl:=Option.some.inj H
 go_enter Tryz.func8,Tryz.ntmps8
 go_wp2_with (first | ((with_reducible refine gate_callee (f:=23) rfl ?_); refine goesL_ (some 4) rfl rfl Tryz.func23 (by kernel_rfl) rfl #[.string a0] rfl (by (try simp only [List.map_toArray,List.map_cons,List.map_nil]); first | done | rfl | (simp only [List.length_drop,List.length_take]; rfl)) ?_; (with_reducible refine (spec_arcEnded.calls a0 t254 _ A2.out).mono ?_); rintro e w' ⟨rfl,⟨nd,rfl⟩⟩; refine ⟨_,rfl,?_⟩))
 go_ret
 exact ⟨by first | rfl | (simp; done) | (simp [*]; done),by repeat (first | exact Drawn0.refl _ | apply Drawn0.step)⟩
end Go.Proofs.YtplbifmjnanceaaGreatDoor.PFnArchive
end
section
namespace Go.Proofs.YtplbifmjnanceaaGreatDoor
open Go.RowKit Go.Proofs.YtplbifmjnanceaaGreatDoorW.PrintWords Go.Proofs.YtplbifmjnanceaaGreatDoorW.PrintLast Go.Proofs.YtplbifmjnanceaaGreatDoorW.PrintMore
open Go.Proofs.YtplbifmjnanceaaGreatDoor.PFnArchive
set_option linter.unusedVariables false
set_option linter.unusedSimpArgs false
def flOf (x : S35) : Fl:=(x.f0.data.toList,x.f1.data.toList)
def wantF (x : S35) : S35:=⟨x.f0,mkB (nl x.f1.data.toList)⟩
theorem dropWhile_no {p : UInt8 → Bool} (l : Bs) (h : ∀ b ∈ l,p b = false) : l.dropWhile p = l:=by
 cases l with
 | nil => rfl
 | cons a t => rw [List.dropWhile_cons,h a List.mem_cons_self]; rfl
theorem trim_no (l : Bs) (h : ∀ b ∈ l,Lib.isSp b = false) : Lib.trimSpace l = l:=by
 unfold Lib.trimSpace
 rw [dropWhile_no l h,dropWhile_no l.reverse (fun b hb => h b (List.mem_reverse.1 hb)),List.reverse_reverse]
theorem nl_mem {l : Bs} {b : UInt8} (h : b ∈ nl l) : b ∈ l ∨ b = 10:=by
 unfold nl at h
 split at h
 ·exact Or.inl h
 ·rcases List.mem_append.1 h with h | h
  ·exact Or.inl h
  ·exact Or.inr (List.mem_singleton.1 h)
theorem fl_ok {nm pat dt wd : ByteArray → Bool} (V : Tests nm pat dt wd) (x : S35) (h : fileOk nm dt x) : FlOk (nlF (flOf x)):=by
 have hn:=V.nmB x.f0 h.1
 have hg:=name_good hn
 have hd:=(V.dtB x.f1 h.2).2
 have hb : ∀ b ∈ x.f0.data.toList,46 ≤ b.toNat ∧ b.toNat ≤ 122:=by
  intro b hb
  rcases hn.2.1 b hb with e | e
  ·subst e; decide
  ·unfold okN at e
   rcases e with e | e | e | ⟨e,_⟩
   ·omega
   ·omega
   ·omega
   ·cases e
 refine ⟨⟨hn.1,fun hb => (hg.1 10 hb).2.1 rfl,fun b h => by have:=hb b h; omega,trim_no _ (fun b h => ?_),by have:=hn.2.2; show x.f0.data.toList.length ≤ _; omega⟩,fun h => ?_,nl_NL _⟩
 ·have h2:=hb b h
  cases hs : Lib.isSp b with
  | false => rfl
  | true =>
   exfalso
   unfold Lib.isSp at hs
   simp only [Bool.or_eq_true,beq_iff_eq] at hs
   rcases hs with ((((e | e) | e) | e) | e) | e <;> (subst e; revert h2; decide)
 ·rcases nl_mem h with h | h
  ·exact hd h
  ·cases h
theorem rlines_le (L : List S31) (h : ∀ x ∈ L,(rline x).length ≤ 109951162777) : (rlines L).length ≤ L.length * 109951162778:=by
 induction L with
 | nil => simp [rlines]
 | cons x t ih =>
  rw [rlines_cons,List.length_append,List.length_cons,List.length_cons,Nat.add_mul]
  have h1:=h x List.mem_cons_self
  have h2:=ih (fun y hy => h y (List.mem_cons_of_mem _ hy))
  omega
theorem rlines_no (L : List S31) (h : ∀ x ∈ L,(45 : UInt8) ∉ rline x) : (45 : UInt8) ∉ rlines L:=by
 intro hb
 unfold rlines at hb
 obtain ⟨x,hx,hb⟩:=List.mem_flatMap.1 hb
 rcases List.mem_append.1 hb with hb | hb
 ·exact h x hx hb
 ·cases List.mem_singleton.1 hb
theorem rlines_NL (L : List S31) : NL (rlines L):=by
 by_cases e : L = []
 ·subst e; exact Or.inl rfl
 ·refine Or.inr ?_
  rw [← List.dropLast_concat_getLast e]
  unfold rlines
  rw [List.flatMap_append,List.flatMap_singleton,← List.append_assoc,List.getLast?_concat]
theorem ftxt_le (F : List S35) (h : ∀ x ∈ F,x.f0.data.toList.length ≤ 26 ∧ x.f1.data.toList.length ≤ 200) : (ftxt (F.map flOf)).length ≤ F.length * 1000:=by
 induction F with
 | nil => simp [ftxt]
 | cons x t ih =>
  rw [List.map_cons,ftxt_cons,List.length_append,List.length_cons,List.length_append,List.length_cons,Nat.add_mul]
  have h1:=h x List.mem_cons_self
  have h2:=ih (fun y hy => h y (List.mem_cons_of_mem _ hy))
  have h3 : (mkLine (flOf x).1).length = mk1.length + (flOf x).1.length + mk2.length:=by unfold mkLine; rw [List.length_append,List.length_append]
  have h4 : mk1.length ≤ 10 ∧ mk2.length ≤ 10:=by decide
  have h5 : (flOf x).1.length ≤ 26:=h1.1
  have h6 : (flOf x).2.length ≤ 200:=h1.2
  omega
theorem ended_f (s : ByteArray) (hs : s.size ≤ 2147483647) : spec_Ended.f s = some (mkB (nl s.data.toList)):=by
 have hl : s.data.toList.length = s.size:=rfl
 have h1 : spec_arcEnded.f s = some (mkB (nl s.data.toList)):=by
  unfold spec_arcEnded.f
  by_cases c : s.toList = ([] : List UInt8)
  ·rw [if_pos c]
   have h:=(toList_nil s).1 c
   rw [nl_of (Or.inl h),mkB_data]
  ·rw [if_neg c]
   have hne : s.data.toList ≠ []:=fun e => c ((toList_nil s).2 e)
   have hpos : 0 < s.size:=List.length_pos_iff.2 hne
   have e2 : wrap64 ((s.size : Int) - 1) = ((s.size - 1 : Nat) : Int):=by unfold wrap64; omega
   have hq : s.size - 1 < s.data.toList.length:=by omega
   have hla : s.data.toList.getLast? = some s.data.toList[s.size - 1]:=by
    rw [List.getLast?_eq_getElem?,hl]
    exact List.getElem?_eq_getElem hq
   rw [e2,if_pos (by omega),if_pos (by omega),bt_list s (s.size - 1) hq]
   by_cases c2 : s.data.toList[s.size - 1] = 10
   ·rw [if_pos (by rw [c2]; rfl),nl_of (Or.inr (by rw [hla,c2])),mkB_data]
   ·rw [if_neg (by
     intro e
     apply c2
     apply UInt8.toNat_inj.1
     show s.data.toList[s.size - 1].toNat = 10
     omega),if_pos (by omega),nl_not (by
     intro h
     rcases h with h | h
     ·exact hne h
     ·rw [hla] at h
      injection h with h
      exact c2 h)]
    refine congrArg some ?_
    rw [← mkB_append,mkB_data]
    rfl
 unfold spec_Ended.f
 rw [h1]
 rfl
end Go.Proofs.YtplbifmjnanceaaGreatDoor
end
