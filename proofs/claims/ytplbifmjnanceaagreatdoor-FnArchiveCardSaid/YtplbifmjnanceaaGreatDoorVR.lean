/- txtar: Format and ArcFormat. -/
import Derived.Test.YtplbifmjnanceaaGreatDoorVP
import Derived.Test.YtplbifmjnanceaaGreatDoorVQ
section
namespace Go.Proofs.YtplbifmjnanceaaGreatDoor
open Go.RowKit Go.Proofs.YtplbifmjnanceaaGreatDoorW.PrintWords Go.Proofs.YtplbifmjnanceaaGreatDoorW.PrintLast Go.Proofs.YtplbifmjnanceaaGreatDoorW.PrintMore
set_option linter.unusedVariables false
set_option linter.unusedSimpArgs false
theorem infoB1 : (Tryz.prog.info? 5).map (·.size) = some 1:=by kernel_rfl
set_option maxHeartbeats 1000000 in
set_option maxRecDepth 100000 in
theorem fixNL_add (w : World) (A : Option Addr) (l : List UInt8) (c : Nat) (h : Bq w A l) (hc : l.length ≤ c) (hb : l.length ≤ 1099511627776) (hn : ¬ NL l) : Calls Tryz.prog 66 #[.slice A l.length c] w fun e w' => ∃ A' c',e = .returned (.slice A' (l.length + 1) c') ∧ l.length + 1 ≤ c' ∧ Bq w' A' (l ++ [10]) ∧ Below w.heap.size w w':=by
 obtain ⟨n,hnl⟩ : ∃ n,n = l.length:=⟨_,rfl⟩
 have hne : l ≠ []:=fun e => hn (Or.inl e)
 have hp : 0 < n:=by rw [hnl]; exact List.length_pos_iff.2 hne
 obtain ⟨b,hbl⟩ : ∃ b,l[n - 1]? = some b:=⟨l[n - 1]'(by omega),List.getElem?_eq_getElem (by omega)⟩
 have hb10 : b ≠ 10:=by
  intro e
  apply hn
  right
  rw [List.getLast?_eq_getElem?,← hnl,hbl,e]
 have hcell:=h.cell _ _ hbl
 obtain ⟨ad,hA,hcell⟩:=hcell
 subst hA
 have h' : Kd.C (Kd.int .u8) w (some ad) n (ni l):=by rw [hnl]; exact h
 rw [← hnl] at hc hb ⊢
 have H:=Aside0.mk h'
 have HN:=Aside0.mk hnl
 have u1 : ((n : Int) == 0) = false:=beq_eq_false_iff_ne.mpr (by omega)
 have u5 : IntKind.i64.wrap ((n : Int) - 1) = ((n - 1 : Nat) : Int):=by rw [IntKind.wrap_i64]; omega
 have u6 : ((n - 1 : Nat) : Int) < (n : Int):=by omega
 have u7 : n - 1 < n:=by omega
 have u8 : ((b.toNat : Int) == 10) = false:=beq_eq_false_iff_ne.mpr (by
  intro e
  apply hb10
  apply UInt8.toNat_inj.1
  show b.toNat = 10
  omega)
 have u9 : IntKind.i64.wrap ((n : Int) + 1) = (n : Int) + 1:=by rw [IntKind.wrap_i64]; omega
 have hrl : (List.replicate ((n : Int) + 1).toNat (0 : Int)).length = n + 1:=by rw [List.length_replicate]; omega
 have hnil : (ni l).length = n:=by rw [ni_len,hnl]
 have hcp : (ni l).take (min n (List.replicate ((n : Int) + 1).toNat (0 : Int)).length) ++ (List.replicate ((n : Int) + 1).toNat (0 : Int)).drop (min n (List.replicate ((n : Int) + 1).toNat (0 : Int)).length) = ni l ++ [0]:=by
  rw [hrl,show min n (n + 1) = n by omega,List.take_of_length_le (by omega),show ((n : Int) + 1).toNat = n + 1 by omega,List.drop_replicate,show n + 1 - n = 1 by omega]
  rfl
 have hLL : (ni l ++ [(0 : Int)]).length = n + 1:=by rw [List.length_append,hnil]; rfl
 have hset : (ni l ++ [(0 : Int)]).set n 10 = ni (l ++ [10]):=by
  rw [List.set_append_right _ _ (by omega),hnil,Nat.sub_self]
  simp [ni]
 have HSet:=Aside0.mk hset
 have HLL:=Aside0.mk hLL
 have w1n : (n : Int) < (n : Int) + 1:=by omega
 have w2n : n < n + 1:=by omega
 clear h h' hnl hbl hb10 hn hne hset hnil
 generalize n - 1 = z at *
 go_enter Tryz.func66,Tryz.ntmps66
 go_wp2_with (first
  | (at_make; refine Kd.R_make (Kd.int .u8) (w0:=w) w.heap.size 5 rfl rfl 59 (.tmp 19) (.tmp 19) rfl ((n : Int) + 1) rfl rfl Tryz.underlying59 (.int .u8 0) 1 infoB rfl (by decide) (by decide) 0 (ok:=fun _ => True) (okp:=fun _ => False) rfl (fun _ h => h.elim) trivial (by omega) (by omega) (Below.refl _ _) (Nat.le_refl _) ?_; intro v1 w1 ho1 hb1 hg1 hat1; obtain ⟨g,cap,e1,hgw,_,_⟩:=Kd.R_form ho1 (by rw [hrl]; omega); rw [hrl] at e1; subst e1; have HO1:=Aside0.mk ho1; have HB1:=Aside0.mk hb1; have hw1:=hb1.size; clear ho1 hb1 hg1 hat1)
  | ((with_reducible refine gate_builtin (b:=.copy) (xs:=#[.tmp 21,.tmp 22]) rfl ?_); refine Kd.R_copy (0 : Int) (w0:=w) w.heap.size rfl (.tmp 21) (.tmp 22) 59 59 5 rfl Tryz.underlying59 infoB1 (.slice (some ⟨g,0,none⟩) (n + 1) cap) (List.replicate ((n : Int) + 1).toNat 0) (ni l) (some ad) n c (fun _ => True) rfl rfl HO1.out (Kd.C_below H.out HB1.out) HB1.out hw1 ?_; intro w2 ho2 hb2 hg2; rw [hcp] at ho2; rw [← hLL] at ho2; obtain ⟨q1,q2⟩:=Kd.R_cell (0 : Int) ho2 (n : Int) (by omega) (by rw [hLL]; omega); simp only [Int.toNat_natCast] at q1 q2; have HO2:=Aside0.mk ho2; have HB2:=Aside0.mk hb2; clear ho2 hb2 hg2))
 have hlen2 : (l ++ [10]).length = n + 1:=by rw [List.length_append,← HN.out]; rfl
 have p1:=(Kd.R_put HO2.out (n : Int) (10 : Int)).1
 simp only [Int.toNat_natCast] at p1
 rw [HSet.out,HLL.out] at p1
 obtain ⟨_,hcap,hC⟩:=Kd.R_reads' p1
 rw [ni_len] at hC
 go_ret
 exact ⟨_,cap,rfl,hcap,hC,below_put HB2.out g n (.int .u8 10) hgw⟩
def NLb (l : List UInt8) : Bool:=l.isEmpty || l.getLast? == some 10
def nl (l : List UInt8) : List UInt8:=if NLb l then l else l ++ [10]
theorem NLb_iff (l : List UInt8) : NLb l = true ↔ NL l:=by
 unfold NLb NL
 simp
theorem nl_of {l : List UInt8} (h : NL l) : nl l = l:=by
 unfold nl
 rw [if_pos ((NLb_iff l).2 h)]
theorem nl_not {l : List UInt8} (h : ¬ NL l) : nl l = l ++ [10]:=by
 unfold nl
 rw [if_neg (fun e => h ((NLb_iff l).1 e))]
theorem nl_NL (l : List UInt8) : NL (nl l):=by
 by_cases h : NL l
 ·rw [nl_of h]; exact h
 ·rw [nl_not h]; exact Or.inr List.getLast?_concat
theorem fixNL_any (w : World) (A : Option Addr) (l : List UInt8) (c : Nat) (h : Bq w A l) (hc : l.length ≤ c) (hb : l.length ≤ 1099511627776) : Calls Tryz.prog 66 #[.slice A l.length c] w fun e w' => ∃ A' c',e = .returned (.slice A' (nl l).length c') ∧ (nl l).length ≤ c' ∧ Bq w' A' (nl l) ∧ Below w.heap.size w w':=by
 by_cases hn : NL l
 ·rw [nl_of hn]
  refine (fixNL_same w A l c h hc (by omega) hn).mono ?_
  rintro e w' ⟨rfl,rfl⟩
  exact ⟨A,c,rfl,hc,h,Below.refl _ _⟩
 ·rw [nl_not hn]
  refine (fixNL_add w A l c h hc hb hn).mono ?_
  rintro e w' ⟨A',c',rfl,h1,h2,h3⟩
  rw [List.length_append]
  exact ⟨A',c',rfl,h1,h2,h3⟩
end Go.Proofs.YtplbifmjnanceaaGreatDoor
end
section
namespace Go.Proofs.YtplbifmjnanceaaGreatDoor
open Go.RowKit Go.Proofs.YtplbifmjnanceaaGreatDoorW.PrintWords Go.Proofs.YtplbifmjnanceaaGreatDoorW.PrintLast Go.Proofs.YtplbifmjnanceaaGreatDoorW.PrintMore
set_option linter.unusedVariables false
set_option linter.unusedSimpArgs false
theorem nl_len (l : List UInt8) : (nl l).length ≤ l.length + 1:=by
 unfold nl
 split <;> simp
def nlF (f : Fl) : Fl:=(f.1,nl f.2)
theorem ftxt_nl (l : List Fl) : (ftxt (l.map nlF)).length ≤ (ftxt l).length + l.length:=by
 induction l with
 | nil => simp [ftxt]
 | cons a t ih =>
  rw [List.map_cons,ftxt_cons,ftxt_cons]
  have:=nl_len a.2
  simp only [List.length_append,List.length_cons,nlF] at ih ⊢
  omega
theorem ftxt_take (l : List Fl) (i : Nat) : (ftxt (l.take i)).length ≤ (ftxt l).length:=by
 have : ftxt l = ftxt (l.take i) ++ ftxt (l.drop i):=by
  unfold ftxt
  rw [← List.flatMap_append,List.take_append_drop]
 rw [this,List.length_append]
 omega
theorem ftxt_snoc (l : List Fl) (f : Fl) : ftxt (l ++ [f]) = ftxt l ++ (mkLine f.1 ++ 10 :: f.2):=by
 simp [ftxt]
def Xt (cm : List UInt8) (fs : List Fl) (i : Nat) : List UInt8:=nl cm ++ ftxt ((fs.take i).map nlF)
theorem Xt_len (cm : List UInt8) (fs : List Fl) (i : Nat) (hb : (cm ++ ftxt fs).length ≤ 1099511627776) : (Xt cm fs i).length ≤ 4398046511104:=by
 unfold Xt
 rw [List.length_append] at hb ⊢
 have h1:=nl_len cm
 have h2:=ftxt_nl (fs.take i)
 have h3:=ftxt_take fs i
 have h4:=ftxt_ge (fs.take i)
 omega
theorem Xt_next (cm : List UInt8) (fs : List Fl) (i : Nat) (f : Fl) (hf : fs[i]? = some f) : Xt cm fs (i + 1) = Xt cm fs i ++ (mkLine f.1 ++ [10]) ++ nl f.2:=by
 unfold Xt
 rw [List.take_add_one,hf]
 simp only [Option.toList_some,List.map_append,List.map_cons,List.map_nil]
 rw [ftxt_snoc]
 simp [nlF]
theorem Xt_all (cm : List UInt8) (fs : List Fl) : Xt cm fs fs.length = nl cm ++ ftxt (fs.map nlF):=by
 unfold Xt
 rw [List.take_length]
theorem ni_app (a b : List UInt8) : ni (a ++ b) = ni a ++ ni b:=by simp [ni]
theorem R_empty (w : World) (base g : Nat) (hg : base ≤ g) (hx : w.heap[g]? = some (.cells #[] 5 (0,0))) : Kd.R (Kd.int .u8) 5 w base (fun _ => True) (.slice (some ⟨g,0,none⟩) 0 0) [] :=
 Kd.R_of_own (xs:=[]) ⟨rfl,Or.inr ⟨g,0,#[],rfl,hg,hx,Nat.le_refl _,Nat.zero_le _,rfl,rfl⟩⟩ (fun _ _ => trivial)
theorem keepM (w w' : World) (base : Nat) (ok : Nat → Prop) : ∀ (x : Int) (cs : List Value),(Kd.int .u8).K w x cs → (Kd.int .u8).M w' base ok x cs:=fun _ _ h => h
set_option maxRecDepth 100000 in
theorem zlit35 (u : Nat → Value) : FrOf 35 u = [u 0,u 1,u 2,u 3,u 4,u 5,u 6,u 7,u 8,u 9,u 10,u 11,u 12,u 13,u 14,u 15,u 16,u 17,u 18,u 19,u 20,u 21,u 22,u 23,u 24,u 25,u 26,u 27,u 28,u 29,u 30,u 31,u 32,u 33,u 34]:=rfl
set_option maxHeartbeats 2000000 in
set_option maxRecDepth 100000 in
theorem zzFormat_calls (w : World) (g cc : Nat) (Ac : Option Addr) (cm : List UInt8) (rows : List (List Value)) (fs : List Fl) (AF : Option Addr) (cF : Nat)
  (hx : w.heap[g]? = some (.cells #[.slice Ac cm.length cc,.slice AF rows.length cF] 62 (0,0))) (hcc : cm.length ≤ cc) (hqc : Bq w Ac cm) (hC : Kd.C (Kd.raw 2) w AF rows.length rows) (hRo : RowsOf w rows fs) (hb : (cm ++ ftxt fs).length ≤ 1099511627776) :
  Calls Tryz.prog 47 #[.pointer (some ⟨g,0,none⟩)] w fun e w' => ∃ v,e = .returned v ∧ Kd.R (Kd.int .u8) 5 w' w.heap.size (fun _ => True) v (ni (nl cm ++ ftxt (fs.map nlF))) ∧ Below w.heap.size w w':=by
 have hxa:=blk_alloc hx (.cells #[] 5)
 have hxn:=blk_new w (.cells #[] 5)
 have c0:=(blk_cell hxa 0).trans rfl
 have hba:=below_alloc (Below.refl w.heap.size w) (.cells #[] 5)
 have hcl : cm.length ≤ 1099511627776:=by rw [List.length_append] at hb; omega
 have hXl:=fun i => Xt_len cm fs i hb
 have hfl : fs.length ≤ 1099511627776:=by
  have:=ftxt_ge fs
  rw [List.length_append] at hb
  omega
 have HXL:=Aside0.mk hXl
 have HX:=Aside0.mk hx
 have HC:=Aside0.mk hC
 have HRo:=Aside0.mk hRo
 have HF:=Aside0.mk (fixNL_any _ Ac cm cc (hqc.below hba) hcc hcl)
 have HXN:=Aside0.mk hxn
 have HBA:=Aside0.mk hba
 have Hb:=Aside0.mk hb
 clear hxa hx hC hRo hxn hba hqc hXl hb
 go_enter Tryz.func47,Tryz.ntmps47
 go_wp2_with fail
 refine HF.out.mono ?_
 rintro e w2 ⟨A2,c2,rfl,hc2,hq2,hb2⟩
 have HB2:=Aside0.mk (HBA.out.trans (hb2.mono HBA.out.size))
 have HR2:=Aside0.mk (R_empty w2 w.heap.size w.heap.size (Nat.le_refl _) (blk_below HXN.out hb2))
 have hbs2 : w.heap.size ≤ w2.heap.size:=HB2.out.size
 have hcn : (nl cm).length ≤ 1099511627777:=by have:=nl_len cm; have:=Hb.out; rw [List.length_append] at this; omega
 have HQ2:=Aside0.mk hq2
 clear hb2 hq2 HF HXN HBA c0
 have HQ3:=Aside0.mk HQ2.out
 unfold Bq at HQ3
 clear HQ2
 go_upto_block 0 with (first | (at_builtin; refine Kd.R_append_rows (Kd.int .u8) (Rr:=(Kd.int .u8).K w2) (w0:=w2) w.heap.size rfl (.tmp 6) (.tmp 11) 59 5 (.int .u8 0) 1 rfl Tryz.underlying59 infoB rfl (by decide) (by decide) (.slice (some ⟨w.heap.size,0,none⟩) 0 0) [] (ni (nl cm)) A2 (nl cm).length c2 (fun _ => True) (fun _ => False) rfl rfl HR2.out HQ3.out (keepM _ _ _ _) (fun _ hk => hk.elim) (fun _ _ => trivial) (Below.refl _ _) hbs2 (by simp; omega) ?_; intro v1 w3 ho1 hb1 hg1 hat1; have HO1:=Aside0.mk ho1; have HB1:=Aside0.mk hb1; have c1:=(blk_cell (blk_below HX.out (HB2.out.trans hb1)) 1).trans rfl; clear ho1 hb1 hg1 hat1))
 have HB3:=Aside0.mk (HB2.out.trans HB1.out)
 have hO:=HO1.out
 rw [List.nil_append] at hO
 have hX0 : Xt cm fs 0 = nl cm:=by simp [Xt,ftxt]
 rw [← hX0] at hO
 have HO:=Aside0.mk hO
 clear hO hX0 HO1 HB1 HB2 HR2 HQ3 c1
 refine cutU 35 (fun u wc => ∃ v : Value,u 3 = v ∧ Kd.R (Kd.int .u8) 5 wc w.heap.size (fun _ => True) v (ni (Xt cm fs fs.length)) ∧ Below w.heap.size w wc) ?rest ?first
 case rest =>
  rintro u W ⟨v,h3,hR,hB⟩
  rw [zlit35]
  simp only [h3]
  rw [Xt_all] at hR
  have HR:=Aside0.mk hR
  have HB:=Aside0.mk hB
  clear hR hB h3
  go_wp2
  go_ret
  exact ⟨v,rfl,HR.out,HB.out⟩
 case first =>
  intro J K hJ hK
  go_wp2
  refine loopG 35 (fun gh u wc => ∃ (i : Nat) (v : Value),gh = rows.length - i ∧ u 3 = v ∧ u 16 = .slice AF rows.length cF ∧ u 17 = .int .i64 rows.length ∧ u 18 = .int .i64 i ∧ i ≤ rows.length ∧ Kd.R (Kd.int .u8) 5 wc w.heap.size (fun _ => True) v (ni (Xt cm fs i)) ∧ Below w.heap.size w wc) rows.length rfl ?atStart ?round
  case atStart =>
   exact ⟨0,_,rfl,rfl,rfl,rfl,rfl,Nat.zero_le _,HO.out,HB3.out⟩
  case round =>
   rintro gh u W ⟨i,v,hg,h3,h16,h17,h18,hi,hR,hB⟩ J2 K2 hJ2 hK2
   rw [zlit35]
   simp only [h3,h16,h17,h18]
   clear h3 h16 h17 h18 HO HB3
   have HR:=Aside0.mk hR
   have HB:=Aside0.mk hB
   clear hR hB
   by_cases ci : i < rows.length
   ·
    have hlen:=HRo.out.1
    obtain ⟨f,hf⟩ : ∃ f,fs[i]? = some f:=⟨fs[i]'(by omega),List.getElem?_eq_getElem (by omega)⟩
    obtain ⟨r,hr⟩ : ∃ r,rows[i]? = some r:=⟨rows[i],List.getElem?_eq_getElem ci⟩
    obtain ⟨Af,cf,rfl,hcf,hqf⟩:=HRo.out.2 i f r hf hr
    obtain ⟨ad,hA,b0,b1⟩:=raw_at (Kd.C_below HC.out HB.out) hr
    subst hA
    have u1 : (i : Int) < (rows.length : Int):=by omega
    have u2 : IntKind.i64.wrap ((i : Int) + 1) = (i : Int) + 1:=by rw [IntKind.wrap_i64]; omega
    have hXn:=Xt_next cm fs i f hf
    have hX1:=HXL.out (i + 1)
    have hmid : (ni (Xt cm fs i)).length + (mkB (mkLine f.1 ++ [10])).size ≤ 140737488355328:=by
     rw [hXn] at hX1
     rw [ni_len,mkB_size]
     simp only [List.length_append] at hX1 ⊢
     omega
    have hend : ((ni (Xt cm fs i) ++ ni (mkLine f.1 ++ [10])).length + (nl f.2).length) * 1 ≤ 140737488355328:=by
     rw [hXn] at hX1
     rw [List.length_append,ni_len,ni_len]
     simp only [List.length_append] at hX1 ⊢
     omega
    have hnm : f.1.length ≤ 4398046511104:=by
     rw [hXn] at hX1
     simp only [List.length_append,mkLine] at hX1
     omega
    have hdl : f.2.length ≤ 1099511627776:=by
     have h1:=Hb.out
     have h2:=ftxt_len (fs.take i) (fs.drop (i + 1)) f
     have h3 : fs.take i ++ f :: fs.drop (i + 1) = fs:=by
      have hd : fs.drop i = f :: fs.drop (i + 1):=by
       rw [List.drop_eq_getElem_cons (get_lt hf)]
       congr 1
       have:=List.getElem?_eq_getElem (get_lt hf)
       rw [hf] at this
       exact (Option.some.inj this).symm
      rw [← hd,List.take_append_drop]
     rw [h3] at h2
     simp only [List.length_append] at h1 h2
     omega
    have k1 : ¬ 9223372036854775807 < 3 + (mkB f.1).size:=by rw [mkB_size]; omega
    have k2 : ¬ 9223372036854775807 < 3 + (mkB f.1).size + 4:=by rw [mkB_size]; omega
    have hcat : (⟨#[45,45,32]⟩ ++ mkB f.1 ++ ⟨#[32,45,45,10]⟩ : ByteArray) = mkB (mkLine f.1 ++ [10]):=by
     have e1 : (⟨#[45,45,32]⟩ : ByteArray) = mkB mk1:=rfl
     have e2 : (⟨#[32,45,45,10]⟩ : ByteArray) = mkB (mk2 ++ [10]):=rfl
     rw [e1,e2,mkB_append,mkB_append]
     simp [mkLine]
    have hba:=below_alloc (Below.refl W.heap.size W) (.cells #[Value.string (mkB f.1),Value.slice Af f.2.length cf] 64)
    have hfx:=blk_new W (.cells #[Value.string (mkB f.1),Value.slice Af f.2.length cf] 64)
    have hwa : w.heap.size ≤ (W.alloc (.cells #[Value.string (mkB f.1),Value.slice Af f.2.length cf] 64)).heap.size:=Nat.le_trans HB.out.size hba.size
    have HOa:=Aside0.mk (Kd.own_of_R (Kd.R_below HR.out hba))
    have HBa:=Aside0.mk (HB.out.trans (hba.mono HB.out.size))
    have HFX:=Aside0.mk hfx
    have HQF:=Aside0.mk hqf
    have HXn:=Aside0.mk hXn
    have HRa:=Aside0.mk (Kd.R_below HR.out hba)
    have Hmid:=Aside0.mk hmid
    have Hend:=Aside0.mk hend
    have Hcat:=Aside0.mk hcat
    clear hf hr hqf hba hlen hXn hX1 hmid hend hcat hfx
    obtain ⟨Wa,hWa⟩ : ∃ z,z = (W.alloc (.cells #[Value.string (mkB f.1),Value.slice Af f.2.length cf] 64)):=⟨_,rfl⟩
    go_wp2_with (first | (at_builtin; refine print_append_str (w0:=(W.alloc (.cells #[Value.string (mkB f.1),Value.slice Af f.2.length cf] 64))) w.heap.size rfl (.tmp 22) (.tmp 26) 59 9 5 rfl Tryz.underlying59 Tryz.underlying9 infoB v (ni (Xt cm fs i)) (⟨#[45,45,32]⟩ ++ mkB f.1 ++ ⟨#[32,45,45,10]⟩) rfl rfl HOa.out (Below.refl _ _) hwa (by rw [Hcat.out]; exact Hmid.out) ?_; intro v1 w6 ho1 hb1 hg1; have hfx6:=blk_grown HFX.out hg1 (Kd.R_ne HRa.out HFX.out (by decide)); have d1:=(blk_cell hfx6 1).trans rfl; have HO6:=Aside0.mk ho1; have HB6:=Aside0.mk (HBa.out.trans hb1); clear ho1 hb1 hg1 hfx6))
    have HR6:=Aside0.mk (Kd.R_of_own HO6.out (fun _ _ => trivial) : Kd.R (Kd.int .u8) 5 w6 w.heap.size (fun _ => True) v1 (ni (Xt cm fs i) ++ bytesOf (⟨#[45,45,32]⟩ ++ mkB f.1 ++ ⟨#[32,45,45,10]⟩)))
    refine (fixNL_any w6 Af f.2 cf (HQF.out.below HB6.out) hcf hdl).mono ?_
    rintro e w7 ⟨A7,c7,rfl,hc7,hq7,hb7⟩
    have hR7:=Kd.R_below HR6.out hb7
    rw [Hcat.out] at hR7
    have e7 : bytesOf (mkB (mkLine f.1 ++ [10])) = ni (mkLine f.1 ++ [10]):=by unfold bytesOf; rw [mkB_list]; rfl
    rw [e7] at hR7
    have HR7:=Aside0.mk hR7
    have HB7:=Aside0.mk (HB6.out.trans (hb7.mono HB6.out.size))
    have hbs7 : w.heap.size ≤ w7.heap.size:=HB7.out.size
    have HQ7:=Aside0.mk hq7
    unfold Bq at HQ7
    clear hb7 hq7 hR7 e7 d1
    go_wp2_with (first | (at_builtin; refine Kd.R_append_rows (Kd.int .u8) (Rr:=(Kd.int .u8).K w7) (w0:=w7) w.heap.size rfl (.tmp 28) (.tmp 31) 59 5 (.int .u8 0) 1 rfl Tryz.underlying59 infoB rfl (by decide) (by decide) v1 (ni (Xt cm fs i) ++ ni (mkLine f.1 ++ [10])) (ni (nl f.2)) A7 (nl f.2).length c7 (fun _ => True) (fun _ => False) rfl rfl HR7.out HQ7.out (keepM _ _ _ _) (fun _ hk => hk.elim) (fun _ _ => trivial) (Below.refl _ _) hbs7 Hend.out ?_; intro v2 w8 ho1 hb1 hg1 hat1; have HO8:=Aside0.mk ho1; have HB8:=Aside0.mk (HB7.out.trans hb1); clear ho1 hb1 hg1 hat1))
    have hO8:=HO8.out
    have e8 : ni (Xt cm fs i) ++ ni (mkLine f.1 ++ [10]) ++ ni (nl f.2) = ni (Xt cm fs (i + 1)):=by
     rw [HXn.out]; simp only [ni_app,List.append_assoc]
    rw [e8] at hO8
    exact Met.intro (hJ2 (rows.length - (i + 1)) _ _ rfl (by omega) ⟨i + 1,v2,rfl,rfl,rfl,rfl,rfl,ci,hO8,HB8.out⟩)
   ·
    obtain rfl : i = rows.length:=by omega
    have u1 : decide ((rows.length : Int) < (rows.length : Int)) = false:=by simp
    go_wp2
    have hR:=HR.out
    rw [HRo.out.1] at hR
    exact Met.intro (hJ _ _ rfl ⟨v,rfl,hR,HB.out⟩)
set_option maxRecDepth 100000 in
theorem Format_calls (w : World) (g cc : Nat) (Ac : Option Addr) (cm : List UInt8) (rows : List (List Value)) (fs : List Fl) (AF : Option Addr) (cF : Nat)
  (hx : w.heap[g]? = some (.cells #[.slice Ac cm.length cc,.slice AF rows.length cF] 62 (0,0))) (hcc : cm.length ≤ cc) (hqc : Bq w Ac cm) (hC : Kd.C (Kd.raw 2) w AF rows.length rows) (hRo : RowsOf w rows fs) (hb : (cm ++ ftxt fs).length ≤ 1099511627776) :
  Calls Tryz.prog 24 #[.pointer (some ⟨g,0,none⟩)] w fun e w' => ∃ v,e = .returned v ∧ Kd.R (Kd.int .u8) 5 w' w.heap.size (fun _ => True) v (ni (nl cm ++ ftxt (fs.map nlF))) ∧ Below w.heap.size w w':=by
 have H:=Aside0.mk (zzFormat_calls w g cc Ac cm rows fs AF cF hx hcc hqc hC hRo hb)
 clear hx hcc hqc hC hRo hb
 go_enter Tryz.func24,Tryz.ntmps24
 go_wp2_with fail
 refine H.out.mono ?_
 rintro e w2 ⟨v,rfl,hR,hB⟩
 have HR:=Aside0.mk hR
 have HB:=Aside0.mk hB
 clear hR hB H
 go_wp2_with fail
 go_ret
 exact ⟨v,rfl,HR.out,HB.out⟩
end Go.Proofs.YtplbifmjnanceaaGreatDoor
end
section
namespace Go.Proofs.YtplbifmjnanceaaGreatDoor
open Go.RowKit Go.Proofs.YtplbifmjnanceaaGreatDoorW.PrintWords Go.Proofs.YtplbifmjnanceaaGreatDoorW.PrintLast Go.Proofs.YtplbifmjnanceaaGreatDoorW.PrintMore
set_option linter.unusedVariables false
set_option linter.unusedSimpArgs false
theorem cell_keep {w w1 : World} {a : Addr} {v : Value} (h : w.cell? a = some v) (hb : Below w.heap.size w w1) : w1.cell? a = some v:=cell_later hb h
theorem Bq.blk {w w1 : World} {b : Nat} {l : List UInt8} (h : Bq w (some ⟨b,0,none⟩) l) (hb : w1.heap[b]? = w.heap[b]?) : Bq w1 (some ⟨b,0,none⟩) l:=by
 refine ⟨h.1,h.2.1,fun hn => ?_⟩
 obtain ⟨ad,e,hc⟩:=h.2.2 hn
 refine ⟨ad,e,fun j p hj => ?_⟩
 obtain ⟨c,h1,h2,h3⟩:=hc j p hj
 refine ⟨c,h1,h2,fun i u hu => ?_⟩
 have h4:=h3 i u hu
 injection e with e
 subst e
 have e2 : w1.cell? (Addr.add ⟨b,0,none⟩ (j * (Kd.int .u8).sz + i)) = w.cell? (Addr.add ⟨b,0,none⟩ (j * (Kd.int .u8).sz + i)):=by
  rw [add_plain]
  simp only [World.cell?,hb]
 rw [e2]
 exact h4
def RowsB (w : World) (rows : List (List Value)) (fs : List Fl) : Prop :=
 rows.length = fs.length ∧ ∀ (j : Nat) (f : Fl) (r : List Value),fs[j]? = some f → rows[j]? = some r → ∃ (b c : Nat) (C : Array Value) (fz : Nat × Nat),r = [Value.string (mkB f.1),Value.slice (some ⟨b,0,none⟩) f.2.length c] ∧ f.2.length ≤ c ∧ w.heap[b]? = some (.cells C 5 fz) ∧ Bq w (some ⟨b,0,none⟩) f.2
theorem RowsB.nil (w : World) : RowsB w [] []:=⟨rfl,fun j f r h => by simp at h⟩
theorem RowsB.below {w w1 : World} {rows : List (List Value)} {fs : List Fl} (h : RowsB w rows fs) (hb : Below w.heap.size w w1) : RowsB w1 rows fs:=by
 refine ⟨h.1,fun j f r hj hr => ?_⟩
 obtain ⟨b,c,C,fz,h1,h2,h3,h4⟩:=h.2 j f r hj hr
 exact ⟨b,c,C,fz,h1,h2,blk_below h3 hb,h4.below hb⟩
theorem RowsB.grown {w w1 : World} {rows : List (List Value)} {fs : List Fl} {row : Option Nat} (h : RowsB w rows fs) (hg : w.grownBy w1 row) (hrow : ∀ k,row = some k → ∃ cs t fz,w.heap[k]? = some (.cells cs t fz) ∧ t ≠ 5) : RowsB w1 rows fs:=by
 refine ⟨h.1,fun j f r hj hr => ?_⟩
 obtain ⟨b,c,C,fz,h1,h2,h3,h4⟩:=h.2 j f r hj hr
 have hne : some b ≠ row:=by
  intro e
  obtain ⟨cs,t,fz',h5,h6⟩:=hrow b e.symm
  rw [h3] at h5
  injection h5 with h5
  injection h5 with _ h5
  exact h6 h5.symm
 exact ⟨b,c,C,fz,h1,h2,blk_grown h3 hg hne,h4.blk (hg.block b (blk_lt h3) hne)⟩
theorem RowsB.snoc {w : World} {rows : List (List Value)} {fs : List Fl} (h : RowsB w rows fs) (f : Fl) {b c : Nat} {C : Array Value} {fz : Nat × Nat} (hc : f.2.length ≤ c) (h3 : w.heap[b]? = some (.cells C 5 fz)) (hq : Bq w (some ⟨b,0,none⟩) f.2) : RowsB w (rows ++ [[Value.string (mkB f.1),Value.slice (some ⟨b,0,none⟩) f.2.length c]]) (fs ++ [f]):=by
 refine ⟨by simp [h.1],fun j g r hj hr => ?_⟩
 rcases Nat.lt_or_ge j fs.length with c1 | c1
 ·rw [List.getElem?_append_left c1] at hj
  rw [List.getElem?_append_left (by rw [h.1]; exact c1)] at hr
  exact h.2 j g r hj hr
 ·rw [List.getElem?_append_right c1] at hj
  rw [List.getElem?_append_right (by rw [h.1]; exact c1),h.1] at hr
  have : j - fs.length = 0:=by
   rcases Nat.eq_zero_or_pos (j - fs.length) with e | e
   ·exact e
   ·rw [List.getElem?_eq_none (by simp; omega)] at hj; cases hj
  rw [this] at hj hr
  injection hj with hj
  injection hr with hr
  subst hj hr
  exact ⟨b,c,C,fz,rfl,hc,h3,hq⟩
theorem RowsB.of {w : World} {rows : List (List Value)} {fs : List Fl} (h : RowsB w rows fs) : RowsOf w rows fs:=by
 refine ⟨h.1,fun j f r hj hr => ?_⟩
 obtain ⟨b,c,C,fz,h1,h2,h3,h4⟩:=h.2 j f r hj hr
 exact ⟨_,c,h1,h2,h4⟩
def BqB (w : World) (b : Nat) (l : List UInt8) : Prop:=∃ (C : Array Value) (fz : Nat × Nat),w.heap[b]? = some (.cells C 5 fz) ∧ Bq w (some ⟨b,0,none⟩) l
theorem BqB.below {w w1 : World} {b : Nat} {l : List UInt8} (h : BqB w b l) (hb : Below w.heap.size w w1) : BqB w1 b l:=by
 obtain ⟨C,fz,h1,h2⟩:=h
 exact ⟨C,fz,blk_below h1 hb,h2.below hb⟩
theorem BqB.grown {w w1 : World} {b : Nat} {l : List UInt8} {row : Option Nat} (h : BqB w b l) (hg : w.grownBy w1 row) (hrow : ∀ k,row = some k → ∃ cs t fz,w.heap[k]? = some (.cells cs t fz) ∧ t ≠ 5) : BqB w1 b l:=by
 obtain ⟨C,fz,h1,h2⟩:=h
 have hne : some b ≠ row:=by
  intro e
  obtain ⟨cs,t,fz',h5,h6⟩:=hrow b e.symm
  rw [h1] at h5
  injection h5 with h5
  injection h5 with _ h5
  exact h6 h5.symm
 exact ⟨C,fz,blk_grown h1 hg hne,h2.blk (hg.block b (blk_lt h1) hne)⟩
theorem row_typed {w : World} {base : Nat} {v : Value} {rows : List (List Value)} (h : Kd.R (Kd.raw 2) 64 w base (fun _ => True) v rows) : ∀ k,v.ownBlock = some k → ∃ cs t fz,w.heap[k]? = some (.cells cs t fz) ∧ t ≠ 5:=by
 intro k hk
 obtain ⟨inner,ho⟩:=Kd.R_own h
 obtain ⟨cs,hc⟩:=own_typed ho k hk
 exact ⟨cs,_,_,hc,by decide⟩
theorem kA_at {w : World} {A : Option Addr} {xs : List (ByteArray × ByteArray)} (h : Kd.C kA w A xs.length xs) {i : Nat} {a b : ByteArray} (hi : xs[i]? = some (a,b)) :
  ∃ ad,A = some ad ∧ w.cell? (ad.add (i * 2)) = some (.string a) ∧ w.cell? ⟨(ad.add (i * 2)).block,(ad.add (i * 2)).off + 1,none⟩ = some (.string b):=by
 have hlt : i < xs.length:=get_lt hi
 obtain ⟨ad,c,e,_,hK,hc⟩:=Kd.C_get h (ByteArray.empty,ByteArray.empty) (i : Int) (by omega) (by omega)
 rw [Int.toNat_natCast,List.getD_eq_getElem?_getD,hi] at hK
 simp only [Option.getD_some] at hK
 obtain ⟨c1,c2,rfl,h1,h2⟩:=hK
 have e1 : c1 = [.string a]:=h1
 have e2 : c2 = [.string b]:=h2
 subst e1 e2
 rw [Int.toNat_natCast] at hc
 refine ⟨ad,e,hc 0 _ rfl,?_⟩
 rw [← add_field _ _ 1 (by omega)]
 exact hc 1 _ rfl
set_option maxRecDepth 100000 in
theorem lit37 (u : Nat → Value) : FrOf 37 u = [u 0,u 1,u 2,u 3,u 4,u 5,u 6,u 7,u 8,u 9,u 10,u 11,u 12,u 13,u 14,u 15,u 16,u 17,u 18,u 19,u 20,u 21,u 22,u 23,u 24,u 25,u 26,u 27,u 28,u 29,u 30,u 31,u 32,u 33,u 34,u 35,u 36]:=rfl
set_option maxHeartbeats 2000000 in
set_option maxRecDepth 100000 in
theorem ArcFormat_calls (w : World) (cm : List UInt8) (fs : List Fl) (A : Option Addr) (c : Nat) (hF : Kd.C kA w A fs.length (fs.map aF)) (hb : (cm ++ ftxt fs).length ≤ 1099511627776) :
  Calls Tryz.prog 9 #[.string (mkB cm),.slice A fs.length c] w fun e w' => e = .returned (.string (mkB (nl cm ++ ftxt (fs.map nlF)))) ∧ Below w.heap.size w w':=by
 have ks:=fun W => print_bytes (P:=Tryz.prog) 9 59 5 Tryz.underlying9 Tryz.underlying59 Tryz.underlying5 (mkB cm) W
 have hcl : cm.length ≤ 1099511627776:=by rw [List.length_append] at hb; omega
 have hfl : fs.length ≤ 1099511627776:=by
  have:=ftxt_ge fs
  rw [List.length_append] at hb
  omega
 have hq0:=bq_bytes w (mkB cm) (by rw [mkB_size]; omega)
 rw [mkB_list] at hq0
 have hq : BqB (Lib.bytesWorld w 5 (mkB cm)) w.heap.size cm:=⟨_,_,Lib.bytesWorld_at_new w 5 (mkB cm),hq0⟩
 clear hq0
 have hbw : Below w.heap.size w (Lib.bytesWorld w 5 (mkB cm)):=bytes_below (Below.refl _ _) (Nat.le_refl _) _ _
 have hcap : cm.length ≤ grownCap w (mkB cm).size 0 5:=by
  have:=grownCap_ge w (mkB cm).size 0 5
  rwa [mkB_size] at this
 have HQ:=Aside0.mk hq
 have HBW:=Aside0.mk hbw
 have HF:=Aside0.mk hF
 have Hb:=Aside0.mk hb
 have HCap:=Aside0.mk hcap
 clear hq hbw hF hb hcap
 go_enter Tryz.func9,Tryz.ntmps9
 go_upto_block 0 with (fail)
 clear ks
 obtain ⟨w1,hw1⟩ : ∃ z,z = Lib.bytesWorld w 5 (mkB cm):=⟨_,rfl⟩
 obtain ⟨cc,hcc⟩ : ∃ z,z = grownCap w (mkB cm).size 0 5:=⟨_,rfl⟩
 obtain ⟨gA,hgA⟩ : ∃ z,z = w1.heap.size:=⟨_,rfl⟩
 have HBW1 : Aside0 (Below w.heap.size w w1):=⟨by rw [hw1]; exact HBW.out⟩
 have HQ1 : Aside0 (BqB w1 w.heap.size cm):=⟨by rw [hw1]; exact HQ.out⟩
 have HCap1 : Aside0 (cm.length ≤ cc):=⟨by rw [hcc]; exact HCap.out⟩
 rw [mkB_size] at hcc
 rw [← hw1,mkB_size,← hcc,← hgA]
 have hx0:=blk_new w1 (.cells #[Value.slice (some ⟨w.heap.size,0,none⟩) cm.length cc,Value.slice none 0 0] 62)
 have hba:=below_alloc (Below.refl w1.heap.size w1) (.cells #[Value.slice (some ⟨w.heap.size,0,none⟩) cm.length cc,Value.slice none 0 0] 62)
 rw [← hgA] at hx0
 have hgl : w.heap.size ≤ gA:=by rw [hgA]; exact HBW1.out.size
 have HX0:=Aside0.mk hx0
 have HB0:=Aside0.mk (HBW1.out.trans (hba.mono HBW1.out.size))
 have HQ2:=Aside0.mk (HQ1.out.below hba)
 clear hx0 hba hw1 hcc hgA HBW HQ HCap HBW1 HQ1
 generalize w1.alloc (.cells #[Value.slice (some ⟨w.heap.size,0,none⟩) cm.length cc,Value.slice none 0 0] 62) = w2 at *
 refine cutU 37 (fun u wc => ∃ (vF : Value) (rows : List (List Value)),u 5 = .pointer (some ⟨gA,0,none⟩) ∧ wc.heap[gA]? = some (.cells #[.slice (some ⟨w.heap.size,0,none⟩) cm.length cc,vF] 62 (0,0)) ∧ BqB wc w.heap.size cm ∧ Kd.R (Kd.raw 2) 64 wc w.heap.size (fun _ => True) vF rows ∧ RowsB wc rows fs ∧ Below w.heap.size w wc) ?rest ?first
 case rest =>
  rintro u W ⟨vF,rows,h5,hx,hqc,hR,hRo,hB⟩
  rw [lit37]
  simp only [h5]
  obtain ⟨AF,cF,eF,hcF,hCF⟩:=Kd.R_reads hR
  subst eF
  have HFm:=Aside0.mk (Format_calls W gA cc (some ⟨w.heap.size,0,none⟩) cm rows fs AF cF hx HCap1.out hqc.choose_spec.choose_spec.2 hCF hRo.of Hb.out)
  have HB:=Aside0.mk hB
  clear hx hqc hR hRo hB hCF h5
  go_wp2_with fail
  refine HFm.out.mono ?_
  rintro e w3 ⟨v,rfl,hR3,hB3⟩
  obtain ⟨A3,c3,e3,hc3,hC3⟩:=Kd.R_reads hR3
  subst e3
  have HB3:=Aside0.mk (HB.out.trans (hB3.mono HB.out.size))
  have k3 : (convert 59 9 (.slice A3 (ni (nl cm ++ ftxt (fs.map nlF))).length c3)).run Tryz.prog w3 = .ok (.string (mkB (nl cm ++ ftxt (fs.map nlF)))) w3:=by
   rw [ni_len] at hC3 ⊢
   exact Bq.str hC3
  clear hR3 hB3 hC3 hc3 HFm
  go_wp2_with fail
  go_ret
  exact ⟨rfl,HB3.out⟩
 case first =>
  intro J K hJ hK
  go_wp2
  refine loopG 37 (fun gh u wc => ∃ (i : Nat) (vF : Value) (rows : List (List Value)),gh = fs.length - i ∧ u 5 = .pointer (some ⟨gA,0,none⟩) ∧ u 12 = .slice A fs.length c ∧ u 13 = .int .i64 fs.length ∧ u 14 = .int .i64 i ∧ i ≤ fs.length ∧ wc.heap[gA]? = some (.cells #[.slice (some ⟨w.heap.size,0,none⟩) cm.length cc,vF] 62 (0,0)) ∧ BqB wc w.heap.size cm ∧ Kd.R (Kd.raw 2) 64 wc w.heap.size (fun _ => True) vF rows ∧ RowsB wc rows (fs.take i) ∧ Below w.heap.size w wc) fs.length rfl ?atStart ?round
  case atStart =>
   exact ⟨0,_,[],rfl,rfl,rfl,rfl,rfl,Nat.zero_le _,HX0.out,HQ2.out,Kd.R_nil _ _ _ _ _,RowsB.nil _,HB0.out⟩
  case round =>
   rintro gh u W ⟨i,vF,rows,hg,h5,h12,h13,h14,hi,hx,hqc,hR,hRo,hB⟩ J2 K2 hJ2 hK2
   rw [lit37]
   simp only [h5,h12,h13,h14]
   clear h5 h12 h13 h14 HX0 HQ2 HB0
   have HR:=Aside0.mk hR
   have HB:=Aside0.mk hB
   have HX:=Aside0.mk hx
   have HQ:=Aside0.mk hqc
   have HRo:=Aside0.mk hRo
   clear hR hB hx hqc hRo
   by_cases ci : i < fs.length
   ·
    obtain ⟨f,hf⟩ : ∃ f,fs[i]? = some f:=⟨fs[i],List.getElem?_eq_getElem ci⟩
    have hC1 : Kd.C kA W A (fs.map aF).length (fs.map aF):=by rw [List.length_map]; exact Kd.C_below HF.out HB.out
    obtain ⟨ad,hA,b0,b1⟩:=kA_at hC1 (i:=i) (a:=mkB f.1) (b:=mkB f.2) (by rw [List.getElem?_map,hf]; rfl)
    subst hA
    have u1 : (i : Int) < (fs.length : Int):=by omega
    have u2 : IntKind.i64.wrap ((i : Int) + 1) = (i : Int) + 1:=by rw [IntKind.wrap_i64]; omega
    have hdl : f.2.length ≤ 281474976710656:=by
     have h1:=Hb.out
     have h2:=ftxt_len (fs.take i) (fs.drop (i + 1)) f
     have h3 : fs.take i ++ f :: fs.drop (i + 1) = fs:=by
      have hd : fs.drop i = f :: fs.drop (i + 1):=by
       rw [List.drop_eq_getElem_cons (get_lt hf)]
       congr 1
       have:=List.getElem?_eq_getElem (get_lt hf)
       rw [hf] at this
       exact (Option.some.inj this).symm
      rw [← hd,List.take_append_drop]
     rw [h3] at h2
     simp only [List.length_append] at h1 h2
     omega
    have hba:=below_alloc (Below.refl W.heap.size W) (.cells #[Value.string (mkB f.1),Value.string (mkB f.2)] 36)
    have hfx:=blk_new W (.cells #[Value.string (mkB f.1),Value.string (mkB f.2)] 36)
    have Hf:=Aside0.mk hf
    have Hba:=Aside0.mk hba
    have HFX:=Aside0.mk hfx
    clear hf hba hfx hC1
    go_upto_region 5 with (fail)
    have HX5:=Aside0.mk (blk_below HX.out Hba.out)
    have HR5:=Aside0.mk (Kd.R_below HR.out Hba.out)
    have HQ5:=Aside0.mk (HQ.out.below Hba.out)
    have HRo5:=Aside0.mk (HRo.out.below Hba.out)
    have HB5:=Aside0.mk (HB.out.trans (Hba.out.mono HB.out.size))
    obtain ⟨gf,hgf⟩ : ∃ z,z = W.heap.size:=⟨_,rfl⟩
    have HFX5 : Aside0 ((W.alloc (.cells #[Value.string (mkB f.1),Value.string (mkB f.2)] 36)).heap[gf]? = some (.cells #[Value.string (mkB f.1),Value.string (mkB f.2)] 36 (0,0))):=⟨by rw [hgf]; exact HFX.out⟩
    rw [← hgf]
    clear HX HR HQ HRo HB HFX Hba b0 b1 hgf
    generalize W.alloc (.cells #[Value.string (mkB f.1),Value.string (mkB f.2)] 36) = w5 at *
    have kb:=fun W => print_bytes (P:=Tryz.prog) 9 59 5 Tryz.underlying9 Tryz.underlying59 Tryz.underlying5 (mkB f.2) W
    have hbw : Below w5.heap.size w5 (Lib.bytesWorld w5.drew 5 (mkB f.2)):=bytes_below (below_drew (Below.refl _ _)) (Nat.le_refl _) _ _
    have hbw' : Below w5.drew.heap.size w5.drew (Lib.bytesWorld w5.drew 5 (mkB f.2)):=bytes_below (Below.refl _ _) (Nat.le_refl _) _ _
    have HR6:=Aside0.mk (Kd.R_below HR5.out hbw)
    have HXA6:=Aside0.mk (blk_below HX5.out hbw)
    have HNe : Aside0 (some gA ≠ vF.ownBlock):=⟨Kd.R_ne HR5.out HX5.out (by decide)⟩
    have hbs : w.heap.size ≤ (Lib.bytesWorld w5.drew 5 (mkB f.2)).heap.size:=Nat.le_trans HB5.out.size hbw.size
    have ca:=(blk_cell HX5.out 1).trans rfl
    have cf0:=(blk_cell HFX5.out 0).trans rfl
    have cf1:=(blk_cell HFX5.out 1).trans rfl
    have hrl : rows.length = (fs.take i).length:=HRo5.out.1
    have hrows : (rows.length + 1) * 40 ≤ 140737488355328:=by rw [hrl,List.length_take]; omega
    have HRL:=Aside0.mk hrl
    clear hrl
    refine start_ (n:=16) (S:=fun w' => w'.cell? ⟨gA,1,none⟩ = some vF ∧ w'.cell? ⟨gf,0,none⟩ = some (.string (mkB f.1)) ∧ w'.cell? ⟨gf,1,none⟩ = some (.string (mkB f.2))) (ds:=[12,15]) #[false,false,false,false,false,false,false,false,false,false,false,false,false,false,false,false] (by kernel_rfl) rfl rfl ⟨ca,cf0,cf1⟩ (fun hHeld => ?_)
    refine pure_ (i:=0) (N:=some 18) (v:=?_) (a':=?_) #[true,false,false,false,false,false,false,false,false,false,false,false,false,false,false,false] rfl rfl (by kernel_rfl) (fun _ _ _ h => h) (Or.inl ⟨by rfl,?_⟩) ?_ ?_
    rotate_left
    ·intro w'
     go_simp
     with_reducible rfl
    rotate_left
    ·simp only [Act.put,List.setIfInBounds_toArray,List.set_cons_zero,List.set_cons_succ,i64_w,i32_w]
     rfl
    refine pure_ (i:=1) (N:=some 19) (v:=?_) (a':=?_) #[true,true,false,false,false,false,false,false,false,false,false,false,false,false,false,false] rfl rfl (by kernel_rfl) (fun _ _ _ h => h) (Or.inl ⟨by rfl,?_⟩) ?_ ?_
    rotate_left
    ·intro w'
     go_simp
     with_reducible rfl
    rotate_left
    ·simp only [Act.put,List.setIfInBounds_toArray,List.set_cons_zero,List.set_cons_succ,i64_w,i32_w]
     rfl
    refine pure_ (i:=2) (N:=some 20) (v:=?_) (a':=?_) #[true,true,true,false,false,false,false,false,false,false,false,false,false,false,false,false] rfl rfl (by kernel_rfl) (fun _ _ _ h => h) (Or.inl ⟨by rfl,?_⟩) ?_ ?_
    rotate_left
    ·intro w'
     go_simp
     with_reducible rfl
    rotate_left
    ·simp only [Act.put,List.setIfInBounds_toArray,List.set_cons_zero,List.set_cons_succ,i64_w,i32_w]
     rfl
    refine pure_ (i:=3) (N:=some 21) (v:=?_) (a':=?_) #[true,true,true,true,false,false,false,false,false,false,false,false,false,false,false,false] rfl rfl (by kernel_rfl) (fun _ _ _ h => h) (Or.inl ⟨by rfl,?_⟩) ?_ ?_
    rotate_left
    ·intro w'
     go_simp
     with_reducible rfl
    rotate_left
    ·simp only [Act.put,List.setIfInBounds_toArray,List.set_cons_zero,List.set_cons_succ,i64_w,i32_w]
     rfl
    refine pure_ (i:=5) (N:=some 23) (v:=?_) (a':=?_) #[true,true,true,true,false,true,false,false,false,false,false,false,false,false,false,false] rfl rfl (by kernel_rfl) (fun _ _ _ h => h) (Or.inl ⟨by rfl,?_⟩) ?_ ?_
    rotate_left
    ·intro w'
     go_simp
     with_reducible rfl
    rotate_left
    ·simp only [Act.put,List.setIfInBounds_toArray,List.set_cons_zero,List.set_cons_succ,i64_w,i32_w]
     rfl
    refine pure_ (i:=7) (N:=some 25) (v:=?_) (a':=?_) #[true,true,true,true,false,true,false,true,false,false,false,false,false,false,false,false] rfl rfl (by kernel_rfl) (fun _ _ _ h => h) (Or.inl ⟨by rfl,?_⟩) ?_ ?_
    rotate_left
    ·intro w'
     go_simp
     with_reducible rfl
    rotate_left
    ·simp only [Act.put,List.setIfInBounds_toArray,List.set_cons_zero,List.set_cons_succ,i64_w,i32_w]
     rfl
    refine take_ (i:=4) (N:=some 22) (v:=?_) (a':=?_) #[true,true,true,true,true,true,false,true,false,false,false,false,false,false,false,false] rfl rfl (by kernel_rfl) (fun _ _ _ h => h) (Or.inl ⟨by rfl,?_⟩) hHeld ?_ ?_
    rotate_left
    ·rintro w' ⟨s0,s1,s2⟩
     go_simp
     with_reducible rfl
    rotate_left
    ·simp only [Act.put,List.setIfInBounds_toArray,List.set_cons_zero,List.set_cons_succ,i64_w,i32_w]
     rfl
    refine take_ (i:=6) (N:=some 24) (v:=?_) (a':=?_) #[true,true,true,true,true,true,true,true,false,false,false,false,false,false,false,false] rfl rfl (by kernel_rfl) (fun _ _ _ h => h) (Or.inl ⟨by rfl,?_⟩) hHeld ?_ ?_
    rotate_left
    ·rintro w' ⟨s0,s1,s2⟩
     go_simp
     with_reducible rfl
    rotate_left
    ·simp only [Act.put,List.setIfInBounds_toArray,List.set_cons_zero,List.set_cons_succ,i64_w,i32_w]
     rfl
    refine take_ (i:=8) (N:=some 26) (v:=?_) (a':=?_) #[true,true,true,true,true,true,true,true,true,false,false,false,false,false,false,false] rfl rfl (by kernel_rfl) (fun _ _ _ h => h) (Or.inl ⟨by rfl,?_⟩) hHeld ?_ ?_
    rotate_left
    ·rintro w' ⟨s0,s1,s2⟩
     go_simp
     with_reducible rfl
    rotate_left
    ·simp only [Act.put,List.setIfInBounds_toArray,List.set_cons_zero,List.set_cons_succ,i64_w,i32_w]
     rfl
    refine one_ (i:=9) (N:=some 27) #[true,true,true,true,true,true,true,true,true,true,false,false,false,false,false,false] rfl rfl (by kernel_rfl) (by decide) (fun K hK => ?_)
    refine value_ (w1:=?_) (v:=?_) (by rfl) rfl ?_ ?_
    rotate_left 2
    ·go_simp
     constructor
     ·rfl
     ·rfl
    refine hK.out _ _ ⟨(cell_keep ca hbw),(cell_keep cf0 hbw),(cell_keep cf1 hbw)⟩ (fun hHeld => ?_)
    clear hK K
    refine norm_ (a':=?_) ?_ ?_
    rotate_left
    ·show Act.put _ (some 27) _ = _
     simp only [Act.put,List.setIfInBounds_toArray,List.set_cons_zero,List.set_cons_succ,i64_w,i32_w]
     rfl
    refine pure_ (i:=10) (N:=some 28) (v:=?_) (a':=?_) #[true,true,true,true,true,true,true,true,true,true,true,false,false,false,false,false] rfl rfl (by kernel_rfl) (fun _ _ _ h => h) (Or.inl ⟨by rfl,?_⟩) ?_ ?_
    rotate_left
    ·intro w'
     go_simp
     with_reducible rfl
    rotate_left
    ·simp only [Act.put,List.setIfInBounds_toArray,List.set_cons_zero,List.set_cons_succ,i64_w,i32_w]
     rfl
    refine one_ (i:=11) (N:=some 29) #[true,true,true,true,true,true,true,true,true,true,true,true,false,false,false,false] rfl rfl (by kernel_rfl) (by decide) (fun K hK => ?_)
    refine value_ (w1:=?_) (v:=?_) (by rfl) rfl ?_ ?_
    rotate_left 2
    ·go_simp
     constructor
     ·rfl
     ·rfl
    refine hK.out _ _ ⟨Lib.cell?_alloc_marked _ (cell_keep ca hbw),Lib.cell?_alloc_marked _ (cell_keep cf0 hbw),Lib.cell?_alloc_marked _ (cell_keep cf1 hbw)⟩ (fun hHeld => ?_)
    clear hK K
    refine norm_ (a':=?_) ?_ ?_
    rotate_left
    ·show Act.put _ (some 29) _ = _
     simp only [Act.put,List.setIfInBounds_toArray,List.set_cons_zero,List.set_cons_succ,i64_w,i32_w]
     rfl
    refine last_ (i:=12) (N:=some 30) #[true,true,true,true,true,true,true,true,true,true,true,true,true,false,false,false] rfl rfl (by kernel_rfl) (by decide) (fun K hK => ?_)
    refine Kd.R_append_step (Kd.raw 2) (w0:=Lib.bytesWorld w5.drew 5 (mkB f.2)) (W:=Lib.bytesWorld w5.drew 5 (mkB f.2)) w.heap.size (by rfl) (.tmp 22) (.tmp 29) 60 64 _ 40 rfl Tryz.underlying60 info55 rfl (by decide) (by decide) vF rows [.string (mkB f.1),.slice (some ⟨w5.heap.size,0,none⟩) (mkB f.2).size (grownCap w5.drew (mkB f.2).size 0 5)] [.string (mkB f.1),.slice (some ⟨w5.heap.size,0,none⟩) (mkB f.2).size (grownCap w5.drew (mkB f.2).size 0 5)] (fun _ => True) (fun _ => False) rfl (by rfl) ⟨rfl,rfl,by simp [Value.oneCell']⟩ (fun _ hk => hk.elim) (fun _ _ => trivial) HR6.out (Below.refl _ _) hbs (by omega) ?_
    intro v1 w6 ho1 hb1 hg1 hat1
    have HO1:=Aside0.mk ho1
    have HB1:=Aside0.mk hb1
    have HG1:=Aside0.mk hg1
    have hxa1:=blk_grown (w:=Lib.bytesWorld w5.drew 5 (mkB f.2)) HXA6.out hg1 (HNe.out)
    have ca1:=(blk_cell hxa1 1).trans rfl
    have fa1:=blk_frozen hxa1 1
    have HXA1:=Aside0.mk hxa1
    obtain ⟨AV,cV,eV,_,_⟩:=Kd.R_reads HO1.out
    subst eV
    clear ho1 hb1 hg1 hat1 hxa1
    refine hK.out _ _ ?_
    clear hK K
    refine norm_ (a':=?_) ?_ ?_
    rotate_left
    ·show Act.put _ (some 30) _ = _
     simp only [Act.put,List.setIfInBounds_toArray,List.set_cons_zero,List.set_cons_succ,i64_w,i32_w]
     rfl
    refine pure_ (i:=13) (N:=some 31) (v:=?_) (a':=?_) #[true,true,true,true,true,true,true,true,true,true,true,true,true,true,false,false] rfl rfl (by kernel_rfl) (fun _ _ _ h => h) (Or.inl ⟨by rfl,?_⟩) ?_ ?_
    rotate_left
    ·intro w'
     go_simp
     with_reducible rfl
    rotate_left
    ·simp only [Act.put,List.setIfInBounds_toArray,List.set_cons_zero,List.set_cons_succ,i64_w,i32_w]
     rfl
    refine pure_ (i:=14) (N:=some 32) (v:=?_) (a':=?_) #[true,true,true,true,true,true,true,true,true,true,true,true,true,true,true,false] rfl rfl (by kernel_rfl) (fun _ _ _ h => h) (Or.inl ⟨by rfl,?_⟩) ?_ ?_
    rotate_left
    ·intro w'
     go_simp
     with_reducible rfl
    rotate_left
    ·simp only [Act.put,List.setIfInBounds_toArray,List.set_cons_zero,List.set_cons_succ,i64_w,i32_w]
     rfl
    refine last_ (i:=15) (N:=none) #[true,true,true,true,true,true,true,true,true,true,true,true,true,true,true,true] rfl rfl (by kernel_rfl) (by decide) (fun K hK => ?_)
    refine skip_ (w1:=?_) (by rfl) rfl ?_ ?_
    rotate_left
    ·go_simp
     rfl
    refine hK.out _ _ ?_
    clear hK K
    refine done_ (by kernel_rfl) ?_
    have hO1:=HO1.out
    have hL1 : rows.length = (fs.take i).length:=HRL.out
    obtain ⟨G,hG⟩ : ∃ z,z = grownCap w5.drew (mkB f.2).size 0 5:=⟨_,rfl⟩
    have hGl : f.2.length ≤ G:=by
     have:=grownCap_ge w5.drew (mkB f.2).size 0 5
     rw [mkB_size] at this
     rw [hG,mkB_size]
     exact this
    rw [← hG,mkB_size] at hO1
    rw [← hG,mkB_size]
    have hq6:=bq_bytes w5.drew (mkB f.2) (by rw [mkB_size]; omega)
    rw [mkB_list] at hq6
    have hRo6 : RowsB (Lib.bytesWorld w5.drew 5 (mkB f.2)) (rows ++ [[Value.string (mkB f.1),Value.slice (some ⟨w5.heap.size,0,none⟩) f.2.length G]]) (fs.take i ++ [f]) :=
     (HRo5.out.below hbw).snoc f hGl (Lib.bytesWorld_at_new w5.drew 5 (mkB f.2)) hq6
    have ht6:=row_typed HR6.out
    have hput : ∀ k,some gA = some k → ∃ cs t fz,w6.heap[k]? = some (.cells cs t fz) ∧ t ≠ 5:=by
     intro k hk
     injection hk with hk
     subst hk
     exact ⟨_,_,_,HXA1.out,by decide⟩
    have hlen : (rows ++ [[Value.string (mkB f.1),Value.slice (some ⟨w5.heap.size,0,none⟩) f.2.length G]]).length = rows.length + 1:=by simp
    rw [hlen] at hO1
    have hg2:=grownBy_put2 w6 gA 1 (.slice AV (rows.length + 1) cV)
    have hR2:=Kd.R_set hO1 HXA1.out (by intro q hq; simp [Kd.raw] at hq; subst hq; decide) 1 (.slice AV (rows.length + 1) cV)
    have hRo7:=(hRo6.grown HG1.out ht6).grown hg2 hput
    have hQ7:=((HQ5.out.below hbw).grown HG1.out ht6).grown hg2 hput
    have etk : fs.take i ++ [f] = fs.take (i + 1):=by rw [List.take_add_one,Hf.out]; rfl
    rw [etk] at hRo7
    have hB7:=below_put ((HB5.out.trans (hbw.mono HB5.out.size)).trans HB1.out) gA 1 (.slice AV (rows.length + 1) cV) hgl
    have HZ:=Aside0.mk (And.intro (blk_put HXA1.out 1 (.slice AV (rows.length + 1) cV) rfl) (And.intro hR2 (And.intro hRo7 (And.intro hQ7 hB7))))
    clear hO1 hG hGl hq6 hRo6 ht6 hput hlen hg2 hR2 hRo7 hQ7 etk hB7 ca cf0 cf1 hbw hbw' hL1
    go_wp2
    exact Met.intro (hJ2 (fs.length - (i + 1)) _ _ rfl (by omega) ⟨i + 1,_,_,rfl,rfl,rfl,rfl,rfl,ci,HZ.out.1,HZ.out.2.2.2.1,HZ.out.2.1,HZ.out.2.2.1,HZ.out.2.2.2.2⟩)
   ·
    obtain rfl : i = fs.length:=by omega
    have u1 : decide ((fs.length : Int) < (fs.length : Int)) = false:=by simp
    go_wp2
    have hRo:=HRo.out
    rw [List.take_length] at hRo
    exact Met.intro (hJ _ _ rfl ⟨vF,rows,rfl,HX.out,HQ.out,HR.out,hRo,HB.out⟩)
end Go.Proofs.YtplbifmjnanceaaGreatDoor
end
