/- txtar: Parse and ArcParse. -/
import Derived.Test.YtplbifmjnanceaaGreatDoorVP
import Derived.Test.YtplbifmjnanceaaGreatDoorVA
section
namespace Go.Proofs.YtplbifmjnanceaaGreatDoor
open Go.RowKit Go.Proofs.YtplbifmjnanceaaGreatDoorW.PrintWords Go.Proofs.YtplbifmjnanceaaGreatDoorW.PrintLast Go.Proofs.YtplbifmjnanceaaGreatDoorW.PrintMore
set_option linter.unusedVariables false
set_option linter.unusedSimpArgs false
abbrev Fl:=List UInt8 × List UInt8
def ftxt (fs : List Fl) : List UInt8:=fs.flatMap fun f => mkLine f.1 ++ 10 :: f.2
structure FlOk (f : Fl) : Prop where
 nm : NameOk f.1
 no : (45 : UInt8) ∉ f.2
 nl : NL f.2
theorem ftxt_cons (f : Fl) (t : List Fl) : ftxt (f :: t) = mkLine f.1 ++ 10 :: (f.2 ++ ftxt t):=by
 simp [ftxt]
theorem ftxt_len (dn t : List Fl) (f : Fl) : (f.2 ++ ftxt t).length ≤ (ftxt (dn ++ f :: t)).length:=by
 have e : ftxt (dn ++ f :: t) = ftxt dn ++ ftxt (f :: t):=by simp [ftxt]
 rw [e,ftxt_cons]
 simp only [List.length_append,List.length_cons]
 omega
def Next (w0 : World) (t : List Fl) (nv rv : Value) : Prop :=
 (t = [] ∧ nv = .string ⟨#[]⟩ ∧ rv = .slice none 0 0) ∨ ∃ f t' A c,t = f :: t' ∧ nv = .string (mkB f.1) ∧ rv = .slice A (f.2 ++ ftxt t').length c ∧ (f.2 ++ ftxt t').length ≤ c ∧ Bq w0 A (f.2 ++ ftxt t')
theorem find_step (w0 w : World) (hw0 : Below w0.heap.size w0 w) (A : Option Addr) (d : List UInt8) (t : List Fl) (c : Nat) (h : Bq w0 A (d ++ ftxt t)) (hc : (d ++ ftxt t).length ≤ c) (hb : (d ++ ftxt t).length ≤ 281474976710656) (hd : (45 : UInt8) ∉ d) (hn : NL d) (ht : ∀ f ∈ t,FlOk f) (hT : spTab w) :
  Calls Tryz.prog 48 #[.slice A (d ++ ftxt t).length c] w fun e w' => ∃ nb rv,e = .returned (.tuple #[.slice A d.length c,.string nb,rv]) ∧ d.length ≤ c ∧ Bq w0 A d ∧ Next w0 t (.string nb) rv ∧ Below w.heap.size w w':=by
 cases t with
 | nil =>
  have e : d ++ ftxt [] = d:=by simp [ftxt]
  rw [e] at h hc hb ⊢
  refine (find_none w A d c (h.below hw0) hc hb hd hn).mono ?_
  rintro e w' ⟨rfl,hB⟩
  exact ⟨_,_,rfl,hc,h,Or.inl ⟨rfl,rfl,rfl⟩,hB⟩
 | cons f t' =>
  rw [ftxt_cons] at h hc hb ⊢
  refine (find_some w0 w hw0 A d f.1 (f.2 ++ ftxt t') c (ht f (by simp)).nm h hc hb hd hn hT).mono ?_
  rintro e w' ⟨A',c',rfl,h1,h2,h3,h4,hB⟩
  exact ⟨_,_,rfl,h1,h3,Or.inr ⟨f,t',A',c',rfl,rfl,rfl,h2,h4⟩,hB⟩
def RowsOf (w0 : World) (rows : List (List Value)) (fs : List Fl) : Prop :=
 rows.length = fs.length ∧ ∀ (j : Nat) (f : Fl) (r : List Value),fs[j]? = some f → rows[j]? = some r → ∃ (A : Option Addr) (c : Nat),r = [Value.string (mkB f.1),Value.slice A f.2.length c] ∧ f.2.length ≤ c ∧ Bq w0 A f.2
theorem RowsOf.nil (w0 : World) : RowsOf w0 [] []:=⟨rfl,fun j f r h => by simp at h⟩
theorem RowsOf.snoc {w0 : World} {rows : List (List Value)} {fs : List Fl} (h : RowsOf w0 rows fs) (f : Fl) {A : Option Addr} {c : Nat} (hc : f.2.length ≤ c) (hq : Bq w0 A f.2) : RowsOf w0 (rows ++ [[Value.string (mkB f.1),Value.slice A f.2.length c]]) (fs ++ [f]):=by
 refine ⟨by simp [h.1],fun j g r hj hr => ?_⟩
 rcases Nat.lt_or_ge j fs.length with c1 | c1
 ·rw [List.getElem?_append_left c1] at hj
  rw [List.getElem?_append_left (by rw [h.1]; exact c1)] at hr
  exact h.2 j g r hj hr
 ·rw [List.getElem?_append_right c1] at hj
  rw [List.getElem?_append_right (by rw [h.1]; exact c1),h.1] at hr
  have : j - fs.length = 0:=by
   rcases Nat.eq_zero_or_pos (j - fs.length) with e | e
   ·exact e
   ·rw [List.getElem?_eq_none (by simp; omega)] at hj; cases hj
  rw [this] at hj hr
  injection hj with hj
  injection hr with hr
  subst hj hr
  exact ⟨A,c,rfl,hc,hq⟩
set_option maxRecDepth 100000 in
theorem lit38 (u : Nat → Value) : FrOf 38 u = [u 0,u 1,u 2,u 3,u 4,u 5,u 6,u 7,u 8,u 9,u 10,u 11,u 12,u 13,u 14,u 15,u 16,u 17,u 18,u 19,u 20,u 21,u 22,u 23,u 24,u 25,u 26,u 27,u 28,u 29,u 30,u 31,u 32,u 33,u 34,u 35,u 36,u 37]:=rfl
theorem info55 : (Tryz.prog.info? 64).map (fun i => (i.zero,i.size,i.bytes)) = some (some (.agg #[.string ⟨#[]⟩,.slice none 0 0]),2,40):=by kernel_rfl
theorem grownBy_put2 (w : World) (g i : Nat) (u : Value) : w.grownBy (w.setCell ⟨g,i,none⟩ u) (some g) :=
 ⟨rfl,rfl,rfl,by simp [World.setCell],fun k _ hk => Below.heap_setCell w _ u k (fun e => hk (by rw [e]))⟩
set_option maxHeartbeats 2000000 in
set_option maxRecDepth 100000 in
theorem Parse_calls (w : World) (A : Option Addr) (c : Nat) (cm : List UInt8) (fs : List Fl) (h : Bq w A (cm ++ ftxt fs)) (hc : (cm ++ ftxt fs).length ≤ c) (hb : (cm ++ ftxt fs).length ≤ 1099511627776) (hd : (45 : UInt8) ∉ cm) (hn : NL cm) (ht : ∀ f ∈ fs,FlOk f) (hT : spTab w) :
  Calls Tryz.prog 25 #[.slice A (cm ++ ftxt fs).length c] w fun e w' => ∃ (g cc : Nat) (Ac : Option Addr) (vF : Value) (rows : List (List Value)),e = .returned (.pointer (some ⟨g,0,none⟩)) ∧ w.heap.size ≤ g ∧
   w'.heap[g]? = some (.cells #[.slice Ac cm.length cc,vF] 62 (0,0)) ∧ cm.length ≤ cc ∧ Bq w Ac cm ∧ Kd.R (Kd.raw 2) 64 w' w.heap.size (fun _ => True) vF rows ∧ RowsOf w rows fs ∧ Below w.heap.size w w':=by
 obtain ⟨T,hTT⟩ : ∃ T,T = cm ++ ftxt fs:=⟨_,rfl⟩
 have hst:=fun w1 (hw1 : Below w.heap.size w w1) => find_step w w1 hw1 A cm fs c h hc (by omega) hd hn ht (hT.on hw1)
 have hfl : fs.length ≤ 1099511627776:=by
  have h1 : ∀ l : List Fl,l.length ≤ (ftxt l).length:=by
   intro l
   induction l with
   | nil => simp [ftxt]
   | cons a t ih => rw [ftxt_cons]; simp; omega
  have:=h1 fs
  rw [List.length_append] at hb
  omega
 have hlt : (ftxt fs).length ≤ 1099511627776:=by rw [List.length_append] at hb; omega
 have HLT:=Aside0.mk hlt
 clear hlt
 rw [← hTT] at h hc hb hst ⊢
 have H:=Aside0.mk h
 have HS:=Aside0.mk hst
 have HOk:=Aside0.mk ht
 have HT:=Aside0.mk hT
 clear h hst hd hn ht hT hTT
 go_enter Tryz.func25,Tryz.ntmps25
 go_wp2_with fail
 have hA0:=below_alloc (Below.refl w.heap.size w) (.cells #[Value.slice none 0 0,Value.slice none 0 0] 62)
 have hxa0:=blk_new w (.cells #[Value.slice none 0 0,Value.slice none 0 0] 62)
 refine (HS.out _ hA0).mono ?_
 rintro e w2 ⟨nb,rv,rfl,hcc,hqc,hnx,hb2⟩
 obtain ⟨gA,hgA⟩ : ∃ gA,gA = w.heap.size:=⟨_,rfl⟩
 have hgl : w.heap.size ≤ gA:=by omega
 have hxa:=blk_below hxa0 hb2
 rw [← hgA] at hxa ⊢
 have HXA:=Aside0.mk hxa
 have HB2:=Aside0.mk (hA0.trans (hb2.mono hA0.size))
 have HQC:=Aside0.mk hqc
 have HNX:=Aside0.mk hnx
 have HCC:=Aside0.mk hcc
 have f0:=blk_frozen hxa 0
 have c0:=(blk_cell hxa 0).trans rfl
 have hsh:=hnx
 clear hA0 hxa0 hqc hnx hb2 hxa hgA HS hcc
 have hrv : (∃ A' n' c',rv = .slice A' n' c'):=by
  rcases hsh with ⟨_,_,e⟩ | ⟨_,_,_,_,_,_,e,_⟩
  ·exact ⟨_,_,_,e⟩
  ·exact ⟨_,_,_,e⟩
 obtain ⟨A1,n1,c1,e1⟩:=hrv
 subst e1
 clear hsh
 go_upto_block 0 with (fail)
 have HX2:=Aside0.mk (blk_put HXA.out 0 (.slice A cm.length c) rfl)
 have HB3:=Aside0.mk (below_put HB2.out gA 0 (.slice A cm.length c) hgl)
 clear HXA HB2 f0 c0
 generalize hw3 : w2.setCell ⟨gA,0,none⟩ (.slice A cm.length c) = w3 at *
 clear hw3
 refine cutU 38 (fun u wc => ∃ (vF : Value) (rows : List (List Value)),u 3 = .pointer (some ⟨gA,0,none⟩) ∧ wc.heap[gA]? = some (.cells #[.slice A cm.length c,vF] 62 (0,0)) ∧ Kd.R (Kd.raw 2) 64 wc w.heap.size (fun _ => True) vF rows ∧ RowsOf w rows fs ∧ Below w.heap.size w wc) ?rest ?first
 case rest =>
  rintro u W ⟨vF,rows,h3,hx,hR,hRo,hB⟩
  rw [lit38]
  simp only [h3]
  go_wp2
  go_ret
  exact ⟨gA,c,A,vF,rows,rfl,hgl,hx,HCC.out,HQC.out,hR,hRo,hB⟩
 case first =>
  intro J K hJ hK
  go_wp2
  refine loopG 38 (fun g u wc => ∃ (dn rm : List Fl) (vF : Value) (rows : List (List Value)) (nb : ByteArray) (A1 : Option Addr) (n1 c1 : Nat),g = rm.length ∧ dn ++ rm = fs ∧ u 0 = .slice A1 n1 c1 ∧ u 3 = .pointer (some ⟨gA,0,none⟩) ∧ u 4 = .string nb ∧ Next w rm (.string nb) (.slice A1 n1 c1) ∧ wc.heap[gA]? = some (.cells #[.slice A cm.length c,vF] 62 (0,0)) ∧ Kd.R (Kd.raw 2) 64 wc w.heap.size (fun _ => True) vF rows ∧ RowsOf w rows dn ∧ Below w.heap.size w wc) fs.length rfl ?atStart ?round
  case atStart =>
   exact ⟨[],fs,_,[],nb,A1,n1,c1,rfl,rfl,rfl,rfl,rfl,HNX.out,HX2.out,Kd.R_nil _ _ _ _ _,RowsOf.nil w,HB3.out⟩
  case round =>
   rintro g u W ⟨dn,rm,vF,rows,nb',A2,n2,c2,hg,hdr,h0,h3,h4,hnx,hx,hR,hRo,hB⟩ J2 K2 hJ2 hK2
   rw [lit38]
   simp only [h0,h3,h4]
   clear h0 h3 h4 HNX HX2 HB3
   have HR:=Aside0.mk hR
   have HX:=Aside0.mk hx
   have HB:=Aside0.mk hB
   have HRo:=Aside0.mk hRo
   clear hR hx hB hRo
   rcases hnx with ⟨e1,e2,e3⟩ | ⟨f,t,A3',c3',e1,e2,e3,hc3,hq3⟩
   ·injection e2 with e2
    subst e1 e2
    rw [List.append_nil] at hdr
    subst hdr
    go_wp2
    exact Met.intro (hJ _ _ rfl ⟨vF,rows,rfl,HX.out,HR.out,HRo.out,HB.out⟩)
   ·
    injection e2 with e2
    injection e3 with e31 e32 e33
    subst e1 e2 e31 e32 e33
    have HOf:=Aside0.mk (HOk.out f (by rw [← hdr]; simp))
    have HOt:=Aside0.mk (fun x (hx : x ∈ t) => HOk.out x (by rw [← hdr]; simp [hx]))
    have hbl : (f.2 ++ ftxt t).length ≤ 281474976710656:=by
     have h1:=ftxt_len dn t f
     rw [hdr] at h1
     have:=HLT.out
     omega
    obtain ⟨T2,hT2⟩ : ∃ T2,T2 = f.2 ++ ftxt t:=⟨_,rfl⟩
    have hst:=fun w1 (hw1 : Below w.heap.size w w1) => find_step w w1 hw1 A2 f.2 t c2 hq3 hc3 hbl HOf.out.no HOf.out.nl HOt.out (HT.out.on hw1)
    rw [← hT2] at hst hc3 hq3 hbl ⊢
    have HS:=Aside0.mk hst
    have HDr:=Aside0.mk hdr
    have he : ((mkB f.1).toList == []) = false:=by
     rw [mkB_toList2]
     exact beq_eq_false_iff_ne.mpr HOf.out.nm.ne
    have hA4:=below_alloc (Below.refl W.heap.size W) (.cells #[Value.string (mkB f.1),Value.slice none 0 0] 64)
    have hxf0:=blk_new W (.cells #[Value.string (mkB f.1),Value.slice none 0 0] 64)
    clear hst hdr hT2 hq3
    go_wp2_with fail
    refine (HS.out _ (HB.out.trans (hA4.mono HB.out.size))).mono ?_
    rintro e w4 ⟨nb5,rv5,rfl,hc5,hq5,hnx5,hb5⟩
    obtain ⟨gf,hgf⟩ : ∃ gf,gf = W.heap.size:=⟨_,rfl⟩
    have hB5:=hA4.trans (hb5.mono hA4.size)
    have hxf:=blk_below hxf0 hb5
    have hR5:=Kd.R_below (Kd.R_mono (Kd.R_bound HR.out) (fun k hk => hk.2.2.1) : Kd.R (Kd.raw 2) 64 W w.heap.size (fun k => k < W.heap.size) vF rows) hB5
    have hxa5:=blk_below HX.out hB5
    have hgAW : gA < W.heap.size:=blk_lt HX.out
    have hwW : w.heap.size ≤ W.heap.size:=HB.out.size
    rw [← hgf] at hxf hgAW hR5 ⊢
    have hgfs : w.heap.size ≤ gf:=by omega
    have hgAf : gA ≠ gf:=by omega
    have HR5a:=Aside0.mk (Kd.R_mono (Kd.R_far (p:=⟨gf,1,none⟩) hR5 (fun k hk => by show k ≠ gf; omega) (.slice A2 f.2.length c2)) (fun _ _ => trivial) : Kd.R (Kd.raw 2) 64 (w4.setCell ⟨gf,1,none⟩ (.slice A2 f.2.length c2)) w.heap.size (fun _ => True) vF rows)
    have hxa6:=blk_grown hxa5 (grownBy_put2 w4 gf 1 (.slice A2 f.2.length c2)) (fun e => by injection e with e; exact hgAf e)
    have hxf6:=blk_put hxf 1 (.slice A2 f.2.length c2) rfl
    have HB5:=Aside0.mk (below_put (HB.out.trans (hB5.mono HB.out.size)) gf 1 (.slice A2 f.2.length c2) hgfs)
    have HXA:=Aside0.mk hxa6
    have HXF:=Aside0.mk hxf6
    have HQ5:=Aside0.mk hq5
    have HC5:=Aside0.mk hc5
    have HNX5:=Aside0.mk hnx5
    have hrv : (∃ A' n' c',rv5 = .slice A' n' c'):=by
     rcases hnx5 with ⟨_,_,e⟩ | ⟨_,_,_,_,_,_,e,_⟩
     ·exact ⟨_,_,_,e⟩
     ·exact ⟨_,_,_,e⟩
    obtain ⟨A6,n6,c6,e6⟩:=hrv
    subst e6
    have f1:=blk_frozen hxf 1
    have c1f:=(blk_cell hxf 1).trans rfl
    have hrl : rows.length = dn.length:=HRo.out.1
    have hdl : dn.length ≤ 1099511627776:=by
     have:=congrArg List.length HDr.out
     rw [List.length_append] at this
     omega
    clear hgf hB5 hxf hR5 hxa5 hxa6 hxf6 hq5 hc5 hnx5 hb5 hxf0 hA4 he HS HX HB HR hc3
    go_upto_region 7 with (fail)
    clear f1 c1f
    generalize hw5 : w4.setCell ⟨gf,1,none⟩ (.slice A2 f.2.length c2) = w5 at *
    clear hw5
    have HR5:=HR5a
    have HNe : Aside0 (some gA ≠ vF.ownBlock):=⟨Kd.R_ne HR5.out HXA.out (by decide)⟩
    have hbs : w.heap.size ≤ w5.heap.size:=HB5.out.size
    have ca:=(blk_cell HXA.out 1).trans rfl
    have cf0:=(blk_cell HXF.out 0).trans rfl
    have cf1:=(blk_cell HXF.out 1).trans rfl
    have hrows : (rows.length + 1) * 40 ≤ 140737488355328:=by omega
    refine start_ (n:=11) (S:=fun w' => w'.cell? ⟨gA,1,none⟩ = some vF ∧ w'.cell? ⟨gf,0,none⟩ = some (.string (mkB f.1)) ∧ w'.cell? ⟨gf,1,none⟩ = some (.slice A2 f.2.length c2)) (ds:=[7,10]) #[false,false,false,false,false,false,false,false,false,false,false] (by kernel_rfl) rfl rfl ⟨ca,cf0,cf1⟩ (fun hHeld => ?_)
    refine pure_ (i:=0) (N:=some 27) (v:=?_) (a':=?_) #[true,false,false,false,false,false,false,false,false,false,false] rfl rfl (by kernel_rfl) (fun _ _ _ h => h) (Or.inl ⟨by rfl,?_⟩) ?_ ?_
    rotate_left
    ·intro w'
     go_simp
     with_reducible rfl
    rotate_left
    ·simp only [Act.put,List.setIfInBounds_toArray,List.set_cons_zero,List.set_cons_succ,i64_w,i32_w]
     rfl
    refine pure_ (i:=1) (N:=some 28) (v:=?_) (a':=?_) #[true,true,false,false,false,false,false,false,false,false,false] rfl rfl (by kernel_rfl) (fun _ _ _ h => h) (Or.inl ⟨by rfl,?_⟩) ?_ ?_
    rotate_left
    ·intro w'
     go_simp
     with_reducible rfl
    rotate_left
    ·simp only [Act.put,List.setIfInBounds_toArray,List.set_cons_zero,List.set_cons_succ,i64_w,i32_w]
     rfl
    refine pure_ (i:=2) (N:=some 29) (v:=?_) (a':=?_) #[true,true,true,false,false,false,false,false,false,false,false] rfl rfl (by kernel_rfl) (fun _ _ _ h => h) (Or.inl ⟨by rfl,?_⟩) ?_ ?_
    rotate_left
    ·intro w'
     go_simp
     with_reducible rfl
    rotate_left
    ·simp only [Act.put,List.setIfInBounds_toArray,List.set_cons_zero,List.set_cons_succ,i64_w,i32_w]
     rfl
    refine pure_ (i:=3) (N:=some 30) (v:=?_) (a':=?_) #[true,true,true,true,false,false,false,false,false,false,false] rfl rfl (by kernel_rfl) (fun _ _ _ h => h) (Or.inl ⟨by rfl,?_⟩) ?_ ?_
    rotate_left
    ·intro w'
     go_simp
     with_reducible rfl
    rotate_left
    ·simp only [Act.put,List.setIfInBounds_toArray,List.set_cons_zero,List.set_cons_succ,i64_w,i32_w]
     rfl
    refine take_ (i:=4) (N:=some 31) (v:=?_) (a':=?_) #[true,true,true,true,true,false,false,false,false,false,false] rfl rfl (by kernel_rfl) (fun _ _ _ h => h) (Or.inl ⟨by rfl,?_⟩) hHeld ?_ ?_
    rotate_left
    ·rintro w' ⟨s0,s1,s2⟩
     go_simp
     with_reducible rfl
    rotate_left
    ·simp only [Act.put,List.setIfInBounds_toArray,List.set_cons_zero,List.set_cons_succ,i64_w,i32_w]
     rfl
    refine take_ (i:=5) (N:=some 32) (v:=?_) (a':=?_) #[true,true,true,true,true,true,false,false,false,false,false] rfl rfl (by kernel_rfl) (fun _ _ _ h => h) (Or.inl ⟨by rfl,?_⟩) hHeld ?_ ?_
    rotate_left
    ·rintro w' ⟨s0,s1,s2⟩
     go_simp
     with_reducible rfl
    rotate_left
    ·simp only [Act.put,List.setIfInBounds_toArray,List.set_cons_zero,List.set_cons_succ,i64_w,i32_w]
     rfl
    refine one_ (i:=6) (N:=some 33) #[true,true,true,true,true,true,true,false,false,false,false] rfl rfl (by kernel_rfl) (by decide) (fun K hK => ?_)
    refine value_ (w1:=?_) (v:=?_) (by rfl) rfl ?_ ?_
    rotate_left 2
    ·go_simp
     constructor
     ·rfl
     ·rfl
    refine hK.out _ _ ⟨Lib.cell?_alloc_marked _ ca,Lib.cell?_alloc_marked _ cf0,Lib.cell?_alloc_marked _ cf1⟩ (fun hHeld => ?_)
    clear hK K
    refine norm_ (a':=?_) ?_ ?_
    rotate_left
    ·show Act.put _ (some 33) _ = _
     simp only [Act.put,List.setIfInBounds_toArray,List.set_cons_zero,List.set_cons_succ,i64_w,i32_w]
     rfl
    refine last_ (i:=7) (N:=some 34) #[true,true,true,true,true,true,true,true,false,false,false] rfl rfl (by kernel_rfl) (by decide) (fun K hK => ?_)
    refine Kd.R_append_step (Kd.raw 2) (w0:=w5.drew) (W:=w5.drew) w.heap.size (by rfl) (.tmp 31) (.tmp 33) 60 64 _ 40 rfl Tryz.underlying60 info55 rfl (by decide) (by decide) vF rows [.string (mkB f.1),.slice A2 f.2.length c2] [.string (mkB f.1),.slice A2 f.2.length c2] (fun _ => True) (fun _ => False) rfl rfl ⟨rfl,rfl,by simp [Value.oneCell']⟩ (fun _ hk => hk.elim) (fun _ _ => trivial) (Kd.R_drew HR5.out) (Below.refl _ _) hbs (by omega) ?_
    intro v1 w6 ho1 hb1 hg1 hat1
    have HO1:=Aside0.mk ho1
    have HB1:=Aside0.mk hb1
    have hxa1:=blk_grown (w:=w5.drew) HXA.out hg1 (HNe.out)
    have ca1:=(blk_cell hxa1 1).trans rfl
    have fa1:=blk_frozen hxa1 1
    have HXA1:=Aside0.mk hxa1
    obtain ⟨AV,cV,eV,_,_⟩:=Kd.R_reads HO1.out
    subst eV
    clear ho1 hb1 hg1 hat1 hxa1
    refine hK.out _ _ ?_
    clear hK K
    refine norm_ (a':=?_) ?_ ?_
    rotate_left
    ·show Act.put _ (some 34) _ = _
     simp only [Act.put,List.setIfInBounds_toArray,List.set_cons_zero,List.set_cons_succ,i64_w,i32_w]
     rfl
    refine pure_ (i:=8) (N:=some 35) (v:=?_) (a':=?_) #[true,true,true,true,true,true,true,true,true,false,false] rfl rfl (by kernel_rfl) (fun _ _ _ h => h) (Or.inl ⟨by rfl,?_⟩) ?_ ?_
    rotate_left
    ·intro w'
     go_simp
     with_reducible rfl
    rotate_left
    ·simp only [Act.put,List.setIfInBounds_toArray,List.set_cons_zero,List.set_cons_succ,i64_w,i32_w]
     rfl
    refine pure_ (i:=9) (N:=some 36) (v:=?_) (a':=?_) #[true,true,true,true,true,true,true,true,true,true,false] rfl rfl (by kernel_rfl) (fun _ _ _ h => h) (Or.inl ⟨by rfl,?_⟩) ?_ ?_
    rotate_left
    ·intro w'
     go_simp
     with_reducible rfl
    rotate_left
    ·simp only [Act.put,List.setIfInBounds_toArray,List.set_cons_zero,List.set_cons_succ,i64_w,i32_w]
     rfl
    refine last_ (i:=10) (N:=none) #[true,true,true,true,true,true,true,true,true,true,true] rfl rfl (by kernel_rfl) (by decide) (fun K hK => ?_)
    refine skip_ (w1:=?_) (by rfl) rfl ?_ ?_
    rotate_left
    ·go_simp
     rfl
    refine hK.out _ _ ?_
    clear hK K
    refine done_ (by kernel_rfl) ?_
    have hR2:=Kd.R_set HO1.out HXA1.out (by intro q hq; simp [Kd.raw] at hq; subst hq; decide) 1 (.slice AV (rows ++ [[Value.string (mkB f.1),Value.slice A2 f.2.length c2]]).length cV)
    rw [show (rows ++ [[Value.string (mkB f.1),Value.slice A2 f.2.length c2]]).length = dn.length + 1 by simp [hrl]] at hR2
    have hlt2 : t.length < g:=by rw [hg]; exact Nat.lt_succ_self _
    go_wp2
    exact Met.intro (hJ2 t.length _ _ rfl hlt2 ⟨dn ++ [f],t,_,_,nb5,A6,n6,c6,rfl,by rw [← HDr.out]; simp,rfl,rfl,rfl,HNX5.out,blk_put HXA1.out 1 _ rfl,hR2,HRo.out.snoc f HC5.out HQ5.out,below_put ((below_drew HB5.out).trans HB1.out) _ _ _ hgl⟩)
end Go.Proofs.YtplbifmjnanceaaGreatDoor
end
section
namespace Go.Proofs.YtplbifmjnanceaaGreatDoor
open Go.RowKit Go.Proofs.YtplbifmjnanceaaGreatDoorW.PrintWords Go.Proofs.YtplbifmjnanceaaGreatDoorW.PrintLast Go.Proofs.YtplbifmjnanceaaGreatDoorW.PrintMore
set_option linter.unusedVariables false
set_option linter.unusedSimpArgs false
set_option maxRecDepth 100000 in
theorem lit35 (u : Nat → Value) : FrOf 35 u = [u 0,u 1,u 2,u 3,u 4,u 5,u 6,u 7,u 8,u 9,u 10,u 11,u 12,u 13,u 14,u 15,u 16,u 17,u 18,u 19,u 20,u 21,u 22,u 23,u 24,u 25,u 26,u 27,u 28,u 29,u 30,u 31,u 32,u 33,u 34]:=rfl
theorem ftxt_ge : ∀ l : List Fl,l.length ≤ (ftxt l).length:=by
 intro l
 induction l with
 | nil => simp [ftxt]
 | cons a t ih => rw [ftxt_cons]; simp; omega
theorem alloc_sz (w : World) (o : Obj) : (w.alloc o).heap.size = w.heap.size + 1:=by
 show (w.heap.push o).size = _
 rw [Array.size_push]
def kA : Kd (ByteArray × ByteArray):=Kd.pair Kd.string Kd.string
def aF (f : Fl) : ByteArray × ByteArray:=(mkB f.1,mkB f.2)
theorem kA_M (w : World) (base : Nat) (ok : Nat → Prop) (a b : ByteArray) : kA.M w base ok (a,b) [.string a,.string b]:=⟨[.string a],[.string b],rfl,rfl,rfl⟩
theorem info40 : (Tryz.prog.info? 36).map (fun i => (i.zero,i.size,i.bytes)) = some (some (.agg #[.string ⟨#[]⟩,.string ⟨#[]⟩]),2,32):=by kernel_rfl
theorem raw_at {w : World} {A : Option Addr} {rows : List (List Value)} (h : Kd.C (Kd.raw 2) w A rows.length rows) {i : Nat} {a b : Value} (hi : rows[i]? = some [a,b]) :
  ∃ ad,A = some ad ∧ w.cell? (ad.add (i * 2)) = some a ∧ w.cell? ⟨(ad.add (i * 2)).block,(ad.add (i * 2)).off + 1,none⟩ = some b:=by
 have hlt : i < rows.length:=get_lt hi
 obtain ⟨ad,c,e,_,hK,hc⟩:=Kd.C_get h ([] : List Value) (i : Int) (by omega) (by omega)
 obtain ⟨hK,_,_⟩:=hK
 rw [Int.toNat_natCast,List.getD_eq_getElem?_getD,hi] at hK
 simp only [Option.getD_some] at hK
 subst hK
 rw [Int.toNat_natCast] at hc
 refine ⟨ad,e,hc 0 _ rfl,?_⟩
 rw [← add_field _ _ 1 (by omega)]
 exact hc 1 _ rfl
set_option maxHeartbeats 2000000 in
set_option maxRecDepth 100000 in
theorem ArcParse_calls (w : World) (s : ByteArray) (cm : List UInt8) (fs : List Fl) (hs : s.data.toList = cm ++ ftxt fs) (hb : s.size ≤ 1099511627776) (hd : (45 : UInt8) ∉ cm) (hn : NL cm) (ht : ∀ f ∈ fs,FlOk f) (hT : spTab w) :
  Calls Tryz.prog 10 #[.string s] w fun e w' => ∃ v,e = .returned (.tuple #[.string (mkB cm),v]) ∧ Kd.R kA 36 w' w.heap.size (fun _ => True) v (fs.map aF) ∧ Below w.heap.size w w':=by
 have ks:=fun W => print_bytes (P:=Tryz.prog) 9 59 5 Tryz.underlying9 Tryz.underlying59 Tryz.underlying5 s W
 have hq:=bq_bytes w s (by omega)
 have hbw : Below w.heap.size w (Lib.bytesWorld w 5 s):=bytes_below (Below.refl _ _) (Nat.le_refl _) _ _
 have hsl : s.size = (cm ++ ftxt fs).length:=by rw [← hs]; rfl
 rw [hs] at hq
 have hfs : fs.length ≤ 1099511627776:=by
  have:=ftxt_ge fs
  rw [List.length_append] at hsl
  omega
 have hP:=Parse_calls (Lib.bytesWorld w 5 s) (some ⟨w.heap.size,0,none⟩) (grownCap w s.size 0 5) cm fs hq (by rw [← hsl]; exact grownCap_ge _ _ _ _) (by rw [← hsl]; exact hb) hd hn ht (hT.on hbw)
 rw [← hsl] at hP
 have HP:=Aside0.mk hP
 have HBW:=Aside0.mk hbw
 clear hq hbw hP hs hd hn ht hT hsl
 go_enter Tryz.func10,Tryz.ntmps10
 go_wp2_with fail
 refine HP.out.mono ?_
 rintro e w2 ⟨g,cc,Ac,vF,rows,rfl,hgl,hx,hcc,hqc,hR,hRo,hb2⟩
 obtain ⟨AF,cF,eF,hcF,hCF⟩:=Kd.R_reads hR
 subst eF
 have HB2:=Aside0.mk (HBW.out.trans (hb2.mono HBW.out.size))
 have HX:=Aside0.mk hx
 have HQC:=Aside0.mk (hqc.below hb2)
 have HCF:=Aside0.mk hCF
 have HRo:=Aside0.mk hRo
 have Hb2:=Aside0.mk hb2
 have c0:=(blk_cell hx 0).trans rfl
 have c1:=(blk_cell hx 1).trans rfl
 clear hx hqc hR hCF hRo hb2 HP hgl
 go_upto_block 0 with (fail)
 clear c0 c1
 refine cutU 35 (fun u wc => ∃ v : Value,u 3 = v ∧ u 4 = .pointer (some ⟨g,0,none⟩) ∧ Kd.R kA 36 wc w2.heap.size (fun _ => True) v (fs.map aF) ∧ Below w2.heap.size w2 wc) ?rest ?first
 case rest =>
  rintro u W ⟨v,h3,h4,hR,hB⟩
  rw [lit35]
  simp only [h3,h4]
  have hx:=blk_below HX.out hB
  have c0:=(blk_cell hx 0).trans rfl
  have k1:=(HQC.out.below hB).str (c:=cc)
  have HR:=Aside0.mk hR
  have HB:=Aside0.mk hB
  clear hx hR hB h3 h4
  go_wp2
  refine bodyPost_ret (v:=.tuple #[.string (mkB cm),v]) ?_ rfl ⟨v,rfl,Kd.R_lower HR.out HB2.out.size,HB2.out.trans (HB.out.mono HB2.out.size)⟩
  simp [results,Tryz.results10,go_sem]
 case first =>
  intro J K hJ hK
  go_wp2
  refine loopG 35 (fun gh u wc => ∃ (i : Nat) (v : Value),gh = rows.length - i ∧ u 3 = v ∧ u 4 = .pointer (some ⟨g,0,none⟩) ∧ u 13 = .slice AF rows.length cF ∧ u 14 = .int .i64 rows.length ∧ u 15 = .int .i64 i ∧ i ≤ rows.length ∧ Kd.R kA 36 wc w2.heap.size (fun _ => True) v ((fs.take i).map aF) ∧ Below w2.heap.size w2 wc) rows.length rfl ?atStart ?round
  case atStart =>
   exact ⟨0,_,rfl,rfl,rfl,rfl,rfl,rfl,Nat.zero_le _,Kd.R_nil _ _ _ _ _,Below.refl _ _⟩
  case round =>
   rintro gh u W ⟨i,v,hg,h3,h4,h13,h14,h15,hi,hR,hB⟩ J2 K2 hJ2 hK2
   rw [lit35]
   simp only [h3,h4,h13,h14,h15]
   clear h3 h4 h13 h14 h15
   have HR:=Aside0.mk hR
   have HB:=Aside0.mk hB
   clear hR hB
   by_cases ci : i < rows.length
   ·
    have hlen:=HRo.out.1
    obtain ⟨f,hf⟩ : ∃ f,fs[i]? = some f:=⟨fs[i]'(by omega),List.getElem?_eq_getElem (by omega)⟩
    obtain ⟨r,hr⟩ : ∃ r,rows[i]? = some r:=⟨rows[i],List.getElem?_eq_getElem ci⟩
    obtain ⟨Af,cf,rfl,hcf,hqf⟩:=HRo.out.2 i f r hf hr
    obtain ⟨ad,hA,b0,b1⟩:=raw_at (Kd.C_below HCF.out HB.out) hr
    subst hA
    have u1 : (i : Int) < (rows.length : Int):=by omega
    have u2 : IntKind.i64.wrap ((i : Int) + 1) = (i : Int) + 1:=by rw [IntKind.wrap_i64]; omega
    have hbf:=below_alloc (Below.refl W.heap.size W) (.cells #[Value.string (mkB f.1),Value.slice Af f.2.length cf] 64)
    have k1:=((hqf.below Hb2.out).below (HB.out.trans (hbf.mono HB.out.size))).str (c:=cf)
    have hbs : w2.heap.size ≤ (W.alloc (.cells #[Value.string (mkB f.1),Value.slice Af f.2.length cf] 64)).heap.size:=Nat.le_trans HB.out.size hbf.size
    have HR2:=Aside0.mk (Kd.R_below HR.out hbf)
    have HB2':=Aside0.mk (HB.out.trans (hbf.mono HB.out.size))
    have hfl : ((fs.take i).map aF).length ≤ 1099511627776:=by rw [List.length_map,List.length_take]; omega
    have Hf:=Aside0.mk hf
    clear hf hr hqf hbf hlen
    go_wp2_with (first | (at_builtin; refine Kd.R_append kA (w0:=W.alloc (.cells #[Value.string (mkB f.1),Value.slice Af f.2.length cf] 64)) w2.heap.size rfl (.tmp 19) (.tmp 26) 33 36 _ 32 rfl Tryz.underlying33 info40 rfl (by decide) (by decide) v ((fs.take i).map aF) (mkB f.1,mkB f.2) [.string (mkB f.1),.string (mkB f.2)] (fun _ => True) (fun _ => False) rfl (by rw [alloc_sz]; rfl) (kA_M _ _ _ _ _) (fun _ hk => hk.elim) (fun _ _ => trivial) HR2.out (Below.refl _ _) hbs ?aL ?_; (case aL => omega); intro v1 w6 ho1 hb1 hg1 hat1; have HO1:=Aside0.mk ho1; have HB1:=Aside0.mk hb1; clear ho1 hb1 hg1 hat1))
    have hO:=HO1.out
    have el : (fs.take i).map aF ++ [(mkB f.1,mkB f.2)] = (fs.take (i + 1)).map aF:=by
     rw [List.take_add_one,Hf.out]; simp [aF]
    rw [el] at hO
    exact Met.intro (hJ2 (rows.length - (i + 1)) _ _ rfl (by omega) ⟨i + 1,v1,rfl,rfl,rfl,rfl,rfl,rfl,ci,hO,HB2'.out.trans HB1.out⟩)
   ·
    obtain rfl : i = rows.length:=by omega
    have u1 : decide ((rows.length : Int) < (rows.length : Int)) = false:=by simp
    go_wp2
    have hR:=HR.out
    rw [HRo.out.1,List.take_length] at hR
    exact Met.intro (hJ _ _ rfl ⟨v,rfl,rfl,hR,HB.out⟩)
end Go.Proofs.YtplbifmjnanceaaGreatDoor
end
