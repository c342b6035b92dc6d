/- txtar: isMarker and findFileMarker. -/
import Derived.Test.YtplbifmjnanceaaGreatDoorVC
import Derived.Test.YtplbifmjnanceaaGreatDoorVO
import Derived.Test.YtplbifmjnanceaaGreatDoorVF
import Derived.Lib.SlBytesRow
import Derived.Lib.SmallJoins
import Derived.Lib.SlBytesConst
import Derived.Lib.AppendIntMem
section
namespace Go.Proofs.YtplbifmjnanceaaGreatDoor
open Go.RowKit Go.Proofs.YtplbifmjnanceaaGreatDoorW.PrintWords Go.Proofs.YtplbifmjnanceaaGreatDoorW.PrintLast Go.Proofs.YtplbifmjnanceaaGreatDoorW.PrintMore
set_option linter.unusedVariables false
set_option linter.unusedSimpArgs false
def ni (l : List UInt8) : List Int:=l.map fun b => (b.toNat : Int)
theorem ni_len (l : List UInt8) : (ni l).length = l.length:=by simp [ni]
theorem ni_take (l : List UInt8) (k : Nat) : (ni l).take k = ni (l.take k):=by simp [ni,List.map_take]
theorem ni_drop (l : List UInt8) (k : Nat) : (ni l).drop k = ni (l.drop k):=by simp [ni,List.map_drop]
theorem bytesOf_ni (l : List UInt8) : Lib.bytesOf (ni l) = l:=by
 unfold Lib.bytesOf ni
 rw [List.map_map]
 conv => rhs; rw [← List.map_id l]
 apply List.map_congr_left
 intro b _
 simp
theorem str_ni (l : List UInt8) : strOfNums (ni l) = mkB l:=strOf_bytesOf (mkB l) |> fun h => by
 unfold bytesOf at h
 rw [mkB_list] at h
 exact h
theorem ni_getD (l : List UInt8) (i : Nat) : (ni l).getD i 0 = ((l.getD i 0).toNat : Int):=by
 simp only [ni,List.getD_eq_getElem?_getD,List.getElem?_map]
 cases l[i]? <;> rfl
def Bq (w : World) (A : Option Addr) (l : List UInt8) : Prop:=Kd.C (Kd.int .u8) w A l.length (ni l)
theorem Bq.below {w w1 : World} {A : Option Addr} {l : List UInt8} (h : Bq w A l) (hb : Below w.heap.size w w1) : Bq w1 A l:=Kd.C_below h hb
theorem Bq.in_ {w : World} {A : Option Addr} {l : List UInt8} (h : Bq w A l) : Lib.BytesIn w A l.length (ni l):=by
 rcases Nat.eq_zero_or_pos l.length with e | e
 ·rw [e]; exact Lib.BytesIn.nil _ _ _
 ·obtain ⟨ad,rfl,_⟩:=Kd.at_int h 0 (by omega) (by omega)
  refine Lib.BytesIn.of_cells (fun i hi => ?_)
  obtain ⟨ad',e',hc⟩:=Kd.at_int h (i : Int) (by omega) (by omega)
  injection e' with e'
  subst e'
  rw [Int.toNat_natCast] at hc
  rw [hc]
  rfl
theorem Bq.take {w : World} {A : Option Addr} {l : List UInt8} (h : Bq w A l) (k : Nat) (hk : k ≤ l.length) : Bq w A (l.take k):=by
 have h' : Kd.C (Kd.int .u8) w A (ni l).length (ni l):=by rw [ni_len]; exact h
 have:=Kd.C_take h' (m:=k) (by rw [ni_len]; exact hk)
 rw [ni_take,ni_len] at this
 exact this
theorem Bq.drop {w : World} {A : Option Addr} {l : List UInt8} {c : Nat} (h : Bq w A l) (k : Nat) (hk : k ≤ l.length) (hc : l.length ≤ c) : Bq w (if c = k then A else A.map (·.add (k * 1))) (l.drop k):=by
 have h' : Kd.C (Kd.int .u8) w A (ni l).length (ni l):=by rw [ni_len]; exact h
 have:=Kd.C_drop h' (m:=k) (c:=c) (by rw [ni_len]; exact hk) (by rw [ni_len]; exact hc)
 rw [ni_drop,ni_len] at this
 exact this
theorem Bq.cell {w : World} {A : Option Addr} {l : List UInt8} (h : Bq w A l) (k : Nat) (b : UInt8) (hk : l[k]? = some b) : ∃ ad,A = some ad ∧ w.cell? (ad.add k) = some (.int .u8 b.toNat):=by
 have hlt : k < l.length:=by
  rcases Nat.lt_or_ge k l.length with c | c
  ·exact c
  ·rw [List.getElem?_eq_none c] at hk; cases hk
 obtain ⟨ad,e,hc⟩:=Kd.at_int h (k : Int) (by omega) (by omega)
 refine ⟨ad,e,?_⟩
 rw [Int.toNat_natCast] at hc
 rw [hc]
 simp only [rd,Int.toNat_natCast]
 rw [ni_getD,List.getD_eq_getElem?_getD,hk]
 rfl
theorem Bq.str {w : World} {A : Option Addr} {l : List UInt8} {c : Nat} (h : Bq w A l) : (convert 59 9 (.slice A l.length c)).run Tryz.prog w = .ok (.string (mkB l)) w:=by
 have:=Kd.C_string (c:=c) Tryz.underlying59 Tryz.underlying5 Tryz.underlying9 h
 rw [str_ni] at this
 exact this
theorem bq_bytes (W : World) (s : ByteArray) (hs : s.size ≤ 9223372036854775807) : Bq (Lib.bytesWorld W 5 s) (some ⟨W.heap.size,0,none⟩) s.data.toList:=by
 have h1 : Kd.C (Kd.int .u8) (Lib.bytesWorld W 5 s) (some ⟨W.heap.size,0,none⟩) s.size (bytesOf s):=Kd.C_of_reads (d:=(0 : Int)) (bytes_reads W 5 s hs)
 exact h1
def mk1 : List UInt8:=[45,45,32]
def mk2 : List UInt8:=[32,45,45]
theorem bq_row (w : World) (l : List UInt8) (t : TypeId) (fr : Nat × Nat) (hl : l.length ≤ 9223372036854775807) : Bq (w.alloc (.cells ((ni l).map (Value.int .u8)).toArray t fr)) (some ⟨w.heap.size,0,none⟩) l:=by
 refine Kd.C_of_reads (d:=(0 : Int)) ⟨ni_len l,hl,fun _ => ⟨_,rfl,fun j hj => ?_⟩⟩
 rw [add_plain,World.cell?_alloc_mark]
 simp [List.getD_eq_getElem?_getD,List.getElem?_eq_getElem (show j < (ni l).length by rw [ni_len]; exact hj)]
set_option maxRecDepth 100000 in
theorem marker_calls (w : World) : Calls Tryz.prog 78 #[] w fun e w' => ∃ A c,e = .returned (.slice A 3 c) ∧ 3 ≤ c ∧ Bq w' A mk1 ∧ Below w.heap.size w w':=by
 have kc:=fun (w : World) (C : Array Value) (n c : Nat) => Lib.run_convert_bytes_const (P:=Tryz.prog) w 59 5 C n c Tryz.underlying59 Tryz.underlying5
 go_enter Tryz.func78,Tryz.ntmps78
 go_wp2
 go_ret
 exact ⟨_,_,rfl,Nat.le_refl _,bq_row w mk1 _ _ (by decide),below_alloc (Below.refl _ _) _⟩
set_option maxRecDepth 100000 in
theorem markerEnd_calls (w : World) : Calls Tryz.prog 81 #[] w fun e w' => ∃ A c,e = .returned (.slice A 3 c) ∧ 3 ≤ c ∧ Bq w' A mk2 ∧ Below w.heap.size w w':=by
 have kc:=fun (w : World) (C : Array Value) (n c : Nat) => Lib.run_convert_bytes_const (P:=Tryz.prog) w 59 5 C n c Tryz.underlying59 Tryz.underlying5
 go_enter Tryz.func81,Tryz.ntmps81
 go_wp2
 go_ret
 exact ⟨_,_,rfl,Nat.le_refl _,bq_row w mk2 _ _ (by decide),below_alloc (Below.refl _ _) _⟩
def NL (l : List UInt8) : Prop:=l = [] ∨ l.getLast? = some 10
set_option maxRecDepth 100000 in
theorem fixNL_same (w : World) (A : Option Addr) (l : List UInt8) (c : Nat) (h : Bq w A l) (hc : l.length ≤ c) (hb : l.length ≤ 281474976710656) (hn : NL l) : Calls Tryz.prog 66 #[.slice A l.length c] w fun e w' => e = .returned (.slice A l.length c) ∧ w' = w:=by
 go_enter Tryz.func66,Tryz.ntmps66
 rcases hn with rfl | hn
 ·go_wp2
  go_ret
  exact ⟨rfl,rfl⟩
 ·obtain ⟨n,hnl⟩ : ∃ n,n = l.length:=⟨_,rfl⟩
  have hp : 0 < n:=by
   rw [hnl]
   cases l with
   | nil => simp at hn
   | cons a t => simp
  rw [List.getLast?_eq_getElem?,← hnl] at hn
  obtain ⟨ad,rfl,hcell⟩:=h.cell _ _ hn
  rw [← hnl]
  have u1 : ((n : Int) == 0) = false:=beq_eq_false_iff_ne.mpr (by omega)
  have u5 : IntKind.i64.wrap ((n : Int) - 1) = ((n - 1 : Nat) : Int):=by rw [IntKind.wrap_i64]; omega
  have u6 : ((n - 1 : Nat) : Int) < (n : Int):=by omega
  have u7 : n - 1 < n:=by omega
  clear hnl hn h
  generalize n - 1 = z at *
  go_wp2
  go_ret
  exact ⟨rfl,rfl⟩
end Go.Proofs.YtplbifmjnanceaaGreatDoor
end
section
namespace Go.Proofs.YtplbifmjnanceaaGreatDoor
open Go.RowKit Go.Proofs.YtplbifmjnanceaaGreatDoorW.PrintWords Go.Proofs.YtplbifmjnanceaaGreatDoorW.PrintLast Go.Proofs.YtplbifmjnanceaaGreatDoorW.PrintMore
set_option linter.unusedVariables false
set_option linter.unusedSimpArgs false
theorem hasPrefix_calls (w : World) (A A2 : Option Addr) (l p : List UInt8) (c n c2 : Nat) (hn : p.length = n) (hc : l.length ≤ c) (h : Bq w A l) (h2 : Bq w A2 p) :
  Calls Tryz.prog 77 #[.slice A l.length c,.slice A2 n c2] w fun e w' => e = .returned (.bool (Lib.hasPrefix l p)) ∧ w' = w:=by
 subst hn
 have:=Tryz.bytes_HasPrefix_all A A2 l.length c p.length c2 (ni l) (ni p) w (ni_len l) (ni_len p) hc h.in_ h2.in_
 rw [bytesOf_ni,bytesOf_ni] at this
 exact this
theorem hasSuffix_calls (w : World) (A A2 : Option Addr) (l p : List UInt8) (c n c2 : Nat) (hn : p.length = n) (hc : l.length ≤ c) (hb : l.length ≤ 9223372036854775807) (h : Bq w A l) (h2 : Bq w A2 p) :
  Calls Tryz.prog 80 #[.slice A l.length c,.slice A2 n c2] w fun e w' => e = .returned (.bool (Lib.hasSuffix l p)) ∧ w' = w:=by
 subst hn
 have:=Tryz.bytes_HasSuffix_all A A2 l.length c p.length c2 (ni l) (ni p) w (ni_len l) (ni_len p) hc hb h.in_ h2.in_
 rw [bytesOf_ni,bytesOf_ni] at this
 exact this
theorem indexByte_calls (w : World) (A : Option Addr) (l : List UInt8) (c : Nat) (hp : 0 < l.length) (h : Bq w A l) :
  Calls Tryz.prog 79 #[.slice A l.length c,.int .u8 10] w fun e w' => e = .returned (.int .i64 (Lib.indexByte l 10)) ∧ w' = w:=by
 obtain ⟨ad,rfl,_⟩:=h.cell 0 _ (List.getElem?_eq_getElem hp)
 have:=Tryz.bytes_IndexByte_at ad l.length c (ni l) 10 w (ni_len l) (fun i hi => by
  obtain ⟨ad',e',hc⟩:=h.cell i _ (List.getElem?_eq_getElem hi)
  injection e' with e'
  subst e'
  rw [hc,ni_getD,List.getD_eq_getElem?_getD,List.getElem?_eq_getElem hi]
  rfl)
 rw [bytesOf_ni] at this
 exact this
def spTab (w : World) : Prop:=Lib.TabBelow Tryz.prog w.heap.size w "strings.asciiSpace" .u8 Lib.asciiSpaceTab
theorem infoB : (Tryz.prog.info? 5).map (fun i => (i.zero,i.size,i.bytes)) = some (some (.int .u8 0),1,1):=by kernel_rfl
theorem cutFrom {w : World} {A : Option Addr} {l : List UInt8} {c : Nat} (h : Bq w A l) (hc : l.length ≤ c) (k : Nat) (hk : k ≤ l.length) (K : Int) (hK : K = (k : Int)) :
  ∃ A' c',(∀ W : World,(Instr.slice 59 (.slice A l.length c) (some (.int .i64 K)) none none).run Tryz.prog W = .ok (.slice A' (l.drop k).length c') W) ∧ (l.drop k).length ≤ c' ∧ Bq w A' (l.drop k):=by
 obtain ⟨i,hi',hz,hs,hb⟩:=info_parts infoB
 subst hK
 refine ⟨if c = k then A else A.map (·.add (k * 1)),c - k,fun W => ?_,by rw [List.length_drop]; omega,h.drop k hk hc⟩
 have:=cut_from (P:=Tryz.prog) 59 5 .i64 Tryz.underlying59 hi' 1 hs A l.length c (k : Int) (by omega) (by omega) W
 rw [List.length_drop]
 simpa only [Int.toNat_natCast] using this
theorem cutTo {w : World} {A : Option Addr} {l : List UInt8} {c : Nat} (h : Bq w A l) (hc : l.length ≤ c) (k : Nat) (hk : k ≤ l.length) (K : Int) (hK : K = (k : Int)) :
  (∀ W : World,(Instr.slice 59 (.slice A l.length c) none (some (.int .i64 K)) none).run Tryz.prog W = .ok (.slice A k c) W) ∧ Bq w A (l.take k):=by
 obtain ⟨i,hi',hz,hs,hb⟩:=info_parts infoB
 subst hK
 refine ⟨fun W => ?_,h.take k hk⟩
 have:=cut_to (P:=Tryz.prog) 59 5 .i64 Tryz.underlying59 hi' A l.length c (k : Int) (by omega) (by omega) hc W
 simpa only [Int.toNat_natCast] using this
theorem cutMid {w : World} {A : Option Addr} {l : List UInt8} {c : Nat} (h : Bq w A l) (hc : l.length ≤ c) (lo hi : Nat) (h1 : lo ≤ hi) (hk : hi ≤ l.length) (L K : Int) (hL : L = (lo : Int)) (hK : K = (hi : Int)) :
  ∃ A' c',(∀ W : World,(Instr.slice 59 (.slice A l.length c) (some (.int .i64 L)) (some (.int .i64 K)) none).run Tryz.prog W = .ok (.slice A' ((l.take hi).drop lo).length c') W) ∧ ((l.take hi).drop lo).length ≤ c' ∧ Bq w A' ((l.take hi).drop lo):=by
 obtain ⟨i,hi',hz,hs,hb⟩:=info_parts infoB
 subst hK hL
 have hl : (l.take hi).length = hi:=by rw [List.length_take]; omega
 refine ⟨if c = lo then A else A.map (·.add (lo * 1)),c - lo,fun W => ?_,by rw [List.length_drop]; omega,(h.take hi hk).drop lo (by omega) (by omega)⟩
 have:=cut_mid (P:=Tryz.prog) 59 5 .i64 .i64 Tryz.underlying59 hi' 1 hs A l.length c (lo : Int) (hi : Int) (by omega) (by omega) (by omega) hc W
 rw [List.length_drop,hl]
 simpa only [Int.toNat_natCast] using this
set_option maxRecDepth 100000 in
theorem isMarker_no (w : World) (A : Option Addr) (l : List UInt8) (c : Nat) (h : Bq w A l) (hc : l.length ≤ c) (hp : Lib.hasPrefix l mk1 = false) :
  Calls Tryz.prog 67 #[.slice A l.length c] w fun e w' => e = .returned (.tuple #[.string ⟨#[]⟩,.slice none 0 0]) ∧ Below w.heap.size w w':=by
 go_enter Tryz.func67,Tryz.ntmps67
 have H:=Aside0.mk h
 have HP:=Aside0.mk hp
 clear h hp
 go_wp2_with fail
 refine (marker_calls w).mono ?_
 rintro e w1 ⟨A2,c2,rfl,hc2,h2,hb2⟩
 have H1:=Aside0.mk (hasPrefix_calls w1 A A2 l mk1 c 3 c2 rfl hc (H.out.below hb2) h2)
 have HB:=Aside0.mk hb2
 clear h2 hb2
 go_wp2_with fail
 refine H1.out.mono ?_
 rintro e w2 ⟨rfl,rfl⟩
 rw [HP.out]
 clear H1
 go_wp2
 refine bodyPost_ret (v:=.tuple #[.string ⟨#[]⟩,.slice none 0 0]) ?_ rfl ⟨rfl,HB.out⟩
 simp [results,Tryz.results67,go_sem]
def mkLine (nm : List UInt8) : List UInt8:=mk1 ++ nm ++ mk2
structure NameOk (nm : List UInt8) : Prop where
 ne : nm ≠ []
 lf : (10 : UInt8) ∉ nm
 asc : ∀ b ∈ nm,b.toNat < 128
 trim : Lib.trimSpace nm = nm
 sz : nm.length ≤ 1048576
theorem indexByte_none (l : List UInt8) (h : (10 : UInt8) ∉ l) (r : List UInt8) : Lib.indexByte (l ++ 10 :: r) 10 = (l.length : Int):=by
 induction l with
 | nil => rfl
 | cons b t ih =>
  have hb : (b == (10 : UInt8)) = false:=beq_eq_false_iff_ne.mpr (fun e => h (by simp [e]))
  have:=ih (fun e => h (by simp [e]))
  rw [List.cons_append,Lib.indexByte,hb,this]
  have : ((t.length : Int) == -1) = false:=beq_eq_false_iff_ne.mpr (by omega)
  simp [this]
set_option maxHeartbeats 1000000 in
set_option maxRecDepth 100000 in
theorem isMarker_yes (w0 w : World) (hw0 : Below w0.heap.size w0 w) (A : Option Addr) (nm rest : List UInt8) (c : Nat) (hn : NameOk nm) (h0 : Bq w0 A (mkLine nm ++ 10 :: rest)) (hc : (mkLine nm ++ 10 :: rest).length ≤ c) (hb : (mkLine nm ++ 10 :: rest).length ≤ 281474976710656) (hT : spTab w) :
  Calls Tryz.prog 67 #[.slice A (mkLine nm ++ 10 :: rest).length c] w fun e w' => ∃ A' c',e = .returned (.tuple #[.string (mkB nm),.slice A' rest.length c']) ∧ rest.length ≤ c' ∧ Bq w0 A' rest ∧ Below w.heap.size w w':=by
 have h:=h0.below hw0
 obtain ⟨l,hl⟩ : ∃ l,l = mkLine nm ++ 10 :: rest:=⟨_,rfl⟩
 have hp1 : Lib.hasPrefix l mk1 = true:=by
  rw [hl]; unfold mkLine Lib.hasPrefix
  rw [List.append_assoc,List.append_assoc,List.isPrefixOf_iff_prefix]
  exact List.prefix_append _ _
 have hlf : (10 : UInt8) ∉ mkLine nm:=by
  unfold mkLine mk1 mk2
  intro e
  simp only [List.mem_append] at e
  rcases e with (e | e) | e
  ·revert e; decide
  ·exact hn.lf e
  ·revert e; decide
 have hi : Lib.indexByte l 10 = ((mkLine nm).length : Int):=by rw [hl]; exact indexByte_none _ hlf _
 have hll : (mkLine nm).length = nm.length + 6:=by simp [mkLine,mk1,mk2]
 obtain ⟨m,hm⟩ : ∃ m,m = (mkLine nm).length:=⟨_,rfl⟩
 have htk : l.take m = mkLine nm:=by rw [hl,hm,List.take_left]
 have hdr : l.drop (m + 1) = rest:=by rw [hl,hm]; simp
 have hlen : l.length = m + 1 + rest.length:=by rw [hl,hm]; simp; omega
 rw [← hl] at h h0 hc hb ⊢
 rw [← hm] at hi hll
 have hlast : l[m - 1]? = some 45:=by
  have e1 : (l.take m)[m - 1]? = some 45:=by
   rw [htk]
   have e2 : mkLine nm = (mk1 ++ nm ++ [32,45]) ++ [45]:=by simp [mkLine,mk2]
   rw [e2,List.getElem?_append_right (by simp [mk1]; omega)]
   have : m - 1 - (mk1 ++ nm ++ [32,45]).length = 0:=by simp [mk1]; omega
   rw [this]; rfl
  rwa [List.getElem?_take,if_pos (by omega)] at e1
 have hp2 : Lib.hasSuffix (l.take m) mk2 = true:=by
  rw [htk]; unfold mkLine Lib.hasSuffix
  rw [List.isSuffixOf_iff_suffix]
  exact List.suffix_append _ _
 have hmid : ((l.take m).take (m - 3)).drop 3 = nm:=by
  rw [htk]
  unfold mkLine
  rw [List.take_append_of_le_length (by simp [mk1]; omega),List.take_of_length_le (by simp [mk1]; omega)]
  rfl
 go_enter Tryz.func67,Tryz.ntmps67
 have H:=Aside0.mk h
 have H0:=Aside0.mk h0
 have HP1:=Aside0.mk hp1
 have HP2:=Aside0.mk hp2
 have HI:=Aside0.mk hi
 have HLen:=Aside0.mk hlen
 have HTk:=Aside0.mk htk
 have HDr:=Aside0.mk hdr
 have HMid:=Aside0.mk hmid
 have HLast:=Aside0.mk hlast
 have HN:=Aside0.mk hn
 have HT:=Aside0.mk hT
 have hm3 : 3 ≤ m - 3:=by have:=List.length_pos_iff.2 hn.ne; omega
 have hml : m + 1 ≤ l.length:=by omega
 clear h h0 hp1 hp2 hi hlen htk hdr hmid hlast hn hT hl hm hll hlf
 go_wp2_with fail
 refine (marker_calls w).mono ?_
 rintro e w1 ⟨A2,c2,rfl,hc2,h2,hb2⟩
 have H1:=Aside0.mk (hasPrefix_calls w1 A A2 l mk1 c 3 c2 rfl hc (H.out.below hb2) h2)
 have HB1:=Aside0.mk hb2
 clear h2 hb2
 go_wp2_with fail
 refine H1.out.mono ?_
 rintro e w2 ⟨rfl,rfl⟩
 rw [HP1.out]
 clear H1
 have H2:=Aside0.mk (indexByte_calls w2 A l c (by omega) (H.out.below HB1.out))
 go_wp2_with fail
 refine H2.out.mono ?_
 rintro e w3 ⟨rfl,rfl⟩
 rw [HI.out]
 clear H2
 obtain ⟨ad,hA,hcell⟩:=(H.out.below HB1.out).cell _ _ HLast.out
 subst hA
 obtain ⟨K1,hK1⟩ : ∃ K : Int,K = (m : Int) + 1:=⟨_,rfl⟩
 have w1 : IntKind.i64.wrap ((m : Int) + 1) = K1:=by rw [IntKind.wrap_i64]; omega
 obtain ⟨z,hz⟩ : ∃ z,z = m - 1:=⟨_,rfl⟩
 have w2 : IntKind.i64.wrap ((m : Int) - 1) = (z : Int):=by rw [IntKind.wrap_i64]; omega
 obtain ⟨K3,hK3⟩ : ∃ K : Int,K = (m : Int) - 3:=⟨_,rfl⟩
 have w4 : IntKind.i64.wrap ((m : Int) - 3) = K3:=by rw [IntKind.wrap_i64]; omega
 have k1:=(cutTo (H.out.below HB1.out) hc m (by omega) (m : Int) rfl).1
 obtain ⟨A4,c4,k2,hc4,hq4⟩:=cutFrom H0.out hc (m + 1) (by omega) K1 (by omega)
 have u1 : (z : Int) < (m : Int):=by omega
 have u2 : z < m:=by omega
 rw [← hz] at hcell
 rw [HDr.out] at k2 hc4 hq4
 have HQ4:=Aside0.mk hq4
 have HZ:=Aside0.mk hz.symm
 have HK3:=Aside0.mk hK3
 clear hq4 hK1 hK3 hz
 go_wp2_with fail
 clear hcell
 go_quiet (fail)
 generalize hw4 : w3.drewN nq = w4
 have HB4:=Aside0.mk (by rw [← hw4]; exact pw_below_drewN HB1.out nq : Below w.heap.size w w4)
 clear HB1 hw4
 obtain ⟨ad2,hA,hcell⟩:=(H.out.below HB4.out).cell _ _ HLast.out
 injection hA with hA
 subst hA
 rw [show m - 1 = z from HZ.out] at hcell
 go_wp2_with fail
 refine (markerEnd_calls w4).mono ?_
 rintro e w5 ⟨A5,c5,rfl,hc5,h5,hb5⟩
 have htl : (l.take m).length = m:=by rw [List.length_take]; omega
 have hqm : Bq w5 (some ad) (l.take m):=((H.out.below HB4.out).below hb5).take m (by omega)
 have H3:=Aside0.mk (hasSuffix_calls w5 (some ad) A5 (l.take m) mk2 c 3 c5 rfl (by omega) (by omega) hqm h5)
 rw [htl] at H3
 have HB5:=Aside0.mk (HB4.out.trans (hb5.mono HB4.out.size))
 have HQm:=Aside0.mk hqm
 clear h5 hb5 HB4 hcell hqm
 go_wp2_with fail
 refine H3.out.mono ?_
 rintro e w6 ⟨rfl,rfl⟩
 rw [HP2.out]
 clear H3
 go_wp2_with fail
 refine (marker_calls w6).mono ?_
 rintro e w7 ⟨A7,c7,rfl,hc7,h7,hb7⟩
 have HB7:=Aside0.mk (HB5.out.trans (hb7.mono HB5.out.size))
 have HM7:=Aside0.mk (HQm.out.below hb7)
 clear h7 hb7 HB5 HQm
 go_wp2_with fail
 refine (markerEnd_calls w7).mono ?_
 rintro e w8 ⟨A8,c8,rfl,hc8,h8,hb8⟩
 have HB8:=Aside0.mk (HB7.out.trans (hb8.mono HB7.out.size))
 have hm8:=HM7.out.below hb8
 have hk3:=HK3.out
 obtain ⟨A9,c9,k3,hc9,hq9⟩:=cutMid hm8 (c:=c) (by omega) 3 (m - 3) hm3 (by omega) 3 K3 rfl (by omega)
 have h3K : (3 : Int) ≤ K3:=by omega
 rw [HMid.out] at k3 hc9 hq9
 rw [htl] at k3
 have k4:=hq9.str (c:=c9)
 clear h8 hb8 HB7 HM7 hm8 hq9 hk3
 go_wp2_with fail
 have hts:=Tryz.strings_TrimSpace (mkB nm) w8 (by rw [mkB_size]; have:=HN.out.sz; omega) (fun j b hj => HN.out.asc b (by rw [mkB_list] at hj; exact List.mem_of_getElem? hj)) (HT.out w8 HB8.out)
 rw [mkB_list,HN.out.trim] at hts
 refine hts.mono ?_
 rintro e w9 ⟨rfl,rfl⟩
 have HB9:=Aside0.mk (bytes_below HB8.out HB8.out.size 5 (mkB nm))
 clear hts k3 k4
 go_wp2_with fail
 refine bodyPost_ret (v:=.tuple #[.string (mkB nm),.slice A4 rest.length c4]) ?_ rfl ⟨A4,c4,rfl,hc4,HQ4.out,HB9.out⟩
 simp [results,Tryz.results67,go_sem,mkB]
end Go.Proofs.YtplbifmjnanceaaGreatDoor
end
section
namespace Go.Proofs.YtplbifmjnanceaaGreatDoor
open Go.RowKit Go.Proofs.YtplbifmjnanceaaGreatDoorW.PrintWords Go.Proofs.YtplbifmjnanceaaGreatDoorW.PrintLast Go.Proofs.YtplbifmjnanceaaGreatDoorW.PrintMore
set_option linter.unusedVariables false
set_option linter.unusedSimpArgs false
theorem lit26 (u : Nat → Value) : FrOf 26 u = [u 0,u 1,u 2,u 3,u 4,u 5,u 6,u 7,u 8,u 9,u 10,u 11,u 12,u 13,u 14,u 15,u 16,u 17,u 18,u 19,u 20,u 21,u 22,u 23,u 24,u 25]:=rfl
theorem mkB_toList2 (l : List UInt8) : (mkB l).toList = l:=by rw [ByteArray.toList_eq,mkB_list]
def At (l p : List UInt8) (i : Nat) : Prop:=(l.drop i).take p.length = p
set_option maxHeartbeats 1000000 in
set_option maxRecDepth 100000 in
theorem zzIndex_calls (w : World) (A : Option Addr) (l : List UInt8) (c : Nat) (p : ByteArray) (h : Bq w A l) (hc : l.length ≤ c) (hb : l.length ≤ 281474976710656) (hp : p.size ≤ 1048576) :
  Calls Tryz.prog 68 #[.slice A l.length c,.string p] w fun e w' => ∃ r : Int,e = .returned (.int .i64 r) ∧ w' = w ∧
   ((∃ j : Nat,r = (j : Int) ∧ j + p.size ≤ l.length ∧ At l p.data.toList j ∧ ∀ i,i < j → ¬ At l p.data.toList i) ∨ (r = -1 ∧ ∀ i,i + p.size ≤ l.length → ¬ At l p.data.toList i)):=by
 go_enter Tryz.func68,Tryz.ntmps68
 have H:=Aside0.mk h
 clear h
 go_wp2
 refine loopG 26 (fun g u wc => ∃ i : Nat,g = l.length + 1 - i ∧ u 0 = .slice A l.length c ∧ u 1 = .string p ∧ u 5 = .int .i64 i ∧ (∀ i',i' < i → ¬ At l p.data.toList i') ∧ i ≤ l.length + 1 ∧ wc = w) (l.length + 1) rfl ?atStart ?round
 case atStart => exact ⟨0,rfl,rfl,rfl,rfl,fun i' hi => absurd hi (Nat.not_lt_zero _),Nat.zero_le _,rfl⟩
 case round =>
  rintro g u W ⟨i,hg,h0,h1,h5,hno,hi,rfl⟩ J K hJ hK
  rw [lit26]
  simp only [h0,h1,h5]
  have HNo:=Aside0.mk hno
  clear hno h0 h1 h5
  obtain ⟨K1,hK1⟩ : ∃ K : Int,K = (i : Int) + (p.size : Int):=⟨_,rfl⟩
  have w1 : IntKind.i64.wrap ((i : Int) + (p.size : Int)) = K1:=by rw [IntKind.wrap_i64]; omega
  by_cases ci : i + p.size ≤ l.length
  ·have u1 : K1 ≤ (l.length : Int):=by omega
   obtain ⟨A2,c2,k2,hc2,hq2⟩:=cutMid H.out hc i (i + p.size) (by omega) ci (i : Int) K1 rfl (by omega)
   have e1 : (l.take (i + p.size)).drop i = (l.drop i).take p.size:=by
    rw [List.drop_take]; congr 1; omega
   have u2 : (i : Int) ≤ K1:=by omega
   have k3:=hq2.str (c:=c2)
   have HE:=Aside0.mk e1
   obtain ⟨q,hq⟩ : ∃ q,q = (l.take (i + p.size)).drop i:=⟨_,rfl⟩
   rw [← hq] at k2 k3
   have HQ:=Aside0.mk hq
   have w3 : IntKind.i64.wrap ((i : Int) + 1) = (i : Int) + 1:=by rw [IntKind.wrap_i64]; omega
   have hps : p.data.toList.length = p.size:=rfl
   clear hq2 e1 hq hK1
   by_cases cq : q = p.data.toList
   ·have u3 : ((mkB q).toList == p.toList) = true:=by rw [cq,mkB_data]; exact beq_self_eq_true _
    have HC:=Aside0.mk cq
    clear cq
    go_wp2
    go_ret
    refine ⟨(i : Int),rfl,rfl,Or.inl ⟨i,rfl,ci,?_,HNo.out⟩⟩
    show (l.drop i).take p.data.toList.length = p.data.toList
    rw [hps,← HE.out,← HQ.out,HC.out]
   ·have u3 : ((mkB q).toList == p.toList) = false:=by
     apply beq_eq_false_iff_ne.mpr
     rw [mkB_toList2,ByteArray.toList_eq]
     exact cq
    have HC:=Aside0.mk cq
    clear cq
    go_wp2
    refine Met.intro (hJ (l.length + 1 - (i + 1)) _ _ rfl (by omega) ⟨i + 1,rfl,rfl,rfl,rfl,?_,by omega,rfl⟩)
    intro i' hi'
    rcases Nat.lt_or_ge i' i with c' | c'
    ·exact HNo.out i' c'
    ·obtain rfl : i' = i:=by omega
     intro hat
     apply HC.out
     rw [HQ.out,HE.out]
     exact hat
  ·have u1 : decide (K1 ≤ (l.length : Int)) = false:=decide_eq_false (by omega)
   have u2 : ¬ K1 ≤ (l.length : Int):=by omega
   clear hK1
   go_wp2
   go_ret
   refine ⟨-1,rfl,rfl,Or.inr ⟨rfl,fun i' hi' => HNo.out i' (by omega)⟩⟩
end Go.Proofs.YtplbifmjnanceaaGreatDoor
end
section
namespace Go.Proofs.YtplbifmjnanceaaGreatDoor
open Go.RowKit Go.Proofs.YtplbifmjnanceaaGreatDoorW.PrintWords Go.Proofs.YtplbifmjnanceaaGreatDoorW.PrintLast Go.Proofs.YtplbifmjnanceaaGreatDoorW.PrintMore
set_option linter.unusedVariables false
set_option linter.unusedSimpArgs false
theorem lit33 (u : Nat → Value) : FrOf 33 u = [u 0,u 1,u 2,u 3,u 4,u 5,u 6,u 7,u 8,u 9,u 10,u 11,u 12,u 13,u 14,u 15,u 16,u 17,u 18,u 19,u 20,u 21,u 22,u 23,u 24,u 25,u 26,u 27,u 28,u 29,u 30,u 31,u 32]:=rfl
theorem spTab.on {w w1 : World} (h : spTab w) (hb : Below w.heap.size w w1) : spTab w1:=fun w' hb' => h w' (hb.trans (hb'.mono hb.size))
def sepB : ByteArray:=⟨#[10,45,45,32]⟩
theorem at_sep {l : List UInt8} {i : Nat} (h : At l sepB.data.toList i) : l[i]? = some 10 ∧ l[i + 1]? = some 45:=by
 unfold At at h
 have h0:=congrArg (fun l => l[0]?) h
 have h1:=congrArg (fun l => l[1]?) h
 simp [sepB] at h0 h1
 exact ⟨h0,h1⟩
theorem no_prefix {l : List UInt8} (h : ∀ b,l[0]? = some b → b ≠ 45) : Lib.hasPrefix l mk1 = false:=by
 unfold Lib.hasPrefix mk1
 cases l with
 | nil => rfl
 | cons b t =>
  have hb:=h b rfl
  rw [List.isPrefixOf]
  have : ((45 : UInt8) == b) = false:=beq_eq_false_iff_ne.mpr (fun e => hb e.symm)
  rw [this]; rfl
set_option maxHeartbeats 1000000 in
set_option maxRecDepth 100000 in
theorem find_none (w : World) (A : Option Addr) (l : List UInt8) (c : Nat) (h : Bq w A l) (hc : l.length ≤ c) (hb : l.length ≤ 281474976710656) (hl : (45 : UInt8) ∉ l) (hn : NL l) :
  Calls Tryz.prog 48 #[.slice A l.length c] w fun e w' => e = .returned (.tuple #[.slice A l.length c,.string ⟨#[]⟩,.slice none 0 0]) ∧ Below w.heap.size w w':=by
 go_enter Tryz.func48,Tryz.ntmps48
 obtain ⟨A2,c2,k2,hc2,hq2⟩:=cutFrom h hc 0 (Nat.zero_le _) 0 rfl
 rw [List.drop_zero] at k2 hc2 hq2
 have H1:=Aside0.mk (isMarker_no w A2 l c2 hq2 hc2 (no_prefix (fun b hb e => hl (by subst e; exact List.mem_of_getElem? hb))))
 have H:=Aside0.mk h
 have HQ2:=Aside0.mk hq2
 have HNl:=Aside0.mk hn
 clear h hq2 hn
 go_wp2
 refine wp_loop_rounds 1 ?_
 rw [rounds_succ]
 go_wp2_with fail
 refine H1.out.mono ?_
 rintro e w1 ⟨rfl,hb1⟩
 have HB1:=Aside0.mk hb1
 have H3:=Aside0.mk (zzIndex_calls w1 A2 l c2 sepB (HQ2.out.below hb1) hc2 hb (by decide))
 have H4:=Aside0.mk (fixNL_same w1 A l c (H.out.below hb1) hc hb HNl.out)
 clear hb1 H1
 go_wp2_with fail
 refine H3.out.mono ?_
 rintro e w2 ⟨r,rfl,rfl,hr⟩
 have hr1 : r = -1:=by
  rcases hr with ⟨j,_,_,hat,_⟩ | ⟨e,_⟩
  ·exact absurd (List.mem_of_getElem? (at_sep hat).2) hl
  ·exact e
 subst hr1
 clear hr H3
 go_wp2_with fail
 refine H4.out.mono ?_
 rintro e w3 ⟨rfl,rfl⟩
 clear H4
 go_wp2
 refine bodyPost_ret (v:=.tuple #[.slice A l.length c,.string ⟨#[]⟩,.slice none 0 0]) ?_ rfl ⟨rfl,HB1.out⟩
 simp [results,Tryz.results48,go_sem]
set_option maxHeartbeats 1000000 in
set_option maxRecDepth 100000 in
theorem find_some (w0 w : World) (hw0 : Below w0.heap.size w0 w) (A : Option Addr) (pre nm rest : List UInt8) (c : Nat) (hnm : NameOk nm) (h : Bq w0 A (pre ++ (mkLine nm ++ 10 :: rest))) (hc : (pre ++ (mkLine nm ++ 10 :: rest)).length ≤ c) (hb : (pre ++ (mkLine nm ++ 10 :: rest)).length ≤ 281474976710656) (hl : (45 : UInt8) ∉ pre) (hn : NL pre) (hT : spTab w) :
  Calls Tryz.prog 48 #[.slice A (pre ++ (mkLine nm ++ 10 :: rest)).length c] w fun e w' => ∃ A' c',e = .returned (.tuple #[.slice A pre.length c,.string (mkB nm),.slice A' rest.length c']) ∧ pre.length ≤ c ∧ rest.length ≤ c' ∧ Bq w0 A pre ∧ Bq w0 A' rest ∧ Below w.heap.size w w':=by
 obtain ⟨l,hll⟩ : ∃ l,l = pre ++ (mkLine nm ++ 10 :: rest):=⟨_,rfl⟩
 rw [← hll] at h hc hb ⊢
 have hpl : pre.length ≤ l.length:=by rw [hll]; simp
 have htk : l.take pre.length = pre:=by rw [hll,List.take_left]
 have hdp : l.drop pre.length = mkLine nm ++ 10 :: rest:=by rw [hll,List.drop_left]
 go_enter Tryz.func48,Tryz.ntmps48
 have H:=Aside0.mk h
 have HNl:=Aside0.mk hn
 have HNm:=Aside0.mk hnm
 have HT:=Aside0.mk hT
 have HTk:=Aside0.mk htk
 have HDp:=Aside0.mk hdp
 have HLL:=Aside0.mk hll
 clear h hn hnm hT htk hdp hll
 go_wp2
 refine loopG 33 (fun g u wc => ∃ i : Nat,((g = 1 ∧ i = 0 ∧ pre ≠ []) ∨ (g = 0 ∧ i = pre.length)) ∧ u 0 = .slice A l.length c ∧ u 5 = .int .i64 i ∧ Below w.heap.size w wc) (if pre = [] then 0 else 1) rfl ?atStart ?round
 case atStart =>
  refine ⟨0,?_,rfl,rfl,Below.refl _ _⟩
  by_cases e : pre = []
  ·right; simp [e]
  ·left; simp [e]
 case round =>
  rintro g u W ⟨i,hcase,h0,h5,hB⟩ J K hJ hK
  rw [lit33]
  simp only [h0,h5]
  have HB:=Aside0.mk hB
  clear h0 h5 hB
  have hil : i ≤ l.length:=by rcases hcase with ⟨_,h,_⟩ | ⟨_,h⟩ <;> omega
  obtain ⟨A2,c2,k2,hc2,hq2⟩:=cutFrom H.out hc i hil (i : Int) rfl
  have HQ2:=Aside0.mk hq2
  have HC2:=Aside0.mk hc2
  have HK2:=Aside0.mk k2
  clear hq2 hc2 k2
  rcases hcase with ⟨rfl,rfl,hne⟩ | ⟨rfl,rfl⟩
  ·have hq:=HQ2.out
   have hc2:=HC2.out
   have k2:=HK2.out
   rw [List.drop_zero] at hq hc2 k2
   have hp0 : 0 < pre.length:=List.length_pos_iff.2 hne
   have hnp : Lib.hasPrefix l mk1 = false:=no_prefix (fun b hb e => by
    subst e
    rw [HLL.out,List.getElem?_append_left hp0] at hb
    exact hl (List.mem_of_getElem? hb))
   have H1:=Aside0.mk (isMarker_no W A2 l c2 (hq.below (hw0.trans (HB.out.mono hw0.size))) hc2 hnp)
   have HQ3:=Aside0.mk hq
   clear hq HQ2 HC2 HK2 hnp
   rw [show ((0 : Nat) : Int) = 0 from rfl] at k2 ⊢
   go_wp2_with fail
   refine H1.out.mono ?_
   rintro e w1 ⟨rfl,hb1⟩
   have HB1:=Aside0.mk (HB.out.trans (hb1.mono HB.out.size))
   have H3:=Aside0.mk (zzIndex_calls w1 A2 l c2 sepB (HQ3.out.below (hw0.trans (HB1.out.mono hw0.size))) hc2 hb (by decide))
   clear hb1 H1 HQ3
   go_wp2_with fail
   refine H3.out.mono ?_
   rintro e w2 ⟨r,rfl,rfl,hr⟩
   have hat : At l sepB.data.toList (pre.length - 1):=by
    have hlast : pre.getLast? = some 10:=HNl.out.resolve_left hne
    obtain ⟨q,hq⟩:=List.getLast?_eq_some_iff.1 hlast
    show (l.drop (pre.length - 1)).take 4 = [10,45,45,32]
    rw [HLL.out,hq]
    have e1 : (q ++ [10]).length - 1 = q.length:=by simp
    rw [e1,List.append_assoc,List.drop_left]
    rfl
   have hr1 : r = ((pre.length - 1 : Nat) : Int):=by
    rcases hr with ⟨j,rfl,hjl,hj,hno⟩ | ⟨_,hno⟩
    ·rcases Nat.lt_trichotomy j (pre.length - 1) with c1 | c1 | c1
     ·exfalso
      have:=(at_sep hj).2
      rw [HLL.out,List.getElem?_append_left (by omega)] at this
      exact hl (List.mem_of_getElem? this)
     ·rw [c1]
     ·exact absurd hat (hno _ c1)
    ·exfalso
     refine hno _ ?_ hat
     have e1:=congrArg List.length HLL.out
     have e2 : sepB.size = 4:=rfl
     simp [mkLine,mk1,mk2] at e1
     omega
   have u1 : ¬ r < 0:=by omega
   have u1b : decide (r < 0) = false:=decide_eq_false u1
   obtain ⟨K1,hK1⟩ : ∃ K : Int,K = r + 1:=⟨_,rfl⟩
   have w1 : IntKind.i64.wrap (r + 1) = K1:=by rw [IntKind.wrap_i64]; omega
   have w2 : IntKind.i64.wrap (0 + K1) = ((pre.length : Nat) : Int):=by rw [IntKind.wrap_i64]; omega
   have w3 : IntKind.i64.wrap K1 = ((pre.length : Nat) : Int):=by rw [IntKind.wrap_i64]; omega
   clear hr hat hK1 hr1 H3
   go_wp2
   exact Met.intro (hJ 0 _ _ rfl (by omega) ⟨pre.length,Or.inr ⟨rfl,rfl⟩,rfl,rfl,HB1.out⟩)
  ·have hq:=HQ2.out
   have hc2:=HC2.out
   have k2:=HK2.out
   rw [HDp.out] at hq hc2 k2
   have hlen2 : (mkLine nm ++ 10 :: rest).length ≤ 281474976710656:=by
    have:=congrArg List.length HLL.out
    rw [List.length_append] at this
    omega
   have h1:=isMarker_yes w0 W (hw0.trans (HB.out.mono hw0.size)) A2 nm rest c2 HNm.out hq hc2 hlen2 (HT.out.on HB.out)
   obtain ⟨l2,hl2⟩ : ∃ l2,l2 = mkLine nm ++ 10 :: rest:=⟨_,rfl⟩
   rw [← hl2] at k2 h1 hc2
   have H1:=Aside0.mk h1
   clear hl2 hlen2 h1
   have he : ((mkB nm).toList == []) = false:=by
    rw [mkB_toList2]
    exact beq_eq_false_iff_ne.mpr HNm.out.ne
   have HE:=Aside0.mk he
   clear he
   clear hq HQ2 HC2 HK2
   go_wp2_with fail
   refine H1.out.mono ?_
   rintro e w1 ⟨A3,c3,rfl,hc3,hq3,hb1⟩
   have HB1:=Aside0.mk (HB.out.trans (hb1.mono HB.out.size))
   have HQ3:=Aside0.mk hq3
   have HC3:=Aside0.mk hc3
   have k3:=(cutTo H.out hc pre.length hpl (pre.length : Int) rfl).1
   have hqp:=H.out.take pre.length hpl
   rw [HTk.out] at hqp
   have HQP:=Aside0.mk hqp
   have e1:=HE.out
   clear hb1 hq3 hqp H1
   go_wp2_with fail
   refine bodyPost_ret (v:=.tuple #[.slice A pre.length c,.string (mkB nm),.slice A3 rest.length c3]) ?_ rfl ⟨A3,c3,rfl,by omega,HC3.out,HQP.out,HQ3.out,HB1.out⟩
   simp [results,Tryz.results48,go_sem]
end Go.Proofs.YtplbifmjnanceaaGreatDoor
end
