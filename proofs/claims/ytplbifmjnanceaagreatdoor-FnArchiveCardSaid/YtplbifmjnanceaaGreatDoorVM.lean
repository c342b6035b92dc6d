/- A rule read back from its words. -/
import Derived.Test.YtplbifmjnanceaaGreatDoorVL
section
namespace Go.Proofs.YtplbifmjnanceaaGreatDoor
open Go.RowKit Go.Proofs.YtplbifmjnanceaaGreatDoorW.PrintWords Go.Proofs.YtplbifmjnanceaaGreatDoorW.PrintLast Go.Proofs.YtplbifmjnanceaaGreatDoorW.PrintMore
open Go.Proofs.YtplbifmjnanceaaGreatDoor.PFnArchive
set_option linter.unusedVariables false
set_option linter.unusedSimpArgs false
structure PSt where
 ins : List ByteArray
 cs : List S56
 cmd : List ByteArray
 go : Bool
def semi : ByteArray:=mkB [59]
def stp (cmds : List S56) (st : PSt) (x : ByteArray) : Option PSt :=
 if x = semi then (if st.go = true then (match cmds[st.cs.length]? with
  | some c => if st.cmd = (cwords c).map mkB then some ⟨st.ins,st.cs ++ [c],[],true⟩ else none
  | none => none) else some ⟨st.ins,st.cs,st.cmd,true⟩)
 else if st.go = true then some ⟨st.ins,st.cs,st.cmd ++ [x],true⟩ else some ⟨st.ins ++ [x],st.cs,st.cmd,false⟩
def runS (cmds : List S56) : PSt → List ByteArray → Option PSt
 | st,[] => some st
 | st,x :: t => (stp cmds st x).bind fun s => runS cmds s t
theorem runS_append (cmds : List S56) (a b : List ByteArray) : ∀ st,runS cmds st (a ++ b) = (runS cmds st a).bind fun s => runS cmds s b:=by
 induction a with
 | nil => intro st; rfl
 | cons x t ih =>
  intro st
  show (stp cmds st x).bind (fun s => runS cmds s (t ++ b)) = _
  cases h : stp cmds st x with
  | none => simp [runS,h]
  | some s => simp [runS,h,ih s]
theorem runS_step (cmds : List S56) (M : List ByteArray) (s0 f : PSt) (h : runS cmds s0 M = some f) (i : Nat) (x : ByteArray) (hx : M[i]? = some x) (st : PSt) (hs : runS cmds s0 (M.take i) = some st) : ∃ st',stp cmds st x = some st' ∧ runS cmds s0 (M.take (i + 1)) = some st':=by
 have h1 : M.take (i + 1) = M.take i ++ [x]:=by rw [List.take_add_one,hx]; rfl
 have h2:=h
 rw [← List.take_append_drop (i + 1) M,runS_append,h1,runS_append,hs] at h2
 rw [h1,runS_append,hs]
 simp only [Option.bind_some,runS] at h2 ⊢
 cases h3 : stp cmds st x with
 | none => rw [h3] at h2; cases h2
 | some st' => exact ⟨st',rfl,rfl⟩
theorem runS_len (cmds : List S56) (L : List ByteArray) : ∀ (s st : PSt),runS cmds s L = some st → st.ins.length + st.cs.length + st.cmd.length ≤ s.ins.length + s.cs.length + s.cmd.length + L.length:=by
 induction L with
 | nil =>
  intro s st h
  injection h with h
  subst h
  simp
 | cons x t ih =>
  intro s st h
  change (stp cmds s x).bind _ = _ at h
  cases h1 : stp cmds s x with
  | none => rw [h1] at h; cases h
  | some s' =>
   rw [h1] at h
   have h2:=ih s' st h
   have h3 : s'.ins.length + s'.cs.length + s'.cmd.length ≤ s.ins.length + s.cs.length + s.cmd.length + 1:=by
    unfold stp at h1
    split at h1
    ·split at h1
     ·split at h1
      ·split at h1
       ·injection h1 with h1; subst h1; simp; omega
       ·cases h1
      ·cases h1
     ·injection h1 with h1; subst h1; simp
    ·split at h1 <;> (injection h1 with h1; subst h1; simp; omega)
   rw [List.length_cons]
   omega
theorem runS_ins (cmds : List S56) (L : List ByteArray) : ∀ (i0 : List ByteArray),(∀ s ∈ L,s ≠ semi) → runS cmds ⟨i0,[],[],false⟩ L = some ⟨i0 ++ L,[],[],false⟩:=by
 induction L with
 | nil => intro i0 _; simp [runS]
 | cons x t ih =>
  intro i0 h
  show (stp cmds _ x).bind _ = _
  have hx : ¬ x = semi:=h x List.mem_cons_self
  have e : stp cmds ⟨i0,[],[],false⟩ x = some ⟨i0 ++ [x],[],[],false⟩:=by
   unfold stp
   rw [if_neg hx,if_neg (show ¬ (false = true) by decide)]
  rw [e]
  show runS cmds _ t = _
  rw [ih (i0 ++ [x]) (fun s hs => h s (List.mem_cons_of_mem _ hs))]
  simp
theorem runS_words (cmds done : List S56) (ins : List ByteArray) (L : List ByteArray) : ∀ (acc : List ByteArray),(∀ s ∈ L,s ≠ semi) → runS cmds ⟨ins,done,acc,true⟩ L = some ⟨ins,done,acc ++ L,true⟩:=by
 induction L with
 | nil => intro acc _; simp [runS]
 | cons x t ih =>
  intro acc h
  show (stp cmds _ x).bind _ = _
  have hx : ¬ x = semi:=h x List.mem_cons_self
  have e : stp cmds ⟨ins,done,acc,true⟩ x = some ⟨ins,done,acc ++ [x],true⟩:=by
   unfold stp
   rw [if_neg hx,if_pos rfl]
  rw [e]
  show runS cmds _ t = _
  rw [ih (acc ++ [x]) (fun s hs => h s (List.mem_cons_of_mem _ hs))]
  simp
theorem runS_cmds (ins : List ByteArray) (todo : List S56) : ∀ (done : List S56),(∀ c ∈ todo,∀ s ∈ (cwords c).map mkB,s ≠ semi) → runS (done ++ todo) ⟨ins,done,[],true⟩ (todo.flatMap fun c => (cwords c).map mkB ++ [semi]) = some ⟨ins,done ++ todo,[],true⟩:=by
 induction todo with
 | nil => intro done _; simp [runS]
 | cons c t ih =>
  intro done h
  rw [List.flatMap_cons,List.append_assoc,runS_append,runS_words _ _ _ _ _ (h c List.mem_cons_self)]
  simp only [Option.bind_some,List.nil_append,List.cons_append]
  show (stp _ _ semi).bind _ = _
  have e : stp (done ++ c :: t) ⟨ins,done,(cwords c).map mkB,true⟩ semi = some ⟨ins,done ++ [c],[],true⟩:=by
   unfold stp
   rw [if_pos rfl,if_pos rfl]
   simp
  rw [e]
  have h2:=ih (done ++ [c]) (fun c' hc => h c' (List.mem_cons_of_mem _ hc))
  rw [List.append_assoc] at h2
  exact h2
theorem shift_semi (L : List S56) : (L.flatMap fun c => [59] :: cwords c) ++ [[59]] = [59] :: L.flatMap fun c => cwords c ++ [[59]]:=by
 induction L with
 | nil => rfl
 | cons c t ih =>
  rw [List.flatMap_cons,List.append_assoc,ih]
  simp
theorem runS_all (x : S31) (h1 : ∀ s ∈ x.f1,s ≠ semi) (h2 : ∀ c ∈ x.f4,∀ s ∈ (cwords c).map mkB,s ≠ semi) : runS x.f4 ⟨[],[],[],false⟩ ((rtail x ++ [[59]]).map mkB) = some ⟨x.f1,x.f4,[],true⟩:=by
 have e : (rtail x ++ [[59]]).map mkB = x.f1 ++ semi :: x.f4.flatMap fun c => (cwords c).map mkB ++ [semi]:=by
  unfold rtail
  rw [List.append_assoc,shift_semi,List.map_append,List.map_map,List.map_cons,List.map_flatMap]
  have e1 : x.f1.map (mkB ∘ fun s => s.data.toList) = x.f1:=by
   conv => rhs; rw [← List.map_id x.f1]
   exact List.map_congr_left (fun s _ => mkB_data s)
  rw [e1]
  simp [semi]
 rw [e,runS_append,runS_ins _ _ _ h1]
 simp only [Option.bind_some,List.nil_append]
 show (stp _ _ semi).bind _ = _
 have e2 : stp x.f4 ⟨x.f1,[],[],false⟩ semi = some ⟨x.f1,[],[],true⟩:=by
  unfold stp
  rw [if_pos rfl,if_neg (show ¬ (false = true) by decide)]
 rw [e2]
 have h3:=runS_cmds x.f1 x.f4 [] h2
 simpa using h3
end Go.Proofs.YtplbifmjnanceaaGreatDoor
end
section
namespace Go.Proofs.YtplbifmjnanceaaGreatDoor
open Go.RowKit Go.Proofs.YtplbifmjnanceaaGreatDoorW.PrintWords Go.Proofs.YtplbifmjnanceaaGreatDoorW.PrintLast Go.Proofs.YtplbifmjnanceaaGreatDoorW.PrintMore
open Go.Proofs.YtplbifmjnanceaaGreatDoor.PFnArchive
set_option linter.unusedVariables false
set_option linter.unusedSimpArgs false
theorem rowsOf {w : World} {A : Addr} {xs : List ByteArray} (hl : xs.length ≤ 1000000) (h : ∀ (j : Nat) s,xs[j]? = some s → w.cell? (A.add j) = some (.string s)) : Kd.C Kd.string w (some A) xs.length xs:=by
 refine ⟨rfl,by omega,fun _ => ⟨A,rfl,fun j p hj => ⟨[.string p],rfl,rfl,fun i u hu => ?_⟩⟩⟩
 have hi : i = 0:=by
  have:=get_lt hu
  simp at this
  omega
 subst hi
 injection hu with hu
 subst hu
 rw [show j * Kd.string.sz + 0 = j by show j * 1 + 0 = j; omega]
 exact h j p hj
theorem own_str {w : World} {base : Nat} {ok : Nat → Prop} {v : Value} {xs : List ByteArray} (h : Kd.string.R 9 w base ok v xs) (hp : 0 < xs.length) :
  ∃ g c cur,v = .slice (some ⟨g,0,none⟩) xs.length c ∧ base ≤ g ∧ xs.length ≤ c ∧ w.heap[g]? = some (.cells cur 9 (0,0)) ∧ cur.size = c ∧ ∀ (i : Nat) s,xs[i]? = some s → cur[i]? = some (.string s):=by
 obtain ⟨inner,ho⟩:=Kd.R_own h
 obtain ⟨A,c',e1,hlc,hC⟩:=Kd.R_reads h
 rcases ho.2 with ⟨_,h0⟩ | ⟨g,cap,cur,hv,hb,hg,hn,hm,hs,ht⟩
 ·omega
 ·refine ⟨g,cap,cur,hv,hb,hn,hg,by rw [hs]; exact Nat.mul_one _,fun i s hi => ?_⟩
  rw [e1] at hv
  injection hv with hA _ _
  obtain ⟨ad,hA2,hc⟩:=rowS hC hi
  rw [hA] at hA2
  injection hA2 with hA2
  rw [← hA2,add_plain,blk_cell hg] at hc
  exact hc
set_option maxRecDepth 100000 in
theorem append_cut {ops : Array Oper} {rest : List Oper} {o : Oper} {a : Act} {Q : Exit → Act → World → Prop} {w0 W1 : World} (base : Nat) (hgd : o.guard = none) (s x : Operand)
  (ho : o.op = .call { callee:=.builtin .append,args:=#[s,x],argTypes:=#[28,28] }) (b off n cap g : Nat) (xs : List ByteArray) (p : ByteArray) (cur : Array Value)
  (hn : xs.length = n) (hnl : n ≤ 100000) (hs : a.eval s = .slice (some ⟨b,off,none⟩) n cap) (hh : W1.heap[b]? = some (.cells cur 9 (0,0))) (hcur : cur.size = off + cap) (hnc : n ≤ cap)
  (hxs : ∀ (j : Nat) q,xs[j]? = some q → cur[off + j]? = some (.string q))
  (hx : a.eval x = .slice (some ⟨g,0,none⟩) 1 1) (hg : W1.cell? ⟨g,0,none⟩ = some (.string p)) (hb : base ≤ b) (hB : Below base w0 W1)
  (hbase : base ≤ W1.heap.size)
  (h : ∀ A c' w',Kd.C Kd.string w' (some A) (xs ++ [p]).length (xs ++ [p]) → n + 1 ≤ c' → (A.block = b ∨ W1.heap.size ≤ A.block) → A.block < w'.heap.size → Below base w0 w' → KeepBut W1 w' b none → wpList Tryz.prog ops Q rest (a.put o.dst (.slice (some A) (n + 1) c')) w') :
  wpList Tryz.prog ops Q (o :: rest) a W1:=by
 obtain ⟨i,hi1,hi2⟩:=Option.map_eq_some_iff.1 info9
 simp only [Prod.mk.injEq] at hi2
 obtain ⟨hz,hsz,hby⟩:=hi2
 have hadd : ∀ j,(⟨b,off,none⟩ : Addr).add j = ⟨b,off + j,none⟩:=fun j => Addr.add_lit _ _ _
 have hcell : ∀ (j : Nat) q,xs[j]? = some q → W1.cell? ⟨b,off + j,none⟩ = some (.string q):=fun j q hj => (blk_cell hh _).trans (hxs j q hj)
 refine wpList_append_arg W1 hgd s x 28 ho 9 i (.string ⟨#[]⟩) 1 16 Tryz.underlying28 hi1 hz hsz hby rfl (by decide) b off n cap (xs.map Value.string) hs (by rw [List.length_map]; omega) ?_ ⟨g,0,none⟩ 1 1 [.string p] hx rfl ?_ ?_ ?_ ?_ (by omega) ?_ ?_
 ·intro j u hu
  rw [List.getElem?_map] at hu
  obtain ⟨q,hq,rfl⟩:=Option.map_eq_some_iff.1 hu
  exact hcell j q hq
 ·intro j u hu
  have hj : j = 0:=by
   have:=get_lt hu
   simp at this
   omega
  subst hj
  injection hu with hu
  subst hu
  rw [add_plain]
  exact hg
 ·intro u hu
  rw [List.mem_singleton.1 hu]
  rfl
 ·intro hr j hj
  have hj0 : j = 0:=by simp at hj; omega
  subst hj0
  refine ⟨?_,blk_frozen hh _⟩
  rw [blk_cell hh]
  rw [Array.getElem?_eq_getElem (by rw [hcur]; omega)]
  rfl
 ·simp only [maxLen]; omega
 ·intro hr
  have hset : W1.setCells b (off + n * 1) [.string p] = W1.setCell ⟨b,off + n,none⟩ (.string p):=by
   rw [Nat.mul_one]; rfl
  rw [hset]
  have hh2:=blk_set hh (off + n) (.string p)
  refine h ⟨b,off,none⟩ cap _ (rowsOf (by rw [List.length_append,List.length_singleton]; omega) ?_) hr (Or.inl rfl) (blk_lt hh2) (hB.setCell hb _) ((KeepBut.refl W1 b none).set_ _ _)
  intro j q hj
  rw [hadd,blk_cell hh2]
  by_cases c : j = n
  ·subst c
   rw [List.getElem?_append_right (by omega),hn,Nat.sub_self] at hj
   injection hj with hj
   subst hj
   rw [Array.getElem?_setIfInBounds,if_pos rfl,if_pos (by rw [hcur]; omega)]
  ·have hlt : j < n:=by
    have:=get_lt hj
    rw [List.length_append,List.length_singleton] at this
    omega
   rw [List.getElem?_append_left (by omega)] at hj
   rw [Array.getElem?_setIfInBounds,if_neg (by omega)]
   exact hxs j q hj
 ·intro hgr v' w' hown hgro
  have hR : Kd.string.R 9 w' W1.heap.size (fun _ => True) v' (xs ++ [p]):=by
   refine Kd.R_of_own ?_ (fun _ _ => trivial)
   rw [List.length_append,List.length_singleton,hn]
   have e : encs Value.string (xs ++ [p]) = xs.map Value.string ++ [.string p]:=by
    show (xs ++ [p]).map Value.string = _
    rw [List.map_append]; rfl
   rw [e]
   exact hown
  obtain ⟨gg,cc,cu,rfl,h1,h2,h3,h4,h5⟩:=own_str hR (by simp)
  have hl : (xs ++ [p]).length = n + 1:=by rw [List.length_append,List.length_singleton,hn]
  rw [hl] at h2 ⊢
  refine h ⟨gg,0,none⟩ cc w' (rowsOf (by omega) (fun j q hj => by rw [add_plain,blk_cell h3]; exact h5 j q hj)) h2 (Or.inr h1) (blk_lt h3) (pw_below_grown hB none hbase hgro (fun k hk => by cases hk)) (KeepBut.of_grown hgro b)
end Go.Proofs.YtplbifmjnanceaaGreatDoor
end
section
namespace Go.Proofs.YtplbifmjnanceaaGreatDoor
open Go.RowKit Go.Proofs.YtplbifmjnanceaaGreatDoorW.PrintWords Go.Proofs.YtplbifmjnanceaaGreatDoorW.PrintLast Go.Proofs.YtplbifmjnanceaaGreatDoorW.PrintMore
open Go.Proofs.YtplbifmjnanceaaGreatDoor.PFnArchive
set_option linter.unusedVariables false
set_option linter.unusedSimpArgs false
set_option maxRecDepth 100000 in
theorem lit110 (u : Nat → Value) : FrOf 110 u = [u 0,u 1,u 2,u 3,u 4,u 5,u 6,u 7,u 8,u 9,u 10,u 11,u 12,u 13,u 14,u 15,u 16,u 17,u 18,u 19,u 20,u 21,u 22,u 23,u 24,u 25,u 26,u 27,u 28,u 29,u 30,u 31,u 32,u 33,u 34,u 35,u 36,u 37,u 38,u 39,u 40,u 41,u 42,u 43,u 44,u 45,u 46,u 47,u 48,u 49,u 50,u 51,u 52,u 53,u 54,u 55,u 56,u 57,u 58,u 59,u 60,u 61,u 62,u 63,u 64,u 65,u 66,u 67,u 68,u 69,u 70,u 71,u 72,u 73,u 74,u 75,u 76,u 77,u 78,u 79,u 80,u 81,u 82,u 83,u 84,u 85,u 86,u 87,u 88,u 89,u 90,u 91,u 92,u 93,u 94,u 95,u 96,u 97,u 98,u 99,u 100,u 101,u 102,u 103,u 104,u 105,u 106,u 107,u 108,u 109]:=rfl
def Z31 : Array Value:=#[Value.string (⟨#[]⟩ : ByteArray),.slice none 0 0,.int .u8 0,.string (⟨#[]⟩ : ByteArray),.slice none 0 0]
structure RuleOk (wd : ByteArray → Bool) (x : S31) : Prop where
 op : 0 ≤ x.f2 ∧ x.f2 < 4
 n1 : 1 ≤ x.f1.length ∧ x.f1.length ≤ 4
 n4 : x.f4.length ≤ 6
 arg : x.f2 ≠ 2 → x.f3 = ⟨#[]⟩
 cmd : ∀ c ∈ x.f4,CmdR c ∧ cleanC wd c = true
 blank : ∀ y ∈ rwords x,(32 : UInt8) ∉ y
 ins : ∀ s ∈ x.f1,s ≠ semi
 cws : ∀ c ∈ x.f4,∀ s ∈ (cwords c).map mkB,s ≠ semi
 few : (rwords x).length ≤ 1000
 sz : (rline x).length ≤ 1099511627776
theorem infoC : (Tryz.prog.info? 56).map (fun i => (i.zero,i.size,i.bytes)) = some (some (.agg #[.int .u8 0,.bool false,.int .u8 0,.int .u8 0,.string ⟨#[]⟩]),5,24):=by kernel_rfl
theorem far5 {W : World} {g k : Nat} {u0 u1 u2 u3 u4 : Value} (h : k ≠ g) : (((((W.setCell ⟨g,0,none⟩ u0).setCell ⟨g,1,none⟩ u1).setCell ⟨g,2,none⟩ u2).setCell ⟨g,3,none⟩ u3).setCell ⟨g,4,none⟩ u4).heap[k]? = W.heap[k]?:=by
 rw [Below.heap_setCell _ _ _ _ h,Below.heap_setCell _ _ _ _ h,Below.heap_setCell _ _ _ _ h,Below.heap_setCell _ _ _ _ h,Below.heap_setCell _ _ _ _ h]
theorem opnAt_inj (i n : Nat) (hi : i < 4) (hn : n < 4) (h : opnAt (i : Int) = opnAt (n : Int)) : i = n:=by
 have h1 : i = 0 ∨ i = 1 ∨ i = 2 ∨ i = 3:=by omega
 have h2 : n = 0 ∨ n = 1 ∨ n = 2 ∨ n = 3:=by omega
 rcases h1 with rfl | rfl | rfl | rfl <;> rcases h2 with rfl | rfl | rfl | rfl <;> first | rfl | (exfalso; revert h; decide)
set_option maxHeartbeats 4000000 in
set_option maxRecDepth 100000 in
theorem ruleOf_walk (w : World) (nm pat dt wd : ByteArray → Bool) (V : Tests nm pat dt wd) (x : S31) (hF : FitsR x) (hcl : cleanR nm pat wd x = true) (hok : RuleOk wd x) :
  Calls Tryz.prog 27 #[.string (mkB (rline x))] w fun e w' => ∃ v1 v4,e = .returned (.tuple #[.agg #[.string x.f0,v1,.int .u8 x.f2,.string x.f3,v4],.bool true]) ∧ Kd.string.R 9 w' w.heap.size (fun _ => True) v1 x.f1 ∧ k56.R 56 w' w.heap.size (fun _ => True) v4 x.f4 ∧ Below w.heap.size w w':=by
 obtain ⟨kw,hkw⟩:=words_f x.f0.data.toList (opnAt x.f2 :: ((if x.f2 = 2 then [x.f3.data.toList] else []) ++ [111,102] :: rtail x)) hok.sz hok.blank
 have hkw2 : spec_wordsOf.f kw (mkB (rline x)) = some ((rwords x).map mkB):=hkw
 have hrun:=runS_all x hok.ins hok.cws
 obtain ⟨WL,hWL⟩ : ∃ z,z = (rwords x).map mkB:=⟨_,rfl⟩
 rw [← hWL] at hkw2
 obtain ⟨n,hn⟩ : ∃ z,z = WL.length:=⟨_,rfl⟩
 have hn2 : n = 3 + (if x.f2 = 2 then 1 else 0) + (rtail x).length:=by
  rw [hn,hWL,List.length_map]
  unfold rwords
  split <;> simp <;> omega
 have hrt : 1 ≤ (rtail x).length:=by
  have:=hok.n1.1
  unfold rtail
  rw [List.length_append,List.length_map]
  omega
 have hn4 : 4 ≤ n:=by rw [hn2]; split <;> omega
 have HWd:=Aside0.mk (fun W => spec_wordsOf.calls kw (mkB (rline x)) WL W hkw2)
 have HV:=Aside0.mk V
 have HF:=Aside0.mk hF
 have HCl:=Aside0.mk hcl
 have HOk:=Aside0.mk hok
 have HRun:=Aside0.mk hrun
 have HWL:=Aside0.mk hWL
 have HN:=Aside0.mk hn
 have HN2:=Aside0.mk hn2
 have HRt:=Aside0.mk hrt
 obtain ⟨S,hS⟩ : ∃ z,z = mkB (rline x):=⟨_,rfl⟩
 rw [← hS] at HWd ⊢
 clear hkw hkw2 V hF hcl hok hrun hWL hn hn2 hrt hS
 go_enter Tryz.func27,Tryz.ntmps27
 go_wp2_with (first | ((with_reducible refine gate_dst (N:=2) rfl ?_); refine box_event ?hg (N:=2) ?hd (cs:=#[.string (⟨#[]⟩ : ByteArray),.slice none 0 0,.int .u8 0,.string (⟨#[]⟩ : ByteArray),.slice none 0 0]) (t:=31) ?hr ?_; (case hd => rfl); (case hg => rfl); (case hr => first | (go_simp; done) | (go_simp; rfl)); intro g2 hg w1 hbx hb; have HX2:=Aside0.mk hbx; have HB1:=Aside0.mk hb; have HG2:=Aside0.mk hg; clear hbx hb hg))
 refine (HWd.out w1).mono ?_
 rintro e w2 ⟨v,rfl,hR,hb2⟩
 obtain ⟨gw,c,cw,rfl,hgw,hnc,hgx,hcs,hcc⟩:=own_str hR (by have:=HN.out; omega)
 rw [← HN.out] at hnc ⊢
 have HB2:=Aside0.mk (HB1.out.trans (hb2.mono HB1.out.size))
 have HX2b:=Aside0.mk (blk_below HX2.out hb2)
 have HGW:=Aside0.mk hgx
 have HCS:=Aside0.mk hcs
 have HCC:=Aside0.mk hcc
 have HEW:=Aside0.mk (Nat.le_trans HB1.out.size hgw)
 have HW2:=Aside0.mk (show gw ≠ g2 by have:=blk_lt HX2.out; omega)
 clear hR hb2 hgx hcs hcc HX2
 go_upto_region 3 with (first | ((with_reducible refine gate_dst (N:=5) rfl ?_); refine box_event ?hg (N:=5) ?hd (cs:=#[.string (⟨#[]⟩ : ByteArray),.slice none 0 0,.int .u8 0,.string (⟨#[]⟩ : ByteArray),.slice none 0 0]) (t:=31) ?hr ?_; (case hd => rfl); (case hg => rfl); (case hr => first | (go_simp; done) | (go_simp; rfl)); intro g5 hg w3 hbx hb; have HX5:=Aside0.mk hbx; have HB3:=Aside0.mk (HB2.out.trans (hb.mono HB2.out.size)); have HX2:=Aside0.mk (blk_below HX2b.out hb); have HXW:=Aside0.mk (blk_below HGW.out hb); have HE5:=Aside0.mk (show w.heap.size ≤ g5 by rw [hg]; exact HB2.out.size); have N52:=Aside0.mk (show g5 ≠ g2 by rw [hg]; exact Nat.ne_of_gt (blk_lt HX2b.out)); have N5W:=Aside0.mk (show g5 ≠ gw by rw [hg]; exact Nat.ne_of_gt (blk_lt HGW.out)); have z0:=(blk_cell hbx 0).trans rfl; have z1:=(blk_cell hbx 1).trans rfl; have z2:=(blk_cell hbx 2).trans rfl; have z3:=(blk_cell hbx 3).trans rfl; have z4:=(blk_cell hbx 4).trans rfl; have y0:=blk_frozen hbx 0; have y1:=blk_frozen hbx 1; have y2:=blk_frozen hbx 2; have y3:=blk_frozen hbx 3; have y4:=blk_frozen hbx 4; clear hbx hb hg))
 refine to_world (Pr:=fun z => z.heap[g5]? = some (.cells #[Value.string (⟨#[]⟩ : ByteArray),.slice none 0 0,.int .u8 4,.string (⟨#[]⟩ : ByteArray),.slice none 0 0] 31 (0,0)) ∧ z.heap[g2]? = some (.cells Z31 31 (0,0)) ∧ z.heap[gw]? = some (.cells cw 9 (0,0)) ∧ Below w.heap.size w z) ⟨(set5 HX5.out HB3.out HE5.out HX2.out N52.out).1,(set5 HX5.out HB3.out HE5.out HX2.out N52.out).2.1,(set5 HX5.out HB3.out HE5.out HXW.out N5W.out).2.1,(set5 HX5.out HB3.out HE5.out HX2.out N52.out).2.2⟩ (fun w4 h4 => ?_)
 have H45:=Aside0.mk h4.1
 have H42:=Aside0.mk h4.2.1
 have H4W:=Aside0.mk h4.2.2.1
 have HB4:=Aside0.mk h4.2.2.2
 clear h4 HX5 HX2 HXW HB3 HB2 HB1 HX2b HGW z0 z1 z2 z3 z4 y0 y1 y2 y3 y4
 have l0:=(blk_cell H4W.out 0).trans (HCC.out 0 x.f0 (by rw [HWL.out]; show some (mkB x.f0.data.toList) = _; rw [mkB_data]))
 have z0:=(blk_cell H45.out 0).trans rfl
 have y0:=blk_frozen H45.out 0
 have v0 : decide ((n : Int) < 4) = false:=decide_eq_false (by omega)
 have v1 : ¬ n < 4:=by omega
 have v2 : (0 : Int) < (n : Int):=by omega
 have v3 : 0 < n:=by omega
 go_upto_region 6 with (fail)
 refine to_world (Pr:=fun z => z.heap[g5]? = some (.cells #[Value.string x.f0,.slice none 0 0,.int .u8 4,.string (⟨#[]⟩ : ByteArray),.slice none 0 0] 31 (0,0)) ∧ z.heap[g2]? = some (.cells Z31 31 (0,0)) ∧ z.heap[gw]? = some (.cells cw 9 (0,0)) ∧ Below w.heap.size w z) ⟨blk_put H45.out 0 _ rfl,blk_far H42.out (Ne.symm N52.out) _,blk_far H4W.out (Ne.symm N5W.out) _,below_set HB4.out HE5.out⟩ (fun w5 h5 => ?_)
 have H55:=Aside0.mk h5.1
 have H52:=Aside0.mk h5.2.1
 have H5W:=Aside0.mk h5.2.2.1
 have HB5:=Aside0.mk h5.2.2.2
 clear h5 H45 H42 H4W HB4 l0 z0 y0 v0 v1
 go_upto_block 0 with (first | (refine (spec_opNames.calls _ w5 rfl).mono ?_; rintro e w6 ⟨v,rfl,hR,hb6⟩; obtain ⟨gn,cn,cno,rfl,hgn,hnn,hgnx,hcns,hcnc⟩:=own_str hR (by simp); have H65:=Aside0.mk (blk_below H55.out hb6); have H62:=Aside0.mk (blk_below H52.out hb6); have H6W:=Aside0.mk (blk_below H5W.out hb6); have HB6:=Aside0.mk (HB5.out.trans (hb6.mono HB5.out.size)); have H6N:=Aside0.mk hgnx; have HCN:=Aside0.mk hcnc; have N5N:=Aside0.mk (show g5 ≠ gn by have:=blk_lt H55.out; omega); clear hR hb6 hgnx hcns hcnc H55 H52 H5W HB5))
 have hopr:=HOk.out.op
 obtain ⟨op,hop⟩ : ∃ z : Nat,x.f2 = (z : Int):=⟨x.f2.toNat,by omega⟩
 have hop4 : op < 4:=by omega
 have HOp:=Aside0.mk hop
 clear hopr hop v2 v3
 refine cutU 110 (fun u wc => u 2 = .pointer (some ⟨g2,0,none⟩) ∧ u 4 = .slice (some ⟨gw,0,none⟩) n c ∧ u 5 = .pointer (some ⟨g5,0,none⟩) ∧ wc.heap[g5]? = some (.cells #[Value.string x.f0,.slice none 0 0,.int .u8 op,.string (⟨#[]⟩ : ByteArray),.slice none 0 0] 31 (0,0)) ∧ wc.heap[g2]? = some (.cells Z31 31 (0,0)) ∧ wc.heap[gw]? = some (.cells cw 9 (0,0)) ∧ Below w.heap.size w wc) ?rest1 ?first1
 case first1 =>
  intro J K hJ hK
  go_wp2
  refine loopG 110 (fun gh u wc => ∃ i : Nat,gh = 4 - i ∧ i ≤ 4 ∧ u 2 = .pointer (some ⟨g2,0,none⟩) ∧ u 4 = .slice (some ⟨gw,0,none⟩) n c ∧ u 5 = .pointer (some ⟨g5,0,none⟩) ∧ u 25 = .slice (some ⟨gn,0,none⟩) 4 cn ∧ u 26 = .int .i64 4 ∧ u 27 = .int .i64 i ∧ wc.heap[g5]? = some (.cells #[Value.string x.f0,.slice none 0 0,.int .u8 (if op < i then op else 4),.string (⟨#[]⟩ : ByteArray),.slice none 0 0] 31 (0,0)) ∧ wc.heap[g2]? = some (.cells Z31 31 (0,0)) ∧ wc.heap[gw]? = some (.cells cw 9 (0,0)) ∧ wc.heap[gn]? = some (.cells cno 9 (0,0)) ∧ Below w.heap.size w wc) 4 rfl ?atStart ?round
  case atStart => exact ⟨0,rfl,by omega,rfl,rfl,rfl,rfl,rfl,rfl,H65.out,H62.out,H6W.out,H6N.out,HB6.out⟩
  case round =>
   rintro gh u W2 ⟨i,hgh,hi,h2,h4,h5,h25,h26,h27,hx5,hx2,hxw,hxn,hB⟩ J2 K2 hJ2 hK2
   rw [lit110]
   simp only [h2,h4,h5,h25,h26,h27]
   have HX5:=Aside0.mk hx5
   have HX2:=Aside0.mk hx2
   have HXW:=Aside0.mk hxw
   have HXN:=Aside0.mk hxn
   have HB:=Aside0.mk hB
   by_cases ci : i < 4
   ·have b1:=(blk_cell hxn i).trans (HCN.out i _ (atO i ci))
    have b2:=(blk_cell hxw 1).trans (HCC.out 1 (mkB (opnAt (op : Int))) (by rw [HWL.out,← HOp.out]; rfl))
    have z2:=(blk_cell hx5 2).trans rfl
    have y2:=blk_frozen hx5 2
    have u1 : (i : Int) < 4:=by omega
    have u2 : IntKind.i64.wrap ((i : Int) + 1) = (i : Int) + 1:=by rw [IntKind.wrap_i64]; omega
    have u3 : (0 : Int) ≤ (i : Int):=by omega
    have u4 : (i : Int) % 256 = (i : Int):=by omega
    have u5 : (1 : Int) < (n : Int):=by omega
    have u6 : 1 < n:=by omega
    clear h2 h4 h5 h25 h26 h27 hx5 hx2 hxw hxn hB
    by_cases ck : i = op
    ·subst ck
     have e1 : (mkB (opnAt (i : Int))).toList = (mkB (opnAt (i : Int))).toList:=rfl
     go_wp2
     exact Met.intro (hJ2 (4 - (i + 1)) _ _ rfl (by omega) ⟨i + 1,rfl,ci,rfl,rfl,rfl,rfl,rfl,rfl,by rw [if_pos (by omega)]; exact blk_put HX5.out 2 _ rfl,blk_far HX2.out (Ne.symm N52.out) _,blk_far HXW.out (Ne.symm N5W.out) _,blk_far HXN.out (Ne.symm N5N.out) _,below_set HB.out HE5.out⟩)
    ·have e1 : ¬ (mkB (opnAt (i : Int))).toList = (mkB (opnAt (op : Int))).toList:=by
      rw [toList_mk,toList_mk]
      intro h
      exact ck (opnAt_inj i op ci hop4 h)
     have e2 : ((mkB (opnAt (i : Int))).toList == (mkB (opnAt (op : Int))).toList) = false:=beq_eq_false_iff_ne.2 e1
     go_wp2
     refine Met.intro (hJ2 (4 - (i + 1)) _ _ rfl (by omega) ⟨i + 1,rfl,ci,rfl,rfl,rfl,rfl,rfl,rfl,?_,HX2.out,HXW.out,HXN.out,HB.out⟩)
     have h:=HX5.out
     by_cases c1 : op < i
     ·rw [if_pos c1] at h; rw [if_pos (by omega)]; exact h
     ·rw [if_neg c1] at h; rw [if_neg (by omega)]; exact h
   ·obtain rfl : i = 4:=by omega
    have u1 : decide (((4 : Nat) : Int) < 4) = false:=by decide
    clear h2 h4 h5 h25 h26 h27 hx5 hx2 hxw hxn hB
    go_wp2
    have h:=HX5.out
    rw [if_pos hop4] at h
    exact Met.intro (hJ _ _ rfl ⟨rfl,rfl,rfl,h,HX2.out,HXW.out,HB.out⟩)
 case rest1 =>
  rintro u W1 ⟨h2,h4,h5,hx5,hx2,hxw,hB⟩
  rw [lit110]
  simp only [h2,h4,h5]
  have HX5:=Aside0.mk hx5
  have HX2:=Aside0.mk hx2
  have HXW:=Aside0.mk hxw
  have HB:=Aside0.mk hB
  have z2:=(blk_cell hx5 2).trans rfl
  have v1 : (2 : Int) ≤ (n : Int):=by omega
  have v2 : ¬ c = 2:=by omega
  have v3 : 2 ≤ n:=by omega
  clear h2 h4 h5 hx5 hx2 hxw hB H65 H62 H6W H6N HB6
  go_upto_if 45 with (fail)
  clear z2 v1
  refine cutU 110 (fun u wc => u 2 = .pointer (some ⟨g2,0,none⟩) ∧ (∃ k m d,k = (if x.f2 = 2 then 3 else 2) ∧ m = n - k ∧ d = c - k ∧ u 4 = .slice (some ⟨gw,k,none⟩) m d) ∧ u 5 = .pointer (some ⟨g5,0,none⟩) ∧ wc.heap[g5]? = some (.cells #[Value.string x.f0,.slice none 0 0,.int .u8 op,.string x.f3,.slice none 0 0] 31 (0,0)) ∧ wc.heap[g2]? = some (.cells Z31 31 (0,0)) ∧ wc.heap[gw]? = some (.cells cw 9 (0,0)) ∧ Below w.heap.size w wc) ?rest2 ?first2
  case first2 =>
   intro J K hJ hK
   by_cases o2 : op = 2
   ·have o3 : (op : Int) = 2:=by omega
    have b2:=(blk_cell HXW.out 2).trans (HCC.out 2 x.f3 (by rw [HWL.out]; unfold rwords; rw [HOp.out,if_pos o3]; show some (mkB x.f3.data.toList) = _; rw [mkB_data]))
    have z3:=(blk_cell HX5.out 3).trans rfl
    have y3:=blk_frozen HX5.out 3
    obtain ⟨m,hm⟩ : ∃ z,z = n - 2:=⟨_,rfl⟩
    obtain ⟨d,hd⟩ : ∃ z,z = c - 2:=⟨_,rfl⟩
    rw [← hm,← hd]
    have w1 : (1 : Int) ≤ (m : Int):=by omega
    have w2 : ¬ d = 1:=by omega
    have w3 : 0 < m:=by omega
    have w4 : 1 ≤ m:=by omega
    have HM:=Aside0.mk hm
    have HD:=Aside0.mk hd
    clear hm hd
    go_wp2
    refine start_ (n:=8) (S:=fun w' => w'.cell? ⟨gw,2,none⟩ = some (.string x.f3)) (ds:=[6]) #[false,false,false,false,false,false,false,false] (by kernel_rfl) rfl rfl (b2) (fun hHeld => ?_)
    refine pure_ (i:=0) (N:=some 46) (v:=?_) (a':=?_) #[true,false,false,false,false,false,false,false] rfl rfl (by kernel_rfl) (fun _ _ _ h => h) (Or.inl ⟨by rfl,?_⟩) ?_ ?_
    rotate_left
    ·intro w'
     go_simp
     with_reducible rfl
    rotate_left
    ·simp only [Act.put,List.setIfInBounds_toArray,List.set_cons_zero,List.set_cons_succ,i64_w,i32_w]
     rfl
    refine pure_ (i:=1) (N:=some 47) (v:=?_) (a':=?_) #[true,true,false,false,false,false,false,false] rfl rfl (by kernel_rfl) (fun _ _ _ h => h) (Or.inl ⟨by rfl,?_⟩) ?_ ?_
    rotate_left
    ·intro w'
     go_simp
     with_reducible rfl
    rotate_left
    ·simp only [Act.put,List.setIfInBounds_toArray,List.set_cons_zero,List.set_cons_succ,i64_w,i32_w]
     rfl
    refine pure_ (i:=3) (N:=some 49) (v:=?_) (a':=?_) #[true,true,false,true,false,false,false,false] rfl rfl (by kernel_rfl) (fun _ _ _ h => h) (Or.inl ⟨by rfl,?_⟩) ?_ ?_
    rotate_left
    ·intro w'
     go_simp
     with_reducible rfl
    rotate_left
    ·simp only [Act.put,List.setIfInBounds_toArray,List.set_cons_zero,List.set_cons_succ,i64_w,i32_w]
     rfl
    refine pure_ (i:=4) (N:=some 50) (v:=?_) (a':=?_) #[true,true,false,true,true,false,false,false] rfl rfl (by kernel_rfl) (fun _ _ _ h => h) (Or.inl ⟨by rfl,?_⟩) ?_ ?_
    rotate_left
    ·intro w'
     go_simp
     with_reducible rfl
    rotate_left
    ·simp only [Act.put,List.setIfInBounds_toArray,List.set_cons_zero,List.set_cons_succ,i64_w,i32_w]
     rfl
    refine take_ (i:=2) (N:=some 48) (v:=?_) (a':=?_) #[true,true,true,true,true,false,false,false] rfl rfl (by kernel_rfl) (fun _ _ _ h => h) (Or.inl ⟨by rfl,?_⟩) hHeld ?_ ?_
    rotate_left
    ·intro w' s0
     go_simp
     with_reducible rfl
    rotate_left
    ·simp only [Act.put,List.setIfInBounds_toArray,List.set_cons_zero,List.set_cons_succ,i64_w,i32_w]
     rfl
    refine pure_ (i:=5) (N:=some 51) (v:=?_) (a':=?_) #[true,true,true,true,true,true,false,false] rfl rfl (by kernel_rfl) (fun _ _ _ h => h) (Or.inl ⟨by rfl,?_⟩) ?_ ?_
    rotate_left
    ·intro w'
     go_simp
     with_reducible rfl
    rotate_left
    ·simp only [Act.put,List.setIfInBounds_toArray,List.set_cons_zero,List.set_cons_succ,i64_w,i32_w]
     rfl
    refine last_ (i:=6) (N:=none) #[true,true,true,true,true,true,true,false] rfl rfl (by kernel_rfl) (by decide) (fun K hK => ?_)
    refine skip_ (w1:=?_) (by rfl) rfl ?_ ?_
    rotate_left
    ·go_simp
     rfl
    refine hK.out _ _ ?_
    clear hK K
    refine pure_ (i:=7) (N:=some 4) (v:=?_) (a':=?_) #[true,true,true,true,true,true,true,true] rfl rfl (by kernel_rfl) (fun _ _ _ h => h) (Or.inl ⟨by rfl,?_⟩) ?_ ?_
    rotate_left
    ·intro w'
     go_simp
     with_reducible rfl
    rotate_left
    ·simp only [Act.put,List.setIfInBounds_toArray,List.set_cons_zero,List.set_cons_succ,i64_w,i32_w]
     rfl
    refine done_ (by kernel_rfl) ?_
    go_wp2
    refine Met.intro (hJ _ _ rfl ⟨rfl,⟨3,m - 1,d - 1,by rw [HOp.out,if_pos o3],by rw [HM.out]; omega,by rw [HD.out]; omega,rfl⟩,rfl,blk_put HX5.out 3 _ rfl,blk_far HX2.out (Ne.symm N52.out) _,blk_far HXW.out (Ne.symm N5W.out) _,below_drew (below_set HB.out HE5.out)⟩)
   ·have o3 : ((op : Int) == 2) = false:=beq_eq_false_iff_ne.2 (by omega)
    have ha:=HOk.out.arg (by rw [HOp.out]; omega)
    have hx:=HX5.out
    rw [← ha] at hx
    have HX5':=Aside0.mk hx
    clear ha hx
    go_wp2
    exact Met.intro (hJ _ _ rfl ⟨rfl,⟨2,n - 2,c - 2,by rw [HOp.out,if_neg (by omega)],rfl,rfl,rfl⟩,rfl,HX5'.out,HX2.out,HXW.out,HB.out⟩)
  case rest2 =>
   rintro u W2 ⟨h2,⟨k,m,d,hk,hm,hd,h4⟩,h5,hx5,hx2,hxw,hB⟩
   rw [lit110]
   simp only [h2,h4,h5]
   clear HX5 HX2 HXW HB
   have HX5:=Aside0.mk hx5
   have HX2:=Aside0.mk hx2
   have HXW:=Aside0.mk hxw
   have HB:=Aside0.mk hB
   have hk3 : k ≤ 3:=by rw [hk]; split <;> omega
   have hm2 : m = 1 + (rtail x).length:=by
    rw [hm,HN2.out,hk]
    split <;> omega
   have hm3 : 2 ≤ m:=by have:=HRt.out; omega
   have hd2 : 2 ≤ d:=by omega
   have hw : WL = (x.f0.data.toList :: opnAt x.f2 :: (if x.f2 = 2 then [x.f3.data.toList] else [])).map mkB ++ (mkB [111,102] :: (rtail x).map mkB):=by
    rw [HWL.out]
    unfold rwords
    split <;> simp
   have hkl : ((x.f0.data.toList :: opnAt x.f2 :: (if x.f2 = 2 then [x.f3.data.toList] else [])).map mkB).length = k:=by
    rw [hk]
    split <;> simp
   have hof : WL[k]? = some (⟨#[111,102]⟩ : ByteArray):=by
    rw [hw,List.getElem?_append_right (by omega),hkl,Nat.sub_self]; rfl
   have htl : ∀ (j : Nat) q,((rtail x).map mkB)[j]? = some q → cw[k + 1 + j]? = some (.string q):=by
    intro j q hj
    refine HCC.out (k + 1 + j) q ?_
    rw [hw,List.getElem?_append_right (by omega),hkl,show k + 1 + j - k = j + 1 by omega,List.getElem?_cons_succ]
    exact hj
   have b1:=(blk_cell hxw k).trans (HCC.out k _ hof)
   have HTl:=Aside0.mk htl
   have HM:=Aside0.mk hm
   have HD:=Aside0.mk hd
   have HM2:=Aside0.mk hm2
   have HK:=Aside0.mk hk
   have v1 : ((m : Int) == 0) = false:=beq_eq_false_iff_ne.2 (by omega)
   have v4 : ¬ m = 0:=by omega
   have v5 : (0 : Int) < (m : Int):=by omega
   have v6 : 0 < m:=by omega
   have v7 : (1 : Int) ≤ (m : Int):=by omega
   have v8 : ¬ d = 1:=by omega
   have v9 : 1 ≤ m:=by omega
   clear h2 h4 h5 hx5 hx2 hxw hB hw hkl hof htl hm hd hk hm2
   go_upto_region 19 with (fail)
   have f1 : ((rtail x).map mkB).length = m - 1:=by rw [List.length_map]; have:=HM2.out; omega
   have f2 : m - 1 ≤ 100000:=by
    have h1:=HOk.out.few
    have h2:=HN.out
    rw [HWL.out,List.length_map] at h2
    have h3:=HM.out
    omega
   have f3 : cw.size = k + 1 + (d - 1):=by have:=HCS.out; have:=HD.out; omega
   have f4 : m - 1 ≤ d - 1:=by have:=HM.out; have:=HD.out; omega
   have F1:=Aside0.mk f1
   have F2:=Aside0.mk f2
   have F3:=Aside0.mk f3
   have F4:=Aside0.mk f4
   clear b1 v1 v4 v5 v6 f1 f2 f3 f4
   have HBA:=Aside0.mk (below_alloc HB.out (.cells #[Value.string (⟨#[59]⟩ : ByteArray)] 9 (0,0)))
   go_upto_block 2 with (first | (at_builtin; refine append_cut (w0:=w) (W1:=W2.alloc (.cells #[.string (⟨#[59]⟩ : ByteArray)] 9 (0,0))) w.heap.size rfl (.tmp 63) (.tmp 64) rfl gw (k + 1) (m - 1) (d - 1) W2.heap.size ((rtail x).map mkB) (⟨#[59]⟩ : ByteArray) cw F1.out F2.out rfl (blk_alloc HXW.out _) F3.out F4.out HTl.out rfl ((blk_cell (blk_new W2 _) 0).trans rfl) HEW.out HBA.out HBA.out.size ?_; intro A c' wa hrow hc' hA hAlt hBw hKB))
   have H5:=Aside0.mk (hKB.blk (blk_alloc HX5.out _) N5W.out (by simp))
   have H2:=Aside0.mk (hKB.blk (blk_alloc HX2.out _) (Ne.symm HW2.out) (by simp))
   have hA5 : A.block ≠ g5:=by
    rcases hA with h | h
    ·rw [h]; exact Ne.symm N5W.out
    ·have h1:=blk_lt HX5.out
     have h2 : W2.heap.size ≤ (W2.alloc (.cells #[Value.string (⟨#[59]⟩ : ByteArray)] 9 (0,0))).heap.size:=(below_alloc (Below.refl W2.heap.size W2) _).size
     omega
   obtain ⟨M,hM⟩ : ∃ z,z = (rtail x ++ [[59]]).map mkB:=⟨_,rfl⟩
   have hM2 : (rtail x).map mkB ++ [(⟨#[59]⟩ : ByteArray)] = M:=by rw [hM,List.map_append]; rfl
   rw [hM2] at hrow
   have hML : M.length = m - 1 + 1:=by
    rw [hM,List.length_map,List.length_append,List.length_singleton]
    have:=HM2.out
    omega
   have hrun:=HRun.out
   rw [← hM] at hrun
   obtain ⟨N,hN⟩ : ∃ z,z = m - 1 + 1:=⟨_,rfl⟩
   have hNM : N = m:=by omega
   have HN3:=Aside0.mk (hN.trans hML.symm)
   have HRow:=Aside0.mk hrow
   have HRunM:=Aside0.mk hrun
   have HBa:=Aside0.mk hBw
   have HA5:=Aside0.mk hA5
   have HNM:=Aside0.mk hNM
   have HNs:=Aside0.mk (show N ≤ 1000000 by have:=F2.out; omega)
   have hle : w.heap.size ≤ wa.heap.size:=hBw.size
   have hg5 : g5 < wa.heap.size:=blk_lt H5.out
   have HLe:=Aside0.mk hle
   have HG5:=Aside0.mk hg5
   clear hNM hN hrow hc' hA hAlt hBw hKB hM hM2 hML hrun HRun HBA HXW HX5 HX2 HB hA5 hle hg5
   refine cutU 110 (fun u wc => u 2 = .pointer (some ⟨g2,0,none⟩) ∧ u 5 = .pointer (some ⟨g5,0,none⟩) ∧ (∃ vin vcs,wc.heap[g5]? = some (.cells #[Value.string x.f0,vin,.int .u8 op,.string x.f3,vcs] 31 (0,0)) ∧ Kd.string.R 9 wc wa.heap.size (fun _ => True) vin x.f1 ∧ k56.R 56 wc wa.heap.size (fun _ => True) vcs x.f4) ∧ wc.heap[g2]? = some (.cells Z31 31 (0,0)) ∧ Below w.heap.size w wc) ?rest3 ?first3
   case first3 =>
    intro J K hJ hK
    go_wp2
    refine loopG 110 (fun gh u wc => ∃ (i : Nat) (st : PSt) (vcmd vin vcs : Value),gh = N - i ∧ i ≤ N ∧ runS x.f4 ⟨[],[],[],false⟩ (M.take i) = some st ∧ u 2 = .pointer (some ⟨g2,0,none⟩) ∧ u 5 = .pointer (some ⟨g5,0,none⟩) ∧ u 8 = vcmd ∧ u 9 = .bool st.go ∧ u 65 = .slice (some A) N c' ∧ u 66 = .int .i64 N ∧ u 67 = .int .i64 i ∧ wc.heap[g5]? = some (.cells #[Value.string x.f0,vin,.int .u8 op,.string x.f3,vcs] 31 (0,0)) ∧ Kd.string.R 9 wc wa.heap.size (fun _ => True) vcmd st.cmd ∧ Kd.string.R 9 wc wa.heap.size (fun k => True ∧ some k ≠ vcmd.ownBlock) vin st.ins ∧ k56.R 56 wc wa.heap.size (fun _ => True) vcs st.cs ∧ wc.heap[g2]? = some (.cells Z31 31 (0,0)) ∧ KeepBut wa wc g5 none ∧ Below w.heap.size w wc) N rfl ?atStart ?round
    case atStart => exact ⟨0,⟨[],[],[],false⟩,_,_,_,rfl,Nat.zero_le _,rfl,rfl,rfl,rfl,rfl,by first | rfl | (rw [HNM.out]; rfl),by first | rfl | (rw [HNM.out]; rfl),rfl,H5.out,Kd.R_nil _ _ _ _ _,Kd.R_nil _ _ _ _ _,Kd.R_nil _ _ _ _ _,H2.out,KeepBut.refl _ _ _,HBa.out⟩
    case round =>
     rintro gh u W3 ⟨i,st,vcmd,vin,vcs,hgh,hi,hst,h2,h5,h8,h9,h65,h66,h67,hx5,hcm,hin,hcs,hx2,hKe,hB⟩ J2 K2 hJ2 hK2
     rw [lit110]
     simp only [h2,h5,h8,h9,h65,h66,h67]
     have HX5:=Aside0.mk hx5
     have HX2:=Aside0.mk hx2
     have HB:=Aside0.mk hB
     have HSt:=Aside0.mk hst
     have HCm:=Aside0.mk hcm
     have HIn:=Aside0.mk hin
     have HCs:=Aside0.mk hcs
     have HKe:=Aside0.mk hKe
     clear h2 h5 h8 h9 h65 h66 h67 hst hcm hin hcs hx2 hKe hB
     by_cases ci : i < N
     ·obtain ⟨b,hb⟩ : ∃ b,M[i]? = some b:=⟨M[i]'(by have:=HN3.out; omega),List.getElem?_eq_getElem (by have:=HN3.out; omega)⟩
      obtain ⟨st',hs1,hs2⟩:=runS_step x.f4 M _ _ HRunM.out i b hb st HSt.out
      obtain ⟨ad3,hA3,b1⟩:=rowS HRow.out hb
      injection hA3 with hA3
      subst hA3
      have b1:=keep_cell HKe.out b1 (by rw [show (A.add i).block = A.block by unfold Addr.add; split <;> rfl]; exact HA5.out)
      have HS2:=Aside0.mk hs2
      have hlen:=runS_len _ _ _ _ HSt.out
      have hlen2 : (M.take i).length ≤ 1000000:=by rw [List.length_take]; have:=HNs.out; have:=HN3.out; omega
      have u1 : (i : Int) < (N : Int):=by omega
      have u2 : IntKind.i64.wrap ((i : Int) + 1) = (i : Int) + 1:=by rw [IntKind.wrap_i64]; have:=HNs.out; omega
      have u3 : (0 : Int) ≤ (i : Int):=by omega
      have hsemi : semi.toList = [59]:=toList_mk _
      unfold stp at hs1
      by_cases cb : b = semi
      ·rw [if_pos cb] at hs1
       have e1 : b.toList = ([59] : List UInt8):=by rw [cb]; exact hsemi
       have e2 : (b.toList == ([59] : List UInt8)) = true:=beq_iff_eq.2 e1
       obtain ⟨ins,cs,cmd,go⟩:=st
       simp only at *
       cases go with
       | true =>
        rw [if_pos rfl] at hs1
        cases hcc : x.f4[cs.length]? with
        | none => rw [hcc] at hs1; cases hs1
        | some cc =>
         rw [hcc] at hs1
         simp only at hs1
         by_cases hcm : cmd = (cwords cc).map mkB
         ·rw [if_pos hcm] at hs1
          injection hs1 with hs1
          subst hs1
          subst hcm
          have hil : (cs.length + 1) * 24 ≤ 140737488355328:=by (try simp only [List.length_nil] at hlen); omega
          have hmem:=List.mem_of_getElem? hcc
          obtain ⟨hcr,hcl⟩:=HOk.out.cmd cc hmem
          obtain ⟨Ac,kc,eC,hkc,hCC⟩:=Kd.R_reads HCm.out
          rw [List.length_map] at eC hkc
          subst eC
          have HP:=Aside0.mk (cmdOf_walk W3 cc wd hcr hcl (HV.out.wdV cc.f4 hcr.2.2.2) Ac kc (by rw [← List.length_map (f:=mkB)]; exact hCC) hkc)
          clear hx5 hb hs2 hlen hlen2 hcc hmem hcr hcl hCC
          go_wp2_with fail
          refine HP.out.mono ?_
          rintro e w5 ⟨rfl,hb5⟩
          obtain ⟨o,ho⟩ : ∃ z,z = Obj.cells #[Value.int .u8 cc.f0,.bool cc.f1,.int .u8 cc.f2,.int .u8 cc.f3,.string cc.f4] 56 (0,0):=⟨_,rfl⟩
          have hba : Below w5.heap.size w5 (w5.alloc o):=below_alloc (Below.refl _ _) o
          have hbb : Below W3.heap.size W3 (w5.alloc o):=hb5.trans (hba.mono hb5.size)
          rw [ho] at hba hbb
          clear ho o
          obtain ⟨w6,hw6⟩ : ∃ z,z = w5.alloc (Obj.cells #[Value.int .u8 cc.f0,.bool cc.f1,.int .u8 cc.f2,.int .u8 cc.f3,.string cc.f4] 56 (0,0)):=⟨_,rfl⟩
          rw [← hw6] at hbb
          have hx6:=blk_below HX5.out hbb
          have HX6:=Aside0.mk hx6
          have HY6:=Aside0.mk (blk_below HX2.out hbb)
          have HIn6:=Aside0.mk (Kd.R_below HIn.out hbb)
          have HCs6:=Aside0.mk (Kd.R_below HCs.out hbb)
          have HKe6:=Aside0.mk (HKe.out.trans (KeepBut.of_below hbb g5 none) (Or.inl rfl))
          have HB6:=Aside0.mk (HB.out.trans (hbb.mono HB.out.size))
          have z4:=(blk_cell hx6 4).trans rfl
          have HW6:=Aside0.mk hw6
          rw [hw6] at z4
          clear hx6 hbb hba hb5 hw6
          go_wp2_with (first | (at_builtin; rw [← HW6.out]; refine Kd.R_append k56 (w0:=w6) (W:=w6) wa.heap.size rfl (.tmp 92) (.tmp 94) 29 56 (.agg #[.int .u8 0,.bool false,.int .u8 0,.int .u8 0,.string ⟨#[]⟩]) 24 rfl Tryz.underlying29 infoC rfl (by decide) (by decide) vcs cs cc [.int .u8 cc.f0,.bool cc.f1,.int .u8 cc.f2,.int .u8 cc.f3,.string cc.f4] (fun _ => True) (fun _ => False) rfl (by show Value.slice (some ⟨w5.heap.size + 1,0,none⟩) 1 1 = _; rw [HW6.out,alloc_size]) (k56_mkM _ _ _ _) (fun _ hk => hk.elim) (fun k hk => trivial) HCs6.out (Below.refl _ _) HKe6.out.1 hil ?_; intro v1 w7 ho1 hb1 hg1 hat1; obtain ⟨AV,cV,eV,_,_⟩:=Kd.R_reads ho1; subst eV; rw [show (cs ++ [cc]).length = cs.length + 1 by simp] at ho1 hat1 ⊢; have hne : some g5 ≠ vcs.ownBlock:=(fun e => by have:=Kd.R_base HCs6.out g5 e.symm; have:=HG5.out; omega); have hne2 : some g2 ≠ vcs.ownBlock:=(fun e => by have:=Kd.R_base HCs6.out g2 e.symm; have:=blk_lt H2.out; omega); have hx7:=blk_grown (w:=w6) HX6.out hg1 hne; have HX7:=Aside0.mk hx7; have HY7:=Aside0.mk (blk_grown (w:=w6) HY6.out hg1 hne2); have HCs7:=Aside0.mk ho1; have HIn7:=Aside0.mk (Kd.R_over HIn6.out HCs6.out (by decide) hg1); have HKe7:=Aside0.mk ((HKe6.out.trans (KeepBut.of_grown hg1 g5) (Kd.R_base2 HCs6.out)).set_ 4 (Value.slice AV (cs.length + 1) cV)); have HB7:=Aside0.mk (HB6.out.trans (hb1.mono HLe.out)); have f4:=(blk_cell hx7 4).trans rfl; have y4:=blk_frozen hx7 4; clear ho1 hb1 hg1 hat1 hne hne2 hx7))
          exact Met.intro (hJ2 (N - (i + 1)) _ _ rfl (by omega) ⟨i + 1,_,.slice none 0 0,vin,_,rfl,ci,HS2.out,rfl,rfl,rfl,rfl,rfl,rfl,rfl,blk_put HX7.out 4 _ rfl,Kd.R_nil _ _ _ _ _,Kd.R_mono (Kd.R_set HIn7.out HX7.out (by decide) 4 _) (fun k hk => ⟨trivial,fun e => by cases e⟩),Kd.R_set HCs7.out HX7.out (by decide) 4 _,blk_far HY7.out (Ne.symm N52.out) _,HKe7.out,below_set HB7.out HE5.out⟩)
         ·rw [if_neg hcm] at hs1
          cases hs1
       | false =>
        rw [if_neg (show ¬ (false = true) by decide)] at hs1
        injection hs1 with hs1
        subst hs1
        clear hx5 hb hs2
        go_wp2
        exact Met.intro (hJ2 (N - (i + 1)) _ _ rfl (by omega) ⟨i + 1,_,_,vin,vcs,rfl,ci,HS2.out,rfl,rfl,rfl,rfl,rfl,rfl,rfl,HX5.out,HCm.out,HIn.out,HCs.out,HX2.out,HKe.out,HB.out⟩)
      ·rw [if_neg cb] at hs1
       have e1 : ¬ b.toList = ([59] : List UInt8):=by
        intro h
        apply cb
        apply ByteArray.ext
        apply Array.toList_inj.1
        rw [← ByteArray.toList_eq,h]
        rfl
       have e2 : (b.toList == ([59] : List UInt8)) = false:=beq_eq_false_iff_ne.2 e1
       obtain ⟨ins,cs,cmd,go⟩:=st
       simp only at *
       cases go with
       | true =>
        rw [if_pos rfl] at hs1
        injection hs1 with hs1
        subst hs1
        have hil : (cmd.length + 1) * 16 ≤ 140737488355328:=by (try simp only [List.length_nil] at hlen); omega
        clear hx5 hb hs2 hlen hlen2
        go_wp2_with (first | (at_builtin; refine Kd.R_append Kd.string (w0:=W3) (W:=W3) wa.heap.size rfl (.tmp 102) (.tmp 104) 28 9 (.string ⟨#[]⟩) 16 rfl Tryz.underlying28 info9 rfl (by decide) (by decide) vcmd cmd b [.string b] (fun _ => True) (fun _ => False) rfl rfl rfl (fun _ hk => hk.elim) (fun k hk => trivial) HCm.out (Below.refl _ _) HKe.out.1 hil ?_; intro v1 w5 ho1 hb1 hg1 hat1; have hne : some g5 ≠ vcmd.ownBlock:=(fun e => by have:=Kd.R_base HCm.out g5 e.symm; have:=HG5.out; omega); have hne2 : some g2 ≠ vcmd.ownBlock:=(fun e => by have:=Kd.R_base HCm.out g2 e.symm; have:=blk_lt H2.out; omega); have HX5':=Aside0.mk (blk_grown (w:=W3) HX5.out hg1 hne); have HX2':=Aside0.mk (blk_grown (w:=W3) HX2.out hg1 hne2); have HCm':=Aside0.mk ho1; have HIn':=Aside0.mk (Kd.R_after HIn.out hg1 hat1); have HCs':=Aside0.mk (Kd.R_over HCs.out HCm.out (by decide) hg1); have HKe':=Aside0.mk (HKe.out.trans (KeepBut.of_grown hg1 g5) (Kd.R_base2 HCm.out)); have HB':=Aside0.mk (HB.out.trans (hb1.mono HLe.out)); clear ho1 hb1 hg1 hat1 hne hne2))
        exact Met.intro (hJ2 (N - (i + 1)) _ _ rfl (by omega) ⟨i + 1,_,v1,vin,vcs,rfl,ci,HS2.out,rfl,rfl,rfl,rfl,rfl,rfl,rfl,HX5'.out,HCm'.out,HIn'.out,HCs'.out,HX2'.out,HKe'.out,HB'.out⟩)
       | false =>
        rw [if_neg (show ¬ (false = true) by decide)] at hs1
        injection hs1 with hs1
        subst hs1
        have hil : (ins.length + 1) * 16 ≤ 140737488355328:=by (try simp only [List.length_nil] at hlen); omega
        have z1:=(blk_cell HX5.out 1).trans rfl
        clear hx5 hb hs2 hlen hlen2
        go_wp2_with (first | (at_builtin; refine Kd.R_append Kd.string (w0:=W3) (W:=W3) wa.heap.size rfl (.tmp 72) (.tmp 74) 28 9 (.string ⟨#[]⟩) 16 rfl Tryz.underlying28 info9 rfl (by decide) (by decide) vin ins b [.string b] (fun k => True ∧ some k ≠ vcmd.ownBlock) (fun _ => False) rfl rfl rfl (fun _ hk => hk.elim) (fun k hk => ⟨trivial,fun e => by have:=Kd.R_lt HCm.out k e.symm; omega⟩) HIn.out (Below.refl _ _) HKe.out.1 hil ?_; intro v1 w5 ho1 hb1 hg1 hat1; obtain ⟨AV,cV,eV,_,_⟩:=Kd.R_reads ho1; subst eV; rw [show (ins ++ [b]).length = ins.length + 1 by simp] at ho1 hat1 ⊢; have hne : some g5 ≠ vin.ownBlock:=(fun e => by have:=Kd.R_base HIn.out g5 e.symm; have:=HG5.out; omega); have hne2 : some g2 ≠ vin.ownBlock:=(fun e => by have:=Kd.R_base HIn.out g2 e.symm; have:=blk_lt H2.out; omega); have hx5:=blk_grown (w:=W3) HX5.out hg1 hne; have HX5':=Aside0.mk hx5; have HX2':=Aside0.mk (blk_grown (w:=W3) HX2.out hg1 hne2); have HIn':=Aside0.mk ho1; have HCm':=Aside0.mk (Kd.R_grown2 HCm.out rfl hg1 (fun k hk => (HIn.out.1 k hk).2)); have HCs':=Aside0.mk (Kd.R_over HCs.out HIn.out (by decide) hg1); have HKe':=Aside0.mk ((HKe.out.trans (KeepBut.of_grown hg1 g5) (Kd.R_base2 HIn.out)).set_ 1 (Value.slice AV (ins.length + 1) cV)); have HB':=Aside0.mk (HB.out.trans (hb1.mono HLe.out)); have f1:=(blk_cell hx5 1).trans rfl; have y1:=blk_frozen hx5 1; clear ho1 hb1 hg1 hat1 hne hne2 hx5))
        exact Met.intro (hJ2 (N - (i + 1)) _ _ rfl (by omega) ⟨i + 1,_,vcmd,_,vcs,rfl,ci,HS2.out,rfl,rfl,rfl,rfl,rfl,rfl,rfl,blk_put HX5'.out 1 _ rfl,Kd.R_set HCm'.out HX5'.out (by decide) 1 _,Kd.R_set HIn'.out HX5'.out (by decide) 1 _,Kd.R_set HCs'.out HX5'.out (by decide) 1 _,blk_far HX2'.out (Ne.symm N52.out) _,HKe'.out,below_set HB'.out HE5.out⟩)
     ·obtain rfl : i = N:=by omega
      have u1 : decide ((i : Int) < (i : Int)) = false:=by simp
      have hst:=HSt.out
      rw [List.take_of_length_le (by have:=HN3.out; omega),HRunM.out] at hst
      injection hst with hst
      subst hst
      clear hx5
      go_wp2
      exact Met.intro (hJ _ _ rfl ⟨rfl,rfl,⟨vin,vcs,HX5.out,Kd.R_mono HIn.out (fun _ _ => trivial),HCs.out⟩,HX2.out,HB.out⟩)
   case rest3 =>
    rintro u W3 ⟨h2,h5,⟨vin,vcs,hx5,hin,hcs⟩,hx2,hB⟩
    rw [lit110]
    simp only [h2,h5]
    obtain ⟨A1,k1,e1,hk1,hC1⟩:=Kd.R_reads hin
    obtain ⟨A4,k4,e4,hk4,hC4⟩:=Kd.R_reads hcs
    subst e1 e4
    have HX5:=Aside0.mk hx5
    have HX2:=Aside0.mk hx2
    have HB:=Aside0.mk hB
    have HIn:=Aside0.mk hin
    have HCs:=Aside0.mk hcs
    have hcln:=fun W (hW : Below W3.heap.size W3 W) => Clean_calls W nm pat dt wd HV.out x A1 k1 A4 k4 HF.out (Kd.C_below hC1 hW) hk1 (Kd.C_below hC4 hW) hk4
    rw [HCl.out,HOp.out] at hcln
    have HCln:=Aside0.mk hcln
    have d0 : W3.cell? ⟨g5,0,none⟩ = some (.string x.f0):=(blk_cell hx5 0).trans rfl
    have d1 : W3.cell? ⟨g5,1,none⟩ = some (.slice A1 x.f1.length k1):=(blk_cell hx5 1).trans rfl
    have d2 : W3.cell? ⟨g5,2,none⟩ = some (.int .u8 op):=(blk_cell hx5 2).trans rfl
    have d3 : W3.cell? ⟨g5,3,none⟩ = some (.string x.f3):=(blk_cell hx5 3).trans rfl
    have d4 : W3.cell? ⟨g5,4,none⟩ = some (.slice A4 x.f4.length k4):=(blk_cell hx5 4).trans rfl
    have hg2 : g2 < wa.heap.size:=blk_lt H2.out
    have HG2a:=Aside0.mk hg2
    clear h2 h5 hx5 hx2 hB hin hcs hcln hC1 hC4 hk1 hk4 hg2
    go_wp2
    refine start_ (n:=5) (S:=fun w' => w'.cell? ⟨g5,0,none⟩ = some (.string x.f0) ∧ w'.cell? ⟨g5,1,none⟩ = some (.slice A1 x.f1.length k1) ∧ w'.cell? ⟨g5,2,none⟩ = some (.int .u8 op) ∧ w'.cell? ⟨g5,3,none⟩ = some (.string x.f3) ∧ w'.cell? ⟨g5,4,none⟩ = some (.slice A4 x.f4.length k4)) (ds:=[3]) #[false,false,false,false,false] (by kernel_rfl) rfl rfl ⟨d0,d1,d2,d3,d4⟩ (fun hHeld => ?_)
    refine take_ (i:=0) (N:=some 107) (v:=?_) (a':=?_) #[true,false,false,false,false] rfl rfl (by kernel_rfl) (fun _ _ _ h => h) (Or.inl ⟨by rfl,?_⟩) hHeld ?_ ?_
    rotate_left
    ·rintro w' ⟨s0,s1,s2,s3,s4⟩
     go_simp
     with_reducible rfl
    rotate_left
    ·simp only [Act.put,List.setIfInBounds_toArray,List.set_cons_zero,List.set_cons_succ,i64_w,i32_w]
     rfl
    refine take_ (i:=1) (N:=some 108) (v:=?_) (a':=?_) #[true,true,false,false,false] rfl rfl (by kernel_rfl) (fun _ _ _ h => h) (Or.inl ⟨by rfl,?_⟩) hHeld ?_ ?_
    rotate_left
    ·rintro w' ⟨s0,s1,s2,s3,s4⟩
     go_simp
     with_reducible rfl
    rotate_left
    ·simp only [Act.put,List.setIfInBounds_toArray,List.set_cons_zero,List.set_cons_succ,i64_w,i32_w]
     rfl
    refine one_ (i:=2) (N:=some 109) #[true,true,true,false,false] rfl rfl (by kernel_rfl) (by decide) (fun K hK => ?_)
    refine goes_ Tryz.func18 (by kernel_rfl) rfl #[.agg #[.string x.f0,.slice A1 x.f1.length k1,.int .u8 op,.string x.f3,.slice A4 x.f4.length k4]] (by rfl) rfl rfl (by simp only [List.map_toArray,List.map_cons,List.map_nil]; rfl) ?_
    with_reducible refine (HCln.out W3.drew (below_drew (Below.refl _ _))).mono ?_
    rintro e W8 ⟨rfl,hb8⟩
    refine ⟨_,rfl,?_⟩
    have HB8:=Aside0.mk ((below_drew HB.out).trans (hb8.mono HB.out.size))
    have HX8:=Aside0.mk (blk_below (blk_drew HX5.out) hb8)
    have hy8:=blk_below (blk_drew HX2.out) hb8
    unfold Z31 at hy8
    have HY8:=Aside0.mk hy8
    have HIn8:=Aside0.mk (Kd.R_below (Kd.R_drew HIn.out) hb8)
    have HCs8:=Aside0.mk (Kd.R_below (Kd.R_drew HCs.out) hb8)
    have z0:=(blk_cell hy8 0).trans rfl
    have z1:=(blk_cell hy8 1).trans rfl
    have z2:=(blk_cell hy8 2).trans rfl
    have z3:=(blk_cell hy8 3).trans rfl
    have z4:=(blk_cell hy8 4).trans rfl
    have y0:=blk_frozen hy8 0
    have y1:=blk_frozen hy8 1
    have y2:=blk_frozen hy8 2
    have y3:=blk_frozen hy8 3
    have y4:=blk_frozen hy8 4
    have f0:=cell_later (w:=W3.drew) hb8 d0
    have f1:=cell_later (w:=W3.drew) hb8 d1
    have f2:=cell_later (w:=W3.drew) hb8 d2
    have f3:=cell_later (w:=W3.drew) hb8 d3
    have f4:=cell_later (w:=W3.drew) hb8 d4
    clear hy8 hb8
    refine hK.out _ _ ⟨f0,f1,f2,f3,f4⟩ (fun hHeld => ?_)
    clear hK K
    refine norm_ (a':=?_) ?_ ?_
    rotate_left
    ·show Act.put _ (some 109) _ = _
     simp only [Act.put,List.setIfInBounds_toArray,List.set_cons_zero,List.set_cons_succ,i64_w,i32_w]
     rfl
    refine last_ (i:=3) (N:=none) #[true,true,true,true,false] rfl rfl (by kernel_rfl) (by decide) (fun K hK => ?_)
    refine skip_ (w1:=?_) (by rfl) rfl ?_ ?_
    rotate_left
    ·go_simp
     rfl
    refine hK.out _ _ ?_
    clear hK K
    refine pure_ (i:=4) (N:=some 3) (v:=?_) (a':=?_) #[true,true,true,true,true] rfl rfl (by kernel_rfl) (fun _ _ _ h => h) (Or.inl ⟨by rfl,?_⟩) ?_ ?_
    rotate_left
    ·intro w'
     go_simp
     with_reducible rfl
    rotate_left
    ·simp only [Act.put,List.setIfInBounds_toArray,List.set_cons_zero,List.set_cons_succ,i64_w,i32_w]
     rfl
    refine done_ (by kernel_rfl) ?_
    clear d0 d1 d2 d3 d4 f0 f1 f2 f3 f4 z0 z1 z2 z3 z4 y0 y1 y2 y3 y4
    refine to_world (Pr:=fun z => z.heap[g2]? = some (.cells #[Value.string x.f0,.slice A1 x.f1.length k1,.int .u8 op,.string x.f3,.slice A4 x.f4.length k4] 31 (0,0)) ∧ Below w.heap.size w z ∧ Kd.string.R 9 z w.heap.size (fun _ => True) (.slice A1 x.f1.length k1) x.f1 ∧ k56.R 56 z w.heap.size (fun _ => True) (.slice A4 x.f4.length k4) x.f4) ⟨(set5 HY8.out HB8.out (Nat.le_of_eq HG2.out.symm) HX8.out (Ne.symm N52.out)).1,(set5 HY8.out HB8.out (Nat.le_of_eq HG2.out.symm) HX8.out (Ne.symm N52.out)).2.2,?_,?_⟩ (fun W9 h9 => ?_)
    ·exact Kd.R_mono (Kd.R_step (Kd.R_reok rfl (Kd.R_lower HIn8.out HLe.out) (ok:=fun k => k ≠ g2) (fun k hk => by have:=Kd.R_base HIn8.out k hk; have:=HG2a.out; omega)) (fun k hk _ => far5 hk)) (fun _ _ => trivial)
    ·exact Kd.R_mono (Kd.R_step (Kd.R_reok rfl (Kd.R_lower HCs8.out HLe.out) (ok:=fun k => k ≠ g2) (fun k hk => by have:=Kd.R_base HCs8.out k hk; have:=HG2a.out; omega)) (fun k hk _ => far5 hk)) (fun _ _ => trivial)
    have c0 : W9.cell? ⟨g2,0,none⟩ = some (.string x.f0):=(blk_cell h9.1 0).trans rfl
    have c1 : W9.cell? ⟨g2,1,none⟩ = some (.slice A1 x.f1.length k1):=(blk_cell h9.1 1).trans rfl
    have c2 : W9.cell? ⟨g2,2,none⟩ = some (.int .u8 op):=(blk_cell h9.1 2).trans rfl
    have c3 : W9.cell? ⟨g2,3,none⟩ = some (.string x.f3):=(blk_cell h9.1 3).trans rfl
    have c4 : W9.cell? ⟨g2,4,none⟩ = some (.slice A4 x.f4.length k4):=(blk_cell h9.1 4).trans rfl
    have H9:=Aside0.mk h9.2
    clear h9
    go_wp2
    refine bodyPost_ret (v:=.tuple #[.agg #[.string x.f0,.slice A1 x.f1.length k1,.int .u8 op,.string x.f3,.slice A4 x.f4.length k4],.bool true]) ?_ rfl ⟨_,_,by rw [HOp.out],H9.out.2.1,H9.out.2.2,H9.out.1⟩
    simp [results,Tryz.results27,go_sem,c0,c1,c2,c3,c4]
end Go.Proofs.YtplbifmjnanceaaGreatDoor
end
