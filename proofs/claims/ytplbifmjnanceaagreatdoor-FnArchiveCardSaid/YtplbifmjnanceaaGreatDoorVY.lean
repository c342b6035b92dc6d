/- A project opened in memory. -/
import Derived.Test.YtplbifmjnanceaaGreatDoorVH
import Derived.ProofKit
import Derived.OpenShut
import Derived.SliceStrings
import Derived.Deep.Slices
namespace Go.Proofs.YtplbifmjnanceaaGreatDoor
open Go.RowKit Go.Proofs.YtplbifmjnanceaaGreatDoorW.PrintWords Go.Proofs.YtplbifmjnanceaaGreatDoorW.PrintLast Go.Proofs.YtplbifmjnanceaaGreatDoorW.PrintMore
open Go.Proofs.YtplbifmjnanceaaGreatDoor.PFnArchive
open Go.ChangeShapes Go.WideShapes Go.ChangeAt Go.Deep
set_option linter.unusedVariables false
set_option linter.unusedSimpArgs false
section
variable {H : Type} {enc : TypeId × Value → H} {W : World} {base : Nat} {spare : Nat → Bool} {held : Bool}
theorem maxLen_le : maxLen ≤ 9223372036854775807:=Nat.le_of_ble_eq_true rfl
set_option maxRecDepth 100000 in
theorem open_row {α : Type} (kd : Kd α) (Q : α → Prop) {t e : TypeId} {fuel : Nat} {cs : List Value} {x : DataW H × List MemPlace} (ht : Tryz.prog.underlying t = some (.slice e)) (hsz : Tryz.prog.cellsOf e = kd.sz)
  (each : ∀ n cs y,DataW.trod enc Tryz.prog W base spare held n e cs = some y → ∃ x : α,kd.K W x cs ∧ Q x) (h : DataW.trod enc Tryz.prog W base spare held fuel t cs = some x) :
  ∃ (A : Option Addr) (c : Nat) (L : List α),cs = [.slice A L.length c] ∧ L.length ≤ c ∧ kd.C W A L.length L ∧ ∀ x ∈ L,Q x:=by
 rcases open_slice ht h with ⟨hcs,_⟩ | ⟨a,len,cap,m,n,D,Pl,hcs,_,hl,hm,hmm,_,hel⟩
 ·exact ⟨none,0,[],hcs,Nat.le_refl _,Kd.C_nil _ _,fun x hx => by cases hx⟩
 ·have hlm : len ≤ m:=by rw [hmm]; split <;> omega
  have hex : ∀ i : Nat,i < len → ∃ x : α,∃ c : List Value,c.length = kd.sz ∧ kd.K W x c ∧ (∀ j u,c[j]? = some u → W.cell? (a.add (i * kd.sz + j)) = some u) ∧ Q x:=by
   intro i hi
   obtain ⟨cs',h1,h2⟩:=hel i (by omega)
   obtain ⟨_,h3,h4⟩:=World.cells?_some h1
   obtain ⟨x,hK,hQ⟩:=each _ _ _ h2
   rw [hsz] at h3 h4
   refine ⟨x,cs',h3,hK,fun j u hu => ?_,hQ⟩
   have hj : j < kd.sz:=by rw [← h3]; exact get_lt hu
   have h5:=h4 j hj
   rw [← hu,← h5]
   congr 1
   by_cases hj0 : j = 0
   ·subst hj0
    simp [Addr.add]
   ·rw [add_field a _ j (by omega)]
    generalize a.add (i * kd.sz) = b
    have:=add_field b 0 j (by omega)
    rw [Nat.zero_add] at this
    rw [this]
    simp [Addr.add]
  obtain ⟨f,hf⟩ : ∃ f : Nat → Option α,∀ i,i < len → ∃ x,f i = some x ∧ ∃ c : List Value,c.length = kd.sz ∧ kd.K W x c ∧ (∀ j u,c[j]? = some u → W.cell? (a.add (i * kd.sz + j)) = some u) ∧ Q x:=by
   refine ⟨fun i => if hi : i < len then some (Classical.choose (hex i hi)) else none,fun i hi => ⟨Classical.choose (hex i hi),?_,Classical.choose_spec (hex i hi)⟩⟩
   simp [hi]
  have hlist : ∀ k,k ≤ len → ∃ L : List α,L.length = k ∧ ∀ (j : Nat) p,L[j]? = some p → f j = some p:=by
   intro k
   induction k with
   | zero => intro _; exact ⟨[],rfl,fun j p hj => by simp at hj⟩
   | succ k ih =>
    intro hk
    obtain ⟨L,h1,h2⟩:=ih (by omega)
    obtain ⟨x,h3,_⟩:=hf k (by omega)
    refine ⟨L ++ [x],by simp [h1],fun j p hj => ?_⟩
    rcases Nat.lt_or_ge j k with c | c
    ·rw [List.getElem?_append_left (by omega)] at hj
     exact h2 j p hj
    ·have hjk : j = k:=by
      have:=get_lt hj
      simp [h1] at this
      omega
     subst hjk
     rw [List.getElem?_append_right (by omega),h1,Nat.sub_self] at hj
     injection hj with hj
     rw [← hj]
     exact h3
  obtain ⟨L,hL,hLf⟩:=hlist len (Nat.le_refl _)
  have hmax:=maxLen_le
  refine ⟨some a,cap,L,by rw [hcs,hL],by omega,⟨rfl,by omega,fun _ => ⟨a,rfl,fun j p hj => ?_⟩⟩,fun x hx => ?_⟩
  ·obtain ⟨y,h3,c,h4,h5,h6,_⟩:=hf j (by have:=get_lt hj; omega)
   rw [hLf j p hj] at h3
   injection h3 with h3
   subst h3
   exact ⟨c,h4,h5,h6⟩
  ·obtain ⟨j,hj⟩:=List.getElem?_of_mem hx
   obtain ⟨y,h3,_,_,_,_,hQ⟩:=hf j (by have:=get_lt hj; omega)
   rw [hLf j x hj] at h3
   injection h3 with h3
   subst h3
   exact hQ
theorem cells9 : Tryz.prog.cellsOf 9 = 1:=by kernel_rfl
theorem cells28 : Tryz.prog.cellsOf 28 = 1:=by kernel_rfl
theorem cells29 : Tryz.prog.cellsOf 29 = 1:=by kernel_rfl
theorem cells5' : Tryz.prog.cellsOf 5 = 1:=by kernel_rfl
theorem cells4' : Tryz.prog.cellsOf 4 = 1:=by kernel_rfl
theorem cells22 : Tryz.prog.cellsOf 22 = 1:=by kernel_rfl
theorem cells23 : Tryz.prog.cellsOf 23 = 1:=by kernel_rfl
theorem cells25 : Tryz.prog.cellsOf 25 = 2:=by kernel_rfl
theorem cells35 : Tryz.prog.cellsOf 35 = 2:=by kernel_rfl
theorem cells31' : Tryz.prog.cellsOf 31 = 5:=by kernel_rfl
theorem cells56 : Tryz.prog.cellsOf 56 = 5:=by kernel_rfl
theorem list2 {α : Type} {l : List α} (h : l.length = 2) : ∃ a b,l = [a,b]:=by
 match l,h with
 | [a,b],_ => exact ⟨a,b,rfl⟩
theorem list5 {α : Type} {l : List α} (h : l.length = 5) : ∃ a b c d e,l = [a,b,c,d,e]:=by
 match l,h with
 | [a,b,c,d,e],_ => exact ⟨a,b,c,d,e,rfl⟩
theorem open_text {n : Nat} {cs : List Value} {y : DataW H × List MemPlace} (h : DataW.trod enc Tryz.prog W base spare held n 9 cs = some y) : ∃ x : ByteArray,Kd.string.K W x cs ∧ True:=by
 obtain ⟨s,rfl,_,_⟩:=DataW.trod_string Tryz.underlying9 h
 exact ⟨s,rfl,trivial⟩
theorem open_file {n : Nat} {cs : List Value} {y : DataW H × List MemPlace} (h : DataW.trod enc Tryz.prog W base spare held n 35 cs = some y) : ∃ x : S35,k35.K W x cs ∧ True:=by
 obtain ⟨xs,m,_,_,hl,hx,hf⟩:=DataW.trod_struct Tryz.underlying35 h
 rw [cells35] at hl
 obtain ⟨v0,v1,rfl⟩:=list2 hl
 obtain ⟨y0,y1,rfl⟩:=list2 (hx.trans rfl)
 have f0 : DataW.trod enc Tryz.prog W base spare held m 9 (([v0,v1].drop 0).take (Tryz.prog.cellsOf 9)) = some y0:=hf 0 _ rfl
 rw [cells9] at f0
 have f1 : DataW.trod enc Tryz.prog W base spare held m 9 (([v0,v1].drop 1).take (Tryz.prog.cellsOf 9)) = some y1:=hf 1 _ rfl
 rw [cells9] at f1
 obtain ⟨s0,e0,_,_⟩:=DataW.trod_string Tryz.underlying9 f0
 obtain ⟨s1,e1,_,_⟩:=DataW.trod_string Tryz.underlying9 f1
 obtain rfl:=(List.cons.inj e0).1
 obtain rfl:=(List.cons.inj e1).1
 exact ⟨⟨s0,s1⟩,k35_mk W _,trivial⟩
def RngC (x : S56) : Prop:=0 ≤ x.f0 ∧ 0 ≤ x.f2 ∧ 0 ≤ x.f3
theorem open_cmd {n : Nat} {cs : List Value} {y : DataW H × List MemPlace} (h : DataW.trod enc Tryz.prog W base spare held n 56 cs = some y) : ∃ x : S56,k56.K W x cs ∧ RngC x:=by
 obtain ⟨xs,m,_,_,hl,hx,hf⟩:=DataW.trod_struct Tryz.underlying56 h
 rw [cells56] at hl
 obtain ⟨v0,v1,v2,v3,v4,rfl⟩:=list5 hl
 obtain ⟨y0,y1,y2,y3,y4,rfl⟩:=list5 (hx.trans rfl)
 have f0 : DataW.trod enc Tryz.prog W base spare held m 5 (([v0,v1,v2,v3,v4].drop 0).take (Tryz.prog.cellsOf 5)) = some y0:=hf 0 _ rfl
 rw [cells5'] at f0
 have f1 : DataW.trod enc Tryz.prog W base spare held m 4 (([v0,v1,v2,v3,v4].drop 1).take (Tryz.prog.cellsOf 4)) = some y1:=hf 1 _ rfl
 rw [cells4'] at f1
 have f2 : DataW.trod enc Tryz.prog W base spare held m 5 (([v0,v1,v2,v3,v4].drop 2).take (Tryz.prog.cellsOf 5)) = some y2:=hf 2 _ rfl
 rw [cells5'] at f2
 have f3 : DataW.trod enc Tryz.prog W base spare held m 5 (([v0,v1,v2,v3,v4].drop 3).take (Tryz.prog.cellsOf 5)) = some y3:=hf 3 _ rfl
 rw [cells5'] at f3
 have f4 : DataW.trod enc Tryz.prog W base spare held m 9 (([v0,v1,v2,v3,v4].drop 4).take (Tryz.prog.cellsOf 9)) = some y4:=hf 4 _ rfl
 rw [cells9] at f4
 obtain ⟨s0,e0,_,w0⟩:=DataW.trod_int Tryz.underlying5 f0
 obtain ⟨s1,e1,_⟩:=DataW.trod_bool Tryz.underlying4 f1
 obtain ⟨s2,e2,_,w2⟩:=DataW.trod_int Tryz.underlying5 f2
 obtain ⟨s3,e3,_,w3⟩:=DataW.trod_int Tryz.underlying5 f3
 obtain ⟨s4,e4,_,_⟩:=DataW.trod_string Tryz.underlying9 f4
 obtain rfl:=(List.cons.inj e0).1
 obtain rfl:=(List.cons.inj e1).1
 obtain rfl:=(List.cons.inj e2).1
 obtain rfl:=(List.cons.inj e3).1
 obtain rfl:=(List.cons.inj e4).1
 exact ⟨⟨s0,s1,s2,s3,s4⟩,k56_mk W _,(bounds_u8 w0).1,(bounds_u8 w2).1,(bounds_u8 w3).1⟩
def RngR (x : S31) : Prop:=0 ≤ x.f2 ∧ ∀ c ∈ x.f4,RngC c
theorem open_rule {n : Nat} {cs : List Value} {y : DataW H × List MemPlace} (h : DataW.trod enc Tryz.prog W base spare held n 31 cs = some y) : ∃ x : S31,k31.K W x cs ∧ RngR x:=by
 obtain ⟨xs,m,_,_,hl,hx,hf⟩:=DataW.trod_struct Tryz.underlying31 h
 rw [cells31'] at hl
 obtain ⟨v0,v1,v2,v3,v4,rfl⟩:=list5 hl
 obtain ⟨y0,y1,y2,y3,y4,rfl⟩:=list5 (hx.trans rfl)
 have f0 : DataW.trod enc Tryz.prog W base spare held m 9 (([v0,v1,v2,v3,v4].drop 0).take (Tryz.prog.cellsOf 9)) = some y0:=hf 0 _ rfl
 rw [cells9] at f0
 have f1 : DataW.trod enc Tryz.prog W base spare held m 28 (([v0,v1,v2,v3,v4].drop 1).take (Tryz.prog.cellsOf 28)) = some y1:=hf 1 _ rfl
 rw [cells28] at f1
 have f2 : DataW.trod enc Tryz.prog W base spare held m 5 (([v0,v1,v2,v3,v4].drop 2).take (Tryz.prog.cellsOf 5)) = some y2:=hf 2 _ rfl
 rw [cells5'] at f2
 have f3 : DataW.trod enc Tryz.prog W base spare held m 9 (([v0,v1,v2,v3,v4].drop 3).take (Tryz.prog.cellsOf 9)) = some y3:=hf 3 _ rfl
 rw [cells9] at f3
 have f4 : DataW.trod enc Tryz.prog W base spare held m 29 (([v0,v1,v2,v3,v4].drop 4).take (Tryz.prog.cellsOf 29)) = some y4:=hf 4 _ rfl
 rw [cells29] at f4
 obtain ⟨s0,e0,_,_⟩:=DataW.trod_string Tryz.underlying9 f0
 obtain ⟨A1,c1,L1,e1,l1,g1,_⟩:=open_row Kd.string (fun _ => True) Tryz.underlying28 cells9 (fun n cs y h => open_text h) f1
 obtain ⟨s2,e2,_,w2⟩:=DataW.trod_int Tryz.underlying5 f2
 obtain ⟨s3,e3,_,_⟩:=DataW.trod_string Tryz.underlying9 f3
 obtain ⟨A4,c4,L4,e4,l4,g4,q4⟩:=open_row k56 RngC Tryz.underlying29 cells56 (fun n cs y h => open_cmd h) f4
 obtain rfl:=(List.cons.inj e0).1
 obtain rfl:=(List.cons.inj e1).1
 obtain rfl:=(List.cons.inj e2).1
 obtain rfl:=(List.cons.inj e3).1
 obtain rfl:=(List.cons.inj e4).1
 exact ⟨⟨s0,L1,s2,s3,L4⟩,k31_mk W ⟨s0,L1,s2,s3,L4⟩ l1 g1 l4 g4,(bounds_u8 w2).1,q4⟩
theorem open_project {n : Nat} {cs : List Value} {y : DataW H × List MemPlace} (h : DataW.trod enc Tryz.prog W base spare held n 25 cs = some y) :
  ∃ A1 c1 A2 c2 F L,cs = [.slice A1 (List.length F) c1,.slice A2 (List.length L) c2] ∧ F.length ≤ c1 ∧ Kd.C k35 W A1 F.length F ∧ L.length ≤ c2 ∧ Kd.C k31 W A2 L.length L ∧ ∀ x ∈ L,RngR x:=by
 obtain ⟨xs,m,_,_,hl,hx,hf⟩:=DataW.trod_struct Tryz.underlying25 h
 rw [cells25] at hl
 obtain ⟨v0,v1,rfl⟩:=list2 hl
 obtain ⟨y0,y1,rfl⟩:=list2 (hx.trans rfl)
 have f0 : DataW.trod enc Tryz.prog W base spare held m 22 (([v0,v1].drop 0).take (Tryz.prog.cellsOf 22)) = some y0:=hf 0 _ rfl
 rw [cells22] at f0
 have f1 : DataW.trod enc Tryz.prog W base spare held m 23 (([v0,v1].drop 1).take (Tryz.prog.cellsOf 23)) = some y1:=hf 1 _ rfl
 rw [cells23] at f1
 obtain ⟨A1,c1,F,e0,l1,g1,_⟩:=open_row k35 (fun _ => True) Tryz.underlying22 cells35 (fun n cs y h => open_file h) f0
 obtain ⟨A2,c2,L,e1,l2,g2,q⟩:=open_row k31 RngR Tryz.underlying23 cells31' (fun n cs y h => open_rule h) f1
 obtain rfl:=(List.cons.inj e0).1
 obtain rfl:=(List.cons.inj e1).1
 exact ⟨A1,c1,A2,c2,F,L,rfl,l1,g1,l2,g2,q⟩
end
end Go.Proofs.YtplbifmjnanceaaGreatDoor
