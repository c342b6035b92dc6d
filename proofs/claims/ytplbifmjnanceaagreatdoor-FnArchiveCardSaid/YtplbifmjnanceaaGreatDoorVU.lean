/- diff.Diff of two different texts. -/
import Derived.Test.YtplbifmjnanceaaGreatDoorVF
import Derived.Test.YtplbifmjnanceaaGreatDoorVO
import Derived.Test.YtplbifmjnanceaaGreatDoorVC
import Derived.Lib.BufferOld
import Derived.Test.YtplbifmjnanceaaGreatDoorVS
import Derived.Test.YtplbifmjnanceaaGreatDoorVB
import Derived.Lib.AppendIntMem
import Derived.Deep.QuietTactic
import Derived.BigQuiet
import Derived.Deep.RegionHeld3
import Derived.Lib.ItoaLen
section
namespace Go.Proofs.YtplbifmjnanceaaGreatDoor
open Go.RowKit Go.Proofs.YtplbifmjnanceaaGreatDoorW.PrintWords Go.Proofs.YtplbifmjnanceaaGreatDoorW.PrintLast Go.Proofs.YtplbifmjnanceaaGreatDoorW.PrintMore
set_option linter.unusedVariables false
theorem grownBy_put (w : World) {g t : Nat} {cs : Array Value} (h : w.heap[g]? = some (.cells cs t (0,0))) (i : Nat) (u : Value) : w.grownBy (w.setCell ⟨g,i,none⟩ u) (some g) :=
 ⟨rfl,rfl,rfl,by simp [World.setCell],fun k _ hk => Below.heap_setCell w _ u k (fun e => hk (by rw [e]))⟩
theorem buf_grown {T e B b : Nat} {bs : List Value} {w w1 : World} {row : Option Nat} (h : Lib.IsBuffer T e B b bs w) (hg : w.grownBy w1 row) (hr : ∀ g,row = some g → ∃ cs t fz,w.heap[g]? = some (.cells cs t fz) ∧ t ≠ T ∧ t ≠ e) : Lib.IsBuffer T e B b bs w1:=by
 obtain ⟨hB,v,lr,hbk,hown,hne⟩:=h
 have n1 : some b ≠ row:=by
  intro eq
  obtain ⟨cs,t,fz,h1,h2,_⟩:=hr b eq.symm
  rw [hbk] at h1
  injection h1 with h1
  injection h1 with _ h1
  exact h2 h1.symm
 refine ⟨hB,v,lr,blk_grown hbk hg n1,own_other hown hg ?_,hne⟩
 cases e1 : v.ownBlock with
 | none => exact Or.inl rfl
 | some g =>
  refine Or.inr ?_
  intro eq
  obtain ⟨cs,t,fz,h1,_,h3⟩:=hr g eq.symm
  obtain ⟨cells,hc⟩:=own_typed hown g e1
  rw [hc] at h1
  injection h1 with h1
  injection h1 with _ h1
  exact h3 h1.symm
def Box (w : World) (g : Nat) (a b : Int) : Prop:=w.heap[g]? = some (.cells #[.int .i64 a,.int .i64 b] 113 (0,0))
theorem Box.c0 {w : World} {g : Nat} {a b : Int} (h : Box w g a b) : w.cell? ⟨g,0,none⟩ = some (.int .i64 a):=(blk_cell h 0).trans rfl
theorem Box.c1 {w : World} {g : Nat} {a b : Int} (h : Box w g a b) : w.cell? ⟨g,1,none⟩ = some (.int .i64 b):=(blk_cell h 1).trans rfl
theorem Box.f {w : World} {g : Nat} {a b : Int} (h : Box w g a b) (i : Nat) : w.frozen? ⟨g,i,none⟩ = false:=blk_frozen h i
theorem Box.lt {w : World} {g : Nat} {a b : Int} (h : Box w g a b) : g < w.heap.size:=blk_lt h
theorem Box.set0 {w : World} {g : Nat} {a b : Int} (h : Box w g a b) (x : Int) : Box (w.setCell ⟨g,0,none⟩ (.int .i64 x)) g x b:=blk_put h 0 _ rfl
theorem Box.set1 {w : World} {g : Nat} {a b : Int} (h : Box w g a b) (x : Int) : Box (w.setCell ⟨g,1,none⟩ (.int .i64 x)) g a x:=blk_put h 1 _ rfl
theorem Box.new (w : World) (a b : Int) : Box (w.alloc (.cells #[.int .i64 a,.int .i64 b] 113)) w.heap.size a b:=blk_new w _
theorem Box.grown {w w1 : World} {g : Nat} {a b : Int} {row : Option Nat} (h : Box w g a b) (hg : w.grownBy w1 row) (hne : some g ≠ row) : Box w1 g a b:=blk_grown h hg hne
theorem Box.below {w w1 : World} {g : Nat} {a b : Int} (h : Box w g a b) (hb : Below w.heap.size w w1) : Box w1 g a b:=blk_below h hb
theorem Box.putc {w : World} {k g : Nat} {a b x y : Int} (h : Box w k x y) (hg : Box w g a b) (hne : k ≠ g) (i : Nat) (u : Value) : Box (w.setCell ⟨g,i,none⟩ u) k x y:=h.grown (grownBy_put w hg i u) (fun e => by injection e with e; exact hne e)
theorem Box.put2 {w : World} {k g : Nat} {a b x y : Int} (h : Box w k x y) (hg : Box w g a b) (hne : k ≠ g) (c d : Int) : Box ((w.setCell ⟨g,0,none⟩ (.int .i64 c)).setCell ⟨g,1,none⟩ (.int .i64 d)) k x y:=(h.putc hg hne 0 _).putc (hg.set0 c) hne 1 _
def Kp (g : Option Nat) (w w1 : World) : Prop:=∀ k a b,Box w k a b → some k ≠ g → Box w1 k a b
theorem Kp.refl (g : Option Nat) (w : World) : Kp g w w:=fun _ _ _ h _ => h
theorem Kp.trans {g : Option Nat} {a b c : World} (h : Kp g a b) (k : Kp g b c) : Kp g a c:=fun i x y hb hn => k i x y (h i x y hb hn) hn
theorem Kp.of_below {g : Option Nat} {w w1 : World} (h : Below w.heap.size w w1) : Kp g w w1:=fun _ _ _ hb _ => hb.below h
theorem Kp.none_any {g : Option Nat} {w w1 : World} (h : Kp none w w1) : Kp g w w1:=fun i x y hb _ => h i x y hb (by simp)
structure Dw (W0 : World) (gb gd gc gk q : Nat) (txt : List UInt8) (d1 d2 c1 c2 k1 k2 : Int) (v : Value) (l : List ByteArray) (sv : Value) (seq : List (Nat × Nat)) (w : World) : Prop where
 buf : Lib.IsBuffer 107 5 W0.heap.size gb (Lib.byteCells txt) w
 bd : Box w gd d1 d2
 bc : Box w gc c1 c2
 bk : Box w gk k1 k2
 ct : Kd.string.R 9 w W0.heap.size (fun _ => True) v l
 sq : PairsAt w q sv seq
 dc : gd ≠ gc
 dk : gd ≠ gk
 ck : gc ≠ gk
 ld : W0.heap.size ≤ gd
 lc : W0.heap.size ≤ gc
 lk : W0.heap.size ≤ gk
 ud : gd < q
 uc : gc < q
 uk : gk < q
 bel : Below W0.heap.size W0 w
section
variable {W0 w w1 : World} {gb gd gc gk q : Nat} {txt : List UInt8} {d1 d2 c1 c2 k1 k2 : Int} {v v1 sv : Value} {l l1 : List ByteArray} {seq : List (Nat × Nat)}
theorem Dw.below (h : Dw W0 gb gd gc gk q txt d1 d2 c1 c2 k1 k2 v l sv seq w) (hb : Below w.heap.size w w1) : Dw W0 gb gd gc gk q txt d1 d2 c1 c2 k1 k2 v l sv seq w1 :=
 ⟨h.buf.old hb,h.bd.below hb,h.bc.below hb,h.bk.below hb,Kd.R_below h.ct hb,h.sq.below hb,h.dc,h.dk,h.ck,h.ld,h.lc,h.lk,h.ud,h.uc,h.uk,h.bel.trans (hb.mono h.bel.size)⟩
theorem Dw.alloc (h : Dw W0 gb gd gc gk q txt d1 d2 c1 c2 k1 k2 v l sv seq w) (o : Obj) : Dw W0 gb gd gc gk q txt d1 d2 c1 c2 k1 k2 v l sv seq (w.alloc o):=h.below (below_alloc (Below.refl _ _) o)
theorem Dw.other (h : Dw W0 gb gd gc gk q txt d1 d2 c1 c2 k1 k2 v l sv seq w) {g : Nat} {a b : Int} (hb : Box w g a b) (i : Nat) (u : Value) (h1 : gd ≠ g) (h2 : gc ≠ g) (h3 : gk ≠ g) (h4 : W0.heap.size ≤ g) (h5 : sv.ownBlock ≠ some g) : Dw W0 gb gd gc gk q txt d1 d2 c1 c2 k1 k2 v l sv seq (w.setCell ⟨g,i,none⟩ u):=by
 have hg:=grownBy_put w hb i u
 refine ⟨buf_grown h.buf hg (fun g' e => ?_),h.bd.grown hg (fun e => by injection e with e; exact h1 e),h.bc.grown hg (fun e => by injection e with e; exact h2 e),h.bk.grown hg (fun e => by injection e with e; exact h3 e),?_,h.sq.kept hg (fun k hk e => by rw [hk] at h5; exact h5 e),h.dc,h.dk,h.ck,h.ld,h.lc,h.lk,h.ud,h.uc,h.uk,h.bel.trans ((Below.refl _ _).setCell h4 _)⟩
 ·cases e; exact ⟨_,_,_,hb,by decide,by decide⟩
 ·exact Kd.R_set h.ct hb (by intro t ht; simp [Kd.string,Kd.scalar] at ht; subst ht; decide) i u
theorem Dw.readSeq {S : Option Addr} {cs : Nat} (h : Dw W0 gb gd gc gk q txt d1 d2 c1 c2 k1 k2 v l (.slice S seq.length cs) seq w) : kP.C w S seq.length (prs seq):=by
 obtain ⟨A,c,e,_,hC⟩:=h.sq.reads
 injection e with e
 subst e
 exact hC
theorem Dw.ltk (h : Dw W0 gb gd gc gk q txt d1 d2 c1 c2 k1 k2 v l sv seq w) : gk < w.heap.size:=h.bk.lt
theorem Dw.seq_lt (h : Dw W0 gb gd gc gk q txt d1 d2 c1 c2 k1 k2 v l sv seq w) (k : Nat) (hk : sv.ownBlock = some k) : k < w.heap.size:=by
 obtain ⟨i,ho⟩:=Kd.R_own h.sq
 exact own_lt ho k hk
theorem Dw.not_seq (h : Dw W0 gb gd gc gk q txt d1 d2 c1 c2 k1 k2 v l sv seq w) {g : Nat} (hg : g < q) : sv.ownBlock ≠ some g:=fun e => by
 have:=h.sq.ge g e
 omega
theorem Dw.setK0 (h : Dw W0 gb gd gc gk q txt d1 d2 c1 c2 k1 k2 v l sv seq w) (x : Int) : Dw W0 gb gd gc gk q txt d1 d2 c1 c2 x k2 v l sv seq (w.setCell ⟨gk,0,none⟩ (.int .i64 x)):=by
 have hg:=grownBy_put w h.bk 0 (.int .i64 x)
 refine ⟨buf_grown h.buf hg (fun g' e => ?_),h.bd.grown hg (fun e => by injection e with e; exact h.dk e),h.bc.grown hg (fun e => by injection e with e; exact h.ck e),h.bk.set0 x,?_,h.sq.kept hg (fun k hk e => h.not_seq h.uk (hk.trans e)),h.dc,h.dk,h.ck,h.ld,h.lc,h.lk,h.ud,h.uc,h.uk,h.bel.trans ((Below.refl _ _).setCell h.lk _)⟩
 ·cases e; exact ⟨_,_,_,h.bk,by decide,by decide⟩
 ·exact Kd.R_set h.ct h.bk (by intro t ht; simp [Kd.string,Kd.scalar] at ht; subst ht; decide) 0 _
theorem Dw.setK1 (h : Dw W0 gb gd gc gk q txt d1 d2 c1 c2 k1 k2 v l sv seq w) (x : Int) : Dw W0 gb gd gc gk q txt d1 d2 c1 c2 k1 x v l sv seq (w.setCell ⟨gk,1,none⟩ (.int .i64 x)):=by
 have hg:=grownBy_put w h.bk 1 (.int .i64 x)
 refine ⟨buf_grown h.buf hg (fun g' e => ?_),h.bd.grown hg (fun e => by injection e with e; exact h.dk e),h.bc.grown hg (fun e => by injection e with e; exact h.ck e),h.bk.set1 x,?_,h.sq.kept hg (fun k hk e => h.not_seq h.uk (hk.trans e)),h.dc,h.dk,h.ck,h.ld,h.lc,h.lk,h.ud,h.uc,h.uk,h.bel.trans ((Below.refl _ _).setCell h.lk _)⟩
 ·cases e; exact ⟨_,_,_,h.bk,by decide,by decide⟩
 ·exact Kd.R_set h.ct h.bk (by intro t ht; simp [Kd.string,Kd.scalar] at ht; subst ht; decide) 1 _
theorem Dw.setD0 (h : Dw W0 gb gd gc gk q txt d1 d2 c1 c2 k1 k2 v l sv seq w) (x : Int) : Dw W0 gb gd gc gk q txt x d2 c1 c2 k1 k2 v l sv seq (w.setCell ⟨gd,0,none⟩ (.int .i64 x)):=by
 have hg:=grownBy_put w h.bd 0 (.int .i64 x)
 refine ⟨buf_grown h.buf hg (fun g' e => ?_),h.bd.set0 x,h.bc.grown hg (fun e => by injection e with e; exact h.dc e.symm),h.bk.grown hg (fun e => by injection e with e; exact h.dk e.symm),?_,h.sq.kept hg (fun k hk e => h.not_seq h.ud (hk.trans e)),h.dc,h.dk,h.ck,h.ld,h.lc,h.lk,h.ud,h.uc,h.uk,h.bel.trans ((Below.refl _ _).setCell h.ld _)⟩
 ·cases e; exact ⟨_,_,_,h.bd,by decide,by decide⟩
 ·exact Kd.R_set h.ct h.bd (by intro t ht; simp [Kd.string,Kd.scalar] at ht; subst ht; decide) 0 _
theorem Dw.setD1 (h : Dw W0 gb gd gc gk q txt d1 d2 c1 c2 k1 k2 v l sv seq w) (x : Int) : Dw W0 gb gd gc gk q txt d1 x c1 c2 k1 k2 v l sv seq (w.setCell ⟨gd,1,none⟩ (.int .i64 x)):=by
 have hg:=grownBy_put w h.bd 1 (.int .i64 x)
 refine ⟨buf_grown h.buf hg (fun g' e => ?_),h.bd.set1 x,h.bc.grown hg (fun e => by injection e with e; exact h.dc e.symm),h.bk.grown hg (fun e => by injection e with e; exact h.dk e.symm),?_,h.sq.kept hg (fun k hk e => h.not_seq h.ud (hk.trans e)),h.dc,h.dk,h.ck,h.ld,h.lc,h.lk,h.ud,h.uc,h.uk,h.bel.trans ((Below.refl _ _).setCell h.ld _)⟩
 ·cases e; exact ⟨_,_,_,h.bd,by decide,by decide⟩
 ·exact Kd.R_set h.ct h.bd (by intro t ht; simp [Kd.string,Kd.scalar] at ht; subst ht; decide) 1 _
theorem Dw.setC0 (h : Dw W0 gb gd gc gk q txt d1 d2 c1 c2 k1 k2 v l sv seq w) (x : Int) : Dw W0 gb gd gc gk q txt d1 d2 x c2 k1 k2 v l sv seq (w.setCell ⟨gc,0,none⟩ (.int .i64 x)):=by
 have hg:=grownBy_put w h.bc 0 (.int .i64 x)
 refine ⟨buf_grown h.buf hg (fun g' e => ?_),h.bd.grown hg (fun e => by injection e with e; exact h.dc e),h.bc.set0 x,h.bk.grown hg (fun e => by injection e with e; exact h.ck e.symm),?_,h.sq.kept hg (fun k hk e => h.not_seq h.uc (hk.trans e)),h.dc,h.dk,h.ck,h.ld,h.lc,h.lk,h.ud,h.uc,h.uk,h.bel.trans ((Below.refl _ _).setCell h.lc _)⟩
 ·cases e; exact ⟨_,_,_,h.bc,by decide,by decide⟩
 ·exact Kd.R_set h.ct h.bc (by intro t ht; simp [Kd.string,Kd.scalar] at ht; subst ht; decide) 0 _
theorem Dw.setC1 (h : Dw W0 gb gd gc gk q txt d1 d2 c1 c2 k1 k2 v l sv seq w) (x : Int) : Dw W0 gb gd gc gk q txt d1 d2 c1 x k1 k2 v l sv seq (w.setCell ⟨gc,1,none⟩ (.int .i64 x)):=by
 have hg:=grownBy_put w h.bc 1 (.int .i64 x)
 refine ⟨buf_grown h.buf hg (fun g' e => ?_),h.bd.grown hg (fun e => by injection e with e; exact h.dc e),h.bc.set1 x,h.bk.grown hg (fun e => by injection e with e; exact h.ck e.symm),?_,h.sq.kept hg (fun k hk e => h.not_seq h.uc (hk.trans e)),h.dc,h.dk,h.ck,h.ld,h.lc,h.lk,h.ud,h.uc,h.uk,h.bel.trans ((Below.refl _ _).setCell h.lc _)⟩
 ·cases e; exact ⟨_,_,_,h.bc,by decide,by decide⟩
 ·exact Kd.R_set h.ct h.bc (by intro t ht; simp [Kd.string,Kd.scalar] at ht; subst ht; decide) 1 _
theorem Kp.put {g : Nat} {a b : Int} (h : Box w g a b) (i : Nat) (u : Value) : Kp (some g) w (w.setCell ⟨g,i,none⟩ u):=fun k x y hk hn => hk.grown (grownBy_put w h i u) hn
theorem Dw.append (h : Dw W0 gb gd gc gk q txt d1 d2 c1 c2 k1 k2 v l sv seq w) (ho : Kd.string.R 9 w1 W0.heap.size (fun _ => True) v1 l1) (hg : w.grownBy w1 v.ownBlock) : Dw W0 gb gd gc gk q txt d1 d2 c1 c2 k1 k2 v1 l1 sv seq w1 ∧ Kp none w w1:=by
 have ht : ∀ g,v.ownBlock = some g → ∃ cs,w.heap[g]? = some (.cells cs 9 (0,0)):=fun g hk => by
  obtain ⟨inner,hown⟩:=Kd.R_own h.ct
  exact own_typed hown g hk
 have hbx : ∀ k a b,Box w k a b → some k ≠ v.ownBlock:=fun k a b hk e => by
  obtain ⟨cs,hc⟩:=ht k e.symm
  have h2:=hc.symm.trans hk
  injection h2 with h2
  injection h2 with _ h2
  exact absurd h2 (by decide)
 have hl : ∀ k,v.ownBlock = some k → W0.heap.size ≤ k:=fun k hk => by
  obtain ⟨inner,hown⟩:=Kd.R_own h.ct
  exact own_base hown k hk
 refine ⟨⟨buf_grown h.buf hg (fun g' e => ?_),h.bd.grown hg (hbx _ _ _ h.bd),h.bc.grown hg (hbx _ _ _ h.bc),h.bk.grown hg (hbx _ _ _ h.bk),ho,?_,h.dc,h.dk,h.ck,h.ld,h.lc,h.lk,h.ud,h.uc,h.uk,h.bel.grown hg h.bel.size hl⟩,fun k a b hk _ => hk.grown hg (hbx k a b hk)⟩
 ·obtain ⟨cs,hc⟩:=ht g' e
  exact ⟨_,_,_,hc,by decide,by decide⟩
 ·exact Kd.R_over h.sq h.ct (by intro t ht; simp [kP,Kd.pair,Kd.int,Kd.scalar] at ht; subst ht; decide) hg
theorem Dw.recut {A : Option Addr} {n c : Nat} (h : Dw W0 gb gd gc gk q txt d1 d2 c1 c2 k1 k2 (.slice A n c) l sv seq w) : Dw W0 gb gd gc gk q txt d1 d2 c1 c2 k1 k2 (.slice A 0 c) [] sv seq w :=
 { h with ct:=by simpa using Kd.R_take h.ct (m:=0) (Nat.zero_le _) }
theorem Dw.write {txt1 : List UInt8} (h : Dw W0 gb gd gc gk q txt d1 d2 c1 c2 k1 k2 v l sv seq w) (hb : Lib.IsBuffer 107 5 W0.heap.size gb (Lib.byteCells txt1) w1) (hB : Below W0.heap.size w w1) (hk : Lib.OthersKept 5 (some gb) w w1) : Dw W0 gb gd gc gk q txt1 d1 d2 c1 c2 k1 k2 v l sv seq w1 ∧ Kp none w w1:=by
 have hnb : ∀ (k : Nat) (cs : Array Value) (t : Nat),w.heap[k]? = some (Obj.cells cs t (0,0)) → t ≠ 107 → some k ≠ some gb:=fun k cs t hx ht e => by
  injection e with e
  obtain ⟨_,v',lr,hbk,_⟩:=h.buf
  rw [e,hbk] at hx
  injection hx with hx
  injection hx with _ hx
  exact ht hx.symm
 have hkp : ∀ (k : Nat) (cs : Array Value) (t : Nat),w.heap[k]? = some (Obj.cells cs t (0,0)) → t ≠ 107 → t ≠ 5 → w1.heap[k]? = some (Obj.cells cs t (0,0)):=fun k cs t hh h1 h2 =>
  hk k _ hh (hnb k cs t hh h1) (fun c fz (e : Obj.cells cs t (0,0) = Obj.cells c 5 fz) => by injection e with _ e; exact h2 e)
 have hbx : ∀ k a b,Box w k a b → Box w1 k a b:=fun k a b hh => hkp k _ _ hh (by decide) (by decide)
 refine ⟨⟨hb,hbx _ _ _ h.bd,hbx _ _ _ h.bc,hbx _ _ _ h.bk,?_,?_,h.dc,h.dk,h.ck,h.ld,h.lc,h.lk,h.ud,h.uc,h.uk,h.bel.trans hB⟩,fun k a b hh _ => hbx k a b hh⟩
 ·refine Kd.R_mono (Kd.R_move (Kd.R_bound h.ct) (fun k hk2 => ?_)) (fun _ _ => trivial)
  obtain ⟨_,_,_,t,ht,cells,hc⟩:=hk2
  simp [Kd.string,Kd.scalar] at ht
  subst ht
  exact (hkp k _ _ hc (by decide) (by decide)).trans hc.symm
 ·refine Kd.R_mono (Kd.R_move (Kd.R_bound h.sq) (fun k hk2 => ?_)) (fun _ _ => trivial)
  obtain ⟨_,_,_,t,ht,cells,hc⟩:=hk2
  simp [kP,Kd.pair,Kd.int,Kd.scalar] at ht
  subst ht
  exact (hkp k _ _ hc (by decide) (by decide)).trans hc.symm
end
end Go.Proofs.YtplbifmjnanceaaGreatDoor
end
section
namespace Go.Proofs.YtplbifmjnanceaaGreatDoor
open Go.RowKit Go.Proofs.YtplbifmjnanceaaGreatDoorW.PrintWords Go.Proofs.YtplbifmjnanceaaGreatDoorW.PrintLast Go.Proofs.YtplbifmjnanceaaGreatDoorW.PrintMore
open Go.Proofs.YtplbifmjnanceaaGreatDoor.Plines
set_option linter.unusedVariables false
set_option linter.unusedSimpArgs false
theorem seg_cut {w : World} {A : Option Addr} {x : List ByteArray} {c : Nat} (h : Kd.C Kd.string w A x.length x) (hc : x.length ≤ c) (lo hi : Nat) (h1 : lo ≤ hi) (h2 : hi ≤ x.length) :
  ∃ A' c',(∀ W : World,(Instr.slice 28 (.slice A x.length c) (some (.int .i64 lo)) (some (.int .i64 hi)) none).run Tryz.prog W = .ok (.slice A' (hi - lo) c') W) ∧ Kd.C Kd.string w A' (Dp.seg x lo hi).length (Dp.seg x lo hi):=by
 obtain ⟨i,hi',hz,hs,hb⟩:=info_parts info9
 refine ⟨if c = lo then A else A.map (·.add (lo * 1)),c - lo,fun W => ?_,?_⟩
 ·have:=cut_mid (P:=Tryz.prog) 28 9 .i64 .i64 Tryz.underlying28 hi' 1 hs A x.length c (lo : Int) (hi : Int) (by omega) (by omega) (by omega) hc W
  simpa only [Int.toNat_natCast] using this
 ·have:=Kd.C_mid h h1 h2 hc
  rw [List.drop_take] at this
  exact this
def powTab (w : World) : Prop:=Lib.TabBelow Tryz.prog w.heap.size w "internal/strconv.uint64pow10" .u64 Lib.pow10Tab
structure Rd (x y : List ByteArray) (seq : List (Nat × Nat)) (a b : ByteArray) (W0 : World) (gb gd gc gk q : Nat) (sv : Value) (k : Nat) (v : Value) (w : World) : Prop where
 ex : ∃ (hs : List Dp.Hk) (a1 a2 c1 c2 d1 d2 : Nat) (ct : List Dp.Ln),Dp.DS x y hs a1 a2 c1 c2 d1 d2 ct ∧ (∀ p q1 q2,k ≤ p → seq[p]? = some (q1,q2) → d1 ≤ q1 → d2 ≤ q2) ∧ ((diffText a b hs).length ≤ 4194321 + (a1 + a2) * 2097152 ∧ (hs.length = 0 ∨ 3 ≤ x.length)) ∧
  Dw W0 gb gd gc gk q (diffText a b hs) d1 d2 c1 c2 ((d1 - c1 : Nat) : Int) ((d2 - c2 : Nat) : Int) v (ct.map lineB) sv seq w
structure Fx (X Y S : Option Addr) (nx cx ny cy ns cs gb gd k : Nat) (u : Nat → Value) : Prop where
 e9 : u 9 = .slice X nx cx
 e10 : u 10 = .slice Y ny cy
 e11 : u 11 = .pointer (some ⟨gb,0,none⟩)
 e12 : u 12 = .pointer (some ⟨gd,0,none⟩)
 e13 : u 13 = .pointer (some ⟨gd + 1,0,none⟩)
 e14 : u 14 = .pointer (some ⟨gd + 2,0,none⟩)
 e57 : u 57 = .slice S ns cs
 e58 : u 58 = .int .i64 ns
 e59 : u 59 = .int .i64 k
theorem two_put {W0 w : World} {gb gd gc gk q : Nat} {txt : List UInt8} {d1 d2 c1 c2 k1 k2 : Int} {v sv : Value} {l : List ByteArray} {seq : List (Nat × Nat)} (h : Dw W0 gb gd gc gk q txt d1 d2 c1 c2 k1 k2 v l sv seq w)
  {g : Nat} {s1 s2 : Int} (hb : Box w g s1 s2) (h1 : gd ≠ g) (h2 : gc ≠ g) (h3 : gk ≠ g) (h4 : W0.heap.size ≤ g) (h5 : sv.ownBlock ≠ some g) (n : Nat) (t1 t2 : Int) :
  Dw W0 gb gd gc gk q txt d1 d2 c1 c2 k1 k2 v l sv seq (((w.drewN n).setCell ⟨g,0,none⟩ (.int .i64 t1)).setCell ⟨g,1,none⟩ (.int .i64 t2)) ∧ Box (((w.drewN n).setCell ⟨g,0,none⟩ (.int .i64 t1)).setCell ⟨g,1,none⟩ (.int .i64 t2)) g t1 t2 ∧ Kp (some g) w (((w.drewN n).setCell ⟨g,0,none⟩ (.int .i64 t1)).setCell ⟨g,1,none⟩ (.int .i64 t2)):=by
 have hd : Below w.heap.size w (w.drewN n):=pw_below_drewN (Below.refl _ _) _
 have a0:=h.below hd
 have b0:=hb.below hd
 have a1:=a0.other b0 0 (.int .i64 t1) h1 h2 h3 h4 h5
 have b1:=b0.set0 t1
 exact ⟨a1.other b1 1 (.int .i64 t2) h1 h2 h3 h4 h5,b1.set1 t2,((Kp.of_below hd).trans (Kp.put b0 0 _)).trans (Kp.put b1 1 _)⟩
theorem str_cell_at {w : World} {A : Option Addr} {x : List ByteArray} (h : Kd.C Kd.string w A x.length x) (k : Nat) (hk : k < x.length) : ∃ ad s,A = some ad ∧ x[k]? = some s ∧ w.cell? (ad.add k) = some (.string s):=by
 obtain ⟨ad,e,c⟩:=str_cell h k hk
 refine ⟨ad,x[k],e,List.getElem?_eq_getElem hk,?_⟩
 rw [c,List.getD_eq_getElem?_getD,List.getElem?_eq_getElem hk]
 rfl
theorem same_text {x y : List ByteArray} {i j : Nat} {s t : ByteArray} (h1 : x[i]? = some s) (h2 : y[j]? = some t) (h : (s.toList == t.toList) = true) : x[i]? = y[j]?:=by
 have e : s = t:=by simpa [ByteArray.toList_eq,ByteArray.ext_iff,Array.toList_inj] using h
 rw [h1,h2,e]
def hkH (z1 oc z2 nc : Nat) : ByteArray:=⟨#[64,64,32,45]⟩ ++ numB z1 ++ ⟨#[44]⟩ ++ numB oc ++ ⟨#[32,43]⟩ ++ numB z2 ++ ⟨#[44]⟩ ++ numB nc ++ ⟨#[32,64,64,10]⟩
theorem numB_size (n : Nat) (h : n ≤ 9223372036854775807) : (numB n).size ≤ 21:=by
 have:=Lib.itoa_length_le (n : Int) (by omega) (by omega)
 simpa [numB,ByteArray.size] using this
theorem hkH_size (z1 oc z2 nc : Nat) (h1 : z1 ≤ 9223372036854775807) (h2 : oc ≤ 9223372036854775807) (h3 : z2 ≤ 9223372036854775807) (h4 : nc ≤ 9223372036854775807) : (hkH z1 oc z2 nc).size ≤ 96:=by
 unfold hkH
 simp only [ByteArray.size_append]
 have e1:=numB_size z1 h1
 have e2:=numB_size oc h2
 have e3:=numB_size z2 h3
 have e4:=numB_size nc h4
 have s1 : (⟨#[64,64,32,45]⟩ : ByteArray).size = 4:=rfl
 have s2 : (⟨#[44]⟩ : ByteArray).size = 1:=rfl
 have s3 : (⟨#[32,43]⟩ : ByteArray).size = 2:=rfl
 have s4 : (⟨#[32,64,64,10]⟩ : ByteArray).size = 4:=rfl
 omega
theorem flat_len (n : Nat) : ∀ (l : List ByteArray),(∀ s ∈ l,s.size ≤ n) → (l.flatMap (fun s => s.data.toList)).length ≤ l.length * n
 | [],_ => by simp
 | a :: t,h => by
  have h1:=flat_len n t (fun s hs => h s (List.mem_cons_of_mem _ hs))
  have h2:=h a List.mem_cons_self
  have e : a.data.toList.length = a.size:=rfl
  simp only [List.flatMap_cons,List.length_append,List.length_cons,e]
  rw [Nat.add_mul]
  omega
theorem flat_lines (ct : List Dp.Ln) : (ct.map lineB).flatMap (fun s => s.data.toList) = lnText ct:=by
 simp [lnText,List.flatMap_map]
theorem diffText_snoc (a b : ByteArray) (hs : List Dp.Hk) (h : Dp.Hk) : diffText a b (hs ++ [h]) = diffText a b hs ++ hkText h:=by
 simp [diffText,List.flatMap_append]
theorem lineB_size (p : Dp.Ln) : (lineB p).size = p.2.size + 1:=by
 unfold lineB
 rw [ByteArray.size_append]
 have e : (⟨#[p.1]⟩ : ByteArray).size = 1:=rfl
 omega
theorem own_cell_at {w : World} {base c : Nat} {ok : Nat → Prop} {A : Option Addr} {l : List ByteArray} (h : Kd.string.R 9 w base ok (.slice A l.length c) l) (k : Nat) (hk : k < l.length) : ∃ ad s,A = some ad ∧ l[k]? = some s ∧ w.cell? (ad.add k) = some (.string s) :=
 str_cell_at (Kd.R_reads' h).2.2 k hk
theorem itoa_calls (n : Nat) (hn : n ≤ 9223372036854775807) (w : World) (ht : Lib.TabIs Tryz.prog w "internal/strconv.uint64pow10" .u64 Lib.pow10Tab) :
  Calls Tryz.prog 64 #[.int .i64 n] w fun e w' => e = .returned (.string (numB n)) ∧ Below w.heap.size w w' :=
 (Tryz.strconv_Itoa n (by omega) (by omega) w ht).mono fun e w' ⟨he,k,os,hw⟩ => ⟨he,by rw [hw]; exact below_grown_sl _ _ _ _ (Nat.le_refl _)⟩
theorem lines_app (ct : List Dp.Ln) (sg : UInt8) (l : List ByteArray) : (ct ++ Dp.signed sg l).map lineB = ct.map lineB ++ l.map (fun s => (⟨#[sg]⟩ : ByteArray) ++ s):=by
 simp [Dp.signed,lineB,List.map_map,Function.comp_def]
structure Bx (W0 : World) (gd bm bs : Nat) (u : Nat → Value) : Prop where
 e17 : u 17 = .pointer (some ⟨bm,0,none⟩)
 e18 : u 18 = .pointer (some ⟨bs,0,none⟩)
 lm : W0.heap.size ≤ bm
 ls : W0.heap.size ≤ bs
 q0 : gd + 3 ≤ bm
 ms : bm < bs
set_option maxHeartbeats 20000000 in
set_option maxRecDepth 100000 in
theorem Diff_calls (w : World) (a b : ByteArray) (O N : Option Addr) (co cn k : Nat) (lo ln : List Int) (x y : List ByteArray) (hO : Kd.C (Kd.int .u8) w O lo.length lo) (hN : Kd.C (Kd.int .u8) w N ln.length ln) (hco : lo.length ≤ co) (hcn : ln.length ≤ cn)
  (hne : (Lib.bytesOf lo == Lib.bytesOf ln) = false) (hx : diff_lines.f k lo = some x) (hy : diff_lines.f k ln = some y) (lx : x.length ≤ 1048576) (ly : y.length ≤ 1048576) (sx : ∀ s ∈ x,s.size ≤ 1048576) (sy : ∀ s ∈ y,s.size ≤ 1048576)
  (sa : a.size ≤ 1048576) (sb : b.size ≤ 1048576) (hT : powTab w) :
  Calls Tryz.prog 45 #[.string a,.slice O lo.length co,.string b,.slice N ln.length cn] w fun e w' => ∃ (v : Value) (hs : List Dp.Hk) (B : Nat),e = .returned v ∧ w.heap.size ≤ B ∧ Dp.Leads x y hs ∧ ((diffText a b hs).length ≤ 4194321 + (x.length + y.length) * 2097152 ∧ (hs.length ≤ 1 ∨ 3 ≤ x.length)) ∧ w'.ownsRow B 5 1 v (diffText a b hs).length (Lib.byteCells (diffText a b hs)) ∧ Below w.heap.size w w':=by
 have HO:=Aside0.mk hO
 have HN:=Aside0.mk hN
 have HX:=Aside0.mk hx
 have HY:=Aside0.mk hy
 have SX:=Aside0.mk sx
 have SY:=Aside0.mk sy
 have HT:=Aside0.mk hT
 have hE:=Tryz.bytes_Equal (.slice O lo.length co) (.slice N ln.length cn) lo ln w (Kd.C_string Tryz.underlying59 Tryz.underlying5 Tryz.underlying9 hO) (Kd.C_string Tryz.underlying59 Tryz.underlying5 Tryz.underlying9 hN)
 rw [hne] at hE
 have HE:=Aside0.mk hE
 clear hE hO hN hx hy sx sy hT hne
 go_enter Tryz.func45,Tryz.ntmps45
 go_wp2_with fail
 refine HE.out.mono ?_
 rintro e w' ⟨rfl,hw⟩
 subst hw
 go_wp2_with fail
 refine (diff_lines.calls k _ _ _ _ _ HO.out hco HX.out).mono ?_
 rintro e w1 ⟨vx,rfl,hvx,hb1⟩
 obtain ⟨X,cx,rfl,hcx,hCX⟩:=Kd.R_reads hvx
 have HCX:=Aside0.mk hCX
 have HB1:=Aside0.mk hb1
 clear hvx hCX hb1
 go_wp2_with fail
 refine (diff_lines.calls k _ _ _ _ _ (Kd.C_below HN.out HB1.out) hcn HY.out).mono ?_
 rintro e w2 ⟨vy,rfl,hvy,hb2⟩
 obtain ⟨Y,cy,rfl,hcy,hCY⟩:=Kd.R_reads hvy
 have HCX2:=Aside0.mk (Kd.C_below HCX.out hb2)
 have HCY2:=Aside0.mk hCY
 have HB2:=Aside0.mk (HB1.out.trans (hb2.mono HB1.out.size))
 clear hvy hCY hb2 HCX HB1
 go_wp2_with fail
 have z1:=hdr1_size a b
 have z2:=hdr2_size a
 have z3:=hdr3_size b
 have y1 : (hdr1 a b).size ≤ 2097159:=by omega
 have y2 : (hdr2 a).size ≤ 1048581:=by omega
 have y3 : (hdr3 b).size ≤ 1048581:=by omega
 clear z1 z2 z3
 refine (Tryz.Buffer_WriteString_k w2.heap.size w2.heap.size [] (hdr1 a b) _ (Lib.fresh_isBuffer _ _ w2) (by simp) (by simp) (by rw [List.length_nil]; omega)).mono ?_
 rintro e w3 ⟨rfl,ib3,b3,o3⟩
 have IB3:=Aside0.mk (show Lib.IsBuffer 107 5 w2.heap.size w2.heap.size (Lib.byteCells (hdr1 a b).data.toList) w3 by simpa using ib3)
 have B3:=Aside0.mk ((below_alloc (Below.refl _ w2) (.cells #[.slice none 0 0,.int .i64 0,.int .i8 0] 107)).trans b3)
 clear ib3 b3 o3
 go_wp2_with fail
 refine (Tryz.Buffer_WriteString_k w2.heap.size w2.heap.size _ (hdr2 a) _ IB3.out B3.out.size (Lib.byteCells_one _) (by rw [bc_len]; (try rw [List.length_append,data_len]); rw [data_len]; omega)).mono ?_
 rintro e w4 ⟨rfl,ib4,b4,o4⟩
 rw [← Lib.byteCells_append] at ib4
 have IB4:=Aside0.mk ib4
 have B4:=Aside0.mk (B3.out.trans b4)
 clear ib4 b4 o4 IB3 B3
 go_wp2_with fail
 refine (Tryz.Buffer_WriteString_k w2.heap.size w2.heap.size _ (hdr3 b) _ IB4.out B4.out.size (Lib.byteCells_one _) (by rw [bc_len]; (try rw [List.length_append,data_len]); rw [data_len]; omega)).mono ?_
 rintro e w5 ⟨rfl,ib5,b5,o5⟩
 rw [← Lib.byteCells_append] at ib5
 have IB5:=Aside0.mk (show Lib.IsBuffer 107 5 w2.heap.size w2.heap.size (Lib.byteCells (hdr a b)) w5 from ib5)
 have B5:=Aside0.mk (B4.out.trans b5)
 clear ib5 b5 o5 IB4 B4 y1 y2 y3
 go_wp2_with fail
 have hA : Below w5.heap.size w5 (((w5.alloc (.cells #[.int .i64 0,.int .i64 0] 113)).alloc (.cells #[.int .i64 0,.int .i64 0] 113)).alloc (.cells #[.int .i64 0,.int .i64 0] 113)):=below_alloc (below_alloc (below_alloc (Below.refl _ _) _) _) _
 have hA2:=B5.out.trans (hA.mono B5.out.size)
 refine (tgs_calls _ _ _ _ _ _ _ (Kd.C_below HCX2.out hA2) (Kd.C_below HCY2.out hA2) hcx hcy (by omega) (by omega) (fun s hs => by have:=SX.out s hs; unfold maxLen; omega) (fun s hs => by have:=SY.out s hs; unfold maxLen; omega)).mono ?_
 rintro e w6 ⟨vs,rfl,seq,hG,hP,hb6⟩
 have hdw : Dw w2 w2.heap.size w5.heap.size (w5.heap.size + 1) (w5.heap.size + 2) (w5.heap.size + 3) (hdr a b) 0 0 0 0 0 0 (.slice none 0 0) [] vs seq w6:=by
  have e1 : Box (w5.alloc (.cells #[.int .i64 0,.int .i64 0] 113)) w5.heap.size 0 0:=Box.new w5 0 0
  have e2:=Box.new (w5.alloc (.cells #[.int .i64 0,.int .i64 0] 113)) 0 0
  have e3:=Box.new ((w5.alloc (.cells #[.int .i64 0,.int .i64 0] 113)).alloc (.cells #[.int .i64 0,.int .i64 0] 113)) 0 0
  have h5:=B5.out.size
  simp only [World.size_alloc] at e2 e3 hP
  refine ⟨((IB5.out.old hA).old hb6),((e1.below (below_alloc (Below.refl _ _) _)).below (below_alloc (Below.refl _ _) _)).below hb6,(e2.below (below_alloc (Below.refl _ _) _)).below hb6,e3.below hb6,Kd.R_nil _ _ _ _ _,hP,by omega,by omega,by omega,by omega,by omega,by omega,by omega,by omega,by omega,?_⟩
  exact hA2.trans (hb6.mono (by simp; omega))
 have HG:=Aside0.mk (Dp.good_of_bytes (x:=x) (y:=y) hG)
 have HD:=Aside0.mk hdw
 obtain ⟨S,cs,rfl,_,hCS⟩:=hP.reads
 have hseq : seq.length ≤ 9223372036854775807:=hCS.2.1
 have hgd : w2.heap.size ≤ w5.heap.size:=B5.out.size
 clear hG hP hb6 hA hA2 IB5 B5 hdw hCS
 rw [show w5.heap.size + 1 + 1 = w5.heap.size + 2 from rfl]
 go_upto_block 0 with (fail)
 generalize hgdE : w5.heap.size = gd at *
 clear hgdE w3 w4 w5
 refine cutU 379 (fun u wc => u 11 = .pointer (some ⟨w2.heap.size,0,none⟩) ∧ ∃ hs,Dp.Leads x y hs ∧ ((diffText a b hs).length ≤ 4194321 + (x.length + y.length) * 2097152 ∧ (hs.length ≤ 1 ∨ 3 ≤ x.length)) ∧ Lib.IsBuffer 107 5 w2.heap.size w2.heap.size (Lib.byteCells (diffText a b hs)) wc ∧ Below w2.heap.size w2 wc) ?rest ?first
 case first =>
  intro J K' hJ hK
  go_wp2
  refine loopU 379 (fun u wr => ∃ k : Nat,k < seq.length ∧ Fx X Y S x.length cx y.length cy seq.length cs w2.heap.size gd k u ∧ Rd x y seq a b w2 w2.heap.size gd (gd + 1) (gd + 2) (gd + 3) (.slice S seq.length cs) k (u 15) wr)
   (fun u _ => seq.length - (intOf (u 59)).toNat) rfl ?atStart ?round
  case atStart =>
   refine ⟨0,by have:=HG.out.two; omega,⟨rfl,rfl,rfl,rfl,rfl,rfl,rfl,rfl,rfl⟩,⟨[],0,0,0,0,0,0,[],Dp.DS.start x y,fun _ _ _ _ _ _ => Nat.zero_le _,?_,?_⟩⟩
   ·refine ⟨?_,Or.inl rfl⟩
    simp only [diffText,List.flatMap_nil,List.append_nil,hdr_len]; omega
   ·have e0 : diffText a b [] = hdr a b:=by simp [diffText]
    rw [e0]
    exact HD.out
  case round =>
   intro u wr hrel J2 K2 hJ2 hK2
   obtain ⟨k,hk,hF,⟨hs,a1,a2,c1,c2,d1,d2,ct,hDS,haft,hlen,hdw⟩⟩:=hrel
   rw [hF.e59] at hJ2
   rw [lit379]
   simp only [hF.e9,hF.e10,hF.e11,hF.e12,hF.e13,hF.e14,hF.e57,hF.e58,hF.e59]
   generalize u 15 = v at *
   clear hF
   obtain ⟨⟨m1,m2⟩,hm⟩ : ∃ m,seq[k]? = some m:=⟨_,List.getElem?_eq_getElem hk⟩
   obtain ⟨ads,rfl,cm1,cm2⟩:=pair_cell hdw.readSeq k hk
   have hmD : seq.getD k (0,0) = (m1,m2):=by rw [List.getD_eq_getElem?_getD,hm]; rfl
   rw [hmD] at cm1 cm2
   simp only at cm1 cm2
   have bd0:=hdw.bd.c0
   have bd1:=hdw.bd.c1
   have ltd:=hdw.bd.lt
   have bdn : ¬ wr.heap.size = gd:=by omega
   have HDS:=Aside0.mk hDS
   have HAft:=Aside0.mk haft
   have HLen:=Aside0.mk hlen
   have HDw:=Aside0.mk hdw
   have HM:=Aside0.mk hm
   have dx:=hDS.hi
   have dy:=hDS.hi2
   clear hDS haft hlen hdw hm hmD
   by_cases hskip : m1 < d1
   ·have hlast : k + 1 < seq.length:=by
     rcases Nat.lt_or_ge (k + 1) seq.length with c | c
     ·exact c
     ·have e : k = seq.length - 1:=by omega
      have:=HG.out.last
      rw [← e,HM.out] at this
      injection this with this
      injection this with this
      omega
    go_wp2
    refine Met.intro (hJ2 _ _ rfl ?_ ?_)
    ·show seq.length - ((k : Int) + 1).toNat < seq.length - ((k : Int)).toNat
     omega
    ·exact ⟨k + 1,hlast,⟨rfl,rfl,rfl,rfl,rfl,rfl,rfl,rfl,rfl⟩,⟨hs,a1,a2,c1,c2,d1,d2,ct,HDS.out,fun p q1 q2 hp => HAft.out p q1 q2 (by omega),HLen.out,HDw.out.alloc _⟩⟩
   ·have hd1 : d1 ≤ m1:=by omega
    have hd2 : d2 ≤ m2:=HAft.out k m1 m2 (Nat.le_refl _) HM.out hd1
    have hmx : m1 ≤ x.length ∧ m2 ≤ y.length:=by
     by_cases hl : k + 1 < seq.length
     ·by_cases h0 : k = 0
      ·subst h0
       have:=HG.out.head
       rw [HM.out] at this
       injection this with this
       injection this with e1 e2
       omega
      ·have:=HG.out.mid k m1 m2 (by omega) hl HM.out
       omega
     ·have e : k = seq.length - 1:=by omega
      have:=HG.out.last
      rw [← e,HM.out] at this
      injection this with this
      injection this with e1 e2
      omega
    obtain ⟨hmx,hmy⟩:=hmx
    have hsq:=HDw.out.seq_lt
    go_upto_block 2 with (fail)
    refine cutU 379 (fun u wc => Fx X Y (some ads) x.length cx y.length cy seq.length cs w2.heap.size gd k u ∧ u 15 = v ∧ Bx w2 gd wr.heap.size (wr.heap.size + 1) u ∧ ∃ s1 s2,d1 ≤ s1 ∧ s1 ≤ m1 ∧ d2 ≤ s2 ∧ s1 + m2 = s2 + m1 ∧ Dp.seg x s1 m1 = Dp.seg y s2 m2 ∧ Box wc wr.heap.size m1 m2 ∧ Box wc (wr.heap.size + 1) s1 s2 ∧ Dw w2 w2.heap.size gd (gd + 1) (gd + 2) (gd + 3) (diffText a b hs) d1 d2 c1 c2 ((d1 - c1 : Nat) : Int) ((d2 - c2 : Nat) : Int) v (ct.map lineB) (.slice (some ads) seq.length cs) seq wc) ?rest2 ?first2
    case first2 =>
     intro J3 K3 hJ3 hK3
     go_wp2
     refine loopG 379 (fun g u wc => Fx X Y (some ads) x.length cx y.length cy seq.length cs w2.heap.size gd k u ∧ u 15 = v ∧ Bx w2 gd wr.heap.size (wr.heap.size + 1) u ∧ ∃ s2,d1 ≤ g ∧ g ≤ m1 ∧ d2 ≤ s2 ∧ g + m2 = s2 + m1 ∧ Dp.seg x g m1 = Dp.seg y s2 m2 ∧ Box wc wr.heap.size m1 m2 ∧ Box wc (wr.heap.size + 1) g s2 ∧ Dw w2 w2.heap.size gd (gd + 1) (gd + 2) (gd + 3) (diffText a b hs) d1 d2 c1 c2 ((d1 - c1 : Nat) : Int) ((d2 - c2 : Nat) : Int) v (ct.map lineB) (.slice (some ads) seq.length cs) seq wc) m1 rfl ?atStart3 ?round3
     case atStart3 =>
      have hb0:=Box.new wr m1 m2
      have hb1:=Box.new (wr.alloc (.cells #[.int .i64 m1,.int .i64 m2] 113)) m1 m2
      have hq:=HDw.out.uk
      have hz:=HDw.out.ltk
      have hz0:=HDw.out.bel.size
      simp only [World.size_alloc] at hb1
      exact ⟨⟨rfl,rfl,rfl,rfl,rfl,rfl,rfl,rfl,rfl⟩,rfl,⟨rfl,rfl,by omega,by omega,by omega,by omega⟩,m2,hd1,Nat.le_refl _,hd2,Nat.add_comm _ _,by rw [Dp.seg_self,Dp.seg_self],hb0.below (below_alloc (Below.refl _ _) _),hb1,(HDw.out.alloc _).alloc _⟩
     case round3 =>
      intro s1 u wl hrel J4 K4 hJ4 hK4
      obtain ⟨hF,hv,hB,s2,g1,g2,g3,g4,g5,hbm,hbs,hdw⟩:=hrel
      rw [lit379]
      simp only [hF.e9,hF.e10,hF.e11,hF.e12,hF.e13,hF.e14,hF.e57,hF.e58,hF.e59,hv,hB.e17,hB.e18]
      have HDw:=Aside0.mk hdw
      have HBs:=Aside0.mk hbs
      have HBm:=Aside0.mk hbm
      have HG5:=Aside0.mk g5
      have HF:=Aside0.mk hF
      have HB:=Aside0.mk hB
      have bs0:=hbs.c0
      have bs1:=hbs.c1
      have bd0:=hdw.bd.c0
      have bd1:=hdw.bd.c1
      have hCX:=Kd.C_below HCX2.out hdw.bel
      have hCY:=Kd.C_below HCY2.out hdw.bel
      clear hdw hbs hbm g5 hF hB
      by_cases q1 : d1 < s1
      ·by_cases q2 : d2 < s2
       ·obtain ⟨t1,rfl⟩ : ∃ t,s1 = t + 1:=⟨s1 - 1,by omega⟩
        obtain ⟨t2,rfl⟩ : ∃ t,s2 = t + 1:=⟨s2 - 1,by omega⟩
        obtain ⟨aX,rfl,cX⟩:=str_cell hCX t1 (by omega)
        obtain ⟨aY,rfl,cY⟩:=str_cell hCY t2 (by omega)
        have w1 : IntKind.i64.wrap (((t1 + 1 : Nat) : Int) - 1) = t1:=by rw [IntKind.wrap_i64]; omega
        have w2' : IntKind.i64.wrap (((t2 + 1 : Nat) : Int) - 1) = t2:=by rw [IntKind.wrap_i64]; omega
        have gt1 : (d1 : Int) < (t1 : Int) + 1:=by omega
        have gt2 : (d2 : Int) < (t2 : Int) + 1:=by omega
        have bs0 : wl.cell? ⟨wr.heap.size + 1,0,none⟩ = some (.int .i64 ((t1 : Int) + 1)):=bs0
        have bs1 : wl.cell? ⟨wr.heap.size + 1,1,none⟩ = some (.int .i64 ((t2 : Int) + 1)):=bs1
        have w1 : IntKind.i64.wrap ((t1 : Int) + 1 - 1) = t1:=w1
        have w2' : IntKind.i64.wrap ((t2 : Int) + 1 - 1) = t2:=w2'
        have lx1 : (t1 : Int) < (x.length : Int):=by omega
        have ly1 : (t2 : Int) < (y.length : Int):=by omega
        have nx1 : (0 : Int) ≤ (t1 : Int):=by omega
        have ny1 : (0 : Int) ≤ (t2 : Int):=by omega
        clear hCX hCY
        have f0:=HBs.out.f 0
        have f1:=HBs.out.f 1
        by_cases qe : ((x[t1]?.getD ByteArray.empty).toList == (y[t2]?.getD ByteArray.empty).toList) = true
        ·go_wp2_with fail
         go_quiet (fail)
         go_wp2
         have hB:=HB.out
         obtain ⟨e1,e2,e3⟩:=two_put HDw.out HBs.out (by have:=HDw.out.ud; have:=hB.q0; have:=hB.ms; omega) (by have:=hB.q0; have:=hB.ms; omega) (by have:=hB.q0; have:=hB.ms; omega) hB.ls (fun e => by have:=hsq _ e; omega) nq t1 t2
         have qx : x[t1]? = y[t2]?:=by
          rw [List.getElem?_eq_getElem (by omega),List.getElem?_eq_getElem (by omega)] at qe ⊢
          exact congrArg some (by simpa [ByteArray.toList_eq,ByteArray.ext_iff,Array.toList_inj] using qe)
         refine Met.intro (hJ4 t1 _ _ rfl (by omega) ⟨⟨rfl,rfl,rfl,rfl,rfl,rfl,rfl,rfl,rfl⟩,rfl,⟨rfl,rfl,hB.lm,hB.ls,hB.q0,hB.ms⟩,t2,by omega,by omega,by omega,by omega,?_,e3 _ _ _ HBm.out (by intro e; injection e with e; omega),e2,e1⟩)
         exact Dp.seg_back (by omega) (by omega) (by omega) (by omega) qx HG5.out
        ·have qf : ((x[t1]?.getD ByteArray.empty).toList == (y[t2]?.getD ByteArray.empty).toList) = false:=by simpa using qe
         go_wp2_with fail
         go_quiet (fail)
         go_wp2
         have hB:=HB.out
         exact Met.intro (hJ3 _ _ rfl ⟨⟨rfl,rfl,rfl,rfl,rfl,rfl,rfl,rfl,rfl⟩,rfl,⟨rfl,rfl,hB.lm,hB.ls,hB.q0,hB.ms⟩,t1 + 1,t2 + 1,g1,g2,g3,g4,HG5.out,HBm.out.below (pw_below_drewN (Below.refl _ _) _),HBs.out.below (pw_below_drewN (Below.refl _ _) _),HDw.out.below (pw_below_drewN (Below.refl _ _) _)⟩)
       ·have gt1 : (d1 : Int) < (s1 : Int):=by omega
        have gt2 : decide ((s2 : Int) > (d2 : Int)) = false:=by simp; omega
        have gt3 : decide ((d2 : Int) < (s2 : Int)) = false:=by simp; omega
        clear hCX hCY
        go_wp2_with fail
        go_quiet (fail)
        go_wp2
        have hB:=HB.out
        exact Met.intro (hJ3 _ _ rfl ⟨⟨rfl,rfl,rfl,rfl,rfl,rfl,rfl,rfl,rfl⟩,rfl,⟨rfl,rfl,hB.lm,hB.ls,hB.q0,hB.ms⟩,s1,s2,g1,g2,g3,g4,HG5.out,HBm.out.below (pw_below_drewN (Below.refl _ _) _),HBs.out.below (pw_below_drewN (Below.refl _ _) _),HDw.out.below (pw_below_drewN (Below.refl _ _) _)⟩)
      ·have gt2 : decide ((s1 : Int) > (d1 : Int)) = false:=by simp; omega
       have gt3 : decide ((d1 : Int) < (s1 : Int)) = false:=by simp; omega
       clear hCX hCY
       go_wp2_with fail
       go_quiet (fail)
       go_wp2
       have hB:=HB.out
       exact Met.intro (hJ3 _ _ rfl ⟨⟨rfl,rfl,rfl,rfl,rfl,rfl,rfl,rfl,rfl⟩,rfl,⟨rfl,rfl,hB.lm,hB.ls,hB.q0,hB.ms⟩,s1,s2,g1,g2,g3,g4,HG5.out,HBm.out.below (pw_below_drewN (Below.refl _ _) _),HBs.out.below (pw_below_drewN (Below.refl _ _) _),HDw.out.below (pw_below_drewN (Below.refl _ _) _)⟩)
    case rest2 =>
     intro u W h
     obtain ⟨hF,hv,hB,s1,s2,g1,g2,g3,g4,g5,hbm,hbs,hdw⟩:=h
     rw [lit379]
     simp only [hF.e9,hF.e10,hF.e11,hF.e12,hF.e13,hF.e14,hF.e57,hF.e58,hF.e59,hv,hB.e17,hB.e18]
     have HDw:=Aside0.mk hdw
     have HBs:=Aside0.mk hbs
     have HG5:=Aside0.mk g5
     have bm0:=hbm.c0
     have bm1:=hbm.c1
     have ltbm:=hbm.lt
     have lbs:=hbs.lt
     have nbm : ¬ W.heap.size = wr.heap.size:=by omega
     have HB:=Aside0.mk hB
     clear hdw hbs hbm g5 hF hB hv
     go_upto_block 4 with (fail)
     refine cutU 379 (fun u wc => Fx X Y (some ads) x.length cx y.length cy seq.length cs w2.heap.size gd k u ∧ u 15 = v ∧ u 18 = .pointer (some ⟨wr.heap.size + 1,0,none⟩) ∧ u 19 = .pointer (some ⟨W.heap.size,0,none⟩) ∧ ∃ e1 : Nat,∃ e2 : Nat,m1 ≤ e1 ∧ e1 ≤ x.length ∧ e2 ≤ y.length ∧ e1 + m2 = e2 + m1 ∧ Dp.seg x m1 e1 = Dp.seg y m2 e2 ∧ Box wc (wr.heap.size + 1) s1 s2 ∧ Box wc W.heap.size e1 e2 ∧ Dw w2 w2.heap.size gd (gd + 1) (gd + 2) (gd + 3) (diffText a b hs) d1 d2 c1 c2 ((d1 - c1 : Nat) : Int) ((d2 - c2 : Nat) : Int) v (ct.map lineB) (.slice (some ads) seq.length cs) seq wc) ?rest3 ?first3
     case first3 =>
      intro J4 K4 hJ4 hK4
      go_wp2
      refine loopG 379 (fun g u wc => Fx X Y (some ads) x.length cx y.length cy seq.length cs w2.heap.size gd k u ∧ u 15 = v ∧ u 18 = .pointer (some ⟨wr.heap.size + 1,0,none⟩) ∧ u 19 = .pointer (some ⟨W.heap.size,0,none⟩) ∧ ∃ e1 : Nat,g = x.length - e1 ∧ ∃ e2 : Nat,m1 ≤ e1 ∧ e1 ≤ x.length ∧ e2 ≤ y.length ∧ e1 + m2 = e2 + m1 ∧ Dp.seg x m1 e1 = Dp.seg y m2 e2 ∧ Box wc (wr.heap.size + 1) s1 s2 ∧ Box wc W.heap.size e1 e2 ∧ Dw w2 w2.heap.size gd (gd + 1) (gd + 2) (gd + 3) (diffText a b hs) d1 d2 c1 c2 ((d1 - c1 : Nat) : Int) ((d2 - c2 : Nat) : Int) v (ct.map lineB) (.slice (some ads) seq.length cs) seq wc) (x.length - m1) rfl ?atStart4 ?round4
      case atStart4 =>
       have hb1:=Box.new W m1 m2
       exact ⟨⟨rfl,rfl,rfl,rfl,rfl,rfl,rfl,rfl,rfl⟩,rfl,rfl,rfl,m1,rfl,m2,Nat.le_refl _,hmx,hmy,Nat.add_comm _ _,by rw [Dp.seg_self,Dp.seg_self],HBs.out.below (below_alloc (Below.refl _ _) _),hb1,HDw.out.alloc _⟩
      case round4 =>
       intro g u wl hrel J5 K5 hJ5 hK5
       obtain ⟨hF,hv,hu18,hu19,e1,rfl,e2,h1,h2,h3,h4,h5,hbs,hbe,hdw⟩:=hrel
       rw [lit379]
       simp only [hF.e9,hF.e10,hF.e11,hF.e12,hF.e13,hF.e14,hF.e57,hF.e58,hF.e59,hv,hu18,hu19]
       have HDw2:=Aside0.mk hdw
       have HBs2:=Aside0.mk hbs
       have HBe:=Aside0.mk hbe
       have H5:=Aside0.mk h5
       have be0:=hbe.c0
       have be1:=hbe.c1
       have f0:=hbe.f 0
       have f1:=hbe.f 1
       have hCX:=Kd.C_below HCX2.out hdw.bel
       have hCY:=Kd.C_below HCY2.out hdw.bel
       clear hdw hbs hbe h5 hF hv hu18 hu19
       by_cases q1 : e1 < x.length
       ·by_cases q2 : e2 < y.length
        ·obtain ⟨aX,sx,rfl,hsx,cX⟩:=str_cell_at hCX e1 q1
         obtain ⟨aY,sy,rfl,hsy,cY⟩:=str_cell_at hCY e2 q2
         have HSX:=Aside0.mk hsx
         have HSY:=Aside0.mk hsy
         clear hsx hsy
         have gt1 : (e1 : Int) < (x.length : Int):=by omega
         have gt2 : (e2 : Int) < (y.length : Int):=by omega
         have nx1 : (0 : Int) ≤ (e1 : Int):=by omega
         have ny1 : (0 : Int) ≤ (e2 : Int):=by omega
         have w1 : IntKind.i64.wrap ((e1 : Int) + 1) = (e1 : Int) + 1:=by rw [IntKind.wrap_i64]; omega
         have w2' : IntKind.i64.wrap ((e2 : Int) + 1) = (e2 : Int) + 1:=by rw [IntKind.wrap_i64]; omega
         clear hCX hCY
         by_cases qe : (sx.toList == sy.toList) = true
         ·go_wp2_with fail
          go_quiet (fail)
          go_wp2
          have hB:=HB.out
          obtain ⟨r1,r2,r3⟩:=two_put HDw2.out HBe.out (by omega) (by have:=hB.q0; have:=hB.ms; omega) (by have:=hB.q0; have:=hB.ms; omega) (by have:=hB.ls; omega) (fun e => by have:=hsq _ e; omega) nq ((e1 + 1 : Nat) : Int) ((e2 + 1 : Nat) : Int)
          have qx:=same_text HSX.out HSY.out qe
          refine Met.intro (hJ5 (x.length - (e1 + 1)) _ _ rfl (by omega) ⟨⟨rfl,rfl,rfl,rfl,rfl,rfl,rfl,rfl,rfl⟩,rfl,rfl,rfl,e1 + 1,rfl,e2 + 1,by omega,by omega,by omega,by omega,?_,r3 _ _ _ HBs2.out (by intro e; injection e with e; omega),r2,r1⟩)
          exact Dp.seg_fore (by omega) (by omega) (by omega) (by omega) qx H5.out
         ·have qf : (sx.toList == sy.toList) = false:=by simpa using qe
          go_wp2_with fail
          go_quiet (fail)
          go_wp2
          exact Met.intro (hJ4 _ _ rfl ⟨⟨rfl,rfl,rfl,rfl,rfl,rfl,rfl,rfl,rfl⟩,rfl,rfl,rfl,e1,e2,h1,h2,h3,h4,H5.out,HBs2.out.below (pw_below_drewN (Below.refl _ _) _),HBe.out.below (pw_below_drewN (Below.refl _ _) _),HDw2.out.below (pw_below_drewN (Below.refl _ _) _)⟩)
        ·have gt1 : (e1 : Int) < (x.length : Int):=by omega
         have gt3 : decide ((e2 : Int) < (y.length : Int)) = false:=by simp; omega
         clear hCX hCY
         go_wp2_with fail
         go_quiet (fail)
         go_wp2
         exact Met.intro (hJ4 _ _ rfl ⟨⟨rfl,rfl,rfl,rfl,rfl,rfl,rfl,rfl,rfl⟩,rfl,rfl,rfl,e1,e2,h1,h2,h3,h4,H5.out,HBs2.out.below (pw_below_drewN (Below.refl _ _) _),HBe.out.below (pw_below_drewN (Below.refl _ _) _),HDw2.out.below (pw_below_drewN (Below.refl _ _) _)⟩)
       ·have gt3 : decide ((e1 : Int) < (x.length : Int)) = false:=by simp; omega
        clear hCX hCY
        go_wp2_with fail
        go_quiet (fail)
        go_wp2
        exact Met.intro (hJ4 _ _ rfl ⟨⟨rfl,rfl,rfl,rfl,rfl,rfl,rfl,rfl,rfl⟩,rfl,rfl,rfl,e1,e2,h1,h2,h3,h4,H5.out,HBs2.out.below (pw_below_drewN (Below.refl _ _) _),HBe.out.below (pw_below_drewN (Below.refl _ _) _),HDw2.out.below (pw_below_drewN (Below.refl _ _) _)⟩)
     case rest3 =>
      intro u W3 h
      obtain ⟨hF,hv,hu18,hu19,e1,e2,h1,h2,h3,h4,h5,hbs,hbe,hdw⟩:=h
      have p1 : gd + 3 < wr.heap.size + 1:=by have:=HB.out.q0; omega
      have p2 : wr.heap.size + 1 < W.heap.size:=lbs
      have p3 : ∀ g,(Value.slice (some ads) seq.length cs).ownBlock = some g → g < wr.heap.size + 1:=fun g hg => by have:=hsq g hg; omega
      have hseg : Dp.seg x s1 e1 = Dp.seg y s2 e2:=by
       rw [← Dp.seg_append x (j:=m1) (by omega) h1,← Dp.seg_append y (i:=s2) (j:=m2) (by omega) (by omega),HG5.out,h5]
      have haft2 : ∀ p q1 q2,k + 1 ≤ p → seq[p]? = some (q1,q2) → e1 ≤ q1 → e2 ≤ q2:=by
       intro p q1 q2 hp hs1 hs2
       have:=Dp.Good.after HG.out (q:=k) (q':=p) (m1:=m1) (m2:=m2) (u:=e1 - m1) (by omega) HM.out hs1 (by rw [show m1 + (e1 - m1) = e1 by omega,show m2 + (e1 - m1) = e2 by omega]; exact h5) (by omega) (by omega)
       omega
      have hmore : e1 < x.length ∨ e2 < y.length → k + 1 < seq.length:=by
       intro hor
       rcases Nat.lt_or_ge (k + 1) seq.length with c | c
       ·exact c
       ·have e : k = seq.length - 1:=by omega
        have:=HG.out.last
        rw [← e,HM.out] at this
        injection this with this
        injection this with e1 e2
        omega
      have f1 : s1 ≤ e1:=by omega
      have f2 : e1 + s2 = e2 + s1:=by omega
      have f3 : s2 ≤ e2:=by omega
      have f4 : s2 ≤ y.length:=by omega
      have HSeg:=Aside0.mk hseg
      have HAft2:=Aside0.mk haft2
      have HMore:=Aside0.mk hmore
      generalize wr.heap.size + 1 = bs at hu18 hbs p1 p2 p3
      generalize W.heap.size = be at hu19 hbe p2
      rw [lit379]
      simp only [hv,hF.e9,hF.e10,hF.e11,hF.e12,hF.e13,hF.e14,hF.e57,hF.e58,hF.e59,hu18,hu19]
      have bs0:=hbs.c0
      have bs1:=hbs.c1
      have be0:=hbe.c0
      have be1:=hbe.c1
      have bd0:=hdw.bd.c0
      have bd1:=hdw.bd.c1
      have bdf0:=hdw.bd.f 0
      have bdf1:=hdw.bd.f 1
      have HBs2:=Aside0.mk hbs
      have HBe2:=Aside0.mk hbe
      have HDw2:=Aside0.mk hdw
      have F2:=Aside0.mk f2
      clear hF hu18 hu19 hv hbs hbe hdw HBs HDw HB HG5 hseg haft2 hmore h5 h4 g4 hskip hsq bm0 bm1 ltbm nbm lbs HAft HM f2
      have HBs:=HBs2
      have HBe:=HBe2
      have HDw:=HDw2
      clear HBs2 HBe2 HDw2
      have hctl:=HDS.out.ct_len
      have hd1:=HDS.out.hi
      have hd2:=HDS.out.hi2
      obtain ⟨l,el⟩ : ∃ l,l = ct.map lineB:=⟨_,rfl⟩
      obtain ⟨K1,eK1⟩ : ∃ z : Int,z = ((d1 - c1 : Nat) : Int):=⟨_,rfl⟩
      obtain ⟨K2,eK2⟩ : ∃ z : Int,z = ((d2 - c2 : Nat) : Int):=⟨_,rfl⟩
      rw [← el,← eK1,← eK2] at HDw
      obtain ⟨aA,ac,hruna,hCa⟩:=seg_cut HCX2.out hcx (d1) (s1) g1 (by omega)
      have HCa:=Aside0.mk hCa
      have HMa:=Aside0.mk (show ∀ s ∈ Dp.seg x (d1) (s1),s.size ≤ 1048576 from fun s hs => SX.out s (List.mem_of_mem_drop (List.mem_of_mem_take hs)))
      have las : (Dp.seg x (d1) (s1)).length = (s1) - (d1):=Dp.seg_len x (d1) (s1) (by omega)
      rw [← las] at hruna
      have ll : l.length = ct.length:=by rw [el,List.length_map]
      obtain ⟨aq,eas⟩ : ∃ z,z = Dp.seg x (d1) (s1):=⟨_,rfl⟩
      rw [← eas] at hruna las HCa HMa
      have b1 : 0 ≤ K1 ∧ K1 ≤ 2097152:=by omega
      have b2 : 0 ≤ K2 ∧ K2 ≤ 2097152:=by omega
      have lb : l.length + aq.length ≤ 8388608:=by omega
      have lq : aq.length ≤ 2097152:=by omega
      have HEl:=Aside0.mk el
      have HEas:=Aside0.mk eas
      have Las:=Aside0.mk las
      have HEk1:=Aside0.mk eK1
      have HEk2:=Aside0.mk eK2
      clear hCa el eas las ll eK1 eK2 hctl hd1 hd2
      go_upto_block 6 with (fail)
      refine cutU 379 (fun u wc => Fx X Y (some ads) x.length cx y.length cy seq.length cs w2.heap.size gd k u ∧ u 18 = .pointer (some ⟨bs,0,none⟩) ∧ u 19 = .pointer (some ⟨be,0,none⟩) ∧ ∃ v : Value,u 15 = v ∧ Box wc bs s1 s2 ∧ Box wc be e1 e2 ∧ Dw w2 w2.heap.size gd (gd + 1) (gd + 2) (gd + 3) (diffText a b hs) d1 d2 c1 c2 (K1 + ((aq.length : Nat) : Int)) K2 v (l ++ aq.map (fun s => (⟨#[45]⟩ : ByteArray) ++ s)) (.slice (some ads) seq.length cs) seq wc) ?resta ?firsta
      case firsta =>
       intro J4 K4 hJ4 hK4
       go_wp2
       refine loopG 379 (fun g u wc => Fx X Y (some ads) x.length cx y.length cy seq.length cs w2.heap.size gd k u ∧ u 18 = .pointer (some ⟨bs,0,none⟩) ∧ u 19 = .pointer (some ⟨be,0,none⟩) ∧ u 143 = .slice aA aq.length ac ∧ u 144 = .int .i64 aq.length ∧ ∃ (i : Nat) (v : Value),g = aq.length - i ∧ i ≤ aq.length ∧ u 145 = .int .i64 i ∧ u 15 = v ∧ Box wc bs s1 s2 ∧ Box wc be e1 e2 ∧ Dw w2 w2.heap.size gd (gd + 1) (gd + 2) (gd + 3) (diffText a b hs) d1 d2 c1 c2 (K1 + ((i : Nat) : Int)) K2 v (l ++ (aq.take i).map (fun s => (⟨#[45]⟩ : ByteArray) ++ s)) (.slice (some ads) seq.length cs) seq wc) aq.length rfl ?atStarta ?rounda
       case atStarta =>
        refine ⟨⟨rfl,rfl,rfl,rfl,rfl,rfl,rfl,rfl,rfl⟩,rfl,rfl,rfl,rfl,0,v,rfl,Nat.zero_le _,rfl,rfl,HBs.out,HBe.out,?_⟩
        have e0 : (l ++ (aq.take 0).map (fun s => (⟨#[45]⟩ : ByteArray) ++ s)) = l:=by simp
        rw [e0]
        simpa using HDw.out
       case rounda =>
        intro g u wl hrel J5 K5 hJ5 hK5
        obtain ⟨hF,hu18,hu19,huS,huN,i,v,rfl,hi,huI,hv,hbs,hbe,hdw⟩:=hrel
        rw [lit379]
        simp only [hF.e9,hF.e10,hF.e11,hF.e12,hF.e13,hF.e14,hF.e57,hF.e58,hF.e59,hu18,hu19,huS,huN,huI,hv]
        clear huS huN huI hv hF hu18 hu19
        have HDw2:=Aside0.mk hdw
        have HBs2:=Aside0.mk hbs
        have HBe2:=Aside0.mk hbe
        by_cases q1 : i < aq.length
        ·obtain ⟨aX,sx,rfl,hsx,cX⟩:=str_cell_at (Kd.C_below HCa.out hdw.bel) i q1
         have hsz : ¬ 9223372036854775807 < 1 + sx.size:=by have:=HMa.out sx (List.mem_of_getElem? hsx); omega
         have HSX:=Aside0.mk hsx
         have hbz:=hdw.bel.size
         have wK1 : IntKind.i64.wrap (K1 + (i : Int) + 1) = K1 + (i : Int) + 1:=by rw [IntKind.wrap_i64]; omega
         clear hdw hbs hbe hsx
         go_wp2_with (first | (at_builtin; refine Kd.R_append Kd.string (w0:=wl) w2.heap.size rfl (.tmp 149) (.tmp 152) 28 9 (.string ⟨#[]⟩) 16 rfl Tryz.underlying28 info9 rfl (by decide) (by omega) _ _ ((⟨#[45]⟩ : ByteArray) ++ sx) [.string ((⟨#[45]⟩ : ByteArray) ++ sx)] (fun _ => True) (fun _ => False) rfl rfl rfl (fun _ hk => hk.elim) (fun _ _ => trivial) HDw2.out.ct (Below.refl _ _) hbz ?aL ?_; (case aL => simp; omega); intro v1 w1 ho1 hb1 hg1 hat1; obtain ⟨dw1,kp1⟩:=HDw2.out.append ho1 hg1; have bk0:=dw1.bk.c0; have bk1:=dw1.bk.c1; have bkf0:=dw1.bk.f 0; have bkf1:=dw1.bk.f 1; have DW1:=Aside0.mk dw1; have KP1:=Aside0.mk kp1; clear ho1 hb1 hg1 hat1 dw1 kp1))
         have DWp:=DW1.out
         have KPp:=KP1.out
         have DWn:=Dw.setK0 DWp (K1 + (i : Int) + 1)
         have KPn:=KPp.none_any.trans (Kp.put DWp.bk 0 (.int .i64 (K1 + (i : Int) + 1)))
         have el : (l ++ (aq.take i).map (fun s => (⟨#[45]⟩ : ByteArray) ++ s)) ++ [(⟨#[45]⟩ : ByteArray) ++ sx] = (l ++ (aq.take (i + 1)).map (fun s => (⟨#[45]⟩ : ByteArray) ++ s)):=by
          rw [List.take_add_one,HSX.out]; simp
         rw [el] at DWn
         exact Met.intro (hJ5 (aq.length - (i + 1)) _ _ rfl (by omega) ⟨⟨rfl,rfl,rfl,rfl,rfl,rfl,rfl,rfl,rfl⟩,rfl,rfl,rfl,rfl,i + 1,v1,rfl,q1,rfl,rfl,KPn _ _ _ HBs2.out (by intro e; injection e with e; omega),KPn _ _ _ HBe2.out (by intro e; injection e with e; omega),by rw [show K1 + (((i + 1 : Nat)) : Int) = K1 + (i : Int) + 1 by omega]; exact DWn⟩)
        ·have ei : i = aq.length:=by omega
         subst ei
         clear hdw hbs hbe
         go_wp2
         have el : (l ++ (aq.take aq.length).map (fun s => (⟨#[45]⟩ : ByteArray) ++ s)) = (l ++ aq.map (fun s => (⟨#[45]⟩ : ByteArray) ++ s)):=by rw [List.take_length]
         have DWn:=HDw2.out
         rw [el] at DWn
         exact Met.intro (hJ4 _ _ rfl ⟨⟨rfl,rfl,rfl,rfl,rfl,rfl,rfl,rfl,rfl⟩,rfl,rfl,v,rfl,HBs2.out,HBe2.out,DWn⟩)
      case resta =>
       intro u Wa h
       obtain ⟨hF,hu18,hu19,v,hv,hbs,hbe,hdw⟩:=h
       rw [lit379]
       simp only [hv,hF.e9,hF.e10,hF.e11,hF.e12,hF.e13,hF.e14,hF.e57,hF.e58,hF.e59,hu18,hu19]
       clear hF hu18 hu19 hv HDw HBs HBe HCa HMa hruna b1 b2 lb lq
       have e_l:=HEl.out
       have e_q:=HEas.out
       have e_1:=HEk1.out
       have e_2:=HEk2.out
       subst e_q e_l e_1 e_2
       rw [← lines_app] at hdw
       have eN1 : ((d1 - c1 : Nat) : Int) + (((Dp.seg x (d1) (s1)).length : Nat) : Int) = (((s1) - c1 : Nat) : Int):=by have:=HDS.out.lo; have f2:=F2.out; rw [Las.out]; omega
       rw [eN1] at hdw
       have HDS2:=Aside0.mk (HDS.out.del (s:=s1) g1 (by omega))
       clear HDS HEl HEas HEk1 HEk2 Las eN1
       obtain ⟨ct,ect⟩ : ∃ z,z = ct ++ Dp.signed 45 (Dp.seg x (d1) (s1)):=⟨_,rfl⟩
       rw [← ect] at hdw HDS2
       have bs0:=hbs.c0
       have bs1:=hbs.c1
       have be0:=hbe.c0
       have be1:=hbe.c1
       have bd0:=hdw.bd.c0
       have bd1:=hdw.bd.c1
       have bdf0:=hdw.bd.f 0
       have bdf1:=hdw.bd.f 1
       clear ect
       have HDw:=Aside0.mk hdw
       have HBs:=Aside0.mk hbs
       have HBe:=Aside0.mk hbe
       have HDS:=HDS2
       clear HDS2
       have hctl:=HDS.out.ct_len
       have hs1:=HDS.out.hi
       have hd2:=HDS.out.hi2
       obtain ⟨l,el⟩ : ∃ l,l = ct.map lineB:=⟨_,rfl⟩
       obtain ⟨K1,eK1⟩ : ∃ z : Int,z = ((s1 - c1 : Nat) : Int):=⟨_,rfl⟩
       obtain ⟨K2,eK2⟩ : ∃ z : Int,z = ((d2 - c2 : Nat) : Int):=⟨_,rfl⟩
       rw [← el,← eK1,← eK2] at HDw
       obtain ⟨bA,bc,hrunb,hCb⟩:=seg_cut HCY2.out hcy (d2) (s2) (by omega) (by omega)
       have HCb:=Aside0.mk hCb
       have HMb:=Aside0.mk (show ∀ s ∈ Dp.seg y (d2) (s2),s.size ≤ 1048576 from fun s hs => SY.out s (List.mem_of_mem_drop (List.mem_of_mem_take hs)))
       have las : (Dp.seg y (d2) (s2)).length = (s2) - (d2):=Dp.seg_len y (d2) (s2) (by omega)
       rw [← las] at hrunb
       have ll : l.length = ct.length:=by rw [el,List.length_map]
       obtain ⟨bq,eas⟩ : ∃ z,z = Dp.seg y (d2) (s2):=⟨_,rfl⟩
       rw [← eas] at hrunb las HCb HMb
       have b1 : 0 ≤ K1 ∧ K1 ≤ 2097152:=by omega
       have b2 : 0 ≤ K2 ∧ K2 ≤ 2097152:=by omega
       have lb : l.length + bq.length ≤ 8388608:=by omega
       have lq : bq.length ≤ 2097152:=by omega
       have HEl:=Aside0.mk el
       have HEas:=Aside0.mk eas
       have Las:=Aside0.mk las
       have HEk1:=Aside0.mk eK1
       have HEk2:=Aside0.mk eK2
       clear hCb el eas las ll eK1 eK2 hctl hs1 hd2
       go_upto_block 8 with (fail)
       refine cutU 379 (fun u wc => Fx X Y (some ads) x.length cx y.length cy seq.length cs w2.heap.size gd k u ∧ u 18 = .pointer (some ⟨bs,0,none⟩) ∧ u 19 = .pointer (some ⟨be,0,none⟩) ∧ ∃ v : Value,u 15 = v ∧ Box wc bs s1 s2 ∧ Box wc be e1 e2 ∧ Dw w2 w2.heap.size gd (gd + 1) (gd + 2) (gd + 3) (diffText a b hs) d1 d2 c1 c2 K1 (K2 + ((bq.length : Nat) : Int)) v (l ++ bq.map (fun s => (⟨#[43]⟩ : ByteArray) ++ s)) (.slice (some ads) seq.length cs) seq wc) ?restb ?firstb
       case firstb =>
        intro J4 K4 hJ4 hK4
        go_wp2
        refine loopG 379 (fun g u wc => Fx X Y (some ads) x.length cx y.length cy seq.length cs w2.heap.size gd k u ∧ u 18 = .pointer (some ⟨bs,0,none⟩) ∧ u 19 = .pointer (some ⟨be,0,none⟩) ∧ u 164 = .slice bA bq.length bc ∧ u 165 = .int .i64 bq.length ∧ ∃ (i : Nat) (v : Value),g = bq.length - i ∧ i ≤ bq.length ∧ u 166 = .int .i64 i ∧ u 15 = v ∧ Box wc bs s1 s2 ∧ Box wc be e1 e2 ∧ Dw w2 w2.heap.size gd (gd + 1) (gd + 2) (gd + 3) (diffText a b hs) d1 d2 c1 c2 K1 (K2 + ((i : Nat) : Int)) v (l ++ (bq.take i).map (fun s => (⟨#[43]⟩ : ByteArray) ++ s)) (.slice (some ads) seq.length cs) seq wc) bq.length rfl ?atStartb ?roundb
        case atStartb =>
         refine ⟨⟨rfl,rfl,rfl,rfl,rfl,rfl,rfl,rfl,rfl⟩,rfl,rfl,rfl,rfl,0,v,rfl,Nat.zero_le _,rfl,rfl,HBs.out,HBe.out,?_⟩
         have e0 : (l ++ (bq.take 0).map (fun s => (⟨#[43]⟩ : ByteArray) ++ s)) = l:=by simp
         rw [e0]
         simpa using HDw.out
        case roundb =>
         intro g u wl hrel J5 K5 hJ5 hK5
         obtain ⟨hF,hu18,hu19,huS,huN,i,v,rfl,hi,huI,hv,hbs,hbe,hdw⟩:=hrel
         rw [lit379]
         simp only [hF.e9,hF.e10,hF.e11,hF.e12,hF.e13,hF.e14,hF.e57,hF.e58,hF.e59,hu18,hu19,huS,huN,huI,hv]
         clear huS huN huI hv hF hu18 hu19
         have HDw2:=Aside0.mk hdw
         have HBs2:=Aside0.mk hbs
         have HBe2:=Aside0.mk hbe
         by_cases q1 : i < bq.length
         ·obtain ⟨aX,sx,rfl,hsx,cX⟩:=str_cell_at (Kd.C_below HCb.out hdw.bel) i q1
          have hsz : ¬ 9223372036854775807 < 1 + sx.size:=by have:=HMb.out sx (List.mem_of_getElem? hsx); omega
          have HSX:=Aside0.mk hsx
          have hbz:=hdw.bel.size
          have wK2 : IntKind.i64.wrap (K2 + (i : Int) + 1) = K2 + (i : Int) + 1:=by rw [IntKind.wrap_i64]; omega
          clear hdw hbs hbe hsx
          go_wp2_with (first | (at_builtin; refine Kd.R_append Kd.string (w0:=wl) w2.heap.size rfl (.tmp 170) (.tmp 173) 28 9 (.string ⟨#[]⟩) 16 rfl Tryz.underlying28 info9 rfl (by decide) (by omega) _ _ ((⟨#[43]⟩ : ByteArray) ++ sx) [.string ((⟨#[43]⟩ : ByteArray) ++ sx)] (fun _ => True) (fun _ => False) rfl rfl rfl (fun _ hk => hk.elim) (fun _ _ => trivial) HDw2.out.ct (Below.refl _ _) hbz ?aL ?_; (case aL => simp; omega); intro v1 w1 ho1 hb1 hg1 hat1; obtain ⟨dw1,kp1⟩:=HDw2.out.append ho1 hg1; have bk0:=dw1.bk.c0; have bk1:=dw1.bk.c1; have bkf0:=dw1.bk.f 0; have bkf1:=dw1.bk.f 1; have DW1:=Aside0.mk dw1; have KP1:=Aside0.mk kp1; clear ho1 hb1 hg1 hat1 dw1 kp1))
          have DWp:=DW1.out
          have KPp:=KP1.out
          have DWn:=Dw.setK1 DWp (K2 + (i : Int) + 1)
          have KPn:=KPp.none_any.trans (Kp.put DWp.bk 1 (.int .i64 (K2 + (i : Int) + 1)))
          have el : (l ++ (bq.take i).map (fun s => (⟨#[43]⟩ : ByteArray) ++ s)) ++ [(⟨#[43]⟩ : ByteArray) ++ sx] = (l ++ (bq.take (i + 1)).map (fun s => (⟨#[43]⟩ : ByteArray) ++ s)):=by
           rw [List.take_add_one,HSX.out]; simp
          rw [el] at DWn
          exact Met.intro (hJ5 (bq.length - (i + 1)) _ _ rfl (by omega) ⟨⟨rfl,rfl,rfl,rfl,rfl,rfl,rfl,rfl,rfl⟩,rfl,rfl,rfl,rfl,i + 1,v1,rfl,q1,rfl,rfl,KPn _ _ _ HBs2.out (by intro e; injection e with e; omega),KPn _ _ _ HBe2.out (by intro e; injection e with e; omega),by rw [show K2 + (((i + 1 : Nat)) : Int) = K2 + (i : Int) + 1 by omega]; exact DWn⟩)
         ·have ei : i = bq.length:=by omega
          subst ei
          clear hdw hbs hbe
          go_wp2
          have el : (l ++ (bq.take bq.length).map (fun s => (⟨#[43]⟩ : ByteArray) ++ s)) = (l ++ bq.map (fun s => (⟨#[43]⟩ : ByteArray) ++ s)):=by rw [List.take_length]
          have DWn:=HDw2.out
          rw [el] at DWn
          exact Met.intro (hJ4 _ _ rfl ⟨⟨rfl,rfl,rfl,rfl,rfl,rfl,rfl,rfl,rfl⟩,rfl,rfl,v,rfl,HBs2.out,HBe2.out,DWn⟩)
       case restb =>
        intro u Wb h
        obtain ⟨hF,hu18,hu19,v,hv,hbs,hbe,hdw⟩:=h
        rw [lit379]
        simp only [hv,hF.e9,hF.e10,hF.e11,hF.e12,hF.e13,hF.e14,hF.e57,hF.e58,hF.e59,hu18,hu19]
        clear hF hu18 hu19 hv HDw HBs HBe HCb HMb hrunb b1 b2 lb lq
        have e_l:=HEl.out
        have e_q:=HEas.out
        have e_1:=HEk1.out
        have e_2:=HEk2.out
        subst e_q e_l e_1 e_2
        rw [← lines_app] at hdw
        have eN2 : ((d2 - c2 : Nat) : Int) + (((Dp.seg y (d2) (s2)).length : Nat) : Int) = (((s2) - c2 : Nat) : Int):=by have:=HDS.out.lo2; have f2:=F2.out; rw [Las.out]; omega
        rw [eN2] at hdw
        have HDS2:=Aside0.mk (HDS.out.add (s:=s2) (by omega) (by omega))
        clear HDS HEl HEas HEk1 HEk2 Las eN2
        obtain ⟨ct,ect⟩ : ∃ z,z = ct ++ Dp.signed 43 (Dp.seg y (d2) (s2)):=⟨_,rfl⟩
        rw [← ect] at hdw HDS2
        have bs0:=hbs.c0
        have bs1:=hbs.c1
        have be0:=hbe.c0
        have be1:=hbe.c1
        have bd0:=hdw.bd.c0
        have bd1:=hdw.bd.c1
        have bdf0:=hdw.bd.f 0
        have bdf1:=hdw.bd.f 1
        clear ect
        have HDw:=Aside0.mk hdw
        have HBs:=Aside0.mk hbs
        have HBe:=Aside0.mk hbe
        have HDS:=HDS2
        clear HDS2
        obtain ⟨vA,vc,rfl⟩:=Kd.R_slice HDw.out.ct
        obtain ⟨n,hn⟩ : ∃ n,n = (ct.map lineB).length:=⟨_,rfl⟩
        rw [← hn] at HDw
        rw [← hn]
        have Hn:=Aside0.mk hn
        clear hn
        have wE : IntKind.i64.wrap ((e1 : Int) - (s1 : Int)) = (e1 : Int) - (s1 : Int):=by rw [IntKind.wrap_i64]; omega
        go_upto_region 37 with (fail)
        refine cutU 379 (fun u wc => Fx X Y (some ads) x.length cx y.length cy seq.length cs w2.heap.size gd k u ∧ u 18 = .pointer (some ⟨bs,0,none⟩) ∧ u 19 = .pointer (some ⟨be,0,none⟩) ∧ u 15 = .slice vA n vc ∧ u 212 = .bool (decide ((e1 < x.length ∨ e2 < y.length) ∧ (e1 - s1 < 3 ∨ (0 < n ∧ e1 - s1 < 6)))) ∧ Box wc bs s1 s2 ∧ Box wc be e1 e2 ∧ Dw w2 w2.heap.size gd (gd + 1) (gd + 2) (gd + 3) (diffText a b hs) d1 d2 c1 c2 ((s1 - c1 : Nat) : Int) ((s2 - c2 : Nat) : Int) (.slice vA n vc) (ct.map lineB) (.slice (some ads) seq.length cs) seq wc) ?restT ?firstT
        case firstT =>
         intro J4 K4 hJ4 hK4
         by_cases r1 : e1 < x.length
         ·by_cases r3 : e1 - s1 < 3
          ·have u1 : (e1 : Int) < (x.length : Int):=by omega
           have u3 : (e1 : Int) - (s1 : Int) < 3:=by omega
           go_wp2
           exact Met.intro (hJ4 _ _ rfl ⟨⟨rfl,rfl,rfl,rfl,rfl,rfl,rfl,rfl,rfl⟩,rfl,rfl,rfl,congrArg Value.bool (by symm; simp only [decide_eq_true_eq,decide_eq_false_iff_not]; omega),HBs.out,HBe.out,HDw.out⟩)
          ·by_cases r4 : 0 < n
           ·by_cases r5 : e1 - s1 < 6
            ·have u1 : (e1 : Int) < (x.length : Int):=by omega
             have u3 : decide ((e1 : Int) - (s1 : Int) < 3) = false:=by simp; omega
             have u4 : (0 : Int) < (n : Int):=by omega
             have u4b : 0 < n:=by omega
             have u5 : (e1 : Int) - (s1 : Int) < 6:=by omega
             go_wp2
             exact Met.intro (hJ4 _ _ rfl ⟨⟨rfl,rfl,rfl,rfl,rfl,rfl,rfl,rfl,rfl⟩,rfl,rfl,rfl,congrArg Value.bool (by symm; simp only [decide_eq_true_eq,decide_eq_false_iff_not]; omega),HBs.out,HBe.out,HDw.out⟩)
            ·have u1 : (e1 : Int) < (x.length : Int):=by omega
             have u3 : decide ((e1 : Int) - (s1 : Int) < 3) = false:=by simp; omega
             have u4 : (0 : Int) < (n : Int):=by omega
             have u4b : 0 < n:=by omega
             have u5 : decide ((e1 : Int) - (s1 : Int) < 6) = false:=by simp; omega
             go_wp2
             exact Met.intro (hJ4 _ _ rfl ⟨⟨rfl,rfl,rfl,rfl,rfl,rfl,rfl,rfl,rfl⟩,rfl,rfl,rfl,congrArg Value.bool (by symm; simp only [decide_eq_true_eq,decide_eq_false_iff_not]; omega),HBs.out,HBe.out,HDw.out⟩)
           ·have u1 : (e1 : Int) < (x.length : Int):=by omega
            have u3 : decide ((e1 : Int) - (s1 : Int) < 3) = false:=by simp; omega
            obtain rfl : n = 0:=by omega
            have u4 : decide (((0 : Nat) : Int) > 0) = false:=by simp
            go_wp2
            exact Met.intro (hJ4 _ _ rfl ⟨⟨rfl,rfl,rfl,rfl,rfl,rfl,rfl,rfl,rfl⟩,rfl,rfl,rfl,congrArg Value.bool (by symm; simp only [decide_eq_true_eq,decide_eq_false_iff_not]; omega),HBs.out,HBe.out,HDw.out⟩)
         ·by_cases r2 : e2 < y.length
          ·by_cases r3 : e1 - s1 < 3
           ·have u1 : decide ((e1 : Int) < (x.length : Int)) = false:=by simp; omega
            have u2 : (e2 : Int) < (y.length : Int):=by omega
            have u3 : (e1 : Int) - (s1 : Int) < 3:=by omega
            go_wp2
            exact Met.intro (hJ4 _ _ rfl ⟨⟨rfl,rfl,rfl,rfl,rfl,rfl,rfl,rfl,rfl⟩,rfl,rfl,rfl,congrArg Value.bool (by symm; simp only [decide_eq_true_eq,decide_eq_false_iff_not]; omega),HBs.out,HBe.out,HDw.out⟩)
           ·by_cases r4 : 0 < n
            ·by_cases r5 : e1 - s1 < 6
             ·have u1 : decide ((e1 : Int) < (x.length : Int)) = false:=by simp; omega
              have u2 : (e2 : Int) < (y.length : Int):=by omega
              have u3 : decide ((e1 : Int) - (s1 : Int) < 3) = false:=by simp; omega
              have u4 : (0 : Int) < (n : Int):=by omega
              have u4b : 0 < n:=by omega
              have u5 : (e1 : Int) - (s1 : Int) < 6:=by omega
              go_wp2
              exact Met.intro (hJ4 _ _ rfl ⟨⟨rfl,rfl,rfl,rfl,rfl,rfl,rfl,rfl,rfl⟩,rfl,rfl,rfl,congrArg Value.bool (by symm; simp only [decide_eq_true_eq,decide_eq_false_iff_not]; omega),HBs.out,HBe.out,HDw.out⟩)
             ·have u1 : decide ((e1 : Int) < (x.length : Int)) = false:=by simp; omega
              have u2 : (e2 : Int) < (y.length : Int):=by omega
              have u3 : decide ((e1 : Int) - (s1 : Int) < 3) = false:=by simp; omega
              have u4 : (0 : Int) < (n : Int):=by omega
              have u4b : 0 < n:=by omega
              have u5 : decide ((e1 : Int) - (s1 : Int) < 6) = false:=by simp; omega
              go_wp2
              exact Met.intro (hJ4 _ _ rfl ⟨⟨rfl,rfl,rfl,rfl,rfl,rfl,rfl,rfl,rfl⟩,rfl,rfl,rfl,congrArg Value.bool (by symm; simp only [decide_eq_true_eq,decide_eq_false_iff_not]; omega),HBs.out,HBe.out,HDw.out⟩)
            ·have u1 : decide ((e1 : Int) < (x.length : Int)) = false:=by simp; omega
             have u2 : (e2 : Int) < (y.length : Int):=by omega
             have u3 : decide ((e1 : Int) - (s1 : Int) < 3) = false:=by simp; omega
             obtain rfl : n = 0:=by omega
             have u4 : decide (((0 : Nat) : Int) > 0) = false:=by simp
             go_wp2
             exact Met.intro (hJ4 _ _ rfl ⟨⟨rfl,rfl,rfl,rfl,rfl,rfl,rfl,rfl,rfl⟩,rfl,rfl,rfl,congrArg Value.bool (by symm; simp only [decide_eq_true_eq,decide_eq_false_iff_not]; omega),HBs.out,HBe.out,HDw.out⟩)
          ·have u1 : decide ((e1 : Int) < (x.length : Int)) = false:=by simp; omega
           have u2 : decide ((e2 : Int) < (y.length : Int)) = false:=by simp; omega
           go_wp2
           exact Met.intro (hJ4 _ _ rfl ⟨⟨rfl,rfl,rfl,rfl,rfl,rfl,rfl,rfl,rfl⟩,rfl,rfl,rfl,congrArg Value.bool (by symm; simp only [decide_eq_true_eq,decide_eq_false_iff_not]; omega),HBs.out,HBe.out,HDw.out⟩)
        case restT =>
         intro u W7 h
         obtain ⟨hF,hu18,hu19,hv,ht,hbs,hbe,hdw⟩:=h
         rw [lit379]
         simp only [hv,ht,hF.e9,hF.e10,hF.e11,hF.e12,hF.e13,hF.e14,hF.e57,hF.e58,hF.e59,hu18,hu19]
         have bs0:=hbs.c0
         have bs1:=hbs.c1
         have be0:=hbe.c0
         have be1:=hbe.c1
         have bd0:=hdw.bd.c0
         have bd1:=hdw.bd.c1
         have bdf0:=hdw.bd.f 0
         have bdf1:=hdw.bd.f 1
         clear hF hu18 hu19 hv ht HDw HBs HBe
         have HDw:=Aside0.mk hdw
         have HBs:=Aside0.mk hbs
         have HBe:=Aside0.mk hbe
         clear hdw hbs hbe
         by_cases hT : (e1 < x.length ∨ e2 < y.length) ∧ (e1 - s1 < 3 ∨ (0 < n ∧ e1 - s1 < 6))
         ·
          have wE2:=wE
          simp only [hT,decide_true]
          have hctl:=HDS.out.ct_len
          have hs1:=HDS.out.hi
          have hs2:=HDS.out.hi2
          obtain ⟨l,el⟩ : ∃ l,l = ct.map lineB:=⟨_,rfl⟩
          obtain ⟨K1,eK1⟩ : ∃ z : Int,z = ((s1 - c1 : Nat) : Int):=⟨_,rfl⟩
          obtain ⟨K2,eK2⟩ : ∃ z : Int,z = ((s2 - c2 : Nat) : Int):=⟨_,rfl⟩
          rw [← el,← eK1,← eK2] at HDw
          obtain ⟨cA,cc,hrunc,hCc⟩:=seg_cut HCX2.out hcx (s1) (e1) (by omega) (by omega)
          have HCc:=Aside0.mk hCc
          have HMc:=Aside0.mk (show ∀ s ∈ Dp.seg x (s1) (e1),s.size ≤ 1048576 from fun s hs => SX.out s (List.mem_of_mem_drop (List.mem_of_mem_take hs)))
          have las : (Dp.seg x (s1) (e1)).length = (e1) - (s1):=Dp.seg_len x (s1) (e1) (by omega)
          rw [← las] at hrunc
          have ll : l.length = ct.length:=by rw [el,List.length_map]
          obtain ⟨cq,eas⟩ : ∃ z,z = Dp.seg x (s1) (e1):=⟨_,rfl⟩
          rw [← eas] at hrunc las HCc HMc
          have b1 : 0 ≤ K1 ∧ K1 ≤ 2097152:=by omega
          have b2 : 0 ≤ K2 ∧ K2 ≤ 2097152:=by omega
          have lb : l.length + cq.length ≤ 8388608:=by omega
          have lq : cq.length ≤ 2097152:=by omega
          have HEl:=Aside0.mk el
          have HEas:=Aside0.mk eas
          have Las:=Aside0.mk las
          have HEk1:=Aside0.mk eK1
          have HEk2:=Aside0.mk eK2
          clear hCc el eas las ll eK1 eK2 hctl hs1 hs2
          go_upto_block 10 with (fail)
          refine cutU 379 (fun u wc => Fx X Y (some ads) x.length cx y.length cy seq.length cs w2.heap.size gd k u ∧ u 18 = .pointer (some ⟨bs,0,none⟩) ∧ u 19 = .pointer (some ⟨be,0,none⟩) ∧ ∃ v : Value,u 15 = v ∧ Box wc bs s1 s2 ∧ Box wc be e1 e2 ∧ Dw w2 w2.heap.size gd (gd + 1) (gd + 2) (gd + 3) (diffText a b hs) d1 d2 c1 c2 (K1 + ((cq.length : Nat) : Int)) (K2 + ((cq.length : Nat) : Int)) v (l ++ cq.map (fun s => (⟨#[32]⟩ : ByteArray) ++ s)) (.slice (some ads) seq.length cs) seq wc) ?restc ?firstc
          case firstc =>
           intro J4 K4 hJ4 hK4
           go_wp2
           refine loopG 379 (fun g u wc => Fx X Y (some ads) x.length cx y.length cy seq.length cs w2.heap.size gd k u ∧ u 18 = .pointer (some ⟨bs,0,none⟩) ∧ u 19 = .pointer (some ⟨be,0,none⟩) ∧ u 218 = .slice cA cq.length cc ∧ u 219 = .int .i64 cq.length ∧ ∃ (i : Nat) (v : Value),g = cq.length - i ∧ i ≤ cq.length ∧ u 220 = .int .i64 i ∧ u 15 = v ∧ Box wc bs s1 s2 ∧ Box wc be e1 e2 ∧ Dw w2 w2.heap.size gd (gd + 1) (gd + 2) (gd + 3) (diffText a b hs) d1 d2 c1 c2 (K1 + ((i : Nat) : Int)) (K2 + ((i : Nat) : Int)) v (l ++ (cq.take i).map (fun s => (⟨#[32]⟩ : ByteArray) ++ s)) (.slice (some ads) seq.length cs) seq wc) cq.length rfl ?atStartc ?roundc
           case atStartc =>
            refine ⟨⟨rfl,rfl,rfl,rfl,rfl,rfl,rfl,rfl,rfl⟩,rfl,rfl,rfl,rfl,0,(.slice vA n vc),rfl,Nat.zero_le _,rfl,rfl,HBs.out,HBe.out,?_⟩
            have e0 : (l ++ (cq.take 0).map (fun s => (⟨#[32]⟩ : ByteArray) ++ s)) = l:=by simp
            rw [e0]
            simpa using HDw.out
           case roundc =>
            intro g u wl hrel J5 K5 hJ5 hK5
            obtain ⟨hF,hu18,hu19,huS,huN,i,v,rfl,hi,huI,hv,hbs,hbe,hdw⟩:=hrel
            rw [lit379]
            simp only [hF.e9,hF.e10,hF.e11,hF.e12,hF.e13,hF.e14,hF.e57,hF.e58,hF.e59,hu18,hu19,huS,huN,huI,hv]
            clear huS huN huI hv hF hu18 hu19
            have HDw2:=Aside0.mk hdw
            have HBs2:=Aside0.mk hbs
            have HBe2:=Aside0.mk hbe
            by_cases q1 : i < cq.length
            ·obtain ⟨aX,sx,rfl,hsx,cX⟩:=str_cell_at (Kd.C_below HCc.out hdw.bel) i q1
             have hsz : ¬ 9223372036854775807 < 1 + sx.size:=by have:=HMc.out sx (List.mem_of_getElem? hsx); omega
             have HSX:=Aside0.mk hsx
             have hbz:=hdw.bel.size
             have wK1 : IntKind.i64.wrap (K1 + (i : Int) + 1) = K1 + (i : Int) + 1:=by rw [IntKind.wrap_i64]; omega
             have wK2 : IntKind.i64.wrap (K2 + (i : Int) + 1) = K2 + (i : Int) + 1:=by rw [IntKind.wrap_i64]; omega
             clear hdw hbs hbe hsx
             go_wp2_with (first | (at_builtin; refine Kd.R_append Kd.string (w0:=wl) w2.heap.size rfl (.tmp 224) (.tmp 227) 28 9 (.string ⟨#[]⟩) 16 rfl Tryz.underlying28 info9 rfl (by decide) (by omega) _ _ ((⟨#[32]⟩ : ByteArray) ++ sx) [.string ((⟨#[32]⟩ : ByteArray) ++ sx)] (fun _ => True) (fun _ => False) rfl rfl rfl (fun _ hk => hk.elim) (fun _ _ => trivial) HDw2.out.ct (Below.refl _ _) hbz ?aL ?_; (case aL => simp; omega); intro v1 w1 ho1 hb1 hg1 hat1; obtain ⟨dw1,kp1⟩:=HDw2.out.append ho1 hg1; have bk0:=dw1.bk.c0; have bk1:=dw1.bk.c1; have bkf0:=dw1.bk.f 0; have bkf1:=dw1.bk.f 1; have DW1:=Aside0.mk dw1; have KP1:=Aside0.mk kp1; clear ho1 hb1 hg1 hat1 dw1 kp1))
             have DWp:=DW1.out
             have KPp:=KP1.out
             have DWn:=Dw.setK0 DWp (K1 + (i : Int) + 1)
             have KPn:=KPp.none_any.trans (Kp.put DWp.bk 0 (.int .i64 (K1 + (i : Int) + 1)))
             have KPn2:=KPn.trans (Kp.put DWn.bk 1 (.int .i64 (K2 + (i : Int) + 1)))
             have DWn2:=Dw.setK1 DWn (K2 + (i : Int) + 1)
             have el : (l ++ (cq.take i).map (fun s => (⟨#[32]⟩ : ByteArray) ++ s)) ++ [(⟨#[32]⟩ : ByteArray) ++ sx] = (l ++ (cq.take (i + 1)).map (fun s => (⟨#[32]⟩ : ByteArray) ++ s)):=by
              rw [List.take_add_one,HSX.out]; simp
             rw [el] at DWn2
             exact Met.intro (hJ5 (cq.length - (i + 1)) _ _ rfl (by omega) ⟨⟨rfl,rfl,rfl,rfl,rfl,rfl,rfl,rfl,rfl⟩,rfl,rfl,rfl,rfl,i + 1,v1,rfl,q1,rfl,rfl,KPn2 _ _ _ HBs2.out (by intro e; injection e with e; omega),KPn2 _ _ _ HBe2.out (by intro e; injection e with e; omega),by rw [show K1 + (((i + 1 : Nat)) : Int) = K1 + (i : Int) + 1 by omega]; rw [show K2 + (((i + 1 : Nat)) : Int) = K2 + (i : Int) + 1 by omega]; exact DWn2⟩)
            ·have ei : i = cq.length:=by omega
             subst ei
             clear hdw hbs hbe
             go_wp2
             have el : (l ++ (cq.take cq.length).map (fun s => (⟨#[32]⟩ : ByteArray) ++ s)) = (l ++ cq.map (fun s => (⟨#[32]⟩ : ByteArray) ++ s)):=by rw [List.take_length]
             have DWn:=HDw2.out
             rw [el] at DWn
             exact Met.intro (hJ4 _ _ rfl ⟨⟨rfl,rfl,rfl,rfl,rfl,rfl,rfl,rfl,rfl⟩,rfl,rfl,v,rfl,HBs2.out,HBe2.out,DWn⟩)
          case restc =>
           intro u Wc h
           obtain ⟨hF,hu18,hu19,v,hv,hbs,hbe,hdw⟩:=h
           rw [lit379]
           simp only [hv,hF.e9,hF.e10,hF.e11,hF.e12,hF.e13,hF.e14,hF.e57,hF.e58,hF.e59,hu18,hu19]
           clear hF hu18 hu19 hv HDw HBs HBe HCc HMc hrunc b1 b2 lb lq
           have e_l:=HEl.out
           have e_q:=HEas.out
           have e_1:=HEk1.out
           have e_2:=HEk2.out
           subst e_q e_l e_1 e_2
           rw [← lines_app] at hdw
           have eN1 : ((s1 - c1 : Nat) : Int) + (((Dp.seg x (s1) (e1)).length : Nat) : Int) = (((e1) - c1 : Nat) : Int):=by have:=HDS.out.lo; have f2:=F2.out; rw [Las.out]; omega
           have eN2 : ((s2 - c2 : Nat) : Int) + (((Dp.seg x (s1) (e1)).length : Nat) : Int) = (((e2) - c2 : Nat) : Int):=by have:=HDS.out.lo2; have f2:=F2.out; rw [Las.out]; omega
           rw [eN1,eN2] at hdw
           have HDS2:=Aside0.mk ((show Dp.DS x y hs a1 a2 c1 c2 e1 e2 (ct ++ Dp.signed 32 (Dp.seg x s1 e1)) from by have f2:=F2.out; have:=HDS.out.ctx (n:=e1 - s1) (by omega) (by omega) (by rw [show s1 + (e1 - s1) = e1 by omega,show s2 + (e1 - s1) = e2 by omega]; exact HSeg.out); rwa [show s1 + (e1 - s1) = e1 by omega,show s2 + (e1 - s1) = e2 by omega] at this))
           clear HDS HEl HEas HEk1 HEk2 Las eN1 eN2
           obtain ⟨ct,ect⟩ : ∃ z,z = ct ++ Dp.signed 32 (Dp.seg x (s1) (e1)):=⟨_,rfl⟩
           rw [← ect] at hdw HDS2
           have bs0:=hbs.c0
           have bs1:=hbs.c1
           have be0:=hbe.c0
           have be1:=hbe.c1
           have bd0:=hdw.bd.c0
           have bd1:=hdw.bd.c1
           have bdf0:=hdw.bd.f 0
           have bdf1:=hdw.bd.f 1
           clear ect
           have HDw:=Aside0.mk hdw
           have HBs:=Aside0.mk hbs
           have HBe:=Aside0.mk hbe
           have HDS:=HDS2
           clear HDS2
           go_wp2
           exact Met.intro (hJ2 _ _ rfl (by show seq.length - ((k : Int) + 1).toNat < seq.length - ((k : Int)).toNat; omega) ⟨k + 1,HMore.out hT.1,⟨rfl,rfl,rfl,rfl,rfl,rfl,rfl,rfl,rfl⟩,⟨hs,a1,a2,c1,c2,e1,e2,ct,HDS.out,HAft2.out,HLen.out,(HDw.out.setD0 (e1 : Int)).setD1 (e2 : Int)⟩⟩)
         ·
          have wE2:=wE
          go_upto_if 241 with (fail)
          refine cutU 379 (fun u wc => Fx X Y (some ads) x.length cx y.length cy seq.length cs w2.heap.size gd k u ∧ u 18 = .pointer (some ⟨bs,0,none⟩) ∧ u 19 = .pointer (some ⟨be,0,none⟩) ∧ ∃ (v : Value) (hs : List Dp.Hk) (a1 a2 c1 c2 D1 D2 : Nat) (y1 y2 z1 z2 : Int),u 15 = v ∧ Dp.DS x y hs a1 a2 c1 c2 D1 D2 [] ∧ D1 ≤ e1 ∧ D2 ≤ e2 ∧ e1 + D2 = e2 + D1 ∧ Dp.seg x D1 e1 = Dp.seg y D2 e2 ∧ ((e1 < x.length ∨ e2 < y.length) → D1 + 3 ≤ e1) ∧ ((diffText a b hs).length ≤ 4194321 + (a1 + a2) * 2097152 ∧ (hs.length ≤ 1 ∨ 3 ≤ x.length)) ∧ Box wc bs s1 s2 ∧ Box wc be e1 e2 ∧ Dw w2 w2.heap.size gd (gd + 1) (gd + 2) (gd + 3) (diffText a b hs) y1 y2 z1 z2 0 0 v [] (.slice (some ads) seq.length cs) seq wc) ?restM ?firstM
          case firstM =>
           intro J4 K4 hJ4 hK4
           by_cases r4 : 0 < n
           ·
            have wE2:=wE
            have HNe:=Aside0.mk (show ct ≠ [] from by intro e; have:=Hn.out; rw [e] at this; simp at this; omega)
            go_upto_region 48 with (fail)
            obtain ⟨N,hN1,hN2⟩ : ∃ N : Nat,min ((e1 : Int) - (s1 : Int)) 3 = (N : Int) ∧ N = min (e1 - s1) 3:=⟨min (e1 - s1) 3,by omega,rfl⟩
            rw [hN1]
            obtain ⟨S3,hS3⟩ : ∃ z : Nat,z = s1 + N:=⟨_,rfl⟩
            obtain ⟨S4,hS4⟩ : ∃ z : Nat,z = s2 + N:=⟨_,rfl⟩
            have f2:=F2.out
            have b3 : s1 ≤ S3 ∧ S3 ≤ e1:=by omega
            have b4 : s2 ≤ S4 ∧ S4 ≤ e2:=by omega
            have b6 : (e1 < x.length ∨ e2 < y.length) → S3 + 3 ≤ e1:=fun hor => by have:=not_and.1 hT hor; omega
            have wS3 : IntKind.i64.wrap ((s1 : Int) + (N : Int)) = (S3 : Int):=by rw [IntKind.wrap_i64]; omega
            have wS4 : IntKind.i64.wrap ((s2 : Int) + (N : Int)) = (S4 : Int):=by rw [IntKind.wrap_i64]; omega
            have HN:=Aside0.mk (show S3 = s1 + N ∧ S4 = s2 + N ∧ S3 + s2 = S4 + s1 ∧ e1 + S4 = e2 + S3 from by omega)
            have HPre:=Aside0.mk (Dp.seg_split b3.1 b3.2 b4.1 b4.2 (by omega) (by omega) (by omega) HSeg.out)
            have B6:=Aside0.mk b6
            clear hN1 hN2 hS3 hS4 f2 b6
            have hctl:=HDS.out.ct_len
            have hs1:=HDS.out.hi
            have hs2:=HDS.out.hi2
            obtain ⟨l,el⟩ : ∃ l,l = ct.map lineB:=⟨_,rfl⟩
            obtain ⟨K1,eK1⟩ : ∃ z : Int,z = ((s1 - c1 : Nat) : Int):=⟨_,rfl⟩
            obtain ⟨K2,eK2⟩ : ∃ z : Int,z = ((s2 - c2 : Nat) : Int):=⟨_,rfl⟩
            rw [← el,← eK1,← eK2] at HDw
            obtain ⟨dA,dc,hrund,hCd⟩:=seg_cut HCX2.out hcx (s1) (S3) b3.1 (by omega)
            have HCd:=Aside0.mk hCd
            have HMd:=Aside0.mk (show ∀ s ∈ Dp.seg x (s1) (S3),s.size ≤ 1048576 from fun s hs => SX.out s (List.mem_of_mem_drop (List.mem_of_mem_take hs)))
            have las : (Dp.seg x (s1) (S3)).length = (S3) - (s1):=Dp.seg_len x (s1) (S3) (by omega)
            rw [← las] at hrund
            have ll : l.length = ct.length:=by rw [el,List.length_map]
            obtain ⟨dq,eas⟩ : ∃ z,z = Dp.seg x (s1) (S3):=⟨_,rfl⟩
            rw [← eas] at hrund las HCd HMd
            have b1 : 0 ≤ K1 ∧ K1 ≤ 2097152:=by omega
            have b2 : 0 ≤ K2 ∧ K2 ≤ 2097152:=by omega
            have lb : l.length + dq.length ≤ 8388608:=by omega
            have lq : dq.length ≤ 2097152:=by omega
            have HEl:=Aside0.mk el
            have HEas:=Aside0.mk eas
            have Las:=Aside0.mk las
            have HEk1:=Aside0.mk eK1
            have HEk2:=Aside0.mk eK2
            clear hCd el eas las ll eK1 eK2 hctl hs1 hs2
            go_upto_block 12 with (fail)
            refine cutU 379 (fun u wc => Fx X Y (some ads) x.length cx y.length cy seq.length cs w2.heap.size gd k u ∧ u 18 = .pointer (some ⟨bs,0,none⟩) ∧ u 19 = .pointer (some ⟨be,0,none⟩) ∧ u 26 = .int .i64 (N : Int) ∧ ∃ v : Value,u 15 = v ∧ Box wc bs s1 s2 ∧ Box wc be e1 e2 ∧ Dw w2 w2.heap.size gd (gd + 1) (gd + 2) (gd + 3) (diffText a b hs) d1 d2 c1 c2 (K1 + ((dq.length : Nat) : Int)) (K2 + ((dq.length : Nat) : Int)) v (l ++ dq.map (fun s => (⟨#[32]⟩ : ByteArray) ++ s)) (.slice (some ads) seq.length cs) seq wc) ?restd ?firstd
            case firstd =>
             intro J4 K4 hJ4 hK4
             go_wp2
             refine loopG 379 (fun g u wc => Fx X Y (some ads) x.length cx y.length cy seq.length cs w2.heap.size gd k u ∧ u 18 = .pointer (some ⟨bs,0,none⟩) ∧ u 19 = .pointer (some ⟨be,0,none⟩) ∧ u 26 = .int .i64 (N : Int) ∧ u 255 = .slice dA dq.length dc ∧ u 256 = .int .i64 dq.length ∧ ∃ (i : Nat) (v : Value),g = dq.length - i ∧ i ≤ dq.length ∧ u 257 = .int .i64 i ∧ u 15 = v ∧ Box wc bs s1 s2 ∧ Box wc be e1 e2 ∧ Dw w2 w2.heap.size gd (gd + 1) (gd + 2) (gd + 3) (diffText a b hs) d1 d2 c1 c2 (K1 + ((i : Nat) : Int)) (K2 + ((i : Nat) : Int)) v (l ++ (dq.take i).map (fun s => (⟨#[32]⟩ : ByteArray) ++ s)) (.slice (some ads) seq.length cs) seq wc) dq.length rfl ?atStartd ?roundd
             case atStartd =>
              refine ⟨⟨rfl,rfl,rfl,rfl,rfl,rfl,rfl,rfl,rfl⟩,rfl,rfl,rfl,rfl,rfl,0,(.slice vA n vc),rfl,Nat.zero_le _,rfl,rfl,HBs.out,HBe.out,?_⟩
              have e0 : (l ++ (dq.take 0).map (fun s => (⟨#[32]⟩ : ByteArray) ++ s)) = l:=by simp
              rw [e0]
              simpa using HDw.out
             case roundd =>
              intro g u wl hrel J5 K5 hJ5 hK5
              obtain ⟨hF,hu18,hu19,hu26,huS,huN,i,v,rfl,hi,huI,hv,hbs,hbe,hdw⟩:=hrel
              rw [lit379]
              simp only [hF.e9,hF.e10,hF.e11,hF.e12,hF.e13,hF.e14,hF.e57,hF.e58,hF.e59,hu18,hu19,hu26,huS,huN,huI,hv]
              clear huS huN huI hv hF hu18 hu19 hu26
              have HDw2:=Aside0.mk hdw
              have HBs2:=Aside0.mk hbs
              have HBe2:=Aside0.mk hbe
              by_cases q1 : i < dq.length
              ·obtain ⟨aX,sx,rfl,hsx,cX⟩:=str_cell_at (Kd.C_below HCd.out hdw.bel) i q1
               have hsz : ¬ 9223372036854775807 < 1 + sx.size:=by have:=HMd.out sx (List.mem_of_getElem? hsx); omega
               have HSX:=Aside0.mk hsx
               have hbz:=hdw.bel.size
               have wK1 : IntKind.i64.wrap (K1 + (i : Int) + 1) = K1 + (i : Int) + 1:=by rw [IntKind.wrap_i64]; omega
               have wK2 : IntKind.i64.wrap (K2 + (i : Int) + 1) = K2 + (i : Int) + 1:=by rw [IntKind.wrap_i64]; omega
               clear hdw hbs hbe hsx
               go_wp2_with (first | (at_builtin; refine Kd.R_append Kd.string (w0:=wl) w2.heap.size rfl (.tmp 261) (.tmp 264) 28 9 (.string ⟨#[]⟩) 16 rfl Tryz.underlying28 info9 rfl (by decide) (by omega) _ _ ((⟨#[32]⟩ : ByteArray) ++ sx) [.string ((⟨#[32]⟩ : ByteArray) ++ sx)] (fun _ => True) (fun _ => False) rfl rfl rfl (fun _ hk => hk.elim) (fun _ _ => trivial) HDw2.out.ct (Below.refl _ _) hbz ?aL ?_; (case aL => simp; omega); intro v1 w1 ho1 hb1 hg1 hat1; obtain ⟨dw1,kp1⟩:=HDw2.out.append ho1 hg1; have bk0:=dw1.bk.c0; have bk1:=dw1.bk.c1; have bkf0:=dw1.bk.f 0; have bkf1:=dw1.bk.f 1; have DW1:=Aside0.mk dw1; have KP1:=Aside0.mk kp1; clear ho1 hb1 hg1 hat1 dw1 kp1))
               have DWp:=DW1.out
               have KPp:=KP1.out
               have DWn:=Dw.setK0 DWp (K1 + (i : Int) + 1)
               have KPn:=KPp.none_any.trans (Kp.put DWp.bk 0 (.int .i64 (K1 + (i : Int) + 1)))
               have KPn2:=KPn.trans (Kp.put DWn.bk 1 (.int .i64 (K2 + (i : Int) + 1)))
               have DWn2:=Dw.setK1 DWn (K2 + (i : Int) + 1)
               have el : (l ++ (dq.take i).map (fun s => (⟨#[32]⟩ : ByteArray) ++ s)) ++ [(⟨#[32]⟩ : ByteArray) ++ sx] = (l ++ (dq.take (i + 1)).map (fun s => (⟨#[32]⟩ : ByteArray) ++ s)):=by
                rw [List.take_add_one,HSX.out]; simp
               rw [el] at DWn2
               exact Met.intro (hJ5 (dq.length - (i + 1)) _ _ rfl (by omega) ⟨⟨rfl,rfl,rfl,rfl,rfl,rfl,rfl,rfl,rfl⟩,rfl,rfl,rfl,rfl,rfl,i + 1,v1,rfl,q1,rfl,rfl,KPn2 _ _ _ HBs2.out (by intro e; injection e with e; omega),KPn2 _ _ _ HBe2.out (by intro e; injection e with e; omega),by rw [show K1 + (((i + 1 : Nat)) : Int) = K1 + (i : Int) + 1 by omega]; rw [show K2 + (((i + 1 : Nat)) : Int) = K2 + (i : Int) + 1 by omega]; exact DWn2⟩)
              ·have ei : i = dq.length:=by omega
               subst ei
               clear hdw hbs hbe
               go_wp2
               have el : (l ++ (dq.take dq.length).map (fun s => (⟨#[32]⟩ : ByteArray) ++ s)) = (l ++ dq.map (fun s => (⟨#[32]⟩ : ByteArray) ++ s)):=by rw [List.take_length]
               have DWn:=HDw2.out
               rw [el] at DWn
               exact Met.intro (hJ4 _ _ rfl ⟨⟨rfl,rfl,rfl,rfl,rfl,rfl,rfl,rfl,rfl⟩,rfl,rfl,rfl,v,rfl,HBs2.out,HBe2.out,DWn⟩)
            case restd =>
             intro u Wd h
             obtain ⟨hF,hu18,hu19,hu26,v,hv,hbs,hbe,hdw⟩:=h
             rw [lit379]
             simp only [hv,hF.e9,hF.e10,hF.e11,hF.e12,hF.e13,hF.e14,hF.e57,hF.e58,hF.e59,hu18,hu19,hu26]
             clear hF hu18 hu19 hu26 hv HDw HBs HBe HCd HMd hrund b1 b2 lb lq
             have e_l:=HEl.out
             have e_q:=HEas.out
             have e_1:=HEk1.out
             have e_2:=HEk2.out
             subst e_q e_l e_1 e_2
             rw [← lines_app] at hdw
             have eN1 : ((s1 - c1 : Nat) : Int) + (((Dp.seg x (s1) (S3)).length : Nat) : Int) = (((S3) - c1 : Nat) : Int):=by have:=HDS.out.lo; have f2:=F2.out; rw [Las.out]; have:=HN.out; omega
             have eN2 : ((s2 - c2 : Nat) : Int) + (((Dp.seg x (s1) (S3)).length : Nat) : Int) = (((S4) - c2 : Nat) : Int):=by have:=HDS.out.lo2; have f2:=F2.out; rw [Las.out]; have:=HN.out; omega
             rw [eN1,eN2] at hdw
             have HDS2:=Aside0.mk ((HDS.out.ctx2 (S1:=S3) (S2:=S4) (by omega) (by have:=HN.out; omega) (by omega) (by omega) HPre.out.1))
             clear HDS HEl HEas HEk1 HEk2 Las eN1 eN2
             obtain ⟨ct,ect⟩ : ∃ z,z = ct ++ Dp.signed 32 (Dp.seg x (s1) (S3)):=⟨_,rfl⟩
             rw [← ect] at hdw HDS2
             have HNe2:=Aside0.mk (show ct ≠ [] from by rw [ect]; exact List.append_ne_nil_of_left_ne_nil HNe.out _)
             have HNe:=HNe2
             clear HNe2
             obtain ⟨oc,hoc⟩ : ∃ z : Nat,z = S3 - c1:=⟨_,rfl⟩
             obtain ⟨nc,hnc⟩ : ∃ z : Nat,z = S4 - c2:=⟨_,rfl⟩
             rw [← hoc,← hnc] at hdw
             have bs0:=hbs.c0
             have bs1:=hbs.c1
             have be0:=hbe.c0
             have be1:=hbe.c1
             have bd0:=hdw.bd.c0
             have bd1:=hdw.bd.c1
             have bc0:=hdw.bc.c0
             have bc1:=hdw.bc.c1
             have bk0:=hdw.bk.c0
             have bk1:=hdw.bk.c1
             have bdf0:=hdw.bd.f 0
             have bdf1:=hdw.bd.f 1
             have bcf0:=hdw.bc.f 0
             have bcf1:=hdw.bc.f 1
             clear ect
             have HDw:=Aside0.mk hdw
             have HBs:=Aside0.mk hbs
             have HBe:=Aside0.mk hbe
             have HDS:=HDS2
             clear HDS2
             have Hoc:=Aside0.mk hoc
             have Hnc:=Aside0.mk hnc
             have hD1:=HDS.out.hi
             have hD2:=HDS.out.hi2
             have hD3:=HDS.out.lo
             have hD4:=HDS.out.lo2
             have wc1 : IntKind.i64.wrap ((c1 : Int) + 1) = (c1 : Int) + 1:=by rw [IntKind.wrap_i64]; omega
             have wc2 : IntKind.i64.wrap ((c2 : Int) + 1) = (c2 : Int) + 1:=by rw [IntKind.wrap_i64]; omega
             have boc : oc ≤ 2097152 ∧ nc ≤ 2097152:=by omega
             clear hoc hnc
             go_upto_if 286 with (fail)
             refine cutU 379 (fun u wc => Fx X Y (some ads) x.length cx y.length cy seq.length cs w2.heap.size gd k u ∧ u 18 = .pointer (some ⟨bs,0,none⟩) ∧ u 19 = .pointer (some ⟨be,0,none⟩) ∧ u 15 = v ∧ Box wc bs s1 s2 ∧ Box wc be e1 e2 ∧ Dw w2 w2.heap.size gd (gd + 1) (gd + 2) (gd + 3) (diffText a b hs) S3 S4 ((if 0 < oc then c1 + 1 else c1 : Nat) : Int) c2 (oc : Int) (nc : Int) v (ct.map lineB) (.slice (some ads) seq.length cs) seq wc) ?restE ?firstE
             case firstE =>
              intro J5 K5 hJ5 hK5
              by_cases z : 0 < oc
              ·have zt : (0 : Int) < (oc : Int):=by omega
               rw [if_pos z] at hJ5
               go_wp2
               exact Met.intro (hJ5 _ _ rfl ⟨⟨rfl,rfl,rfl,rfl,rfl,rfl,rfl,rfl,rfl⟩,rfl,rfl,rfl,((HBs.out.put2 HDw.out.bd (by omega) _ _).putc ((HDw.out.setD0 (S3 : Int)).setD1 (S4 : Int)).bc (by omega) 0 _),((HBe.out.put2 HDw.out.bd (by omega) _ _).putc ((HDw.out.setD0 (S3 : Int)).setD1 (S4 : Int)).bc (by omega) 0 _),by rw [show ((c1 + 1 : Nat) : Int) = (c1 : Int) + 1 by omega]; exact ((HDw.out.setD0 (S3 : Int)).setD1 (S4 : Int)).setC0 ((c1 : Int) + 1)⟩)
              ·obtain rfl : oc = 0:=by omega
               rw [if_neg z] at hJ5
               go_wp2
               exact Met.intro (hJ5 _ _ rfl ⟨⟨rfl,rfl,rfl,rfl,rfl,rfl,rfl,rfl,rfl⟩,rfl,rfl,rfl,(HBs.out.put2 HDw.out.bd (by omega) _ _),(HBe.out.put2 HDw.out.bd (by omega) _ _),(HDw.out.setD0 (S3 : Int)).setD1 (S4 : Int)⟩)
             case restE =>
              intro u W8 h
              obtain ⟨hF,hu18,hu19,hv,hbs,hbe,hdw⟩:=h
              rw [lit379]
              simp only [hv,hF.e9,hF.e10,hF.e11,hF.e12,hF.e13,hF.e14,hF.e57,hF.e58,hF.e59,hu18,hu19]
              clear hF hu18 hu19 hv HDw HBs HBe
              have bs0:=hbs.c0
              have bs1:=hbs.c1
              have be0:=hbe.c0
              have be1:=hbe.c1
              have bd0:=hdw.bd.c0
              have bd1:=hdw.bd.c1
              have bc0:=hdw.bc.c0
              have bc1:=hdw.bc.c1
              have bk0:=hdw.bk.c0
              have bk1:=hdw.bk.c1
              have bdf0:=hdw.bd.f 0
              have bdf1:=hdw.bd.f 1
              have bcf0:=hdw.bc.f 0
              have bcf1:=hdw.bc.f 1
              have HDw:=Aside0.mk hdw
              have HBs:=Aside0.mk hbs
              have HBe:=Aside0.mk hbe
              clear hdw hbs hbe
              go_upto_if 293 with (fail)
              refine cutU 379 (fun u wc => Fx X Y (some ads) x.length cx y.length cy seq.length cs w2.heap.size gd k u ∧ u 18 = .pointer (some ⟨bs,0,none⟩) ∧ u 19 = .pointer (some ⟨be,0,none⟩) ∧ u 15 = v ∧ Box wc bs s1 s2 ∧ Box wc be e1 e2 ∧ Dw w2 w2.heap.size gd (gd + 1) (gd + 2) (gd + 3) (diffText a b hs) S3 S4 ((if 0 < oc then c1 + 1 else c1 : Nat) : Int) ((if 0 < nc then c2 + 1 else c2 : Nat) : Int) (oc : Int) (nc : Int) v (ct.map lineB) (.slice (some ads) seq.length cs) seq wc) ?restF ?firstF
              case firstF =>
               intro J5 K5 hJ5 hK5
               by_cases z : 0 < nc
               ·have zt : (0 : Int) < (nc : Int):=by omega
                rw [if_pos z] at hJ5
                go_wp2
                exact Met.intro (hJ5 _ _ rfl ⟨⟨rfl,rfl,rfl,rfl,rfl,rfl,rfl,rfl,rfl⟩,rfl,rfl,rfl,(HBs.out.putc HDw.out.bc (by omega) 1 _),(HBe.out.putc HDw.out.bc (by omega) 1 _),by rw [show ((c2 + 1 : Nat) : Int) = (c2 : Int) + 1 by omega]; exact HDw.out.setC1 ((c2 : Int) + 1)⟩)
               ·obtain rfl : nc = 0:=by omega
                rw [if_neg z] at hJ5
                go_wp2
                exact Met.intro (hJ5 _ _ rfl ⟨⟨rfl,rfl,rfl,rfl,rfl,rfl,rfl,rfl,rfl⟩,rfl,rfl,rfl,HBs.out,HBe.out,HDw.out⟩)
              case restF =>
               intro u W9 h
               obtain ⟨hF,hu18,hu19,hv,hbs,hbe,hdw⟩:=h
               rw [lit379]
               simp only [hv,hF.e9,hF.e10,hF.e11,hF.e12,hF.e13,hF.e14,hF.e57,hF.e58,hF.e59,hu18,hu19]
               clear hF hu18 hu19 hv HDw HBs HBe
               have bs0:=hbs.c0
               have bs1:=hbs.c1
               have be0:=hbe.c0
               have be1:=hbe.c1
               have bd0:=hdw.bd.c0
               have bd1:=hdw.bd.c1
               have bc0:=hdw.bc.c0
               have bc1:=hdw.bc.c1
               have bk0:=hdw.bk.c0
               have bk1:=hdw.bk.c1
               have bdf0:=hdw.bd.f 0
               have bdf1:=hdw.bd.f 1
               have bcf0:=hdw.bc.f 0
               have bcf1:=hdw.bc.f 1
               have HDw:=Aside0.mk hdw
               have HBs:=Aside0.mk hbs
               have HBe:=Aside0.mk hbe
               clear hdw hbs hbe
               obtain ⟨Z1,hZ1⟩ : ∃ z : Nat,z = if 0 < oc then c1 + 1 else c1:=⟨_,rfl⟩
               obtain ⟨Z2,hZ2⟩ : ∃ z : Nat,z = if 0 < nc then c2 + 1 else c2:=⟨_,rfl⟩
               have bZ1 : Z1 ≤ 1048577:=by rw [hZ1]; split <;> omega
               have bZ2 : Z2 ≤ 1048577:=by rw [hZ2]; split <;> omega
               rw [← hZ1,← hZ2] at HDw
               have HZ1:=Aside0.mk hZ1
               have HZ2:=Aside0.mk hZ2
               clear hZ1 hZ2 bc0 bc1 bk0 bk1 bd0 bd1 bs0 bs1 be0 be1 bcf0 bcf1 bdf0 bdf1
               have hroom:=HDS.out.room
               have hcap : (diffText a b hs).length + (hkH Z1 oc Z2 nc).size ≤ 140737488355328:=by
                have:=hkH_size Z1 oc Z2 nc (by omega) (by omega) (by omega) (by omega)
                have:=HLen.out.1
                omega
               have nz1:=numB_size Z1 (by omega)
               have nz2:=numB_size oc (by omega)
               have nz3:=numB_size Z2 (by omega)
               have nz4:=numB_size nc (by omega)
               have sz0 : ¬ 9223372036854775807 < 4 + (numB Z1).size:=by omega
               have sz1 : ¬ 9223372036854775807 < 4 + (numB Z1).size + 1:=by omega
               have sz2 : ¬ 9223372036854775807 < 4 + (numB Z1).size + 1 + (numB oc).size:=by omega
               have sz3 : ¬ 9223372036854775807 < 4 + (numB Z1).size + 1 + (numB oc).size + 2:=by omega
               have sz4 : ¬ 9223372036854775807 < 4 + (numB Z1).size + 1 + (numB oc).size + 2 + (numB Z2).size:=by omega
               have sz5 : ¬ 9223372036854775807 < 4 + (numB Z1).size + 1 + (numB oc).size + 2 + (numB Z2).size + 1:=by omega
               have sz6 : ¬ 9223372036854775807 < 4 + (numB Z1).size + 1 + (numB oc).size + 2 + (numB Z2).size + 1 + (numB nc).size:=by omega
               have sz7 : ¬ 9223372036854775807 < 4 + (numB Z1).size + 1 + (numB oc).size + 2 + (numB Z2).size + 1 + (numB nc).size + 4:=by omega
               go_upto_region 60 with (fail)
               obtain ⟨L,hL⟩ : ∃ z,z = ct.map lineB:=⟨_,rfl⟩
               rw [← hL] at HDw
               have HLL0:=Aside0.mk hL
               clear hL
               obtain ⟨vA,vc,rfl⟩:=Kd.R_slice HDw.out.ct
               have Hc:=Aside0.mk (show Dw w2 w2.heap.size gd (gd + 1) (gd + 2) (gd + 3) (diffText a b hs) S3 S4 (Z1 : Int) (Z2 : Int) (oc : Int) (nc : Int) (.slice vA L.length vc) L (.slice (some ads) seq.length cs) seq W9.drew ∧ Box W9.drew bs s1 s2 ∧ Box W9.drew be e1 e2 from ⟨HDw.out.below (Below.refl _ _).drew,HBs.out.below (Below.refl _ _).drew,HBe.out.below (Below.refl _ _).drew⟩)
               clear HDw HBs HBe
               go_region_held3 (fun w' => Below w2.heap.size w2 w' ∧ w'.cell? ⟨gd + 1,0,none⟩ = some (.int .i64 Z1) ∧ w'.cell? ⟨gd + 1,1,none⟩ = some (.int .i64 Z2) ∧ w'.cell? ⟨gd + 2,0,none⟩ = some (.int .i64 oc) ∧ w'.cell? ⟨gd + 2,1,none⟩ = some (.int .i64 nc)) (exact ⟨Hc.out.1.bel,Hc.out.1.bc.c0,Hc.out.1.bc.c1,Hc.out.1.bk.c0,Hc.out.1.bk.c1⟩)
                (first | (go_at_call 64; refine (itoa_calls _ (by omega) _ (HT.out _ (HB2.out.trans (Hc.out.1.bel.mono HB2.out.size)))).mono ?_; rintro e w' ⟨rfl,hb⟩; have Hn:=Aside0.mk (And.intro (Hc.out.1.below hb) (And.intro (Hc.out.2.1.below hb) (Hc.out.2.2.below hb))); clear Hc hb; have Hc:=Hn; clear Hn) | (go_at_call 62; refine (Tryz.Buffer_WriteString_k w2.heap.size w2.heap.size _ (hkH Z1 oc Z2 nc) _ Hc.out.1.buf Hc.out.1.bel.size (Lib.byteCells_one _) (by rw [bc_len]; exact hcap)).mono ?_; rintro e w' ⟨rfl,ib,b4,o4⟩; rw [← Lib.byteCells_append] at ib; obtain ⟨dwn,kpn⟩:=Hc.out.1.write ib b4 o4; have Hn:=Aside0.mk (And.intro dwn (And.intro (kpn _ _ _ Hc.out.2.1 (by simp)) (kpn _ _ _ Hc.out.2.2 (by simp)))); clear Hc ib b4 o4 dwn kpn; have Hc:=Hn; clear Hn))
               have hL:=HLL0.out
               obtain ⟨TX,hTX⟩ : ∃ z,z = diffText a b hs ++ (hkH Z1 oc Z2 nc).data.toList:=⟨_,rfl⟩
               rw [← hTX] at Hc
               have lenL : L.length ≤ 2097152:=by rw [hL,List.length_map]; have:=HDS.out.ct_len; omega
               have sizL : ∀ s ∈ L,s.size ≤ 1048577:=by
                intro s hs
                rw [hL] at hs
                obtain ⟨p,hp,rfl⟩:=List.mem_map.1 hs
                rw [lineB_size]
                rcases HDS.out.ct_mem p hp with h | h
                ·have:=SX.out _ h; omega
                ·have:=SY.out _ h; omega
               have lenT : TX.length ≤ 4398050705521:=by
                rw [hTX,List.length_append,data_len]
                have:=hkH_size Z1 oc Z2 nc (by omega) (by omega) (by omega) (by omega)
                have:=HLen.out.1
                omega
               have HLL:=Aside0.mk hL
               have HTX:=Aside0.mk hTX
               have SL:=Aside0.mk sizL
               clear hL hTX sizL sz0 sz1 sz2 sz3 sz4 sz5 sz6 sz7 nz1 nz2 nz3 nz4 hcap
               go_upto_block 14 with (fail)
               refine cutU 379 (fun u wc => Fx X Y (some ads) x.length cx y.length cy seq.length cs w2.heap.size gd k u ∧ u 18 = .pointer (some ⟨bs,0,none⟩) ∧ u 19 = .pointer (some ⟨be,0,none⟩) ∧ u 15 = .slice vA L.length vc ∧ Box wc bs s1 s2 ∧ Box wc be e1 e2 ∧ Dw w2 w2.heap.size gd (gd + 1) (gd + 2) (gd + 3) (TX ++ L.flatMap (fun s => s.data.toList)) S3 S4 (Z1 : Int) (Z2 : Int) (oc : Int) (nc : Int) (.slice vA L.length vc) L (.slice (some ads) seq.length cs) seq wc) ?restG ?firstG
               case firstG =>
                rename_i wG
                intro J5 K5 hJ5 hK5
                go_wp2
                refine loopG 379 (fun g u wc => Fx X Y (some ads) x.length cx y.length cy seq.length cs w2.heap.size gd k u ∧ u 18 = .pointer (some ⟨bs,0,none⟩) ∧ u 19 = .pointer (some ⟨be,0,none⟩) ∧ u 15 = .slice vA L.length vc ∧ u 319 = .slice vA L.length vc ∧ u 320 = .int .i64 L.length ∧ ∃ i : Nat,g = L.length - i ∧ i ≤ L.length ∧ u 321 = .int .i64 i ∧ Box wc bs s1 s2 ∧ Box wc be e1 e2 ∧ Dw w2 w2.heap.size gd (gd + 1) (gd + 2) (gd + 3) (TX ++ (L.take i).flatMap (fun s => s.data.toList)) S3 S4 (Z1 : Int) (Z2 : Int) (oc : Int) (nc : Int) (.slice vA L.length vc) L (.slice (some ads) seq.length cs) seq wc) L.length rfl ?atStartG ?roundG
                case atStartG =>
                 refine ⟨⟨rfl,rfl,rfl,rfl,rfl,rfl,rfl,rfl,rfl⟩,rfl,rfl,rfl,rfl,rfl,0,rfl,Nat.zero_le _,rfl,Hc.out.2.1,Hc.out.2.2,?_⟩
                 have e0 : TX ++ (L.take 0).flatMap (fun s => s.data.toList) = TX:=by simp
                 rw [e0]
                 exact Hc.out.1
                case roundG =>
                 intro g u wl hrel J6 K6 hJ6 hK6
                 obtain ⟨hF,hu18,hu19,hv,huS,huN,i,rfl,hi,huI,hbs,hbe,hdw⟩:=hrel
                 rw [lit379]
                 simp only [hF.e9,hF.e10,hF.e11,hF.e12,hF.e13,hF.e14,hF.e57,hF.e58,hF.e59,hu18,hu19,huS,huN,huI,hv]
                 clear huS huN huI hv hF hu18 hu19
                 have HDw2:=Aside0.mk hdw
                 have HBs2:=Aside0.mk hbs
                 have HBe2:=Aside0.mk hbe
                 by_cases q1 : i < L.length
                 ·obtain ⟨aX,sx,rfl,hsx,cX⟩:=own_cell_at hdw.ct i q1
                  have hcap : (TX ++ (L.take i).flatMap (fun s => s.data.toList)).length + sx.size ≤ 140737488355328:=by
                   have h1:=flat_len 1048577 (L.take i) (fun s hs => SL.out s (List.mem_of_mem_take hs))
                   have h2:=SL.out sx (List.mem_of_getElem? hsx)
                   rw [List.length_take] at h1
                   rw [List.length_append]
                   have h3 : min i L.length * 1048577 ≤ 2097152 * 1048577:=Nat.mul_le_mul_right _ (by omega)
                   omega
                  have HSX:=Aside0.mk hsx
                  have HCap:=Aside0.mk hcap
                  clear hdw hbs hbe hsx hcap
                  go_wp2_with (go_at_call 62; refine (Tryz.Buffer_WriteString_k w2.heap.size w2.heap.size _ sx _ HDw2.out.buf HDw2.out.bel.size (Lib.byteCells_one _) (by rw [bc_len]; exact HCap.out)).mono ?_; rintro e w' ⟨rfl,ib,b4,o4⟩; rw [← Lib.byteCells_append] at ib; obtain ⟨dwn,kpn⟩:=HDw2.out.write ib b4 o4; have Hn:=Aside0.mk (And.intro dwn (And.intro (kpn _ _ _ HBs2.out (by simp)) (kpn _ _ _ HBe2.out (by simp)))); clear ib b4 o4 dwn kpn)
                  have el : TX ++ (L.take i).flatMap (fun s => s.data.toList) ++ sx.data.toList = TX ++ (L.take (i + 1)).flatMap (fun s => s.data.toList):=by
                   rw [List.take_add_one,HSX.out]; simp
                  rw [el] at Hn
                  exact Met.intro (hJ6 (L.length - (i + 1)) _ _ rfl (by omega) ⟨⟨rfl,rfl,rfl,rfl,rfl,rfl,rfl,rfl,rfl⟩,rfl,rfl,rfl,rfl,rfl,i + 1,rfl,q1,rfl,Hn.out.2.1,Hn.out.2.2,Hn.out.1⟩)
                 ·have ei : i = L.length:=by omega
                  subst ei
                  clear hdw hbs hbe
                  go_wp2
                  have DWn:=HDw2.out
                  rw [List.take_length] at DWn
                  exact Met.intro (hJ5 _ _ rfl ⟨⟨rfl,rfl,rfl,rfl,rfl,rfl,rfl,rfl,rfl⟩,rfl,rfl,rfl,HBs2.out,HBe2.out,DWn⟩)
               case restG =>
                intro u W10 h
                obtain ⟨hF,hu18,hu19,hv,hbs,hbe,hdw⟩:=h
                rw [lit379]
                simp only [hv,hF.e9,hF.e10,hF.e11,hF.e12,hF.e13,hF.e14,hF.e57,hF.e58,hF.e59,hu18,hu19]
                clear hF hu18 hu19 hv Hc
                have bs0:=hbs.c0
                have bs1:=hbs.c1
                have be0:=hbe.c0
                have be1:=hbe.c1
                have bd0:=hdw.bd.c0
                have bd1:=hdw.bd.c1
                have bc0:=hdw.bc.c0
                have bc1:=hdw.bc.c1
                have bk0:=hdw.bk.c0
                have bk1:=hdw.bk.c1
                have bdf0:=hdw.bd.f 0
                have bdf1:=hdw.bd.f 1
                have bcf0:=hdw.bc.f 0
                have bcf1:=hdw.bc.f 1
                have bkf0:=hdw.bk.f 0
                have bkf1:=hdw.bk.f 1
                have HDw:=Aside0.mk hdw
                have HBs:=Aside0.mk hbs
                have HBe:=Aside0.mk hbe
                clear hdw hbs hbe
                go_wp2
                have hne : ct ≠ []:=HNe.out
                have hnh : hkText ⟨c1,c2,ct⟩ = (hkH Z1 oc Z2 nc).data.toList ++ lnText ct:=by
                 have e1 : (Dp.olds ct).length = oc:=by rw [HDS.out.ol,Dp.seg_len _ _ _ HDS.out.hi,Hoc.out]
                 have e2 : (Dp.news ct).length = nc:=by rw [HDS.out.nw,Dp.seg_len _ _ _ HDS.out.hi2,Hnc.out]
                 unfold hkText
                 simp only [e1,e2]
                 rw [HZ1.out,HZ2.out]
                 rfl
                have hlnl : (lnText ct).length ≤ ct.length * 1048577:=by
                 rw [← flat_lines]
                 have:=flat_len 1048577 (ct.map lineB) (fun s hs => SL.out s (by rw [HLL.out]; exact hs))
                 rwa [List.length_map] at this
                have etx : TX ++ L.flatMap (fun s => s.data.toList) = diffText a b (hs ++ [⟨c1,c2,ct⟩]):=by
                 rw [diffText_snoc,hnh,HTX.out,HLL.out,flat_lines,List.append_assoc]
                have hlen2 : (diffText a b (hs ++ [⟨c1,c2,ct⟩])).length ≤ 4194321 + (S3 + S4) * 2097152:=by
                 rw [diffText_snoc,hnh,List.length_append,List.length_append,data_len]
                 have h1:=HLen.out.1
                 have h2:=hkH_size Z1 oc Z2 nc (by omega) (by omega) (by omega) (by omega)
                 have h3:=HDS.out.ct_len
                 have h4:=HDS.out.le
                 have h5:=HDS.out.gap
                 have h6 : 1 ≤ ct.length:=by rcases ct with _ | ⟨p,t⟩; exact absurd rfl hne; simp
                 omega
                have hfin:=((HDw.out.setK0 0).setK1 0).recut
                rw [etx] at hfin
                have kp:=(Kp.put HDw.out.bk 0 (.int .i64 0)).trans (Kp.put (HDw.out.setK0 0).bk 1 (.int .i64 0))
                exact Met.intro (hJ4 _ _ rfl ⟨⟨rfl,rfl,rfl,rfl,rfl,rfl,rfl,rfl,rfl⟩,rfl,rfl,_,hs ++ [⟨c1,c2,ct⟩],S3,S4,S3,S4,S3,S4,(S3 : Int),(S4 : Int),(Z1 : Int),(Z2 : Int),rfl,HDS.out.emit hne,b3.2,b4.2,HN.out.2.2.2,HPre.out.2,B6.out,⟨hlen2,HLen.out.2.imp (fun h => by rw [List.length_append,h]; exact Nat.le_refl 1) id⟩,kp _ _ _ HBs.out (by intro e; injection e with e; omega),kp _ _ _ HBe.out (by intro e; injection e with e; omega),hfin⟩)
           ·
            have hn0 : n = 0:=by omega
            have hct : ct = []:=by have:=Hn.out; rw [hn0] at this; simpa using this.symm
            have HDS2:=HDS.out
            rw [hct] at HDS2
            have h0:=HDS2.empty
            have DW2:=HDw.out
            rw [hct,show s1 - c1 = 0 by omega,show s2 - c2 = 0 by omega] at DW2
            have DW3:=Aside0.mk DW2
            have HDS3:=Aside0.mk HDS2
            clear HDS2 DW2
            have h03:=Aside0.mk h0
            clear h0 hct
            go_wp2
            exact Met.intro (hJ4 _ _ rfl ⟨⟨rfl,rfl,rfl,rfl,rfl,rfl,rfl,rfl,rfl⟩,rfl,rfl,_,hs,a1,a2,c1,c2,s1,s2,d1,d2,c1,c2,rfl,HDS3.out,f1,f3,F2.out,HSeg.out,fun hor => by have:=not_and.1 hT hor; omega,⟨HLen.out.1,HLen.out.2.imp (fun h => by omega) id⟩,HBs.out,HBe.out,DW3.out⟩)
          case restM =>
           intro u W11 h
           obtain ⟨hF,hu18,hu19,v,hs,a1,a2,c1,c2,D1,D2,y1,y2,z1,z2,hv,hds,g6,g7,g8,g9,g10,g11,hbs,hbe,hdw⟩:=h
           rw [lit379]
           simp only [hv,hF.e9,hF.e10,hF.e11,hF.e12,hF.e13,hF.e14,hF.e57,hF.e58,hF.e59,hu18,hu19]
           clear hF hu18 hu19 hv HDw HBs HBe HDS HLen
           have bs0:=hbs.c0
           have bs1:=hbs.c1
           have be0:=hbe.c0
           have be1:=hbe.c1
           have bd0:=hdw.bd.c0
           have bd1:=hdw.bd.c1
           have bc0:=hdw.bc.c0
           have bc1:=hdw.bc.c1
           have bdf0:=hdw.bd.f 0
           have bdf1:=hdw.bd.f 1
           have bcf0:=hdw.bc.f 0
           have bcf1:=hdw.bc.f 1
           have HDw:=Aside0.mk hdw
           have HBs:=Aside0.mk hbs
           have HBe:=Aside0.mk hbe
           have HDS:=Aside0.mk hds
           have HLen:=Aside0.mk g11
           have HSeg2:=Aside0.mk g9
           have G8:=Aside0.mk g8
           have hroom:=hds.room
           clear hdw hbs hbe hds g11 g9 g8
           go_upto_region 69 with (fail)
           refine cutU 379 (fun u wc => Fx X Y (some ads) x.length cx y.length cy seq.length cs w2.heap.size gd k u ∧ u 18 = .pointer (some ⟨bs,0,none⟩) ∧ u 19 = .pointer (some ⟨be,0,none⟩) ∧ u 15 = v ∧ u 343 = .bool (decide (x.length ≤ e1 ∧ y.length ≤ e2)) ∧ Box wc bs s1 s2 ∧ Box wc be e1 e2 ∧ Dw w2 w2.heap.size gd (gd + 1) (gd + 2) (gd + 3) (diffText a b hs) y1 y2 z1 z2 0 0 v [] (.slice (some ads) seq.length cs) seq wc) ?restN ?firstN
           case firstN =>
            intro J5 K5 hJ5 hK5
            by_cases r1 : x.length ≤ e1
            ·have u1 : (x.length : Int) ≤ (e1 : Int):=by omega
             by_cases r2 : y.length ≤ e2
             ·have u2 : (y.length : Int) ≤ (e2 : Int):=by omega
              go_wp2
              exact Met.intro (hJ5 _ _ rfl ⟨⟨rfl,rfl,rfl,rfl,rfl,rfl,rfl,rfl,rfl⟩,rfl,rfl,rfl,congrArg Value.bool (by symm; simp only [decide_eq_true_eq,decide_eq_false_iff_not]; omega),HBs.out,HBe.out,HDw.out⟩)
             ·have u2 : decide ((y.length : Int) ≤ (e2 : Int)) = false:=by simp; omega
              have u3 : decide ((e2 : Int) ≥ (y.length : Int)) = false:=by simp; omega
              go_wp2
              exact Met.intro (hJ5 _ _ rfl ⟨⟨rfl,rfl,rfl,rfl,rfl,rfl,rfl,rfl,rfl⟩,rfl,rfl,rfl,congrArg Value.bool (by symm; simp only [decide_eq_true_eq,decide_eq_false_iff_not]; omega),HBs.out,HBe.out,HDw.out⟩)
            ·have u1 : decide ((e1 : Int) ≥ (x.length : Int)) = false:=by simp; omega
             have u2 : decide ((x.length : Int) ≤ (e1 : Int)) = false:=by simp; omega
             go_wp2
             exact Met.intro (hJ5 _ _ rfl ⟨⟨rfl,rfl,rfl,rfl,rfl,rfl,rfl,rfl,rfl⟩,rfl,rfl,rfl,congrArg Value.bool (by symm; simp only [decide_eq_true_eq,decide_eq_false_iff_not]; omega),HBs.out,HBe.out,HDw.out⟩)
           case restN =>
            clear bs0 bs1 be0 be1 bd0 bd1 bdf0 bdf1 bc0 bc1 bcf0 bcf1
            intro u W12 h
            obtain ⟨hF,hu18,hu19,hv,ht,hbs,hbe,hdw⟩:=h
            rw [lit379]
            simp only [hv,ht,hF.e9,hF.e10,hF.e11,hF.e12,hF.e13,hF.e14,hF.e57,hF.e58,hF.e59,hu18,hu19]
            clear hF hu18 hu19 hv ht HDw HBs HBe
            have bs0:=hbs.c0
            have bs1:=hbs.c1
            have be0:=hbe.c0
            have be1:=hbe.c1
            have bd0:=hdw.bd.c0
            have bd1:=hdw.bd.c1
            have bc0:=hdw.bc.c0
            have bc1:=hdw.bc.c1
            have bdf0:=hdw.bd.f 0
            have bdf1:=hdw.bd.f 1
            have bcf0:=hdw.bc.f 0
            have bcf1:=hdw.bc.f 1
            have HDw:=Aside0.mk hdw
            have HBs:=Aside0.mk hbs
            have HBe:=Aside0.mk hbe
            clear hdw hbs hbe
            by_cases eo : e1 < x.length ∨ e2 < y.length
            ·
             have ht : ¬ (x.length ≤ e1 ∧ y.length ≤ e2):=by omega
             simp only [ht,decide_false]
             clear ht
             obtain ⟨c1,hc1⟩ : ∃ z : Nat,z = e1 - 3:=⟨_,rfl⟩
             obtain ⟨c2,hc2⟩ : ∃ z : Nat,z = e2 - 3:=⟨_,rfl⟩
             have g8:=G8.out
             have b9:=g10 eo
             have HLen9 : Aside0 ((diffText a b hs).length ≤ 4194321 + (a1 + a2) * 2097152 ∧ (hs.length = 0 ∨ 3 ≤ x.length)):=⟨⟨HLen.out.1,Or.inr (by omega)⟩⟩
             have b8 : D1 ≤ c1 ∧ c1 ≤ e1 ∧ D2 ≤ c2 ∧ c2 ≤ e2:=by omega
             have wC1 : IntKind.i64.wrap ((e1 : Int) - 3) = (c1 : Int):=by rw [IntKind.wrap_i64]; omega
             have wC2 : IntKind.i64.wrap ((e2 : Int) - 3) = (c2 : Int):=by rw [IntKind.wrap_i64]; omega
             have HN9:=Aside0.mk (show c1 + D2 = c2 + D1 ∧ c1 + 3 = e1 ∧ c2 + 3 = e2 from by omega)
             have HPre2:=Aside0.mk (Dp.seg_split b8.1 b8.2.1 b8.2.2.1 b8.2.2.2 (by omega) (by omega) (by omega) HSeg2.out)
             have HDSn:=Aside0.mk (HDS.out.skip2 (S1:=c1) (S2:=c2) b8.1 (by omega) (by omega) (by omega) HPre2.out.1)
             clear HDS hc1 hc2 g8
             have HDS:=HDSn
             clear HDSn
             have HDwn:=Aside0.mk (show Dw w2 w2.heap.size gd (gd + 1) (gd + 2) (gd + 3) (diffText a b hs) y1 y2 (c1 : Int) (c2 : Int) ((c1 - c1 : Nat) : Int) ((c2 - c2 : Nat) : Int) v (([] : List Dp.Ln).map lineB) (.slice (some ads) seq.length cs) seq _ from by rw [Nat.sub_self,Nat.sub_self]; exact (HDw.out.setC0 (c1 : Int)).setC1 (c2 : Int))
             have HBsn:=Aside0.mk (HBs.out.put2 HDw.out.bc (by omega) (c1 : Int) (c2 : Int))
             have HBen:=Aside0.mk (HBe.out.put2 HDw.out.bc (by omega) (c1 : Int) (c2 : Int))
             clear HDw HBs HBe
             have HDw:=HDwn
             have HBs:=HBsn
             have HBe:=HBen
             clear HDwn HBsn HBen
             obtain ⟨ct,hct⟩ : ∃ z : List Dp.Ln,z = []:=⟨_,rfl⟩
             rw [← hct] at HDS HDw
             clear hct
             have hctl:=HDS.out.ct_len
             have hc1:=HDS.out.hi
             have hc2:=HDS.out.hi2
             obtain ⟨l,el⟩ : ∃ l,l = ct.map lineB:=⟨_,rfl⟩
             obtain ⟨K1,eK1⟩ : ∃ z : Int,z = ((c1 - c1 : Nat) : Int):=⟨_,rfl⟩
             obtain ⟨K2,eK2⟩ : ∃ z : Int,z = ((c2 - c2 : Nat) : Int):=⟨_,rfl⟩
             rw [← el,← eK1,← eK2] at HDw
             obtain ⟨eA,ec,hrune,hCe⟩:=seg_cut HCX2.out hcx (c1) (e1) b8.2.1 (by omega)
             have HCe:=Aside0.mk hCe
             have HMe:=Aside0.mk (show ∀ s ∈ Dp.seg x (c1) (e1),s.size ≤ 1048576 from fun s hs => SX.out s (List.mem_of_mem_drop (List.mem_of_mem_take hs)))
             have las : (Dp.seg x (c1) (e1)).length = (e1) - (c1):=Dp.seg_len x (c1) (e1) (by omega)
             rw [← las] at hrune
             have ll : l.length = ct.length:=by rw [el,List.length_map]
             obtain ⟨eq,eas⟩ : ∃ z,z = Dp.seg x (c1) (e1):=⟨_,rfl⟩
             rw [← eas] at hrune las HCe HMe
             have b1 : 0 ≤ K1 ∧ K1 ≤ 2097152:=by omega
             have b2 : 0 ≤ K2 ∧ K2 ≤ 2097152:=by omega
             have lb : l.length + eq.length ≤ 8388608:=by omega
             have lq : eq.length ≤ 2097152:=by omega
             have HEl:=Aside0.mk el
             have HEas:=Aside0.mk eas
             have Las:=Aside0.mk las
             have HEk1:=Aside0.mk eK1
             have HEk2:=Aside0.mk eK2
             clear hCe el eas las ll eK1 eK2 hctl hc1 hc2
             go_upto_block 16 with (fail)
             refine cutU 379 (fun u wc => Fx X Y (some ads) x.length cx y.length cy seq.length cs w2.heap.size gd k u ∧ u 18 = .pointer (some ⟨bs,0,none⟩) ∧ u 19 = .pointer (some ⟨be,0,none⟩) ∧ ∃ v : Value,u 15 = v ∧ Box wc bs s1 s2 ∧ Box wc be e1 e2 ∧ Dw w2 w2.heap.size gd (gd + 1) (gd + 2) (gd + 3) (diffText a b hs) y1 y2 c1 c2 (K1 + ((eq.length : Nat) : Int)) (K2 + ((eq.length : Nat) : Int)) v (l ++ eq.map (fun s => (⟨#[32]⟩ : ByteArray) ++ s)) (.slice (some ads) seq.length cs) seq wc) ?reste ?firste
             case firste =>
              intro J4 K4 hJ4 hK4
              go_wp2
              refine loopG 379 (fun g u wc => Fx X Y (some ads) x.length cx y.length cy seq.length cs w2.heap.size gd k u ∧ u 18 = .pointer (some ⟨bs,0,none⟩) ∧ u 19 = .pointer (some ⟨be,0,none⟩) ∧ u 356 = .slice eA eq.length ec ∧ u 357 = .int .i64 eq.length ∧ ∃ (i : Nat) (v : Value),g = eq.length - i ∧ i ≤ eq.length ∧ u 358 = .int .i64 i ∧ u 15 = v ∧ Box wc bs s1 s2 ∧ Box wc be e1 e2 ∧ Dw w2 w2.heap.size gd (gd + 1) (gd + 2) (gd + 3) (diffText a b hs) y1 y2 c1 c2 (K1 + ((i : Nat) : Int)) (K2 + ((i : Nat) : Int)) v (l ++ (eq.take i).map (fun s => (⟨#[32]⟩ : ByteArray) ++ s)) (.slice (some ads) seq.length cs) seq wc) eq.length rfl ?atStarte ?rounde
              case atStarte =>
               refine ⟨⟨rfl,rfl,rfl,rfl,rfl,rfl,rfl,rfl,rfl⟩,rfl,rfl,rfl,rfl,0,v,rfl,Nat.zero_le _,rfl,rfl,HBs.out,HBe.out,?_⟩
               have e0 : (l ++ (eq.take 0).map (fun s => (⟨#[32]⟩ : ByteArray) ++ s)) = l:=by simp
               rw [e0]
               simpa using HDw.out
              case rounde =>
               intro g u wl hrel J5 K5 hJ5 hK5
               obtain ⟨hF,hu18,hu19,huS,huN,i,v,rfl,hi,huI,hv,hbs,hbe,hdw⟩:=hrel
               rw [lit379]
               simp only [hF.e9,hF.e10,hF.e11,hF.e12,hF.e13,hF.e14,hF.e57,hF.e58,hF.e59,hu18,hu19,huS,huN,huI,hv]
               clear huS huN huI hv hF hu18 hu19
               have HDw2:=Aside0.mk hdw
               have HBs2:=Aside0.mk hbs
               have HBe2:=Aside0.mk hbe
               by_cases q1 : i < eq.length
               ·obtain ⟨aX,sx,rfl,hsx,cX⟩:=str_cell_at (Kd.C_below HCe.out hdw.bel) i q1
                have hsz : ¬ 9223372036854775807 < 1 + sx.size:=by have:=HMe.out sx (List.mem_of_getElem? hsx); omega
                have HSX:=Aside0.mk hsx
                have hbz:=hdw.bel.size
                have wK1 : IntKind.i64.wrap (K1 + (i : Int) + 1) = K1 + (i : Int) + 1:=by rw [IntKind.wrap_i64]; omega
                have wK2 : IntKind.i64.wrap (K2 + (i : Int) + 1) = K2 + (i : Int) + 1:=by rw [IntKind.wrap_i64]; omega
                clear hdw hbs hbe hsx
                go_wp2_with (first | (at_builtin; refine Kd.R_append Kd.string (w0:=wl) w2.heap.size rfl (.tmp 362) (.tmp 365) 28 9 (.string ⟨#[]⟩) 16 rfl Tryz.underlying28 info9 rfl (by decide) (by omega) _ _ ((⟨#[32]⟩ : ByteArray) ++ sx) [.string ((⟨#[32]⟩ : ByteArray) ++ sx)] (fun _ => True) (fun _ => False) rfl rfl rfl (fun _ hk => hk.elim) (fun _ _ => trivial) HDw2.out.ct (Below.refl _ _) hbz ?aL ?_; (case aL => simp; omega); intro v1 w1 ho1 hb1 hg1 hat1; obtain ⟨dw1,kp1⟩:=HDw2.out.append ho1 hg1; have bk0:=dw1.bk.c0; have bk1:=dw1.bk.c1; have bkf0:=dw1.bk.f 0; have bkf1:=dw1.bk.f 1; have DW1:=Aside0.mk dw1; have KP1:=Aside0.mk kp1; clear ho1 hb1 hg1 hat1 dw1 kp1))
                have DWp:=DW1.out
                have KPp:=KP1.out
                have DWn:=Dw.setK0 DWp (K1 + (i : Int) + 1)
                have KPn:=KPp.none_any.trans (Kp.put DWp.bk 0 (.int .i64 (K1 + (i : Int) + 1)))
                have KPn2:=KPn.trans (Kp.put DWn.bk 1 (.int .i64 (K2 + (i : Int) + 1)))
                have DWn2:=Dw.setK1 DWn (K2 + (i : Int) + 1)
                have el : (l ++ (eq.take i).map (fun s => (⟨#[32]⟩ : ByteArray) ++ s)) ++ [(⟨#[32]⟩ : ByteArray) ++ sx] = (l ++ (eq.take (i + 1)).map (fun s => (⟨#[32]⟩ : ByteArray) ++ s)):=by
                 rw [List.take_add_one,HSX.out]; simp
                rw [el] at DWn2
                exact Met.intro (hJ5 (eq.length - (i + 1)) _ _ rfl (by omega) ⟨⟨rfl,rfl,rfl,rfl,rfl,rfl,rfl,rfl,rfl⟩,rfl,rfl,rfl,rfl,i + 1,v1,rfl,q1,rfl,rfl,KPn2 _ _ _ HBs2.out (by intro e; injection e with e; omega),KPn2 _ _ _ HBe2.out (by intro e; injection e with e; omega),by rw [show K1 + (((i + 1 : Nat)) : Int) = K1 + (i : Int) + 1 by omega]; rw [show K2 + (((i + 1 : Nat)) : Int) = K2 + (i : Int) + 1 by omega]; exact DWn2⟩)
               ·have ei : i = eq.length:=by omega
                subst ei
                clear hdw hbs hbe
                go_wp2
                have el : (l ++ (eq.take eq.length).map (fun s => (⟨#[32]⟩ : ByteArray) ++ s)) = (l ++ eq.map (fun s => (⟨#[32]⟩ : ByteArray) ++ s)):=by rw [List.take_length]
                have DWn:=HDw2.out
                rw [el] at DWn
                exact Met.intro (hJ4 _ _ rfl ⟨⟨rfl,rfl,rfl,rfl,rfl,rfl,rfl,rfl,rfl⟩,rfl,rfl,v,rfl,HBs2.out,HBe2.out,DWn⟩)
             case reste =>
              intro u We h
              obtain ⟨hF,hu18,hu19,v,hv,hbs,hbe,hdw⟩:=h
              rw [lit379]
              simp only [hv,hF.e9,hF.e10,hF.e11,hF.e12,hF.e13,hF.e14,hF.e57,hF.e58,hF.e59,hu18,hu19]
              clear hF hu18 hu19 hv HDw HBs HBe HCe HMe hrune b1 b2 lb lq
              have e_l:=HEl.out
              have e_q:=HEas.out
              have e_1:=HEk1.out
              have e_2:=HEk2.out
              subst e_q e_l e_1 e_2
              rw [← lines_app] at hdw
              have eN1 : ((c1 - c1 : Nat) : Int) + (((Dp.seg x (c1) (e1)).length : Nat) : Int) = (((e1) - c1 : Nat) : Int):=by have:=HDS.out.lo; have f2:=F2.out; rw [Las.out]; have:=HN9.out; omega
              have eN2 : ((c2 - c2 : Nat) : Int) + (((Dp.seg x (c1) (e1)).length : Nat) : Int) = (((e2) - c2 : Nat) : Int):=by have:=HDS.out.lo2; have f2:=F2.out; rw [Las.out]; have:=HN9.out; omega
              rw [eN1,eN2] at hdw
              have HDS2:=Aside0.mk ((HDS.out.ctx2 (S1:=e1) (S2:=e2) (by omega) (by have:=HN9.out; omega) (by omega) (by have:=HN9.out; omega) HPre2.out.2))
              clear HDS HEl HEas HEk1 HEk2 Las eN1 eN2
              obtain ⟨ct,ect⟩ : ∃ z,z = ct ++ Dp.signed 32 (Dp.seg x (c1) (e1)):=⟨_,rfl⟩
              rw [← ect] at hdw HDS2
              have bs0:=hbs.c0
              have bs1:=hbs.c1
              have be0:=hbe.c0
              have be1:=hbe.c1
              have bd0:=hdw.bd.c0
              have bd1:=hdw.bd.c1
              have bdf0:=hdw.bd.f 0
              have bdf1:=hdw.bd.f 1
              clear ect
              have HDw:=Aside0.mk hdw
              have HBs:=Aside0.mk hbs
              have HBe:=Aside0.mk hbe
              have HDS:=HDS2
              clear HDS2
              go_wp2
              exact Met.intro (hJ2 _ _ rfl (by show seq.length - ((k : Int) + 1).toNat < seq.length - ((k : Int)).toNat; omega) ⟨k + 1,HMore.out eo,⟨rfl,rfl,rfl,rfl,rfl,rfl,rfl,rfl,rfl⟩,⟨hs,a1,a2,c1,c2,e1,e2,ct,HDS.out,HAft2.out,HLen9.out,(HDw.out.setD0 (e1 : Int)).setD1 (e2 : Int)⟩⟩)
            ·
             have ht : x.length ≤ e1 ∧ y.length ≤ e2:=by omega
             simp only [ht,and_self,decide_true]
             clear ht
             go_wp2
             have hlead:=HDS.out.done (by rw [← Dp.seg_all,← Dp.seg_all,show x.length = e1 by omega,show y.length = e2 by omega]; exact HSeg2.out)
             exact Met.intro (hJ _ _ rfl ⟨rfl,hs,hlead,⟨len_bound HLen.out.1 hroom,HLen.out.2⟩,HDw.out.buf,HDw.out.bel⟩)
 case rest =>
  intro u W h
  obtain ⟨h11,hs,hl,hlen,hbuf,hbel⟩:=h
  rw [lit379]
  simp only [h11]
  have HL:=Aside0.mk hl
  have HN:=Aside0.mk hlen
  have HBf:=Aside0.mk hbuf
  have HBl:=Aside0.mk hbel
  clear hl hlen hbuf hbel h11
  go_wp2_with (go_at_call 65; refine (Tryz.Buffer_Bytes w2.heap.size w2.heap.size _ _ HBf.out).mono ?_; rintro e w' ⟨vr,rfl,hown,m,hm⟩; subst hm; have HO:=Aside0.mk hown; clear hown)
  go_ret
  have ho:=HO.out
  rw [bc_len] at ho
  exact ⟨vr,hs,w2.heap.size,rfl,HB2.out.size,HL.out,HN.out,ho,HB2.out.trans (pw_below_drewN (HBl.out.mono HB2.out.size) _)⟩
end Go.Proofs.YtplbifmjnanceaaGreatDoor
end
