/- Words of a line and the lines of the archive, as values. -/
import Derived.Test.YtplbifmjnanceaaGreatDoorProg
import Derived.Below
import Derived.Deep.Draws
import Derived.Deep.AppendLies
import Derived.Maps.AppendAt
import Derived.OwnWalk
import Derived.Laws.BytesArg
import Derived.Laws.MakeOwn
import Derived.Laws.OwnMore
import Derived.Deep.OwnRows
import Derived.Tactics
import Derived.Lib.ConvBytes
import Derived.Laws.Slices
import Derived.WalkKit
import Derived.KernelRfl
import Derived.RowKit3
import Derived.Deep.LoopGhost
import Derived.Deep.QuietTactic
import Derived.BigQuiet
import Derived.WideLaws
import Derived.Deep.DeepCutAuto
import Derived.Deep.CutBlock
import Derived.Deep.RegionHeld3
import Derived.Laws.Rows
import Derived.Lib.AppendStr
import Derived.ArgAppend
import Derived.Laws.IdiomCopy
import Derived.OrdersHeld
import Derived.Laws.BitsLemmas
import Derived.RowKit
import Derived.Test.YtplbifmjnanceaaGreatDoorVA
import Derived.Test.YtplbifmjnanceaaGreatDoorVC
section
namespace Go.Proofs.YtplbifmjnanceaaGreatDoor.PFnArchive
open Go.RowKit Go.Proofs.YtplbifmjnanceaaGreatDoorW.PrintWords Go.Proofs.YtplbifmjnanceaaGreatDoorW.PrintLast Go.Proofs.YtplbifmjnanceaaGreatDoorW.PrintMore
attribute [local go_sem] max2_int min2_int max_two min_two max_three min_three max_four min_four
set_option linter.unusedVariables false
set_option linter.unusedSimpArgs false
def errW : Option Int → Value
 | none => .nilIface
 | some c => .iface 0 (.int .i64 c)
theorem errW_none : errW none = .nilIface:=rfl
theorem errW_some (c : Int) : errW (some c) = .iface 0 (.int .i64 c):=rfl
theorem info9 : (Tryz.prog.info? 9).map (fun i => (i.zero,i.size,i.bytes)) = some (some (.string ⟨#[]⟩),1,16):=by kernel_rfl
structure S35 where
 f0 : ByteArray
 f1 : ByteArray
def z35 : S35:=⟨(⟨#[]⟩ : ByteArray),(⟨#[]⟩ : ByteArray)⟩
def k35 : Kd S35:=Kd.iso (Kd.pair Kd.string Kd.string) (fun x : S35 => (x.f0,x.f1))
theorem k35_open {w : World} {x : S35} {cs : List Value} (h : k35.K w x cs) : cs = [.string x.f0,.string x.f1]:=by
 obtain ⟨_,_,rfl,rfl,rfl⟩:=h
 exact rfl
theorem k35_mk (w : World) (x : S35)  : k35.K w x [.string x.f0,.string x.f1]:=⟨[.string x.f0],[.string x.f1],rfl,rfl,rfl⟩
theorem k35_mkM (w : World) (base : Nat) (ok : Nat → Prop) (x : S35)  : k35.M w base ok x [.string x.f0,.string x.f1]:=⟨[.string x.f0],[.string x.f1],rfl,rfl,rfl⟩
def rd_T35 (xs : List S35) (i : Int) : S35:=xs.getD i.toNat z35
theorem at_T35 {w : World} {A : Option Addr} {n : Nat} {xs : List S35} (h : Kd.C k35 w A n xs) (i : Int) (h0 : 0 ≤ i) (h1 : i < n) : ∃ ad ,A = some ad ∧ w.cell? (ad.add (i.toNat * 2)) = some (.string (rd_T35 xs i).f0) ∧ w.cell? ⟨(ad.add (i.toNat * 2)).block,(ad.add (i.toNat * 2)).off + 1,none⟩ = some (.string (rd_T35 xs i).f1):=by
 obtain ⟨ad,c,e,_,hK,hc0⟩:=Kd.C_get h z35 i h0 h1
 have hc : ∀ j u,c[j]? = some u → w.cell? (ad.add (i.toNat * 2 + j)) = some u:=hc0
 obtain rfl:=k35_open hK
 exact ⟨ad,e,hc 0 _ rfl,by rw [← add_field _ _ 1 (by omega)]; exact hc 1 _ rfl⟩
structure S56 where
 f0 : Int
 f1 : Bool
 f2 : Int
 f3 : Int
 f4 : ByteArray
def z56 : S56:=⟨(0 : Int),false,(0 : Int),(0 : Int),(⟨#[]⟩ : ByteArray)⟩
def k56 : Kd S56:=Kd.iso (Kd.pair (Kd.int .u8) (Kd.pair Kd.bool (Kd.pair (Kd.int .u8) (Kd.pair (Kd.int .u8) Kd.string)))) (fun x : S56 => (x.f0,x.f1,x.f2,x.f3,x.f4))
theorem k56_open {w : World} {x : S56} {cs : List Value} (h : k56.K w x cs) : cs = [.int .u8 x.f0,.bool x.f1,.int .u8 x.f2,.int .u8 x.f3,.string x.f4]:=by
 obtain ⟨_,_,rfl,rfl,⟨_,_,rfl,rfl,⟨_,_,rfl,rfl,⟨_,_,rfl,rfl,rfl⟩⟩⟩⟩:=h
 exact rfl
theorem k56_mk (w : World) (x : S56)  : k56.K w x [.int .u8 x.f0,.bool x.f1,.int .u8 x.f2,.int .u8 x.f3,.string x.f4]:=⟨[.int .u8 x.f0],[.bool x.f1,.int .u8 x.f2,.int .u8 x.f3,.string x.f4],rfl,rfl,⟨[.bool x.f1],[.int .u8 x.f2,.int .u8 x.f3,.string x.f4],rfl,rfl,⟨[.int .u8 x.f2],[.int .u8 x.f3,.string x.f4],rfl,rfl,⟨[.int .u8 x.f3],[.string x.f4],rfl,rfl,rfl⟩⟩⟩⟩
theorem k56_mkM (w : World) (base : Nat) (ok : Nat → Prop) (x : S56)  : k56.M w base ok x [.int .u8 x.f0,.bool x.f1,.int .u8 x.f2,.int .u8 x.f3,.string x.f4]:=⟨[.int .u8 x.f0],[.bool x.f1,.int .u8 x.f2,.int .u8 x.f3,.string x.f4],rfl,rfl,⟨[.bool x.f1],[.int .u8 x.f2,.int .u8 x.f3,.string x.f4],rfl,rfl,⟨[.int .u8 x.f2],[.int .u8 x.f3,.string x.f4],rfl,rfl,⟨[.int .u8 x.f3],[.string x.f4],rfl,rfl,rfl⟩⟩⟩⟩
def rd_T56 (xs : List S56) (i : Int) : S56:=xs.getD i.toNat z56
theorem at_T56 {w : World} {A : Option Addr} {n : Nat} {xs : List S56} (h : Kd.C k56 w A n xs) (i : Int) (h0 : 0 ≤ i) (h1 : i < n) : ∃ ad ,A = some ad ∧ w.cell? (ad.add (i.toNat * 5)) = some (.int .u8 (rd_T56 xs i).f0) ∧ w.cell? ⟨(ad.add (i.toNat * 5)).block,(ad.add (i.toNat * 5)).off + 1,none⟩ = some (.bool (rd_T56 xs i).f1) ∧ w.cell? ⟨(ad.add (i.toNat * 5)).block,(ad.add (i.toNat * 5)).off + 2,none⟩ = some (.int .u8 (rd_T56 xs i).f2) ∧ w.cell? ⟨(ad.add (i.toNat * 5)).block,(ad.add (i.toNat * 5)).off + 3,none⟩ = some (.int .u8 (rd_T56 xs i).f3) ∧ w.cell? ⟨(ad.add (i.toNat * 5)).block,(ad.add (i.toNat * 5)).off + 4,none⟩ = some (.string (rd_T56 xs i).f4):=by
 obtain ⟨ad,c,e,_,hK,hc0⟩:=Kd.C_get h z56 i h0 h1
 have hc : ∀ j u,c[j]? = some u → w.cell? (ad.add (i.toNat * 5 + j)) = some u:=hc0
 obtain rfl:=k56_open hK
 exact ⟨ad,e,hc 0 _ rfl,by rw [← add_field _ _ 1 (by omega)]; exact hc 1 _ rfl,by rw [← add_field _ _ 2 (by omega)]; exact hc 2 _ rfl,by rw [← add_field _ _ 3 (by omega)]; exact hc 3 _ rfl,by rw [← add_field _ _ 4 (by omega)]; exact hc 4 _ rfl⟩
structure S31 where
 f0 : ByteArray
 f1 : (List ByteArray)
 f2 : Int
 f3 : ByteArray
 f4 : (List S56)
def z31 : S31:=⟨(⟨#[]⟩ : ByteArray),([] : List ByteArray),(0 : Int),(⟨#[]⟩ : ByteArray),([] : List S56)⟩
def k31 : Kd S31:=Kd.iso (Kd.pair Kd.string (Kd.pair (Kd.slice 9 Kd.string) (Kd.pair (Kd.int .u8) (Kd.pair Kd.string (Kd.slice 56 k56))))) (fun x : S31 => (x.f0,x.f1,x.f2,x.f3,x.f4))
theorem k31_open {w : World} {x : S31} {cs : List Value} (h : k31.K w x cs) : ∃ A1 c1 A4 c4,cs = [.string x.f0,.slice A1 x.f1.length c1,.int .u8 x.f2,.string x.f3,.slice A4 x.f4.length c4] ∧ x.f1.length ≤ c1 ∧ Kd.string.C w A1 x.f1.length x.f1 ∧ x.f4.length ≤ c4 ∧ k56.C w A4 x.f4.length x.f4:=by
 obtain ⟨_,_,rfl,rfl,⟨_,_,rfl,⟨A1,c1,rfl,l1,g1⟩,⟨_,_,rfl,rfl,⟨_,_,rfl,rfl,⟨A4,c4,rfl,l4,g4⟩⟩⟩⟩⟩:=h
 exact ⟨A1,c1,A4,c4,rfl,l1,g1,l4,g4⟩
theorem k31_mk (w : World) (x : S31) {A1 : Option Addr} {c1 : Nat} (l1 : x.f1.length ≤ c1) (g1 : Kd.string.C w A1 x.f1.length x.f1) {A4 : Option Addr} {c4 : Nat} (l4 : x.f4.length ≤ c4) (g4 : k56.C w A4 x.f4.length x.f4) : k31.K w x [.string x.f0,.slice A1 x.f1.length c1,.int .u8 x.f2,.string x.f3,.slice A4 x.f4.length c4]:=⟨[.string x.f0],[.slice A1 x.f1.length c1,.int .u8 x.f2,.string x.f3,.slice A4 x.f4.length c4],rfl,rfl,⟨[.slice A1 x.f1.length c1],[.int .u8 x.f2,.string x.f3,.slice A4 x.f4.length c4],rfl,⟨A1,c1,rfl,l1,g1⟩,⟨[.int .u8 x.f2],[.string x.f3,.slice A4 x.f4.length c4],rfl,rfl,⟨[.string x.f3],[.slice A4 x.f4.length c4],rfl,rfl,⟨A4,c4,rfl,l4,g4⟩⟩⟩⟩⟩
theorem k31_mkM (w : World) (base : Nat) (ok : Nat → Prop) (x : S31) {v1 : Value} (g1 : Kd.string.R 9 w base ok v1 x.f1) {v4 : Value} (g4 : k56.R 56 w base ok v4 x.f4) : k31.M w base ok x [.string x.f0,v1,.int .u8 x.f2,.string x.f3,v4]:=⟨[.string x.f0],[v1,.int .u8 x.f2,.string x.f3,v4],rfl,rfl,⟨[v1],[.int .u8 x.f2,.string x.f3,v4],rfl,⟨v1,rfl,g1⟩,⟨[.int .u8 x.f2],[.string x.f3,v4],rfl,rfl,⟨[.string x.f3],[v4],rfl,rfl,⟨v4,rfl,g4⟩⟩⟩⟩⟩
def rd_T31 (xs : List S31) (i : Int) : S31:=xs.getD i.toNat z31
theorem at_T31 {w : World} {A : Option Addr} {n : Nat} {xs : List S31} (h : Kd.C k31 w A n xs) (i : Int) (h0 : 0 ≤ i) (h1 : i < n) : ∃ ad A1 c1 A4 c4,A = some ad ∧ w.cell? (ad.add (i.toNat * 5)) = some (.string (rd_T31 xs i).f0) ∧ w.cell? ⟨(ad.add (i.toNat * 5)).block,(ad.add (i.toNat * 5)).off + 1,none⟩ = some (.slice A1 (rd_T31 xs i).f1.length c1) ∧ w.cell? ⟨(ad.add (i.toNat * 5)).block,(ad.add (i.toNat * 5)).off + 2,none⟩ = some (.int .u8 (rd_T31 xs i).f2) ∧ w.cell? ⟨(ad.add (i.toNat * 5)).block,(ad.add (i.toNat * 5)).off + 3,none⟩ = some (.string (rd_T31 xs i).f3) ∧ w.cell? ⟨(ad.add (i.toNat * 5)).block,(ad.add (i.toNat * 5)).off + 4,none⟩ = some (.slice A4 (rd_T31 xs i).f4.length c4) ∧ (rd_T31 xs i).f1.length ≤ c1 ∧ Kd.string.C w A1 (rd_T31 xs i).f1.length (rd_T31 xs i).f1 ∧ (rd_T31 xs i).f4.length ≤ c4 ∧ k56.C w A4 (rd_T31 xs i).f4.length (rd_T31 xs i).f4:=by
 obtain ⟨ad,c,e,_,hK,hc0⟩:=Kd.C_get h z31 i h0 h1
 have hc : ∀ j u,c[j]? = some u → w.cell? (ad.add (i.toNat * 5 + j)) = some u:=hc0
 obtain ⟨A1,c1,A4,c4,rfl,l1,g1,l4,g4⟩:=k31_open hK
 exact ⟨ad,A1,c1,A4,c4,e,hc 0 _ rfl,by rw [← add_field _ _ 1 (by omega)]; exact hc 1 _ rfl,by rw [← add_field _ _ 2 (by omega)]; exact hc 2 _ rfl,by rw [← add_field _ _ 3 (by omega)]; exact hc 3 _ rfl,by rw [← add_field _ _ 4 (by omega)]; exact hc 4 _ rfl,l1,g1,l4,g4⟩
structure S159 where
 f0 : Int
 f1 : Int
 f2 : Int
structure S162 where
 f0 : Int
 f1 : Int
 f2 : Int
end Go.Proofs.YtplbifmjnanceaaGreatDoor.PFnArchive
end
section
namespace Go.Proofs.YtplbifmjnanceaaGreatDoor.PFnArchive
open Go.RowKit Go.Proofs.YtplbifmjnanceaaGreatDoorW.PrintWords Go.Proofs.YtplbifmjnanceaaGreatDoorW.PrintLast Go.Proofs.YtplbifmjnanceaaGreatDoorW.PrintMore
attribute [local go_sem] max2_int min2_int max_two min_two max_three min_three max_four min_four
set_option linter.unusedVariables false
set_option linter.unusedSimpArgs false
def spec_arcLine.l0 : Nat → ByteArray → Int → Int → Option (ByteArray × ByteArray × Bool)
 | 0,_,_,_ => none
 | k + 1,x0,x7,x8 => if x8 < x7 then (if 0 ≤ x8 then (if x8 < (x0.size : Int) then (if (bt x0 x8) = 10 then (if x8 ≤ (x0.size : Int) then (if 0 ≤ (wrap64 (x8 + 1)) then (if (wrap64 (x8 + 1)) ≤ (x0.size : Int) then (some (x0.extract 0 (x8 : Int).toNat,x0.extract ((wrap64 (x8 + 1)) : Int).toNat x0.size,true)) else (none)) else (none)) else (none)) else (spec_arcLine.l0 k x0 x7 (wrap64 (x8 + 1)))) else (none)) else (none)) else (some (x0,(⟨#[]⟩ : ByteArray),false))
def spec_arcLine.f (k : Nat) (a0 : ByteArray) : Option (ByteArray × ByteArray × Bool):=spec_arcLine.l0 k a0 (a0.size : Int) 0
theorem spec_arcLine.mono_l : ∀ k,(∀ y0 y1 y2,LeO (spec_arcLine.l0 k y0 y1 y2) (spec_arcLine.l0 (k + 1) y0 y1 y2))
 | 0 => fun _ _ _ r h => by simp [spec_arcLine.l0] at h
 | k + 1 => by
  have ih0:=spec_arcLine.mono_l k
  ·intro y0 y1 y2
   unfold spec_arcLine.l0
   repeat' first
   | (with_reducible exact ih0 _ _ _)
   | (with_reducible exact LeO.refl _)
   | (with_reducible exact LeO.none _)
   | (with_reducible refine LeO.ite ?_ ?_)
   | (with_reducible refine LeO.bind ?_ (fun _ => ?_))
   | exact ih0 _ _ _
   | exact LeO.none _
   | refine LeO.ite ?_ ?_
   | refine LeO.bind ?_ (fun _ => ?_)
theorem spec_arcLine.mono : ∀ a0 k,LeO (spec_arcLine.f k a0) (spec_arcLine.f (k + 1) a0):=by
 intro a0 k
 have ih0:=spec_arcLine.mono_l k
 unfold spec_arcLine.f
 repeat' first
   | (with_reducible exact ih0 _ _ _)
   | (with_reducible exact LeO.refl _)
   | (with_reducible exact LeO.none _)
   | (with_reducible refine LeO.ite ?_ ?_)
   | (with_reducible refine LeO.bind ?_ (fun _ => ?_))
   | exact ih0 _ _ _
   | exact LeO.none _
   | refine LeO.ite ?_ ?_
   | refine LeO.bind ?_ (fun _ => ?_)
set_option maxHeartbeats 8000000 in
set_option maxRecDepth 100000 in
theorem spec_arcLine.calls (k : Nat) (a0 : ByteArray) (r1 : ByteArray) (r2 : ByteArray) (r3 : Bool) (w : World) (h : spec_arcLine.f k a0 = some (r1,r2,r3)) :
  Calls Tryz.prog 26 #[.string a0] w fun e w' => e = .returned (.tuple #[.string r1,.string r2,.bool r3]) ∧ Drawn0 w w':=by
 have H : (spec_arcLine.l0 k a0 (a0.size : Int) 0) = some (r1,r2,r3):=h
 clear h
 have H':=Aside0.mk H
 clear H
 go_enter Tryz.func26,Tryz.ntmps26
 go_wp2
 repeat (go_quiet (fail); try go_wp2)
 go_loopg [8] k (fun kq v8 w' => ∃ (x8_1 : Int),v8 = .int .i64 x8_1 ∧ Aside0 (spec_arcLine.l0 kq a0 (a0.size : Int) x8_1 = some (r1,r2,r3)) ∧ Aside0 (kq ≤ k) ∧ Drawn0 w w')
 case atStart => exact ⟨(0),(by first | rfl | (simp; done) | (simp [*]; done)),H',⟨Nat.le_refl _⟩,by repeat (first | exact Drawn0.refl _ | apply Drawn0.step)⟩
 case round =>
  clear H'
  obtain ⟨x8_1,rfl,HA,HK1,⟨m1,rfl⟩⟩:=hrel
  cases gk with
  | zero => exact absurd HA.out (by simp [spec_arcLine.l0])
  | succ k1 =>
   have H:=HA.out
   clear HA
   simp only [spec_arcLine.l0] at H
   by_cases c2 : x8_1 < (a0.size : Int)
   ·rw [if_pos c2] at H
    have c2b0 : decide (x8_1 < (a0.size : Int)) = true:=decide_eq_true c2
    clear c2
    by_cases c3 : 0 ≤ x8_1
    ·rw [if_pos c3] at H
     have c3b0 : decide (0 ≤ x8_1) = true:=decide_eq_true c3
     clear c3
     by_cases c4 : x8_1 < (a0.size : Int)
     ·rw [if_pos c4] at H
      have c4b0 : decide (x8_1 < (a0.size : Int)) = true:=decide_eq_true c4
      clear c4
      by_cases c6 : (bt a0 x8_1) = 10
      ·rw [if_pos c6] at H
       have c6b0 : ((bt a0 x8_1) == 10) = true:=beq_iff_eq.mpr c6
       have c6b1 : ((bt a0 x8_1) != 10) = false:=bne_eq_false_iff_eq.mpr c6
       clear c6
       have c7b0:=eq_true (of_decide_eq_true (by first | (with_reducible assumption) | assumption) : 0 ≤ x8_1)
       by_cases c8 : x8_1 ≤ (a0.size : Int)
       ·rw [if_pos c8] at H
        have c8b0:=eq_true c8
        have c8b1 : decide (x8_1 ≤ (a0.size : Int)) = true:=decide_eq_true c8
        clear c8
        obtain ⟨ji9,hji9⟩ : ∃ j_ : Int,(wrap64 (x8_1 + 1)) = j_:=⟨_,rfl⟩
        replace H : (if 0 ≤ (ji9) then (if (ji9) ≤ (a0.size : Int) then (some (a0.extract 0 (x8_1 : Int).toNat,a0.extract ((ji9) : Int).toNat a0.size,true)) else (none)) else (none)) = some (r1,r2,r3):=by first | (rw [hji9] at H; exact H) | (simp only [hji9] at H ⊢; exact H)
        have hji9w : (IntKind.i64.wrap (x8_1 + 1)) = ji9:=(i64_w _).trans hji9
        by_cases c10 : 0 ≤ (ji9)
        ·rw [if_pos c10] at H
         have c10b0:=eq_true c10
         have c10b1 : decide (0 ≤ (ji9)) = true:=decide_eq_true c10
         clear c10
         by_cases c11 : (ji9) ≤ (a0.size : Int)
         ·rw [if_pos c11] at H
          have c11b0:=eq_true c11
          have c11b1 : decide ((ji9) ≤ (a0.size : Int)) = true:=decide_eq_true c11
          clear c11
          simp only [Option.some.injEq,Prod.mk.injEq] at H
          obtain ⟨rfl,rfl,rfl⟩:=H
          have p5 : 0 ≤ (x8_1 : Int):=of_decide_eq_true (by first | (with_reducible assumption) | assumption)
          have q5 : x8_1 < (a0.size : Int):=of_decide_eq_true (by first | (with_reducible assumption) | assumption)
          have hx5:=bt_at a0 x8_1
          replace p5:=eq_true p5
          replace q5:=eq_true q5
          go_wp2
          repeat (go_quiet (fail); try go_wp2)
          go_ret3
          exact ⟨by first | rfl | (simp; done) | (simp only [← hji9] <;> (first | rfl | simp)) | (simp [*]; done),by repeat (first | exact Drawn0.refl _ | apply Drawn0.step)⟩
         ·rw [if_neg c11] at H
          exact absurd H (by simp)
        ·rw [if_neg c10] at H
         exact absurd H (by simp)
       ·rw [if_neg c8] at H
        exact absurd H (by simp)
      ·rw [if_neg c6] at H
       have c6b0 : ((bt a0 x8_1) == 10) = false:=beq_eq_false_iff_ne.mpr c6
       have c6b1 : ((bt a0 x8_1) != 10) = true:=bne_iff_ne.mpr c6
       have H':=Aside0.mk H
       clear H
       have p5 : 0 ≤ (x8_1 : Int):=of_decide_eq_true (by first | (with_reducible assumption) | assumption)
       have q5 : x8_1 < (a0.size : Int):=of_decide_eq_true (by first | (with_reducible assumption) | assumption)
       have hx5:=bt_at a0 x8_1
       replace p5:=eq_true p5
       replace q5:=eq_true q5
       go_wp2
       repeat (go_quiet (fail); try go_wp2)
       go_roundg k1
       case measure => have:=HK1.out; omega
       case rel => exact ⟨(wrap64 (x8_1 + 1)),(by first | rfl | (simp; done) | (simp [*]; done)),H',⟨by have:=HK1.out; omega⟩,by repeat (first | exact Drawn0.refl _ | apply Drawn0.step)⟩
     ·rw [if_neg c4] at H
      exact absurd H (by simp)
    ·rw [if_neg c3] at H
     exact absurd H (by simp)
   ·rw [if_neg c2] at H
    have c2b0 : decide (x8_1 < (a0.size : Int)) = false:=decide_eq_false c2
    clear c2
    simp only [Option.some.injEq,Prod.mk.injEq] at H
    obtain ⟨rfl,rfl,rfl⟩:=H
    go_wp2
    repeat (go_quiet (fail); try go_wp2)
    go_ret3
    exact ⟨by first | rfl | (simp; done) | (simp [*]; done),by repeat (first | exact Drawn0.refl _ | apply Drawn0.step)⟩
def spec_wordsOf.l0 : Nat → ByteArray → List ByteArray → Int → Int → Option (List ByteArray)
 | 0,_,_,_,_ => none
 | k + 1,x0,x3,x4,x5 => if x5 ≤ (x0.size : Int) then (if x5 = (x0.size : Int) then (if 0 ≤ x4 then (if x4 ≤ x5 then (if x3.length < 8796093022208 then (spec_wordsOf.l0 k x0 (x3 ++ [x0.extract (x4 : Int).toNat (x5 : Int).toNat]) (wrap64 (x5 + 1)) (wrap64 (x5 + 1))) else (none)) else (none)) else (none)) else (if 0 ≤ x5 then (if x5 < (x0.size : Int) then (if (bt x0 x5) = 32 then (if 0 ≤ x4 then (if x4 ≤ x5 then (if x3.length < 8796093022208 then (spec_wordsOf.l0 k x0 (x3 ++ [x0.extract (x4 : Int).toNat (x5 : Int).toNat]) (wrap64 (x5 + 1)) (wrap64 (x5 + 1))) else (none)) else (none)) else (none)) else (spec_wordsOf.l0 k x0 x3 x4 (wrap64 (x5 + 1)))) else (none)) else (none))) else (some x3)
def spec_wordsOf.f (k : Nat) (a0 : ByteArray) : Option (List ByteArray):=spec_wordsOf.l0 k a0 ([] : List ByteArray) 0 0
theorem spec_wordsOf.mono_l : ∀ k,(∀ y0 y1 y2 y3,LeO (spec_wordsOf.l0 k y0 y1 y2 y3) (spec_wordsOf.l0 (k + 1) y0 y1 y2 y3))
 | 0 => fun _ _ _ _ r h => by simp [spec_wordsOf.l0] at h
 | k + 1 => by
  have ih0:=spec_wordsOf.mono_l k
  ·intro y0 y1 y2 y3
   unfold spec_wordsOf.l0
   repeat' first
   | (with_reducible exact ih0 _ _ _ _)
   | (with_reducible exact LeO.refl _)
   | (with_reducible exact LeO.none _)
   | (with_reducible refine LeO.ite ?_ ?_)
   | (with_reducible refine LeO.bind ?_ (fun _ => ?_))
   | exact ih0 _ _ _ _
   | exact LeO.none _
   | refine LeO.ite ?_ ?_
   | refine LeO.bind ?_ (fun _ => ?_)
theorem spec_wordsOf.mono : ∀ a0 k,LeO (spec_wordsOf.f k a0) (spec_wordsOf.f (k + 1) a0):=by
 intro a0 k
 have ih0:=spec_wordsOf.mono_l k
 unfold spec_wordsOf.f
 repeat' first
   | (with_reducible exact ih0 _ _ _ _)
   | (with_reducible exact LeO.refl _)
   | (with_reducible exact LeO.none _)
   | (with_reducible refine LeO.ite ?_ ?_)
   | (with_reducible refine LeO.bind ?_ (fun _ => ?_))
   | exact ih0 _ _ _ _
   | exact LeO.none _
   | refine LeO.ite ?_ ?_
   | refine LeO.bind ?_ (fun _ => ?_)
set_option maxHeartbeats 8000000 in
set_option maxRecDepth 100000 in
theorem spec_wordsOf.calls (k : Nat) (a0 : ByteArray) (r : List ByteArray) (w : World) (h : spec_wordsOf.f k a0 = some r) :
  Calls Tryz.prog 49 #[.string a0] w fun e w' => ∃ v0_ : Value,e = .returned (v0_) ∧ Kd.R Kd.string 9 w' w.heap.size (fun _ => True) v0_ r ∧ Below w.heap.size w w':=by
 have HB:=Aside0.mk (Below.refl w.heap.size w)
 have H : (spec_wordsOf.l0 k a0 ([] : List ByteArray) 0 0) = some r:=h
 clear h
 have H':=Aside0.mk H
 clear H
 go_enter Tryz.func49,Tryz.ntmps49
 go_wp2
 go_loopg [3,4,5] k (fun kq v3 v4 v5 w' => ∃ (x3_1 : List ByteArray) (x4_1 : Int) (x5_1 : Int),v4 = .int .i64 x4_1 ∧ v5 = .int .i64 x5_1 ∧ Aside0 (spec_wordsOf.l0 kq a0 x3_1 x4_1 x5_1 = some r) ∧ Aside0 (kq ≤ k) ∧ Aside0 (Kd.R Kd.string 9 w' w.heap.size (fun _ => True) v3 x3_1) ∧ Aside0 (Below w.heap.size w w'))
 case atStart => exact ⟨(([] : List ByteArray)),(0),(0),(by first | rfl | (simp; done) | (simp [*]; done)),(by first | rfl | (simp; done) | (simp [*]; done)),H',⟨Nat.le_refl _⟩,⟨by first | exact Kd.R_nil _ _ _ _ _ | exact Kd.N_nil _ _ _ _ _ | exact Kd.V_nil _ _ _ _ _ | exact Kd.Q_nil _ _ _ _ _ | exact Kd.S_nil _ _ _ _ _⟩,⟨by repeat (first | (with_reducible first | exact HB.out | apply below_alloc | apply pw_below_drewN | apply below_drew1) | exact HB.out)⟩⟩
 case round =>
  clear H'
  obtain ⟨x3_1,x4_1,x5_1,rfl,rfl,HA,HK1,HO_3,HB⟩:=hrel
  cases gk with
  | zero => exact absurd HA.out (by simp [spec_wordsOf.l0])
  | succ k1 =>
   have H:=HA.out
   clear HA
   simp only [spec_wordsOf.l0] at H
   by_cases c2 : x5_1 ≤ (a0.size : Int)
   ·rw [if_pos c2] at H
    have c2b0 : decide (x5_1 ≤ (a0.size : Int)) = true:=decide_eq_true c2
    clear c2
    by_cases c3 : x5_1 = (a0.size : Int)
    ·rw [if_pos c3] at H
     have c3b0 : (x5_1 == (a0.size : Int)) = true:=beq_iff_eq.mpr c3
     have c3b1 : (x5_1 != (a0.size : Int)) = false:=bne_eq_false_iff_eq.mpr c3
     clear c3
     by_cases c4 : 0 ≤ x4_1
     ·rw [if_pos c4] at H
      have c4b0:=eq_true c4
      have c4b1 : decide (0 ≤ x4_1) = true:=decide_eq_true c4
      clear c4
      by_cases c5 : x4_1 ≤ x5_1
      ·rw [if_pos c5] at H
       have c5b0:=eq_true c5
       have c5b1 : decide (x4_1 ≤ x5_1) = true:=decide_eq_true c5
       clear c5
       have c6b0:=eq_true (of_decide_eq_true (by first | (with_reducible assumption) | assumption) : x5_1 ≤ (a0.size : Int))
       by_cases c7 : x3_1.length < 8796093022208
       ·rw [if_pos c7] at H
        have LMc7:=Aside0.mk c7
        clear c7
        obtain ⟨y255,hy255⟩ : ∃ y_ : List ByteArray,y_ = (x3_1 ++ [a0.extract (x4_1 : Int).toNat (x5_1 : Int).toNat]):=⟨_,rfl⟩
        replace H : (spec_wordsOf.l0 k1 a0 y255 (wrap64 (x5_1 + 1)) (wrap64 (x5_1 + 1))) = some r:=by first | (rw [hy255]; with_reducible exact H) | (have H2_:=(Option.bind_some _ _).symm.trans H; rw [hy255]; with_reducible exact H2_) | (have H2_:=(Option.bind_some _ _).symm.trans H; with_reducible exact H2_) | with_reducible exact H | (rw [hy255]; exact H) | exact H
        have Ny255:=Aside0.mk hy255
        clear hy255
        have H':=Aside0.mk H
        clear H
        go_wp2_with (first | ((with_reducible refine gate_builtin (b:=.append) (xs:=#[.tmp 22,.tmp 27]) rfl ?_); at_builtin; refine Kd.R_append Kd.string (w0:=w) w.heap.size rfl (.tmp 22) (.tmp 27) 28 9 (.string ⟨#[]⟩) 16 rfl Tryz.underlying28 info9 rfl (by decide) (by omega) u3 x3_1 (a0.extract (x4_1 : Int).toNat (x5_1 : Int).toNat) [.string (a0.extract (x4_1 : Int).toNat (x5_1 : Int).toNat)] (fun _ => True) (fun _ => False) rfl rfl ?aP (fun _ hk => hk.elim) ?aF ?aO ?aB ?aS ?aL ?_; (case aP => exact rfl); (case aB => exact (by repeat (first | (with_reducible first | exact HB.out | apply below_alloc | apply pw_below_drewN | apply below_drew1) | exact HB.out))); (case aF => exact (fun _ _ => trivial)); (case aO => exact (by (with_reducible repeat (first | apply Kd.R_alloc | apply Kd.R_drewN | apply Kd.R_drew)); exact HO_3.out)); (case aS => exact (below_size (by repeat (first | (with_reducible first | exact HB.out | apply below_alloc | apply pw_below_drewN | apply below_drew1) | exact HB.out)))); (case aL => have:=LMc7.out; omega); intro v256 w8 ho hb hg hat; rw [← Ny255.out] at ho; have n0_:=Aside0.mk (hb); have n1_:=Aside0.mk (ho); clear HB; clear HO_3; have HB:=n0_; have HO257:=n1_; clear n0_ n1_; clear ho hb hg hat))
        go_roundg k1
        case measure => have:=HK1.out; omega
        case rel => exact ⟨(y255),(wrap64 (x5_1 + 1)),(wrap64 (x5_1 + 1)),(by first | rfl | (simp; done) | (simp [*]; done)),(by first | rfl | (simp; done) | (simp [*]; done)),H',⟨by have:=HK1.out; omega⟩,⟨by (with_reducible repeat (first | apply Kd.R_alloc | apply Kd.R_drewN | apply Kd.R_drew)); exact HO257.out⟩,⟨by repeat (first | (with_reducible first | exact HB.out | apply below_alloc | apply pw_below_drewN | apply below_drew1) | exact HB.out)⟩⟩
       ·rw [if_neg c7] at H
        exact absurd H (by simp)
      ·rw [if_neg c5] at H
       exact absurd H (by simp)
     ·rw [if_neg c4] at H
      exact absurd H (by simp)
    ·rw [if_neg c3] at H
     have c3b0 : (x5_1 == (a0.size : Int)) = false:=beq_eq_false_iff_ne.mpr c3
     have c3b1 : (x5_1 != (a0.size : Int)) = true:=bne_iff_ne.mpr c3
     by_cases c9 : 0 ≤ x5_1
     ·rw [if_pos c9] at H
      have c9b0 : decide (0 ≤ x5_1) = true:=decide_eq_true c9
      clear c9
      by_cases c10 : x5_1 < (a0.size : Int)
      ·rw [if_pos c10] at H
       have c10b0 : decide (x5_1 < (a0.size : Int)) = true:=decide_eq_true c10
       clear c10
       by_cases c12 : (bt a0 x5_1) = 32
       ·rw [if_pos c12] at H
        have c12b0 : ((bt a0 x5_1) == 32) = true:=beq_iff_eq.mpr c12
        have c12b1 : ((bt a0 x5_1) != 32) = false:=bne_eq_false_iff_eq.mpr c12
        clear c12
        by_cases c13 : 0 ≤ x4_1
        ·rw [if_pos c13] at H
         have c13b0:=eq_true c13
         have c13b1 : decide (0 ≤ x4_1) = true:=decide_eq_true c13
         clear c13
         by_cases c14 : x4_1 ≤ x5_1
         ·rw [if_pos c14] at H
          have c14b0:=eq_true c14
          have c14b1 : decide (x4_1 ≤ x5_1) = true:=decide_eq_true c14
          clear c14
          have c15b0:=eq_true (of_decide_eq_true (by first | (with_reducible assumption) | assumption) : x5_1 ≤ (a0.size : Int))
          by_cases c16 : x3_1.length < 8796093022208
          ·rw [if_pos c16] at H
           have LMc16:=Aside0.mk c16
           clear c16
           obtain ⟨y258,hy258⟩ : ∃ y_ : List ByteArray,y_ = (x3_1 ++ [a0.extract (x4_1 : Int).toNat (x5_1 : Int).toNat]):=⟨_,rfl⟩
           replace H : (spec_wordsOf.l0 k1 a0 y258 (wrap64 (x5_1 + 1)) (wrap64 (x5_1 + 1))) = some r:=by first | (rw [hy258]; with_reducible exact H) | (have H2_:=(Option.bind_some _ _).symm.trans H; rw [hy258]; with_reducible exact H2_) | (have H2_:=(Option.bind_some _ _).symm.trans H; with_reducible exact H2_) | with_reducible exact H | (rw [hy258]; exact H) | exact H
           have Ny258:=Aside0.mk hy258
           clear hy258
           have H':=Aside0.mk H
           clear H
           have p11 : 0 ≤ (x5_1 : Int):=of_decide_eq_true (by first | (with_reducible assumption) | assumption)
           have q11 : x5_1 < (a0.size : Int):=of_decide_eq_true (by first | (with_reducible assumption) | assumption)
           have hx11:=bt_at a0 x5_1
           replace p11:=eq_true p11
           replace q11:=eq_true q11
           go_wp2_with (first | ((with_reducible refine gate_builtin (b:=.append) (xs:=#[.tmp 22,.tmp 27]) rfl ?_); at_builtin; refine Kd.R_append Kd.string (w0:=w) w.heap.size rfl (.tmp 22) (.tmp 27) 28 9 (.string ⟨#[]⟩) 16 rfl Tryz.underlying28 info9 rfl (by decide) (by omega) u3 x3_1 (a0.extract (x4_1 : Int).toNat (x5_1 : Int).toNat) [.string (a0.extract (x4_1 : Int).toNat (x5_1 : Int).toNat)] (fun _ => True) (fun _ => False) rfl rfl ?aP (fun _ hk => hk.elim) ?aF ?aO ?aB ?aS ?aL ?_; (case aP => exact rfl); (case aB => exact (by repeat (first | (with_reducible first | exact HB.out | apply below_alloc | apply pw_below_drewN | apply below_drew1) | exact HB.out))); (case aF => exact (fun _ _ => trivial)); (case aO => exact (by (with_reducible repeat (first | apply Kd.R_alloc | apply Kd.R_drewN | apply Kd.R_drew)); exact HO_3.out)); (case aS => exact (below_size (by repeat (first | (with_reducible first | exact HB.out | apply below_alloc | apply pw_below_drewN | apply below_drew1) | exact HB.out)))); (case aL => have:=LMc16.out; omega); intro v259 w17 ho hb hg hat; rw [← Ny258.out] at ho; have n0_:=Aside0.mk (hb); have n1_:=Aside0.mk (ho); clear HB; clear HO_3; have HB:=n0_; have HO260:=n1_; clear n0_ n1_; clear ho hb hg hat))
           go_roundg k1
           case measure => have:=HK1.out; omega
           case rel => exact ⟨(y258),(wrap64 (x5_1 + 1)),(wrap64 (x5_1 + 1)),(by first | rfl | (simp; done) | (simp [*]; done)),(by first | rfl | (simp; done) | (simp [*]; done)),H',⟨by have:=HK1.out; omega⟩,⟨by (with_reducible repeat (first | apply Kd.R_alloc | apply Kd.R_drewN | apply Kd.R_drew)); exact HO260.out⟩,⟨by repeat (first | (with_reducible first | exact HB.out | apply below_alloc | apply pw_below_drewN | apply below_drew1) | exact HB.out)⟩⟩
          ·rw [if_neg c16] at H
           exact absurd H (by simp)
         ·rw [if_neg c14] at H
          exact absurd H (by simp)
        ·rw [if_neg c13] at H
         exact absurd H (by simp)
       ·rw [if_neg c12] at H
        have c12b0 : ((bt a0 x5_1) == 32) = false:=beq_eq_false_iff_ne.mpr c12
        have c12b1 : ((bt a0 x5_1) != 32) = true:=bne_iff_ne.mpr c12
        have H':=Aside0.mk H
        clear H
        have p11 : 0 ≤ (x5_1 : Int):=of_decide_eq_true (by first | (with_reducible assumption) | assumption)
        have q11 : x5_1 < (a0.size : Int):=of_decide_eq_true (by first | (with_reducible assumption) | assumption)
        have hx11:=bt_at a0 x5_1
        replace p11:=eq_true p11
        replace q11:=eq_true q11
        go_wp2
        go_roundg k1
        case measure => have:=HK1.out; omega
        case rel => exact ⟨(x3_1),(x4_1),(wrap64 (x5_1 + 1)),(by first | rfl | (simp; done) | (simp [*]; done)),(by first | rfl | (simp; done) | (simp [*]; done)),H',⟨by have:=HK1.out; omega⟩,⟨by (with_reducible repeat (first | apply Kd.R_alloc | apply Kd.R_drewN | apply Kd.R_drew)); exact HO_3.out⟩,⟨by repeat (first | (with_reducible first | exact HB.out | apply below_alloc | apply pw_below_drewN | apply below_drew1) | exact HB.out)⟩⟩
      ·rw [if_neg c10] at H
       exact absurd H (by simp)
     ·rw [if_neg c9] at H
      exact absurd H (by simp)
   ·rw [if_neg c2] at H
    have c2b0 : decide (x5_1 ≤ (a0.size : Int)) = false:=decide_eq_false c2
    clear c2
    obtain rfl:=Option.some.inj H
    go_wp2
    go_ret
    exact ⟨_,by first | rfl | (simp [errW_none,errW_some] <;> rfl) | (simp [*,errW_none,errW_some] <;> rfl),by (with_reducible repeat (first | apply Kd.R_alloc | apply Kd.R_drewN | apply Kd.R_drew)); exact HO_3.out,by repeat (first | (with_reducible first | exact HB.out | apply below_alloc | apply pw_below_drewN | apply below_drew1) | exact HB.out)⟩
def spec_isWord.l0 : Nat → ByteArray → Int → Int → Option (Bool)
 | 0,_,_,_ => none
 | k + 1,x0,x5,x6 => if x6 < x5 then (if 0 ≤ x6 then (if x6 < (x0.size : Int) then (if (bt x0 x6) < 97 then (some false) else (if (bt x0 x6) > 122 then (some false) else (spec_isWord.l0 k x0 x5 (wrap64 (x6 + 1))))) else (none)) else (none)) else (if x0.toList = ([] : List UInt8) then (some false) else (some (decide ((x0.size : Int) ≤ 8))))
def spec_isWord.f (k : Nat) (a0 : ByteArray) : Option (Bool):=spec_isWord.l0 k a0 (a0.size : Int) 0
theorem spec_isWord.mono_l : ∀ k,(∀ y0 y1 y2,LeO (spec_isWord.l0 k y0 y1 y2) (spec_isWord.l0 (k + 1) y0 y1 y2))
 | 0 => fun _ _ _ r h => by simp [spec_isWord.l0] at h
 | k + 1 => by
  have ih0:=spec_isWord.mono_l k
  ·intro y0 y1 y2
   unfold spec_isWord.l0
   repeat' first
   | (with_reducible exact ih0 _ _ _)
   | (with_reducible exact LeO.refl _)
   | (with_reducible exact LeO.none _)
   | (with_reducible refine LeO.ite ?_ ?_)
   | (with_reducible refine LeO.bind ?_ (fun _ => ?_))
   | exact ih0 _ _ _
   | exact LeO.none _
   | refine LeO.ite ?_ ?_
   | refine LeO.bind ?_ (fun _ => ?_)
theorem spec_isWord.mono : ∀ a0 k,LeO (spec_isWord.f k a0) (spec_isWord.f (k + 1) a0):=by
 intro a0 k
 have ih0:=spec_isWord.mono_l k
 unfold spec_isWord.f
 repeat' first
   | (with_reducible exact ih0 _ _ _)
   | (with_reducible exact LeO.refl _)
   | (with_reducible exact LeO.none _)
   | (with_reducible refine LeO.ite ?_ ?_)
   | (with_reducible refine LeO.bind ?_ (fun _ => ?_))
   | exact ih0 _ _ _
   | exact LeO.none _
   | refine LeO.ite ?_ ?_
   | refine LeO.bind ?_ (fun _ => ?_)
set_option maxHeartbeats 8000000 in
set_option maxRecDepth 100000 in
theorem spec_isWord.calls (k : Nat) (a0 : ByteArray) (r : Bool) (w : World) (h : spec_isWord.f k a0 = some r) :
  Calls Tryz.prog 58 #[.string a0] w fun e w' => e = .returned (.bool r) ∧ Drawn0 w w':=by
 have H : (spec_isWord.l0 k a0 (a0.size : Int) 0) = some r:=h
 clear h
 have H':=Aside0.mk H
 clear H
 go_enter Tryz.func58,Tryz.ntmps58
 go_wp2
 go_loopg [6] k (fun kq v6 w' => ∃ (x6_1 : Int),v6 = .int .i64 x6_1 ∧ Aside0 (spec_isWord.l0 kq a0 (a0.size : Int) x6_1 = some r) ∧ Aside0 (kq ≤ k) ∧ Drawn0 w w')
 case atStart => exact ⟨(0),(by first | rfl | (simp; done) | (simp [*]; done)),H',⟨Nat.le_refl _⟩,by repeat (first | exact Drawn0.refl _ | apply Drawn0.step)⟩
 case round =>
  clear H'
  obtain ⟨x6_1,rfl,HA,HK1,⟨m1,rfl⟩⟩:=hrel
  cases gk with
  | zero => exact absurd HA.out (by simp [spec_isWord.l0])
  | succ k1 =>
   have H:=HA.out
   clear HA
   simp only [spec_isWord.l0] at H
   by_cases c2 : x6_1 < (a0.size : Int)
   ·rw [if_pos c2] at H
    have c2b0 : decide (x6_1 < (a0.size : Int)) = true:=decide_eq_true c2
    clear c2
    by_cases c3 : 0 ≤ x6_1
    ·rw [if_pos c3] at H
     have c3b0 : decide (0 ≤ x6_1) = true:=decide_eq_true c3
     clear c3
     by_cases c4 : x6_1 < (a0.size : Int)
     ·rw [if_pos c4] at H
      have c4b0 : decide (x6_1 < (a0.size : Int)) = true:=decide_eq_true c4
      clear c4
      by_cases c6 : (bt a0 x6_1) < 97
      ·rw [if_pos c6] at H
       have c6b0 : decide ((bt a0 x6_1) < 97) = true:=decide_eq_true c6
       clear c6
       obtain rfl:=Option.some.inj H
       have p5 : 0 ≤ (x6_1 : Int):=of_decide_eq_true (by first | (with_reducible assumption) | assumption)
       have q5 : x6_1 < (a0.size : Int):=of_decide_eq_true (by first | (with_reducible assumption) | assumption)
       have hx5:=bt_at a0 x6_1
       replace p5:=eq_true p5
       replace q5:=eq_true q5
       go_wp2
       go_ret
       exact ⟨by first | rfl | (simp; done) | (simp [*]; done),by repeat (first | exact Drawn0.refl _ | apply Drawn0.step)⟩
      ·rw [if_neg c6] at H
       have c6b0 : decide ((bt a0 x6_1) < 97) = false:=decide_eq_false c6
       clear c6
       by_cases c8 : (bt a0 x6_1) > 122
       ·rw [if_pos c8] at H
        have c8b0 : decide (122 < (bt a0 x6_1)) = true:=decide_eq_true c8
        clear c8
        obtain rfl:=Option.some.inj H
        have p5 : 0 ≤ (x6_1 : Int):=of_decide_eq_true (by first | (with_reducible assumption) | assumption)
        have q5 : x6_1 < (a0.size : Int):=of_decide_eq_true (by first | (with_reducible assumption) | assumption)
        have hx5:=bt_at a0 x6_1
        replace p5:=eq_true p5
        replace q5:=eq_true q5
        have p7 : 0 ≤ (x6_1 : Int):=of_decide_eq_true (by first | (with_reducible assumption) | assumption)
        have q7 : x6_1 < (a0.size : Int):=of_decide_eq_true (by first | (with_reducible assumption) | assumption)
        have hx7:=bt_at a0 x6_1
        replace p7:=eq_true p7
        replace q7:=eq_true q7
        go_wp2
        go_ret
        exact ⟨by first | rfl | (simp; done) | (simp [*]; done),by repeat (first | exact Drawn0.refl _ | apply Drawn0.step)⟩
       ·rw [if_neg c8] at H
        have c8b0 : decide (122 < (bt a0 x6_1)) = false:=decide_eq_false c8
        clear c8
        have H':=Aside0.mk H
        clear H
        have p5 : 0 ≤ (x6_1 : Int):=of_decide_eq_true (by first | (with_reducible assumption) | assumption)
        have q5 : x6_1 < (a0.size : Int):=of_decide_eq_true (by first | (with_reducible assumption) | assumption)
        have hx5:=bt_at a0 x6_1
        replace p5:=eq_true p5
        replace q5:=eq_true q5
        have p7 : 0 ≤ (x6_1 : Int):=of_decide_eq_true (by first | (with_reducible assumption) | assumption)
        have q7 : x6_1 < (a0.size : Int):=of_decide_eq_true (by first | (with_reducible assumption) | assumption)
        have hx7:=bt_at a0 x6_1
        replace p7:=eq_true p7
        replace q7:=eq_true q7
        go_wp2
        go_roundg k1
        case measure => have:=HK1.out; omega
        case rel => exact ⟨(wrap64 (x6_1 + 1)),(by first | rfl | (simp; done) | (simp [*]; done)),H',⟨by have:=HK1.out; omega⟩,by repeat (first | exact Drawn0.refl _ | apply Drawn0.step)⟩
     ·rw [if_neg c4] at H
      exact absurd H (by simp)
    ·rw [if_neg c3] at H
     exact absurd H (by simp)
   ·rw [if_neg c2] at H
    have c2b0 : decide (x6_1 < (a0.size : Int)) = false:=decide_eq_false c2
    clear c2
    by_cases c9 : a0.toList = ([] : List UInt8)
    ·rw [if_pos c9] at H
     have c9b0 : (a0.toList == ([] : List UInt8)) = true:=beq_iff_eq.mpr c9
     have c9b1 : (a0.toList != ([] : List UInt8)) = false:=bne_eq_false_iff_eq.mpr c9
     clear c9
     obtain rfl:=Option.some.inj H
     go_wp2
     go_ret
     exact ⟨by first | rfl | (simp; done) | (simp [*]; done),by repeat (first | exact Drawn0.refl _ | apply Drawn0.step)⟩
    ·rw [if_neg c9] at H
     have c9b0 : (a0.toList == ([] : List UInt8)) = false:=beq_eq_false_iff_ne.mpr c9
     have c9b1 : (a0.toList != ([] : List UInt8)) = true:=bne_iff_ne.mpr c9
     obtain rfl:=Option.some.inj H
     go_wp2
     go_ret
     exact ⟨by first | rfl | (simp; done) | (simp [*]; done),by repeat (first | exact Drawn0.refl _ | apply Drawn0.step)⟩
end Go.Proofs.YtplbifmjnanceaaGreatDoor.PFnArchive
end
section
namespace Go.Proofs.YtplbifmjnanceaaGreatDoor
open Go.RowKit Go.Proofs.YtplbifmjnanceaaGreatDoorW.PrintWords Go.Proofs.YtplbifmjnanceaaGreatDoorW.PrintLast Go.Proofs.YtplbifmjnanceaaGreatDoorW.PrintMore
open Go.Proofs.YtplbifmjnanceaaGreatDoor.PFnArchive
set_option linter.unusedVariables false
set_option linter.unusedSimpArgs false
abbrev Bs:=List UInt8
def tailW (t : List Bs) : Bs:=t.flatMap fun x => 32 :: x
def textW : List Bs → Bs
 | [] => []
 | a :: t => a ++ tailW t
def sp32 (acc : Bs) : Bs → List Bs
 | [] => [acc]
 | b :: t => if b = 32 then acc :: sp32 [] t else sp32 (acc ++ [b]) t
theorem sp32_word (a : Bs) : ∀ (acc t : Bs),(32 : UInt8) ∉ a → sp32 acc (a ++ t) = sp32 (acc ++ a) t:=by
 induction a with
 | nil => intro acc t _; simp
 | cons b a ih =>
  intro acc t h
  have hb : ¬ b = 32:=fun e => h (by rw [e]; exact List.mem_cons_self)
  simp only [List.cons_append,sp32,hb,if_false]
  rw [ih _ _ (fun hm => h (List.mem_cons_of_mem _ hm))]
  simp
theorem sp32_tail (t : List Bs) : ∀ acc : Bs,(∀ x ∈ t,(32 : UInt8) ∉ x) → sp32 acc (tailW t) = acc :: t:=by
 induction t with
 | nil => intro acc _; simp [tailW,sp32]
 | cons a t ih =>
  intro acc h
  have e : tailW (a :: t) = 32 :: (a ++ tailW t):=by simp [tailW]
  rw [e]
  simp only [sp32,if_true]
  rw [sp32_word a [] _ (h a List.mem_cons_self),List.nil_append,ih a (fun x hx => h x (List.mem_cons_of_mem _ hx))]
theorem sp32_text (a : Bs) (t : List Bs) (h : ∀ x ∈ a :: t,(32 : UInt8) ∉ x) : sp32 [] (textW (a :: t)) = a :: t:=by
 unfold textW
 rw [sp32_word a [] _ (h a List.mem_cons_self),List.nil_append,sp32_tail t a (fun x hx => h x (List.mem_cons_of_mem _ hx))]
theorem words_l0 (s : ByteArray) (hs : s.size ≤ 1099511627776) : ∀ (k : Nat) (x3 : List ByteArray) (i j : Nat),i ≤ j → j ≤ s.size → s.size - j + 1 < k → x3.length ≤ j →
  spec_wordsOf.l0 k s x3 (i : Int) (j : Int) = some (x3 ++ (sp32 ((s.data.toList.drop i).take (j - i)) (s.data.toList.drop j)).map mkB):=by
 intro k
 induction k with
 | zero => intro x3 i j _ _ h; omega
 | succ k ih =>
  intro x3 i j h1 h2 h3 h4
  unfold spec_wordsOf.l0
  have e1 : wrap64 ((j : Int) + 1) = ((j + 1 : Nat) : Int):=by unfold wrap64; omega
  rw [if_pos (by omega)]
  by_cases c : j < s.size
  ·rw [if_neg (by omega),if_pos (by omega),if_pos (by omega)]
   have hl : j < s.data.toList.length:=c
   have hd : s.data.toList.drop j = s.data.toList[j] :: s.data.toList.drop (j + 1):=List.drop_eq_getElem_cons hl
   have ht : (s.data.toList.drop i).take (j + 1 - i) = (s.data.toList.drop i).take (j - i) ++ [s.data.toList[j]]:=by
    rw [show j + 1 - i = (j - i) + 1 by omega,List.take_add_one,List.getElem?_drop,show i + (j - i) = j by omega,List.getElem?_eq_getElem hl]
    rfl
   have hb : bt s (j : Int) = (s.data.toList[j].toNat : Int):=by
    unfold bt
    rw [dif_pos (by simpa using c)]
    rfl
   rw [hd,hb]
   by_cases n : s.data.toList[j] = 32
   ·rw [if_pos (by rw [n]; rfl),if_pos (by omega),if_pos (by omega),if_pos (by omega),e1,ih _ (j + 1) (j + 1) (Nat.le_refl _) c (by omega) (by simp; omega)]
    simp only [Int.toNat_natCast,sp32,n,if_true]
    rw [extract_seg s i j h2]
    simp
   ·have nn : ¬ ((s.data.toList[j].toNat : Nat) : Int) = 32:=by
     intro e
     apply n
     apply UInt8.toNat_inj.1
     show s.data.toList[j].toNat = 32
     omega
    rw [if_neg nn,e1,ih _ i (j + 1) (by omega) c (by omega) (by omega),ht]
    simp only [sp32,n,if_false]
  ·have ej : j = s.size:=by omega
   rw [if_pos (by omega),if_pos (by omega),if_pos (by omega),if_pos (by omega),e1]
   have hd : s.data.toList.drop j = []:=List.drop_eq_nil_of_le (by rw [ej]; exact Nat.le_refl _)
   rw [hd]
   cases k with
   | zero => omega
   | succ k =>
    unfold spec_wordsOf.l0
    rw [if_neg (by omega)]
    simp only [Int.toNat_natCast,sp32,List.map_cons,List.map_nil]
    rw [extract_seg s i j h2]
theorem words_f (a : Bs) (t : List Bs) (hb : (textW (a :: t)).length ≤ 1099511627776) (h : ∀ x ∈ a :: t,(32 : UInt8) ∉ x) : ∃ k,spec_wordsOf.f k (mkB (textW (a :: t))) = some ((a :: t).map mkB):=by
 have h1:=words_l0 (mkB (textW (a :: t))) (by rw [mkB_size]; exact hb) ((mkB (textW (a :: t))).size + 2) [] 0 0 (Nat.le_refl _) (Nat.zero_le _) (by omega) (Nat.le_refl _)
 refine ⟨_,h1.trans ?_⟩
 rw [mkB_list]
 simp only [List.drop_zero,Nat.sub_self,List.take_zero,List.nil_append]
 rw [sp32_text a t h]
theorem line_l0 (s : ByteArray) (hs : s.size ≤ 1099511627776) (l t : Bs) (hst : s.data.toList = l ++ 10 :: t) (hl : (10 : UInt8) ∉ l) : ∀ (k : Nat) (j : Nat),j ≤ l.length → l.length - j < k →
  spec_arcLine.l0 k s (s.size : Int) (j : Int) = some (mkB l,mkB t,true):=by
 have hsz : s.size = l.length + (t.length + 1):=by
  show s.data.toList.length = _
  rw [hst]; simp
 intro k
 induction k with
 | zero => intro j _ h; omega
 | succ k ih =>
  intro j h1 h2
  unfold spec_arcLine.l0
  have e1 : wrap64 ((j : Int) + 1) = ((j + 1 : Nat) : Int):=by unfold wrap64; omega
  rw [if_pos (by omega),if_pos (by omega),if_pos (by omega),e1]
  have hj : j < s.data.toList.length:=by show j < s.size; omega
  have hb : bt s (j : Int) = (s.data.toList[j].toNat : Int):=by
   unfold bt
   rw [dif_pos (by simpa using hj)]
   rfl
  rw [hb]
  by_cases c : j < l.length
  ·have hg : s.data.toList[j] = l[j]:=by
    have : s.data.toList[j]? = some l[j]:=by rw [hst,List.getElem?_append_left c,List.getElem?_eq_getElem c]
    rw [List.getElem?_eq_getElem hj] at this
    exact Option.some.inj this
   rw [hg]
   have nn : ¬ ((l[j].toNat : Nat) : Int) = 10:=by
    intro e
    apply hl
    have : l[j] = 10:=by
     apply UInt8.toNat_inj.1
     show l[j].toNat = 10
     omega
    rw [← this]
    exact List.getElem_mem c
   rw [if_neg nn]
   exact ih (j + 1) (by omega) (by omega)
  ·have ej : j = l.length:=by omega
   have hg : s.data.toList[j] = 10:=by
    have : s.data.toList[j]? = some 10:=by rw [hst,ej,List.getElem?_append_right (Nat.le_refl _),Nat.sub_self]; rfl
    rw [List.getElem?_eq_getElem hj] at this
    exact Option.some.inj this
   rw [hg,if_pos (by rfl),if_pos (by omega),if_pos (by omega),if_pos (by omega),Int.toNat_natCast,Int.toNat_natCast,extract_seg s 0 j (by omega),extract_seg s (j + 1) s.size (Nat.le_refl _),hst]
   have e2 : ((l ++ 10 :: t).drop 0).take (j - 0) = l:=by
    rw [List.drop_zero,ej,Nat.sub_zero,List.take_left]
   have e3 : ((l ++ 10 :: t).drop (j + 1)).take (s.size - (j + 1)) = t:=by
    rw [List.drop_append,List.drop_of_length_le (by omega),List.nil_append,ej,show l.length + 1 - l.length = 1 by omega]
    show t.take _ = t
    exact List.take_of_length_le (by omega)
   rw [e2,e3]
theorem line_f (l t : Bs) (hb : (l ++ 10 :: t).length ≤ 1099511627776) (hl : (10 : UInt8) ∉ l) : ∃ k,spec_arcLine.f k (mkB (l ++ 10 :: t)) = some (mkB l,mkB t,true) :=
 ⟨l.length + 1,line_l0 (mkB (l ++ 10 :: t)) (by rw [mkB_size]; exact hb) l t (mkB_list _) hl _ 0 (Nat.zero_le _) (by omega)⟩
end Go.Proofs.YtplbifmjnanceaaGreatDoor
end
section
namespace Go.Proofs.YtplbifmjnanceaaGreatDoor.PFnArchive
open Go.RowKit Go.Proofs.YtplbifmjnanceaaGreatDoorW.PrintWords Go.Proofs.YtplbifmjnanceaaGreatDoorW.PrintLast Go.Proofs.YtplbifmjnanceaaGreatDoorW.PrintMore
attribute [local go_sem] max2_int min2_int max_two min_two max_three min_three max_four min_four
set_option linter.unusedVariables false
set_option linter.unusedSimpArgs false
def spec_partsOf.l0 : Nat → ByteArray → List ByteArray → Int → Int → Option (List ByteArray)
 | 0,_,_,_,_ => none
 | k + 1,x0,x3,x4,x5 => if x5 ≤ (x0.size : Int) then (if x5 = (x0.size : Int) then (if 0 ≤ x4 then (if x4 ≤ x5 then (if x3.length < 8796093022208 then (spec_partsOf.l0 k x0 (x3 ++ [x0.extract (x4 : Int).toNat (x5 : Int).toNat]) (wrap64 (x5 + 1)) (wrap64 (x5 + 1))) else (none)) else (none)) else (none)) else (if 0 ≤ x5 then (if x5 < (x0.size : Int) then (if (bt x0 x5) = 47 then (if 0 ≤ x4 then (if x4 ≤ x5 then (if x3.length < 8796093022208 then (spec_partsOf.l0 k x0 (x3 ++ [x0.extract (x4 : Int).toNat (x5 : Int).toNat]) (wrap64 (x5 + 1)) (wrap64 (x5 + 1))) else (none)) else (none)) else (none)) else (spec_partsOf.l0 k x0 x3 x4 (wrap64 (x5 + 1)))) else (none)) else (none))) else (some x3)
def spec_partsOf.f (k : Nat) (a0 : ByteArray) : Option (List ByteArray):=spec_partsOf.l0 k a0 ([] : List ByteArray) 0 0
theorem spec_partsOf.mono_l : ∀ k,(∀ y0 y1 y2 y3,LeO (spec_partsOf.l0 k y0 y1 y2 y3) (spec_partsOf.l0 (k + 1) y0 y1 y2 y3))
 | 0 => fun _ _ _ _ r h => by simp [spec_partsOf.l0] at h
 | k + 1 => by
  have ih0:=spec_partsOf.mono_l k
  ·intro y0 y1 y2 y3
   unfold spec_partsOf.l0
   repeat' first
   | (with_reducible exact ih0 _ _ _ _)
   | (with_reducible exact LeO.refl _)
   | (with_reducible exact LeO.none _)
   | (with_reducible refine LeO.ite ?_ ?_)
   | (with_reducible refine LeO.bind ?_ (fun _ => ?_))
   | exact ih0 _ _ _ _
   | exact LeO.none _
   | refine LeO.ite ?_ ?_
   | refine LeO.bind ?_ (fun _ => ?_)
theorem spec_partsOf.mono : ∀ a0 k,LeO (spec_partsOf.f k a0) (spec_partsOf.f (k + 1) a0):=by
 intro a0 k
 have ih0:=spec_partsOf.mono_l k
 unfold spec_partsOf.f
 repeat' first
   | (with_reducible exact ih0 _ _ _ _)
   | (with_reducible exact LeO.refl _)
   | (with_reducible exact LeO.none _)
   | (with_reducible refine LeO.ite ?_ ?_)
   | (with_reducible refine LeO.bind ?_ (fun _ => ?_))
   | exact ih0 _ _ _ _
   | exact LeO.none _
   | refine LeO.ite ?_ ?_
   | refine LeO.bind ?_ (fun _ => ?_)
set_option maxHeartbeats 8000000 in
set_option maxRecDepth 100000 in
theorem spec_partsOf.calls (k : Nat) (a0 : ByteArray) (r : List ByteArray) (w : World) (h : spec_partsOf.f k a0 = some r) :
  Calls Tryz.prog 55 #[.string a0] w fun e w' => ∃ v0_ : Value,e = .returned (v0_) ∧ Kd.R Kd.string 9 w' w.heap.size (fun _ => True) v0_ r ∧ Below w.heap.size w w':=by
 have HB:=Aside0.mk (Below.refl w.heap.size w)
 have H : (spec_partsOf.l0 k a0 ([] : List ByteArray) 0 0) = some r:=h
 clear h
 have H':=Aside0.mk H
 clear H
 go_enter Tryz.func55,Tryz.ntmps55
 go_wp2
 go_loopg [3,4,5] k (fun kq v3 v4 v5 w' => ∃ (x3_1 : List ByteArray) (x4_1 : Int) (x5_1 : Int),v4 = .int .i64 x4_1 ∧ v5 = .int .i64 x5_1 ∧ Aside0 (spec_partsOf.l0 kq a0 x3_1 x4_1 x5_1 = some r) ∧ Aside0 (kq ≤ k) ∧ Aside0 (Kd.R Kd.string 9 w' w.heap.size (fun _ => True) v3 x3_1) ∧ Aside0 (Below w.heap.size w w'))
 case atStart => exact ⟨(([] : List ByteArray)),(0),(0),(by first | rfl | (simp; done) | (simp [*]; done)),(by first | rfl | (simp; done) | (simp [*]; done)),H',⟨Nat.le_refl _⟩,⟨by first | exact Kd.R_nil _ _ _ _ _ | exact Kd.N_nil _ _ _ _ _ | exact Kd.V_nil _ _ _ _ _ | exact Kd.Q_nil _ _ _ _ _ | exact Kd.S_nil _ _ _ _ _⟩,⟨by repeat (first | (with_reducible first | exact HB.out | apply below_alloc | apply pw_below_drewN | apply below_drew1) | exact HB.out)⟩⟩
 case round =>
  clear H'
  obtain ⟨x3_1,x4_1,x5_1,rfl,rfl,HA,HK1,HO_3,HB⟩:=hrel
  cases gk with
  | zero => exact absurd HA.out (by simp [spec_partsOf.l0])
  | succ k1 =>
   have H:=HA.out
   clear HA
   simp only [spec_partsOf.l0] at H
   by_cases c2 : x5_1 ≤ (a0.size : Int)
   ·rw [if_pos c2] at H
    have c2b0 : decide (x5_1 ≤ (a0.size : Int)) = true:=decide_eq_true c2
    clear c2
    by_cases c3 : x5_1 = (a0.size : Int)
    ·rw [if_pos c3] at H
     have c3b0 : (x5_1 == (a0.size : Int)) = true:=beq_iff_eq.mpr c3
     have c3b1 : (x5_1 != (a0.size : Int)) = false:=bne_eq_false_iff_eq.mpr c3
     clear c3
     by_cases c4 : 0 ≤ x4_1
     ·rw [if_pos c4] at H
      have c4b0:=eq_true c4
      have c4b1 : decide (0 ≤ x4_1) = true:=decide_eq_true c4
      clear c4
      by_cases c5 : x4_1 ≤ x5_1
      ·rw [if_pos c5] at H
       have c5b0:=eq_true c5
       have c5b1 : decide (x4_1 ≤ x5_1) = true:=decide_eq_true c5
       clear c5
       have c6b0:=eq_true (of_decide_eq_true (by first | (with_reducible assumption) | assumption) : x5_1 ≤ (a0.size : Int))
       by_cases c7 : x3_1.length < 8796093022208
       ·rw [if_pos c7] at H
        have LMc7:=Aside0.mk c7
        clear c7
        obtain ⟨y119,hy119⟩ : ∃ y_ : List ByteArray,y_ = (x3_1 ++ [a0.extract (x4_1 : Int).toNat (x5_1 : Int).toNat]):=⟨_,rfl⟩
        replace H : (spec_partsOf.l0 k1 a0 y119 (wrap64 (x5_1 + 1)) (wrap64 (x5_1 + 1))) = some r:=by first | (rw [hy119]; with_reducible exact H) | (have H2_:=(Option.bind_some _ _).symm.trans H; rw [hy119]; with_reducible exact H2_) | (have H2_:=(Option.bind_some _ _).symm.trans H; with_reducible exact H2_) | with_reducible exact H | (rw [hy119]; exact H) | exact H
        have Ny119:=Aside0.mk hy119
        clear hy119
        have H':=Aside0.mk H
        clear H
        go_wp2_with (first | ((with_reducible refine gate_builtin (b:=.append) (xs:=#[.tmp 22,.tmp 27]) rfl ?_); at_builtin; refine Kd.R_append Kd.string (w0:=w) w.heap.size rfl (.tmp 22) (.tmp 27) 28 9 (.string ⟨#[]⟩) 16 rfl Tryz.underlying28 info9 rfl (by decide) (by omega) u3 x3_1 (a0.extract (x4_1 : Int).toNat (x5_1 : Int).toNat) [.string (a0.extract (x4_1 : Int).toNat (x5_1 : Int).toNat)] (fun _ => True) (fun _ => False) rfl rfl ?aP (fun _ hk => hk.elim) ?aF ?aO ?aB ?aS ?aL ?_; (case aP => exact rfl); (case aB => exact (by repeat (first | (with_reducible first | exact HB.out | apply below_alloc | apply pw_below_drewN | apply below_drew1) | exact HB.out))); (case aF => exact (fun _ _ => trivial)); (case aO => exact (by (with_reducible repeat (first | apply Kd.R_alloc | apply Kd.R_drewN | apply Kd.R_drew)); exact HO_3.out)); (case aS => exact (below_size (by repeat (first | (with_reducible first | exact HB.out | apply below_alloc | apply pw_below_drewN | apply below_drew1) | exact HB.out)))); (case aL => have:=LMc7.out; omega); intro v120 w8 ho hb hg hat; rw [← Ny119.out] at ho; have n0_:=Aside0.mk (hb); have n1_:=Aside0.mk (ho); clear HB; clear HO_3; have HB:=n0_; have HO121:=n1_; clear n0_ n1_; clear ho hb hg hat))
        go_roundg k1
        case measure => have:=HK1.out; omega
        case rel => exact ⟨(y119),(wrap64 (x5_1 + 1)),(wrap64 (x5_1 + 1)),(by first | rfl | (simp; done) | (simp [*]; done)),(by first | rfl | (simp; done) | (simp [*]; done)),H',⟨by have:=HK1.out; omega⟩,⟨by (with_reducible repeat (first | apply Kd.R_alloc | apply Kd.R_drewN | apply Kd.R_drew)); exact HO121.out⟩,⟨by repeat (first | (with_reducible first | exact HB.out | apply below_alloc | apply pw_below_drewN | apply below_drew1) | exact HB.out)⟩⟩
       ·rw [if_neg c7] at H
        exact absurd H (by simp)
      ·rw [if_neg c5] at H
       exact absurd H (by simp)
     ·rw [if_neg c4] at H
      exact absurd H (by simp)
    ·rw [if_neg c3] at H
     have c3b0 : (x5_1 == (a0.size : Int)) = false:=beq_eq_false_iff_ne.mpr c3
     have c3b1 : (x5_1 != (a0.size : Int)) = true:=bne_iff_ne.mpr c3
     by_cases c9 : 0 ≤ x5_1
     ·rw [if_pos c9] at H
      have c9b0 : decide (0 ≤ x5_1) = true:=decide_eq_true c9
      clear c9
      by_cases c10 : x5_1 < (a0.size : Int)
      ·rw [if_pos c10] at H
       have c10b0 : decide (x5_1 < (a0.size : Int)) = true:=decide_eq_true c10
       clear c10
       by_cases c12 : (bt a0 x5_1) = 47
       ·rw [if_pos c12] at H
        have c12b0 : ((bt a0 x5_1) == 47) = true:=beq_iff_eq.mpr c12
        have c12b1 : ((bt a0 x5_1) != 47) = false:=bne_eq_false_iff_eq.mpr c12
        clear c12
        by_cases c13 : 0 ≤ x4_1
        ·rw [if_pos c13] at H
         have c13b0:=eq_true c13
         have c13b1 : decide (0 ≤ x4_1) = true:=decide_eq_true c13
         clear c13
         by_cases c14 : x4_1 ≤ x5_1
         ·rw [if_pos c14] at H
          have c14b0:=eq_true c14
          have c14b1 : decide (x4_1 ≤ x5_1) = true:=decide_eq_true c14
          clear c14
          have c15b0:=eq_true (of_decide_eq_true (by first | (with_reducible assumption) | assumption) : x5_1 ≤ (a0.size : Int))
          by_cases c16 : x3_1.length < 8796093022208
          ·rw [if_pos c16] at H
           have LMc16:=Aside0.mk c16
           clear c16
           obtain ⟨y122,hy122⟩ : ∃ y_ : List ByteArray,y_ = (x3_1 ++ [a0.extract (x4_1 : Int).toNat (x5_1 : Int).toNat]):=⟨_,rfl⟩
           replace H : (spec_partsOf.l0 k1 a0 y122 (wrap64 (x5_1 + 1)) (wrap64 (x5_1 + 1))) = some r:=by first | (rw [hy122]; with_reducible exact H) | (have H2_:=(Option.bind_some _ _).symm.trans H; rw [hy122]; with_reducible exact H2_) | (have H2_:=(Option.bind_some _ _).symm.trans H; with_reducible exact H2_) | with_reducible exact H | (rw [hy122]; exact H) | exact H
           have Ny122:=Aside0.mk hy122
           clear hy122
           have H':=Aside0.mk H
           clear H
           have p11 : 0 ≤ (x5_1 : Int):=of_decide_eq_true (by first | (with_reducible assumption) | assumption)
           have q11 : x5_1 < (a0.size : Int):=of_decide_eq_true (by first | (with_reducible assumption) | assumption)
           have hx11:=bt_at a0 x5_1
           replace p11:=eq_true p11
           replace q11:=eq_true q11
           go_wp2_with (first | ((with_reducible refine gate_builtin (b:=.append) (xs:=#[.tmp 22,.tmp 27]) rfl ?_); at_builtin; refine Kd.R_append Kd.string (w0:=w) w.heap.size rfl (.tmp 22) (.tmp 27) 28 9 (.string ⟨#[]⟩) 16 rfl Tryz.underlying28 info9 rfl (by decide) (by omega) u3 x3_1 (a0.extract (x4_1 : Int).toNat (x5_1 : Int).toNat) [.string (a0.extract (x4_1 : Int).toNat (x5_1 : Int).toNat)] (fun _ => True) (fun _ => False) rfl rfl ?aP (fun _ hk => hk.elim) ?aF ?aO ?aB ?aS ?aL ?_; (case aP => exact rfl); (case aB => exact (by repeat (first | (with_reducible first | exact HB.out | apply below_alloc | apply pw_below_drewN | apply below_drew1) | exact HB.out))); (case aF => exact (fun _ _ => trivial)); (case aO => exact (by (with_reducible repeat (first | apply Kd.R_alloc | apply Kd.R_drewN | apply Kd.R_drew)); exact HO_3.out)); (case aS => exact (below_size (by repeat (first | (with_reducible first | exact HB.out | apply below_alloc | apply pw_below_drewN | apply below_drew1) | exact HB.out)))); (case aL => have:=LMc16.out; omega); intro v123 w17 ho hb hg hat; rw [← Ny122.out] at ho; have n0_:=Aside0.mk (hb); have n1_:=Aside0.mk (ho); clear HB; clear HO_3; have HB:=n0_; have HO124:=n1_; clear n0_ n1_; clear ho hb hg hat))
           go_roundg k1
           case measure => have:=HK1.out; omega
           case rel => exact ⟨(y122),(wrap64 (x5_1 + 1)),(wrap64 (x5_1 + 1)),(by first | rfl | (simp; done) | (simp [*]; done)),(by first | rfl | (simp; done) | (simp [*]; done)),H',⟨by have:=HK1.out; omega⟩,⟨by (with_reducible repeat (first | apply Kd.R_alloc | apply Kd.R_drewN | apply Kd.R_drew)); exact HO124.out⟩,⟨by repeat (first | (with_reducible first | exact HB.out | apply below_alloc | apply pw_below_drewN | apply below_drew1) | exact HB.out)⟩⟩
          ·rw [if_neg c16] at H
           exact absurd H (by simp)
         ·rw [if_neg c14] at H
          exact absurd H (by simp)
        ·rw [if_neg c13] at H
         exact absurd H (by simp)
       ·rw [if_neg c12] at H
        have c12b0 : ((bt a0 x5_1) == 47) = false:=beq_eq_false_iff_ne.mpr c12
        have c12b1 : ((bt a0 x5_1) != 47) = true:=bne_iff_ne.mpr c12
        have H':=Aside0.mk H
        clear H
        have p11 : 0 ≤ (x5_1 : Int):=of_decide_eq_true (by first | (with_reducible assumption) | assumption)
        have q11 : x5_1 < (a0.size : Int):=of_decide_eq_true (by first | (with_reducible assumption) | assumption)
        have hx11:=bt_at a0 x5_1
        replace p11:=eq_true p11
        replace q11:=eq_true q11
        go_wp2
        go_roundg k1
        case measure => have:=HK1.out; omega
        case rel => exact ⟨(x3_1),(x4_1),(wrap64 (x5_1 + 1)),(by first | rfl | (simp; done) | (simp [*]; done)),(by first | rfl | (simp; done) | (simp [*]; done)),H',⟨by have:=HK1.out; omega⟩,⟨by (with_reducible repeat (first | apply Kd.R_alloc | apply Kd.R_drewN | apply Kd.R_drew)); exact HO_3.out⟩,⟨by repeat (first | (with_reducible first | exact HB.out | apply below_alloc | apply pw_below_drewN | apply below_drew1) | exact HB.out)⟩⟩
      ·rw [if_neg c10] at H
       exact absurd H (by simp)
     ·rw [if_neg c9] at H
      exact absurd H (by simp)
   ·rw [if_neg c2] at H
    have c2b0 : decide (x5_1 ≤ (a0.size : Int)) = false:=decide_eq_false c2
    clear c2
    obtain rfl:=Option.some.inj H
    go_wp2
    go_ret
    exact ⟨_,by first | rfl | (simp [errW_none,errW_some] <;> rfl) | (simp [*,errW_none,errW_some] <;> rfl),by (with_reducible repeat (first | apply Kd.R_alloc | apply Kd.R_drewN | apply Kd.R_drew)); exact HO_3.out,by repeat (first | (with_reducible first | exact HB.out | apply below_alloc | apply pw_below_drewN | apply below_drew1) | exact HB.out)⟩
end Go.Proofs.YtplbifmjnanceaaGreatDoor.PFnArchive
end
