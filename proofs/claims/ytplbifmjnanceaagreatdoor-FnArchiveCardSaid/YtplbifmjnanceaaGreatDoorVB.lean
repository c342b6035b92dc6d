/- Lines of a text, the rows that are made of them, and decimal numbers. -/
import Derived.Test.YtplbifmjnanceaaGreatDoorProg
import Derived.Below
import Derived.Deep.Draws
import Derived.Deep.AppendLies
import Derived.Maps.AppendAt
import Derived.OwnWalk
import Derived.Laws.BytesArg
import Derived.Laws.MakeOwn
import Derived.Laws.OwnMore
import Derived.Deep.OwnRows
import Derived.Tactics
import Derived.Lib.ConvBytes
import Derived.Laws.Slices
import Derived.WalkKit
import Derived.KernelRfl
import Derived.RowKit3
import Derived.Deep.LoopGhost
import Derived.Deep.QuietTactic
import Derived.BigQuiet
import Derived.WideLaws
import Derived.Deep.DeepCutAuto
import Derived.Deep.CutBlock
import Derived.Deep.RegionHeld3
import Derived.Laws.Rows
import Derived.Lib.AppendStr
import Derived.ArgAppend
import Derived.Laws.IdiomCopy
import Derived.OrdersHeld
import Derived.Laws.BitsLemmas
import Derived.RowKit
import Derived.Test.YtplbifmjnanceaaGreatDoorVA
import Derived.Outline
import Derived.WalkSpells
import Derived.WalkLawsBesides
import Derived.Lib.ItoaMem
section
namespace Go.Proofs.YtplbifmjnanceaaGreatDoor.Plines
open Go.RowKit Go.Proofs.YtplbifmjnanceaaGreatDoorW.PrintWords Go.Proofs.YtplbifmjnanceaaGreatDoorW.PrintLast Go.Proofs.YtplbifmjnanceaaGreatDoorW.PrintMore
attribute [local go_sem] max2_int min2_int max_two min_two max_three min_three max_four min_four
set_option linter.unusedVariables false
set_option linter.unusedSimpArgs false
def errW : Option Int → Value
 | none => .nilIface
 | some c => .iface 0 (.int .i64 c)
theorem errW_none : errW none = .nilIface:=rfl
theorem errW_some (c : Int) : errW (some c) = .iface 0 (.int .i64 c):=rfl
theorem info9 : (Tryz.prog.info? 9).map (fun i => (i.zero,i.size,i.bytes)) = some (some (.string ⟨#[]⟩),1,16):=by kernel_rfl
end Go.Proofs.YtplbifmjnanceaaGreatDoor.Plines
end
section
namespace Go.Proofs.YtplbifmjnanceaaGreatDoor.Plines
open Go.RowKit Go.Proofs.YtplbifmjnanceaaGreatDoorW.PrintWords Go.Proofs.YtplbifmjnanceaaGreatDoorW.PrintLast Go.Proofs.YtplbifmjnanceaaGreatDoorW.PrintMore
attribute [local go_sem] max2_int min2_int max_two min_two max_three min_three max_four min_four
set_option linter.unusedVariables false
set_option linter.unusedSimpArgs false
def diff_zzLines.l0 : Nat → ByteArray → List ByteArray → Int → Int → Option (List ByteArray)
 | 0,_,_,_,_ => none
 | k + 1,x0,x3,x4,x5 => if x5 < (x0.size : Int) then (if 0 ≤ x5 then (if (bt x0 x5) = 10 then (if 0 ≤ x4 then (if x4 ≤ (wrap64 (x5 + 1)) then (if (wrap64 (x5 + 1)) ≤ (x0.size : Int) then (if x3.length < 8796093022208 then (diff_zzLines.l0 k x0 (x3 ++ [x0.extract (x4 : Int).toNat ((wrap64 (x5 + 1)) : Int).toNat]) (wrap64 (x5 + 1)) (wrap64 (x5 + 1))) else (none)) else (none)) else (none)) else (none)) else (diff_zzLines.l0 k x0 x3 x4 (wrap64 (x5 + 1)))) else (none)) else (if 0 ≤ x4 then (if x4 ≤ (x0.size : Int) then (if x3.length < 8796093022208 then (some (x3 ++ [x0.extract (x4 : Int).toNat x0.size])) else (none)) else (none)) else (none))
def diff_zzLines.f (k : Nat) (a0 : ByteArray) : Option (List ByteArray):=diff_zzLines.l0 k a0 ([] : List ByteArray) 0 0
theorem diff_zzLines.mono_l : ∀ k,(∀ y0 y1 y2 y3,LeO (diff_zzLines.l0 k y0 y1 y2 y3) (diff_zzLines.l0 (k + 1) y0 y1 y2 y3))
 | 0 => fun _ _ _ _ r h => by simp [diff_zzLines.l0] at h
 | k + 1 => by
  have ih0:=diff_zzLines.mono_l k
  ·intro y0 y1 y2 y3
   unfold diff_zzLines.l0
   repeat' first
   | (with_reducible exact ih0 _ _ _ _)
   | (with_reducible exact LeO.refl _)
   | (with_reducible exact LeO.none _)
   | (with_reducible refine LeO.ite ?_ ?_)
   | (with_reducible refine LeO.bind ?_ (fun _ => ?_))
   | exact ih0 _ _ _ _
   | exact LeO.none _
   | refine LeO.ite ?_ ?_
   | refine LeO.bind ?_ (fun _ => ?_)
theorem diff_zzLines.mono : ∀ a0 k,LeO (diff_zzLines.f k a0) (diff_zzLines.f (k + 1) a0):=by
 intro a0 k
 have ih0:=diff_zzLines.mono_l k
 unfold diff_zzLines.f
 repeat' first
   | (with_reducible exact ih0 _ _ _ _)
   | (with_reducible exact LeO.refl _)
   | (with_reducible exact LeO.none _)
   | (with_reducible refine LeO.ite ?_ ?_)
   | (with_reducible refine LeO.bind ?_ (fun _ => ?_))
   | exact ih0 _ _ _ _
   | exact LeO.none _
   | refine LeO.ite ?_ ?_
   | refine LeO.bind ?_ (fun _ => ?_)
set_option maxHeartbeats 8000000 in
set_option maxRecDepth 100000 in
theorem diff_zzLines.calls (k : Nat) (a0 : ByteArray) (r : List ByteArray) (w : World) (h : diff_zzLines.f k a0 = some r) :
  Calls Tryz.prog 71 #[.string a0] w fun e w' => ∃ v0_ : Value,e = .returned (v0_) ∧ Kd.R Kd.string 9 w' w.heap.size (fun _ => True) v0_ r ∧ Below w.heap.size w w':=by
 have HB:=Aside0.mk (Below.refl w.heap.size w)
 have H : (diff_zzLines.l0 k a0 ([] : List ByteArray) 0 0) = some r:=h
 clear h
 have H':=Aside0.mk H
 clear H
 go_enter Tryz.func71,Tryz.ntmps71
 go_wp2
 go_loopg [3,4,5] k (fun kq v3 v4 v5 w' => ∃ (x3_1 : List ByteArray) (x4_1 : Int) (x5_1 : Int),v4 = .int .i64 x4_1 ∧ v5 = .int .i64 x5_1 ∧ Aside0 (diff_zzLines.l0 kq a0 x3_1 x4_1 x5_1 = some r) ∧ Aside0 (kq ≤ k) ∧ Aside0 (Kd.R Kd.string 9 w' w.heap.size (fun _ => True) v3 x3_1) ∧ Aside0 (Below w.heap.size w w'))
 case atStart => exact ⟨(([] : List ByteArray)),(0),(0),(by first | rfl | (simp; done) | (simp [*]; done)),(by first | rfl | (simp; done) | (simp [*]; done)),H',⟨Nat.le_refl _⟩,⟨by first | exact Kd.R_nil _ _ _ _ _ | exact Kd.N_nil _ _ _ _ _ | exact Kd.V_nil _ _ _ _ _ | exact Kd.Q_nil _ _ _ _ _ | exact Kd.S_nil _ _ _ _ _⟩,⟨by repeat (first | (with_reducible first | exact HB.out | apply below_alloc | apply pw_below_drewN | apply below_drew1) | exact HB.out)⟩⟩
 case round =>
  clear H'
  obtain ⟨x3_1,x4_1,x5_1,rfl,rfl,HA,HK1,HO_3,HB⟩:=hrel
  cases gk with
  | zero => exact absurd HA.out (by simp [diff_zzLines.l0])
  | succ k1 =>
   have H:=HA.out
   clear HA
   simp only [diff_zzLines.l0] at H
   by_cases c2 : x5_1 < (a0.size : Int)
   ·rw [if_pos c2] at H
    have c2b0 : decide (x5_1 < (a0.size : Int)) = true:=decide_eq_true c2
    clear c2
    by_cases c3 : 0 ≤ x5_1
    ·rw [if_pos c3] at H
     have c3b0 : decide (0 ≤ x5_1) = true:=decide_eq_true c3
     clear c3
     by_cases c5 : (bt a0 x5_1) = 10
     ·rw [if_pos c5] at H
      have c5b0 : ((bt a0 x5_1) == 10) = true:=beq_iff_eq.mpr c5
      have c5b1 : ((bt a0 x5_1) != 10) = false:=bne_eq_false_iff_eq.mpr c5
      clear c5
      by_cases c6 : 0 ≤ x4_1
      ·rw [if_pos c6] at H
       have c6b0:=eq_true c6
       have c6b1 : decide (0 ≤ x4_1) = true:=decide_eq_true c6
       clear c6
       by_cases c7 : x4_1 ≤ (wrap64 (x5_1 + 1))
       ·rw [if_pos c7] at H
        have c7b0:=eq_true c7
        have c7b1 : decide (x4_1 ≤ (wrap64 (x5_1 + 1))) = true:=decide_eq_true c7
        by_cases c8 : (wrap64 (x5_1 + 1)) ≤ (a0.size : Int)
        ·rw [if_pos c8] at H
         have c8b0:=eq_true c8
         have c8b1 : decide ((wrap64 (x5_1 + 1)) ≤ (a0.size : Int)) = true:=decide_eq_true c8
         by_cases c9 : x3_1.length < 8796093022208
         ·rw [if_pos c9] at H
          have LMc9:=Aside0.mk c9
          clear c9
          obtain ⟨y101,hy101⟩ : ∃ y_ : List ByteArray,y_ = (x3_1 ++ [a0.extract (x4_1 : Int).toNat ((wrap64 (x5_1 + 1)) : Int).toNat]):=⟨_,rfl⟩
          replace H : (diff_zzLines.l0 k1 a0 y101 (wrap64 (x5_1 + 1)) (wrap64 (x5_1 + 1))) = some r:=by first | (rw [hy101]; with_reducible exact H) | (have H2_:=(Option.bind_some _ _).symm.trans H; rw [hy101]; with_reducible exact H2_) | (have H2_:=(Option.bind_some _ _).symm.trans H; with_reducible exact H2_) | with_reducible exact H | (rw [hy101]; exact H) | exact H
          have Ny101:=Aside0.mk hy101
          clear hy101
          have H':=Aside0.mk H
          clear H
          have p4 : 0 ≤ (x5_1 : Int):=of_decide_eq_true (by first | (with_reducible assumption) | assumption)
          have q4 : x5_1 < (a0.size : Int):=of_decide_eq_true (by first | (with_reducible assumption) | assumption)
          have hx4:=bt_at a0 x5_1
          replace p4:=eq_true p4
          replace q4:=eq_true q4
          go_wp2_with (first | ((with_reducible refine gate_builtin (b:=.append) (xs:=#[.tmp 16,.tmp 22]) rfl ?_); at_builtin; refine Kd.R_append Kd.string (w0:=w) w.heap.size rfl (.tmp 16) (.tmp 22) 28 9 (.string ⟨#[]⟩) 16 rfl Tryz.underlying28 info9 rfl (by decide) (by omega) u3 x3_1 (a0.extract (x4_1 : Int).toNat ((wrap64 (x5_1 + 1)) : Int).toNat) [.string (a0.extract (x4_1 : Int).toNat ((wrap64 (x5_1 + 1)) : Int).toNat)] (fun _ => True) (fun _ => False) rfl rfl ?aP (fun _ hk => hk.elim) ?aF ?aO ?aB ?aS ?aL ?_; (case aP => exact rfl); (case aB => exact (by repeat (first | (with_reducible first | exact HB.out | apply below_alloc | apply pw_below_drewN | apply below_drew1) | exact HB.out))); (case aF => exact (fun _ _ => trivial)); (case aO => exact (by (with_reducible repeat (first | apply Kd.R_alloc | apply Kd.R_drewN | apply Kd.R_drew)); exact HO_3.out)); (case aS => exact (below_size (by repeat (first | (with_reducible first | exact HB.out | apply below_alloc | apply pw_below_drewN | apply below_drew1) | exact HB.out)))); (case aL => have:=LMc9.out; omega); intro v102 w10 ho hb hg hat; rw [← Ny101.out] at ho; have n0_:=Aside0.mk (hb); have n1_:=Aside0.mk (ho); clear HB; clear HO_3; have HB:=n0_; have HO103:=n1_; clear n0_ n1_; clear ho hb hg hat))
          go_roundg k1
          case measure => have:=HK1.out; omega
          case rel => exact ⟨(y101),(wrap64 (x5_1 + 1)),(wrap64 (x5_1 + 1)),(by first | rfl | (simp; done) | (simp [*]; done)),(by first | rfl | (simp; done) | (simp [*]; done)),H',⟨by have:=HK1.out; omega⟩,⟨by (with_reducible repeat (first | apply Kd.R_alloc | apply Kd.R_drewN | apply Kd.R_drew)); exact HO103.out⟩,⟨by repeat (first | (with_reducible first | exact HB.out | apply below_alloc | apply pw_below_drewN | apply below_drew1) | exact HB.out)⟩⟩
         ·rw [if_neg c9] at H
          exact absurd H (by simp)
        ·rw [if_neg c8] at H
         exact absurd H (by simp)
       ·rw [if_neg c7] at H
        exact absurd H (by simp)
      ·rw [if_neg c6] at H
       exact absurd H (by simp)
     ·rw [if_neg c5] at H
      have c5b0 : ((bt a0 x5_1) == 10) = false:=beq_eq_false_iff_ne.mpr c5
      have c5b1 : ((bt a0 x5_1) != 10) = true:=bne_iff_ne.mpr c5
      have H':=Aside0.mk H
      clear H
      have p4 : 0 ≤ (x5_1 : Int):=of_decide_eq_true (by first | (with_reducible assumption) | assumption)
      have q4 : x5_1 < (a0.size : Int):=of_decide_eq_true (by first | (with_reducible assumption) | assumption)
      have hx4:=bt_at a0 x5_1
      replace p4:=eq_true p4
      replace q4:=eq_true q4
      go_wp2
      go_roundg k1
      case measure => have:=HK1.out; omega
      case rel => exact ⟨(x3_1),(x4_1),(wrap64 (x5_1 + 1)),(by first | rfl | (simp; done) | (simp [*]; done)),(by first | rfl | (simp; done) | (simp [*]; done)),H',⟨by have:=HK1.out; omega⟩,⟨by (with_reducible repeat (first | apply Kd.R_alloc | apply Kd.R_drewN | apply Kd.R_drew)); exact HO_3.out⟩,⟨by repeat (first | (with_reducible first | exact HB.out | apply below_alloc | apply pw_below_drewN | apply below_drew1) | exact HB.out)⟩⟩
    ·rw [if_neg c3] at H
     exact absurd H (by simp)
   ·rw [if_neg c2] at H
    have c2b0 : decide (x5_1 < (a0.size : Int)) = false:=decide_eq_false c2
    clear c2
    by_cases c11 : 0 ≤ x4_1
    ·rw [if_pos c11] at H
     have c11b0:=eq_true c11
     have c11b1 : decide (0 ≤ x4_1) = true:=decide_eq_true c11
     clear c11
     by_cases c12 : x4_1 ≤ (a0.size : Int)
     ·rw [if_pos c12] at H
      have c12b0:=eq_true c12
      have c12b1 : decide (x4_1 ≤ (a0.size : Int)) = true:=decide_eq_true c12
      clear c12
      by_cases c13 : x3_1.length < 8796093022208
      ·rw [if_pos c13] at H
       have LMc13:=Aside0.mk c13
       clear c13
       obtain ⟨y104,hy104⟩ : ∃ y_ : List ByteArray,y_ = (x3_1 ++ [a0.extract (x4_1 : Int).toNat a0.size]):=⟨_,rfl⟩
       replace H : (some y104) = some r:=by first | (rw [hy104]; with_reducible exact H) | (have H2_:=(Option.bind_some _ _).symm.trans H; rw [hy104]; with_reducible exact H2_) | (have H2_:=(Option.bind_some _ _).symm.trans H; with_reducible exact H2_) | with_reducible exact H | (rw [hy104]; exact H) | exact H
       have Ny104:=Aside0.mk hy104
       clear hy104
       obtain rfl:=Option.some.inj H
       go_wp2_with (first | ((with_reducible refine gate_builtin (b:=.append) (xs:=#[.tmp 26,.tmp 30]) rfl ?_); at_builtin; refine Kd.R_append Kd.string (w0:=w) w.heap.size rfl (.tmp 26) (.tmp 30) 28 9 (.string ⟨#[]⟩) 16 rfl Tryz.underlying28 info9 rfl (by decide) (by omega) u3 x3_1 (a0.extract (x4_1 : Int).toNat a0.size) [.string (a0.extract (x4_1 : Int).toNat a0.size)] (fun _ => True) (fun _ => False) rfl rfl ?aP (fun _ hk => hk.elim) ?aF ?aO ?aB ?aS ?aL ?_; (case aP => exact rfl); (case aB => exact (by repeat (first | (with_reducible first | exact HB.out | apply below_alloc | apply pw_below_drewN | apply below_drew1) | exact HB.out))); (case aF => exact (fun _ _ => trivial)); (case aO => exact (by (with_reducible repeat (first | apply Kd.R_alloc | apply Kd.R_drewN | apply Kd.R_drew)); exact HO_3.out)); (case aS => exact (below_size (by repeat (first | (with_reducible first | exact HB.out | apply below_alloc | apply pw_below_drewN | apply below_drew1) | exact HB.out)))); (case aL => have:=LMc13.out; omega); intro v105 w14 ho hb hg hat; rw [← Ny104.out] at ho; have n0_:=Aside0.mk (hb); have n1_:=Aside0.mk (ho); clear HB; clear HO_3; have HB:=n0_; have HO106:=n1_; clear n0_ n1_; clear ho hb hg hat))
       go_ret
       exact ⟨_,by first | rfl | (simp [errW_none,errW_some] <;> rfl) | (simp [*,errW_none,errW_some] <;> rfl),by (with_reducible repeat (first | apply Kd.R_alloc | apply Kd.R_drewN | apply Kd.R_drew)); exact HO106.out,by repeat (first | (with_reducible first | exact HB.out | apply below_alloc | apply pw_below_drewN | apply below_drew1) | exact HB.out)⟩
      ·rw [if_neg c13] at H
       exact absurd H (by simp)
     ·rw [if_neg c12] at H
      exact absurd H (by simp)
    ·rw [if_neg c11] at H
     exact absurd H (by simp)
def diff_lines.f (k : Nat) (l0 : List Int) : Option (List ByteArray):=(diff_zzLines.f k (strOfNums l0)).bind fun t107 => (if 0 ≤ (wrap64 ((t107.length : Int) - 1)) then (if (wrap64 ((t107.length : Int) - 1)) < (t107.length : Int) then (if (rdOf ByteArray.empty t107 (wrap64 ((t107.length : Int) - 1))).toList = ([] : List UInt8) then (if (wrap64 ((t107.length : Int) - 1)) ≤ (t107.length : Int) then (some (t107.take ((wrap64 ((t107.length : Int) - 1)) : Int).toNat)) else (none)) else (if (rdOf ByteArray.empty t107 (wrap64 ((t107.length : Int) - 1))).size + 29 ≤ 9223372036854775807 then (some (t107.set ((wrap64 ((t107.length : Int) - 1)) : Int).toNat ((rdOf ByteArray.empty t107 (wrap64 ((t107.length : Int) - 1))) ++ (⟨#[10,92,32,78,111,32,110,101,119,108,105,110,101,32,97,116,32,101,110,100,32,111,102,32,102,105,108,101,10]⟩ : ByteArray)))) else (none))) else (none)) else (none))
theorem diff_lines.mono : ∀ a0 k,LeO (diff_lines.f k a0) (diff_lines.f (k + 1) a0):=by
 intro a0 k
 unfold diff_lines.f
 repeat' first
   | (with_reducible exact diff_zzLines.mono _ _)
   | (with_reducible exact LeO.refl _)
   | (with_reducible exact LeO.none _)
   | (with_reducible refine LeO.ite ?_ ?_)
   | (with_reducible refine LeO.bind ?_ (fun _ => ?_))
   | exact diff_zzLines.mono _ _
   | exact LeO.none _
   | refine LeO.ite ?_ ?_
   | refine LeO.bind ?_ (fun _ => ?_)
set_option maxHeartbeats 8000000 in
set_option maxRecDepth 100000 in
theorem diff_lines.calls (k : Nat) (A0 : Option Addr) (c0 : Nat) (l0 : List Int) (r : List ByteArray) (w : World) (hr0 : Kd.C (Kd.int .u8) w A0 l0.length l0) (hc0 : l0.length ≤ c0) (h : diff_lines.f k l0 = some r) :
  Calls Tryz.prog 61 #[.slice A0 l0.length c0] w fun e w' => ∃ v0_ : Value,e = .returned (v0_) ∧ Kd.R Kd.string 9 w' w.heap.size (fun _ => True) v0_ r ∧ Below w.heap.size w w':=by
 have HR0:=Aside0.mk hr0
 have HC0:=Aside0.mk hc0
 clear hr0 hc0
 have HB:=Aside0.mk (Below.refl w.heap.size w)
 have H : ((diff_zzLines.f k (strOfNums l0)).bind fun t107 => (if 0 ≤ (wrap64 ((t107.length : Int) - 1)) then (if (wrap64 ((t107.length : Int) - 1)) < (t107.length : Int) then (if (rdOf ByteArray.empty t107 (wrap64 ((t107.length : Int) - 1))).toList = ([] : List UInt8) then (if (wrap64 ((t107.length : Int) - 1)) ≤ (t107.length : Int) then (some (t107.take ((wrap64 ((t107.length : Int) - 1)) : Int).toNat)) else (none)) else (if (rdOf ByteArray.empty t107 (wrap64 ((t107.length : Int) - 1))).size + 29 ≤ 9223372036854775807 then (some (t107.set ((wrap64 ((t107.length : Int) - 1)) : Int).toNat ((rdOf ByteArray.empty t107 (wrap64 ((t107.length : Int) - 1))) ++ (⟨#[10,92,32,78,111,32,110,101,119,108,105,110,101,32,97,116,32,101,110,100,32,111,102,32,102,105,108,101,10]⟩ : ByteArray)))) else (none))) else (none)) else (none))) = some r:=h
 clear h
 replace H:=Option.bind_eq_some_iff.mp H
 obtain ⟨t107,A20,H⟩:=H
 replace H : (if 0 ≤ (wrap64 ((t107.length : Int) - 1)) then (if (wrap64 ((t107.length : Int) - 1)) < (t107.length : Int) then (if (rdOf ByteArray.empty t107 (wrap64 ((t107.length : Int) - 1))).toList = ([] : List UInt8) then (if (wrap64 ((t107.length : Int) - 1)) ≤ (t107.length : Int) then (some (t107.take ((wrap64 ((t107.length : Int) - 1)) : Int).toNat)) else (none)) else (if (rdOf ByteArray.empty t107 (wrap64 ((t107.length : Int) - 1))).size + 29 ≤ 9223372036854775807 then (some (t107.set ((wrap64 ((t107.length : Int) - 1)) : Int).toNat ((rdOf ByteArray.empty t107 (wrap64 ((t107.length : Int) - 1))) ++ (⟨#[10,92,32,78,111,32,110,101,119,108,105,110,101,32,97,116,32,101,110,100,32,111,102,32,102,105,108,101,10]⟩ : ByteArray)))) else (none))) else (none)) else (none)) = some r:=H
 have A2:=Aside0.mk A20
 clear A20
 obtain ⟨ji3,hji3⟩ : ∃ j_ : Int,(wrap64 ((t107.length : Int) - 1)) = j_:=⟨_,rfl⟩
 replace H : (if 0 ≤ (ji3) then (if (ji3) < (t107.length : Int) then (if (rdOf ByteArray.empty t107 (ji3)).toList = ([] : List UInt8) then (if (ji3) ≤ (t107.length : Int) then (some (t107.take ((ji3) : Int).toNat)) else (none)) else (if (rdOf ByteArray.empty t107 (ji3)).size + 29 ≤ 9223372036854775807 then (some (t107.set ((ji3) : Int).toNat ((rdOf ByteArray.empty t107 (ji3)) ++ (⟨#[10,92,32,78,111,32,110,101,119,108,105,110,101,32,97,116,32,101,110,100,32,111,102,32,102,105,108,101,10]⟩ : ByteArray)))) else (none))) else (none)) else (none)) = some r:=by first | (rw [hji3] at H; exact H) | (simp only [hji3] at H ⊢; exact H)
 (try rw [hji3] at A2)
 have hji3w : (IntKind.i64.wrap ((t107.length : Int) - 1)) = ji3:=(i64_w _).trans hji3
 by_cases c4 : 0 ≤ (ji3)
 ·rw [if_pos c4] at H
  have c4b0 : decide (0 ≤ (ji3)) = true:=decide_eq_true c4
  clear c4
  by_cases c5 : (ji3) < (t107.length : Int)
  ·rw [if_pos c5] at H
   have c5b0 : decide ((ji3) < (t107.length : Int)) = true:=decide_eq_true c5
   clear c5
   by_cases c6 : (rdOf ByteArray.empty t107 (ji3)).toList = ([] : List UInt8)
   ·rw [if_pos c6] at H
    have c6b0 : ((rdOf ByteArray.empty t107 (ji3)).toList == ([] : List UInt8)) = true:=beq_iff_eq.mpr c6
    have c6b1 : ((rdOf ByteArray.empty t107 (ji3)).toList != ([] : List UInt8)) = false:=bne_eq_false_iff_eq.mpr c6
    clear c6
    by_cases c7 : (ji3) ≤ (t107.length : Int)
    ·rw [if_pos c7] at H
     have c7b0:=eq_true c7
     have c7b1 : decide ((ji3) ≤ (t107.length : Int)) = true:=decide_eq_true c7
     clear c7
     obtain ⟨y111,hy111⟩ : ∃ y_ : List ByteArray,y_ = (t107.take ((ji3) : Int).toNat):=⟨_,rfl⟩
     replace H : (some y111) = some r:=by first | (rw [hy111]; with_reducible exact H) | (have H2_:=(Option.bind_some _ _).symm.trans H; rw [hy111]; with_reducible exact H2_) | (have H2_:=(Option.bind_some _ _).symm.trans H; with_reducible exact H2_) | with_reducible exact H | (rw [hy111]; exact H) | exact H
     have Ny111:=Aside0.mk hy111
     clear hy111
     obtain rfl:=Option.some.inj H
     have hcv8:=Kd.C_string (P:=Tryz.prog) (A:=A0) (c:=c0) Tryz.underlying59 Tryz.underlying5 Tryz.underlying9 HR0.out
     go_enter Tryz.func61,Tryz.ntmps61
     go_wp2_with (first | ((with_reducible refine gate_callee (f:=71) rfl ?_); refine goesL_ (some 6) rfl rfl Tryz.func71 (by kernel_rfl) rfl #[.string (strOfNums l0)] rfl (by (try simp only [List.map_toArray,List.map_cons,List.map_nil]); first | done | rfl | (simp only [List.length_drop,List.length_take]; rfl)) ?_; (with_reducible refine (diff_zzLines.calls k (strOfNums l0) t107 _ A2.out).mono ?_); rintro e w9 ⟨v108,rfl,ho0,hb⟩; refine ⟨_,rfl,?_⟩; have n0_:=Aside0.mk (Kd.R_lower ho0 (below_size (by repeat (first | (with_reducible first | exact HB.out | apply below_alloc | apply pw_below_drewN | apply below_drew1) | exact HB.out)))); have n1_:=Aside0.mk (below_step (by repeat (first | (with_reducible first | exact HB.out | apply below_alloc | apply pw_below_drewN | apply below_drew1) | exact HB.out)) hb); clear HB; have HO109:=n0_; have HB:=n1_; clear n0_ n1_; (try clear hb); (try clear hb2); (try clear hk); (try clear hi); (try clear ho0); obtain ⟨Ao10,co10,eo10⟩:=Kd.R_slice HO109.out; subst eo10; have p110 : 0 ≤ ((ji3) : Int):=of_decide_eq_true (by first | (with_reducible assumption) | assumption); have q110 : (ji3) < (t107.length : Int):=of_decide_eq_true (by first | (with_reducible assumption) | assumption); obtain ⟨ad110,e110,hx110_0⟩:=Kd.at_string (Kd.R_reads' HO109.out).2.2 (ji3) p110 q110; cases e110; replace p110:=eq_true p110; replace q110:=eq_true q110; have q11 : ((ji3) : Int) ≤ ((t107.length : Int) : Int):=of_decide_eq_true (by first | (with_reducible assumption) | assumption); obtain ⟨i011,hi011,_,hsz11,_⟩:=info_parts info9; have hcut11:=cut_to (P:=Tryz.prog) 28 9 .i64 Tryz.underlying28 hi011 (some ad110) t107.length co10 (ji3) (of_decide_eq_true (by first | (with_reducible assumption) | assumption)) q11 (Kd.R_reads' HO109.out).2.1; have hr11:=Kd.R_take (m:=((ji3) : Int).toNat) HO109.out (by omega); have hy11 : y111.length = ((ji3) : Int).toNat:=(by rw [Ny111.out,List.length_take]; omega); rw [← Ny111.out] at hr11; rw [← hy11] at hr11 hcut11; clear hy11 hi011 hsz11 HO109; have HO113:=Aside0.mk hr11; clear hr11; replace q11:=eq_true q11))
     go_ret
     exact ⟨_,by first | rfl | (simp [errW_none,errW_some] <;> rfl) | (simp only [← hji3]; first | rfl | (simp [errW_none,errW_some] <;> rfl)) | (simp [*,errW_none,errW_some] <;> rfl),by (with_reducible repeat (first | apply Kd.R_alloc | apply Kd.R_drewN | apply Kd.R_drew)); exact HO113.out,by repeat (first | (with_reducible first | exact HB.out | apply below_alloc | apply pw_below_drewN | apply below_drew1) | exact HB.out)⟩
    ·rw [if_neg c7] at H
     exact absurd H (by simp)
   ·rw [if_neg c6] at H
    have c6b0 : ((rdOf ByteArray.empty t107 (ji3)).toList == ([] : List UInt8)) = false:=beq_eq_false_iff_ne.mpr c6
    have c6b1 : ((rdOf ByteArray.empty t107 (ji3)).toList != ([] : List UInt8)) = true:=bne_iff_ne.mpr c6
    by_cases c12 : (rdOf ByteArray.empty t107 (ji3)).size + 29 ≤ 9223372036854775807
    ·rw [if_pos c12] at H
     have c12b0:=eq_true c12
     have c12b1 : decide ((rdOf ByteArray.empty t107 (ji3)).size + 29 ≤ 9223372036854775807) = true:=decide_eq_true c12
     try have c12b2 : (9223372036854775807 < (rdOf ByteArray.empty t107 (ji3)).size + 29) = False:=eq_false (Nat.not_lt.2 c12)
     obtain ⟨y115,hy115⟩ : ∃ y_ : List ByteArray,y_ = (t107.set ((ji3) : Int).toNat ((rdOf ByteArray.empty t107 (ji3)) ++ (⟨#[10,92,32,78,111,32,110,101,119,108,105,110,101,32,97,116,32,101,110,100,32,111,102,32,102,105,108,101,10]⟩ : ByteArray))):=⟨_,rfl⟩
     replace H : (some y115) = some r:=by first | (rw [hy115]; with_reducible exact H) | (have H2_:=(Option.bind_some _ _).symm.trans H; rw [hy115]; with_reducible exact H2_) | (have H2_:=(Option.bind_some _ _).symm.trans H; with_reducible exact H2_) | with_reducible exact H | (rw [hy115]; exact H) | exact H
     have Ny115:=Aside0.mk hy115
     clear hy115
     obtain rfl:=Option.some.inj H
     have hcv14:=Kd.C_string (P:=Tryz.prog) (A:=A0) (c:=c0) Tryz.underlying59 Tryz.underlying5 Tryz.underlying9 HR0.out
     go_enter Tryz.func61,Tryz.ntmps61
     go_wp2_with (first | ((with_reducible refine gate_callee (f:=71) rfl ?_); refine goesL_ (some 6) rfl rfl Tryz.func71 (by kernel_rfl) rfl #[.string (strOfNums l0)] rfl (by (try simp only [List.map_toArray,List.map_cons,List.map_nil]); first | done | rfl | (simp only [List.length_drop,List.length_take]; rfl)) ?_; (with_reducible refine (diff_zzLines.calls k (strOfNums l0) t107 _ A2.out).mono ?_); rintro e w15 ⟨v108,rfl,ho0,hb⟩; refine ⟨_,rfl,?_⟩; have n0_:=Aside0.mk (Kd.R_lower ho0 (below_size (by repeat (first | (with_reducible first | exact HB.out | apply below_alloc | apply pw_below_drewN | apply below_drew1) | exact HB.out)))); have n1_:=Aside0.mk (below_step (by repeat (first | (with_reducible first | exact HB.out | apply below_alloc | apply pw_below_drewN | apply below_drew1) | exact HB.out)) hb); clear HB; have HO109:=n0_; have HB:=n1_; clear n0_ n1_; (try clear hb); (try clear hb2); (try clear hk); (try clear hi); (try clear ho0); obtain ⟨Ao16,co16,eo16⟩:=Kd.R_slice HO109.out; subst eo16; have p110 : 0 ≤ ((ji3) : Int):=of_decide_eq_true (by first | (with_reducible assumption) | assumption); have q110 : (ji3) < (t107.length : Int):=of_decide_eq_true (by first | (with_reducible assumption) | assumption); obtain ⟨ad110,e110,hx110_0⟩:=Kd.at_string (Kd.R_reads' HO109.out).2.2 (ji3) p110 q110; cases e110; replace p110:=eq_true p110; replace q110:=eq_true q110; have p114 : 0 ≤ ((ji3) : Int):=of_decide_eq_true (by first | (with_reducible assumption) | assumption); have q114 : (ji3) < (t107.length : Int):=of_decide_eq_true (by first | (with_reducible assumption) | assumption); obtain ⟨ad114,e114,hx114_0⟩:=Kd.at_string (Kd.R_reads' HO109.out).2.2 (ji3) p114 q114; obtain rfl : ad110 = ad114:=(by injection e114); replace p114:=eq_true p114; replace q114:=eq_true q114; have p13 : 0 ≤ ((ji3) : Int):=of_decide_eq_true (by first | (with_reducible assumption) | assumption); have q13 : ((ji3) : Int) < ((t107.length : Int) : Int):=of_decide_eq_true (by first | (with_reducible assumption) | assumption); obtain ⟨go13,co13,eo13,gb13,gl13,cl13,HG13⟩:=Kd.R_form HO109.out (by omega); (first | cases eo13 | (injection eo13 with ea_ en_ ec_; (first | subst ea_ | (injection ea_ with ea_; subst ea_)); subst ec_; clear en_)); have GB13:=Aside0.mk gb13; have GG13:=Aside0.mk HG13; clear gb13 gl13 HG13; (first | simp only [add_plain] at hx110_0 | skip); (first | simp only [add_plain] at hx114_0 | skip); obtain ⟨hx13_0,hf13_0⟩:=Kd.R_celln (⟨#[]⟩ : ByteArray) HO109.out ((ji3) : Int) p13 q13; replace p13:=eq_true p13; replace q13:=eq_true q13; obtain ⟨hy17_,hz17_⟩:=Kd.R_celln (⟨#[]⟩ : ByteArray) HO109.out ((ji3) : Int) (of_decide_eq_true (by first | (with_reducible assumption) | assumption)) (of_decide_eq_true (by first | (with_reducible assumption) | assumption)); have HP17:=Kd.R_putg HO109.out ((ji3) : Int) ((rdOf ByteArray.empty t107 (ji3)) ++ (⟨#[10,92,32,78,111,32,110,101,119,108,105,110,101,32,97,116,32,101,110,100,32,111,102,32,102,105,108,101,10]⟩ : ByteArray))) | ((with_reducible refine gate_store (t:=9) (p:=26) rfl ?_); refine store_event (t:=9) (p:=26) (v:=?vo_w18) (w1:=(w15.setCell ⟨go13,((ji3) : Int).toNat,none⟩ (.string ((rdOf ByteArray.empty t107 (ji3)) ++ (⟨#[10,92,32,78,111,32,110,101,119,108,105,110,101,32,97,116,32,101,110,100,32,111,102,32,102,105,108,101,10]⟩ : ByteArray))))) ?hg ?ho ?hn ?hr ?_; (case ho => rfl); (case hg => rfl); (case hn => rfl); (case hr => first | (go_simp; done) | (go_simp; rfl)); intro w18 hw; have hg : w15.grownBy w18 (some go13):=(by rw [hw]; exact HP17.2); have hp_ : Kd.R Kd.string 9 w18 w.heap.size (fun _ => True) (.slice (some ⟨go13,0,none⟩) t107.length co16) y115:=(by rw [hw,Ny115.out]; exact HP17.1); clear HP17; have n0_:=Aside0.mk (hp_); have n1_:=Aside0.mk ((by rw [hw]; exact below_set (HB.out) GB13.out : Below w.heap.size w w18)); clear HO109; clear HB; have HO109:=n0_; have HB:=n1_; clear n0_ n1_; clear hg hw hp_))
     go_ret
     exact ⟨_,by first | rfl | (simp [errW_none,errW_some] <;> rfl) | (simp only [← hji3]; first | rfl | (simp [errW_none,errW_some] <;> rfl)) | (simp [*,errW_none,errW_some] <;> rfl),by (with_reducible repeat (first | apply Kd.R_alloc | apply Kd.R_drewN | apply Kd.R_drew)); exact HO109.out,by repeat (first | (with_reducible first | exact HB.out | apply below_alloc | apply pw_below_drewN | apply below_drew1) | exact HB.out)⟩
    ·rw [if_neg c12] at H
     exact absurd H (by simp)
  ·rw [if_neg c5] at H
   exact absurd H (by simp)
 ·rw [if_neg c4] at H
  exact absurd H (by simp)
end Go.Proofs.YtplbifmjnanceaaGreatDoor.Plines
end
section
namespace Go.Proofs.YtplbifmjnanceaaGreatDoor
open Go.RowKit Go.Proofs.YtplbifmjnanceaaGreatDoorW.PrintWords Go.Proofs.YtplbifmjnanceaaGreatDoorW.PrintLast Go.Proofs.YtplbifmjnanceaaGreatDoorW.PrintMore
theorem below_put {B : Nat} {w W : World} (h : Below B w W) (g j : Nat) (u : Value) (hg : B ≤ g) : Below B w (W.setCell ⟨g,j,none⟩ u):=h.setCell hg u
end Go.Proofs.YtplbifmjnanceaaGreatDoor
end
section
namespace Go.Proofs.YtplbifmjnanceaaGreatDoor.PRows
open Go.RowKit Go.Proofs.YtplbifmjnanceaaGreatDoorW.PrintWords Go.Proofs.YtplbifmjnanceaaGreatDoorW.PrintLast Go.Proofs.YtplbifmjnanceaaGreatDoorW.PrintMore
attribute [local go_sem] max2_int min2_int max_two min_two max_three min_three max_four min_four
set_option linter.unusedVariables false
set_option linter.unusedSimpArgs false
def errW : Option Int → Value
 | none => .nilIface
 | some c => .iface 0 (.int .i64 c)
theorem errW_none : errW none = .nilIface:=rfl
theorem errW_some (c : Int) : errW (some c) = .iface 0 (.int .i64 c):=rfl
theorem info9 : (Tryz.prog.info? 9).map (fun i => (i.zero,i.size,i.bytes)) = some (some (.string ⟨#[]⟩),1,16):=by kernel_rfl
end Go.Proofs.YtplbifmjnanceaaGreatDoor.PRows
end
section
namespace Go.Proofs.YtplbifmjnanceaaGreatDoor.PRows
open Go.RowKit Go.Proofs.YtplbifmjnanceaaGreatDoorW.PrintWords Go.Proofs.YtplbifmjnanceaaGreatDoorW.PrintLast Go.Proofs.YtplbifmjnanceaaGreatDoorW.PrintMore
attribute [local go_sem] max2_int min2_int max_two min_two max_three min_three max_four min_four
set_option linter.unusedVariables false
set_option linter.unusedSimpArgs false
def spec_Rows.l0 : Nat → ByteArray → List ByteArray → Int → Int → Int → Option (List ByteArray)
 | 0,_,_,_,_,_ => none
 | k + 1,x0,x3,x4,x7,x8 => if x8 < x7 then (if 0 ≤ x8 then (if x8 < (x0.size : Int) then (if (bt x0 x8) = 10 then (if 0 ≤ x4 then (if x4 ≤ (wrap64 (x8 + 1)) then (if (wrap64 (x8 + 1)) ≤ (x0.size : Int) then (if x3.length < 8796093022208 then (spec_Rows.l0 k x0 (x3 ++ [x0.extract (x4 : Int).toNat ((wrap64 (x8 + 1)) : Int).toNat]) (wrap64 (x8 + 1)) x7 (wrap64 (x8 + 1))) else (none)) else (none)) else (none)) else (none)) else (spec_Rows.l0 k x0 x3 x4 x7 (wrap64 (x8 + 1)))) else (none)) else (none)) else (if x4 < (x0.size : Int) then (if 0 ≤ x4 then (if x4 ≤ (x0.size : Int) then (if x3.length < 8796093022208 then (some (x3 ++ [x0.extract (x4 : Int).toNat x0.size])) else (none)) else (none)) else (none)) else (some x3))
def spec_Rows.f (k : Nat) (a0 : ByteArray) : Option (List ByteArray):=spec_Rows.l0 k a0 ([] : List ByteArray) 0 (a0.size : Int) 0
theorem spec_Rows.mono_l : ∀ k,(∀ y0 y1 y2 y3 y4,LeO (spec_Rows.l0 k y0 y1 y2 y3 y4) (spec_Rows.l0 (k + 1) y0 y1 y2 y3 y4))
 | 0 => fun _ _ _ _ _ r h => by simp [spec_Rows.l0] at h
 | k + 1 => by
  have ih0:=spec_Rows.mono_l k
  ·intro y0 y1 y2 y3 y4
   unfold spec_Rows.l0
   repeat' first
   | (with_reducible exact ih0 _ _ _ _ _)
   | (with_reducible exact LeO.refl _)
   | (with_reducible exact LeO.none _)
   | (with_reducible refine LeO.ite ?_ ?_)
   | (with_reducible refine LeO.bind ?_ (fun _ => ?_))
   | exact ih0 _ _ _ _ _
   | exact LeO.none _
   | refine LeO.ite ?_ ?_
   | refine LeO.bind ?_ (fun _ => ?_)
theorem spec_Rows.mono : ∀ a0 k,LeO (spec_Rows.f k a0) (spec_Rows.f (k + 1) a0):=by
 intro a0 k
 have ih0:=spec_Rows.mono_l k
 unfold spec_Rows.f
 repeat' first
   | (with_reducible exact ih0 _ _ _ _ _)
   | (with_reducible exact LeO.refl _)
   | (with_reducible exact LeO.none _)
   | (with_reducible refine LeO.ite ?_ ?_)
   | (with_reducible refine LeO.bind ?_ (fun _ => ?_))
   | exact ih0 _ _ _ _ _
   | exact LeO.none _
   | refine LeO.ite ?_ ?_
   | refine LeO.bind ?_ (fun _ => ?_)
set_option maxHeartbeats 8000000 in
set_option maxRecDepth 100000 in
theorem spec_Rows.calls (k : Nat) (a0 : ByteArray) (r : List ByteArray) (w : World) (h : spec_Rows.f k a0 = some r) :
  Calls Tryz.prog 43 #[.string a0] w fun e w' => ∃ v0_ : Value,e = .returned (v0_) ∧ Kd.R Kd.string 9 w' w.heap.size (fun _ => True) v0_ r ∧ Below w.heap.size w w':=by
 have HB:=Aside0.mk (Below.refl w.heap.size w)
 have H : (spec_Rows.l0 k a0 ([] : List ByteArray) 0 (a0.size : Int) 0) = some r:=h
 clear h
 have H':=Aside0.mk H
 clear H
 go_enter Tryz.func43,Tryz.ntmps43
 go_wp2
 go_loopg [3,4,8] k (fun kq v3 v4 v8 w' => ∃ (x3_1 : List ByteArray) (x4_1 : Int) (x8_1 : Int),v4 = .int .i64 x4_1 ∧ v8 = .int .i64 x8_1 ∧ Aside0 (spec_Rows.l0 kq a0 x3_1 x4_1 (a0.size : Int) x8_1 = some r) ∧ Aside0 (kq ≤ k) ∧ Aside0 (Kd.R Kd.string 9 w' w.heap.size (fun _ => True) v3 x3_1) ∧ Aside0 (Below w.heap.size w w'))
 case atStart => exact ⟨(([] : List ByteArray)),(0),(0),(by first | rfl | (simp; done) | (simp [*]; done)),(by first | rfl | (simp; done) | (simp [*]; done)),H',⟨Nat.le_refl _⟩,⟨by first | exact Kd.R_nil _ _ _ _ _ | exact Kd.N_nil _ _ _ _ _ | exact Kd.V_nil _ _ _ _ _ | exact Kd.Q_nil _ _ _ _ _ | exact Kd.S_nil _ _ _ _ _⟩,⟨by repeat (first | (with_reducible first | exact HB.out | apply below_alloc | apply pw_below_drewN | apply below_drew1) | exact HB.out)⟩⟩
 case round =>
  clear H'
  obtain ⟨x3_1,x4_1,x8_1,rfl,rfl,HA,HK1,HO_3,HB⟩:=hrel
  cases gk with
  | zero => exact absurd HA.out (by simp [spec_Rows.l0])
  | succ k1 =>
   have H:=HA.out
   clear HA
   simp only [spec_Rows.l0] at H
   by_cases c2 : x8_1 < (a0.size : Int)
   ·rw [if_pos c2] at H
    have c2b0 : decide (x8_1 < (a0.size : Int)) = true:=decide_eq_true c2
    clear c2
    by_cases c3 : 0 ≤ x8_1
    ·rw [if_pos c3] at H
     have c3b0 : decide (0 ≤ x8_1) = true:=decide_eq_true c3
     clear c3
     by_cases c4 : x8_1 < (a0.size : Int)
     ·rw [if_pos c4] at H
      have c4b0 : decide (x8_1 < (a0.size : Int)) = true:=decide_eq_true c4
      clear c4
      by_cases c6 : (bt a0 x8_1) = 10
      ·rw [if_pos c6] at H
       have c6b0 : ((bt a0 x8_1) == 10) = true:=beq_iff_eq.mpr c6
       have c6b1 : ((bt a0 x8_1) != 10) = false:=bne_eq_false_iff_eq.mpr c6
       clear c6
       by_cases c7 : 0 ≤ x4_1
       ·rw [if_pos c7] at H
        have c7b0:=eq_true c7
        have c7b1 : decide (0 ≤ x4_1) = true:=decide_eq_true c7
        clear c7
        by_cases c8 : x4_1 ≤ (wrap64 (x8_1 + 1))
        ·rw [if_pos c8] at H
         have c8b0:=eq_true c8
         have c8b1 : decide (x4_1 ≤ (wrap64 (x8_1 + 1))) = true:=decide_eq_true c8
         by_cases c9 : (wrap64 (x8_1 + 1)) ≤ (a0.size : Int)
         ·rw [if_pos c9] at H
          have c9b0:=eq_true c9
          have c9b1 : decide ((wrap64 (x8_1 + 1)) ≤ (a0.size : Int)) = true:=decide_eq_true c9
          by_cases c10 : x3_1.length < 8796093022208
          ·rw [if_pos c10] at H
           have LMc10:=Aside0.mk c10
           clear c10
           obtain ⟨y101,hy101⟩ : ∃ y_ : List ByteArray,y_ = (x3_1 ++ [a0.extract (x4_1 : Int).toNat ((wrap64 (x8_1 + 1)) : Int).toNat]):=⟨_,rfl⟩
           replace H : (spec_Rows.l0 k1 a0 y101 (wrap64 (x8_1 + 1)) (a0.size : Int) (wrap64 (x8_1 + 1))) = some r:=by first | (rw [hy101]; with_reducible exact H) | (have H2_:=(Option.bind_some _ _).symm.trans H; rw [hy101]; with_reducible exact H2_) | (have H2_:=(Option.bind_some _ _).symm.trans H; with_reducible exact H2_) | with_reducible exact H | (rw [hy101]; exact H) | exact H
           have Ny101:=Aside0.mk hy101
           clear hy101
           have H':=Aside0.mk H
           clear H
           have p5 : 0 ≤ (x8_1 : Int):=of_decide_eq_true (by first | (with_reducible assumption) | assumption)
           have q5 : x8_1 < (a0.size : Int):=of_decide_eq_true (by first | (with_reducible assumption) | assumption)
           have hx5:=bt_at a0 x8_1
           replace p5:=eq_true p5
           replace q5:=eq_true q5
           go_wp2_with (first | ((with_reducible refine gate_builtin (b:=.append) (xs:=#[.tmp 15,.tmp 21]) rfl ?_); at_builtin; refine Kd.R_append Kd.string (w0:=w) w.heap.size rfl (.tmp 15) (.tmp 21) 28 9 (.string ⟨#[]⟩) 16 rfl Tryz.underlying28 info9 rfl (by decide) (by omega) u3 x3_1 (a0.extract (x4_1 : Int).toNat ((wrap64 (x8_1 + 1)) : Int).toNat) [.string (a0.extract (x4_1 : Int).toNat ((wrap64 (x8_1 + 1)) : Int).toNat)] (fun _ => True) (fun _ => False) rfl rfl ?aP (fun _ hk => hk.elim) ?aF ?aO ?aB ?aS ?aL ?_; (case aP => exact rfl); (case aB => exact (by repeat (first | (with_reducible first | exact HB.out | apply below_alloc | apply pw_below_drewN | apply below_drew1) | exact HB.out))); (case aF => exact (fun _ _ => trivial)); (case aO => exact (by (with_reducible repeat (first | apply Kd.R_alloc | apply Kd.R_drewN | apply Kd.R_drew)); exact HO_3.out)); (case aS => exact (below_size (by repeat (first | (with_reducible first | exact HB.out | apply below_alloc | apply pw_below_drewN | apply below_drew1) | exact HB.out)))); (case aL => have:=LMc10.out; omega); intro v102 w11 ho hb hg hat; rw [← Ny101.out] at ho; have n0_:=Aside0.mk (hb); have n1_:=Aside0.mk (ho); clear HB; clear HO_3; have HB:=n0_; have HO103:=n1_; clear n0_ n1_; clear ho hb hg hat))
           go_roundg k1
           case measure => have:=HK1.out; omega
           case rel => exact ⟨(y101),(wrap64 (x8_1 + 1)),(wrap64 (x8_1 + 1)),(by first | rfl | (simp; done) | (simp [*]; done)),(by first | rfl | (simp; done) | (simp [*]; done)),H',⟨by have:=HK1.out; omega⟩,⟨by (with_reducible repeat (first | apply Kd.R_alloc | apply Kd.R_drewN | apply Kd.R_drew)); exact HO103.out⟩,⟨by repeat (first | (with_reducible first | exact HB.out | apply below_alloc | apply pw_below_drewN | apply below_drew1) | exact HB.out)⟩⟩
          ·rw [if_neg c10] at H
           exact absurd H (by simp)
         ·rw [if_neg c9] at H
          exact absurd H (by simp)
        ·rw [if_neg c8] at H
         exact absurd H (by simp)
       ·rw [if_neg c7] at H
        exact absurd H (by simp)
      ·rw [if_neg c6] at H
       have c6b0 : ((bt a0 x8_1) == 10) = false:=beq_eq_false_iff_ne.mpr c6
       have c6b1 : ((bt a0 x8_1) != 10) = true:=bne_iff_ne.mpr c6
       have H':=Aside0.mk H
       clear H
       have p5 : 0 ≤ (x8_1 : Int):=of_decide_eq_true (by first | (with_reducible assumption) | assumption)
       have q5 : x8_1 < (a0.size : Int):=of_decide_eq_true (by first | (with_reducible assumption) | assumption)
       have hx5:=bt_at a0 x8_1
       replace p5:=eq_true p5
       replace q5:=eq_true q5
       go_wp2
       go_roundg k1
       case measure => have:=HK1.out; omega
       case rel => exact ⟨(x3_1),(x4_1),(wrap64 (x8_1 + 1)),(by first | rfl | (simp; done) | (simp [*]; done)),(by first | rfl | (simp; done) | (simp [*]; done)),H',⟨by have:=HK1.out; omega⟩,⟨by (with_reducible repeat (first | apply Kd.R_alloc | apply Kd.R_drewN | apply Kd.R_drew)); exact HO_3.out⟩,⟨by repeat (first | (with_reducible first | exact HB.out | apply below_alloc | apply pw_below_drewN | apply below_drew1) | exact HB.out)⟩⟩
     ·rw [if_neg c4] at H
      exact absurd H (by simp)
    ·rw [if_neg c3] at H
     exact absurd H (by simp)
   ·rw [if_neg c2] at H
    have c2b0 : decide (x8_1 < (a0.size : Int)) = false:=decide_eq_false c2
    clear c2
    by_cases c12 : x4_1 < (a0.size : Int)
    ·rw [if_pos c12] at H
     have c12b0 : decide (x4_1 < (a0.size : Int)) = true:=decide_eq_true c12
     clear c12
     by_cases c13 : 0 ≤ x4_1
     ·rw [if_pos c13] at H
      have c13b0:=eq_true c13
      have c13b1 : decide (0 ≤ x4_1) = true:=decide_eq_true c13
      clear c13
      by_cases c14 : x4_1 ≤ (a0.size : Int)
      ·rw [if_pos c14] at H
       have c14b0:=eq_true c14
       have c14b1 : decide (x4_1 ≤ (a0.size : Int)) = true:=decide_eq_true c14
       clear c14
       by_cases c15 : x3_1.length < 8796093022208
       ·rw [if_pos c15] at H
        have LMc15:=Aside0.mk c15
        clear c15
        obtain ⟨y104,hy104⟩ : ∃ y_ : List ByteArray,y_ = (x3_1 ++ [a0.extract (x4_1 : Int).toNat a0.size]):=⟨_,rfl⟩
        replace H : (some y104) = some r:=by first | (rw [hy104]; with_reducible exact H) | (have H2_:=(Option.bind_some _ _).symm.trans H; rw [hy104]; with_reducible exact H2_) | (have H2_:=(Option.bind_some _ _).symm.trans H; with_reducible exact H2_) | with_reducible exact H | (rw [hy104]; exact H) | exact H
        have Ny104:=Aside0.mk hy104
        clear hy104
        obtain rfl:=Option.some.inj H
        go_wp2_with (first | ((with_reducible refine gate_builtin (b:=.append) (xs:=#[.tmp 30,.tmp 34]) rfl ?_); at_builtin; refine Kd.R_append Kd.string (w0:=w) w.heap.size rfl (.tmp 30) (.tmp 34) 28 9 (.string ⟨#[]⟩) 16 rfl Tryz.underlying28 info9 rfl (by decide) (by omega) u3 x3_1 (a0.extract (x4_1 : Int).toNat a0.size) [.string (a0.extract (x4_1 : Int).toNat a0.size)] (fun _ => True) (fun _ => False) rfl rfl ?aP (fun _ hk => hk.elim) ?aF ?aO ?aB ?aS ?aL ?_; (case aP => exact rfl); (case aB => exact (by repeat (first | (with_reducible first | exact HB.out | apply below_alloc | apply pw_below_drewN | apply below_drew1) | exact HB.out))); (case aF => exact (fun _ _ => trivial)); (case aO => exact (by (with_reducible repeat (first | apply Kd.R_alloc | apply Kd.R_drewN | apply Kd.R_drew)); exact HO_3.out)); (case aS => exact (below_size (by repeat (first | (with_reducible first | exact HB.out | apply below_alloc | apply pw_below_drewN | apply below_drew1) | exact HB.out)))); (case aL => have:=LMc15.out; omega); intro v105 w16 ho hb hg hat; rw [← Ny104.out] at ho; have n0_:=Aside0.mk (hb); have n1_:=Aside0.mk (ho); clear HB; clear HO_3; have HB:=n0_; have HO106:=n1_; clear n0_ n1_; clear ho hb hg hat))
        go_ret
        exact ⟨_,by first | rfl | (simp [errW_none,errW_some] <;> rfl) | (simp [*,errW_none,errW_some] <;> rfl),by (with_reducible repeat (first | apply Kd.R_alloc | apply Kd.R_drewN | apply Kd.R_drew)); exact HO106.out,by repeat (first | (with_reducible first | exact HB.out | apply below_alloc | apply pw_below_drewN | apply below_drew1) | exact HB.out)⟩
       ·rw [if_neg c15] at H
        exact absurd H (by simp)
      ·rw [if_neg c14] at H
       exact absurd H (by simp)
     ·rw [if_neg c13] at H
      exact absurd H (by simp)
    ·rw [if_neg c12] at H
     have c12b0 : decide (x4_1 < (a0.size : Int)) = false:=decide_eq_false c12
     clear c12
     obtain rfl:=Option.some.inj H
     go_wp2
     go_ret
     exact ⟨_,by first | rfl | (simp [errW_none,errW_some] <;> rfl) | (simp [*,errW_none,errW_some] <;> rfl),by (with_reducible repeat (first | apply Kd.R_alloc | apply Kd.R_drewN | apply Kd.R_drew)); exact HO_3.out,by repeat (first | (with_reducible first | exact HB.out | apply below_alloc | apply pw_below_drewN | apply below_drew1) | exact HB.out)⟩
end Go.Proofs.YtplbifmjnanceaaGreatDoor.PRows
end
section
namespace Go.Proofs.YtplbifmjnanceaaGreatDoor
open Go.RowKit Go.Proofs.YtplbifmjnanceaaGreatDoorW.PrintWords Go.Proofs.YtplbifmjnanceaaGreatDoorW.PrintLast Go.Proofs.YtplbifmjnanceaaGreatDoorW.PrintMore
open Go.Proofs.YtplbifmjnanceaaGreatDoor.Plines
set_option linter.unusedVariables false
def spl (acc : List UInt8) : List UInt8 → List (List UInt8)
 | [] => [acc]
 | b :: t => if b = 10 then (acc ++ [b]) :: spl [] t else spl (acc ++ [b]) t
def mkB (l : List UInt8) : ByteArray:=⟨l.toArray⟩
theorem extract_seg (s : ByteArray) (i j : Nat) (h : j ≤ s.size) : s.extract i j = mkB ((s.data.toList.drop i).take (j - i)):=by
 apply ByteArray.ext
 apply Array.toList_inj.1
 simp [mkB,ByteArray.data_extract,Array.toList_extract,List.extract_eq_drop_take']
theorem zzLines_l0 (s : ByteArray) (hs : s.size ≤ 1048576) : ∀ (k : Nat) (x3 : List ByteArray) (i j : Nat),i ≤ j → j ≤ s.size → s.size - j < k → x3.length ≤ j →
  diff_zzLines.l0 k s x3 (i : Int) (j : Int) = some (x3 ++ (spl ((s.data.toList.drop i).take (j - i)) (s.data.toList.drop j)).map mkB):=by
 intro k
 induction k with
 | zero => intro x3 i j _ _ h; omega
 | succ k ih =>
  intro x3 i j h1 h2 h3 h4
  unfold diff_zzLines.l0
  have e1 : wrap64 ((j : Int) + 1) = ((j + 1 : Nat) : Int):=by unfold wrap64; omega
  by_cases c : j < s.size
  ·rw [if_pos (by omega),if_pos (by omega)]
   have hl : j < s.data.toList.length:=c
   have hd : s.data.toList.drop j = s.data.toList[j] :: s.data.toList.drop (j + 1):=List.drop_eq_getElem_cons hl
   have ht : (s.data.toList.drop i).take (j + 1 - i) = (s.data.toList.drop i).take (j - i) ++ [s.data.toList[j]]:=by
    rw [show j + 1 - i = (j - i) + 1 by omega,List.take_add_one,List.getElem?_drop,show i + (j - i) = j by omega,List.getElem?_eq_getElem hl]
    rfl
   have hb : bt s (j : Int) = (s.data.toList[j].toNat : Int):=by
    unfold bt
    rw [dif_pos (by simpa using c)]
    rfl
   rw [hd,hb]
   by_cases n : s.data.toList[j] = 10
   ·rw [n] at ht
    rw [if_pos (by rw [n]; rfl),if_pos (by omega),e1,if_pos (by omega),if_pos (by omega),if_pos (by omega),ih _ (j + 1) (j + 1) (Nat.le_refl _) c (by omega) (by simp; omega)]
    simp only [Int.toNat_natCast,spl,n,if_true]
    rw [extract_seg s i (j + 1) c,ht]
    simp
   ·have nn : ¬ ((s.data.toList[j].toNat : Nat) : Int) = 10:=by
     intro e
     apply n
     apply UInt8.toNat_inj.1
     show s.data.toList[j].toNat = 10
     omega
    rw [if_neg nn,e1,ih _ i (j + 1) (by omega) c (by omega) (by omega),ht]
    simp only [spl,n,if_false]
  ·have ej : j = s.size:=by omega
   rw [if_neg (by omega),if_pos (by omega),if_pos (by omega),if_pos (by omega)]
   have hd : s.data.toList.drop j = []:=List.drop_eq_nil_of_le (by rw [ej]; exact Nat.le_refl _)
   rw [hd]
   simp only [Int.toNat_natCast,spl,List.map_cons,List.map_nil]
   rw [extract_seg s i s.size (Nat.le_refl _),ej]
def msg : List UInt8:=[10,92,32,78,111,32,110,101,119,108,105,110,101,32,97,116,32,101,110,100,32,111,102,32,102,105,108,101,10]
def lns (acc : List UInt8) : List UInt8 → List (List UInt8)
 | [] => if acc = [] then [] else [acc ++ msg]
 | b :: t => if b = 10 then (acc ++ [b]) :: lns [] t else lns (acc ++ [b]) t
def rws (acc : List UInt8) : List UInt8 → List (List UInt8)
 | [] => if acc = [] then [] else [acc]
 | b :: t => if b = 10 then (acc ++ [b]) :: rws [] t else rws (acc ++ [b]) t
theorem spl_parts (l : List UInt8) : ∀ acc,∃ full last,spl acc l = full ++ [last] ∧ lns acc l = full ++ (if last = [] then [] else [last ++ msg]) ∧ rws acc l = full ++ (if last = [] then [] else [last]):=by
 induction l with
 | nil => intro acc; exact ⟨[],acc,rfl,rfl,rfl⟩
 | cons b t ih =>
  intro acc
  by_cases h : b = 10
  ·obtain ⟨f,la,h1,h2,h3⟩:=ih []
   refine ⟨(acc ++ [b]) :: f,la,?_,?_,?_⟩
   ·simp [spl,h,h1]
   ·simp [lns,h,h2]
   ·simp [rws,h,h3]
  ·obtain ⟨f,la,h1,h2,h3⟩:=ih (acc ++ [b])
   exact ⟨f,la,by simp [spl,h,h1],by simp [lns,h,h2],by simp [rws,h,h3]⟩
theorem rows_l0 (s : ByteArray) (hs : s.size ≤ 1099511627776) : ∀ (k : Nat) (x3 : List ByteArray) (i j : Nat),i ≤ j → j ≤ s.size → s.size - j < k → x3.length ≤ j →
  PRows.spec_Rows.l0 k s x3 (i : Int) (s.size : Int) (j : Int) = some (x3 ++ (rws ((s.data.toList.drop i).take (j - i)) (s.data.toList.drop j)).map mkB):=by
 intro k
 induction k with
 | zero => intro x3 i j _ _ h; omega
 | succ k ih =>
  intro x3 i j h1 h2 h3 h4
  unfold PRows.spec_Rows.l0
  have e1 : wrap64 ((j : Int) + 1) = ((j + 1 : Nat) : Int):=by unfold wrap64; omega
  by_cases c : j < s.size
  ·rw [if_pos (by omega),if_pos (by omega),if_pos (by omega)]
   have hl : j < s.data.toList.length:=c
   have hd : s.data.toList.drop j = s.data.toList[j] :: s.data.toList.drop (j + 1):=List.drop_eq_getElem_cons hl
   have ht : (s.data.toList.drop i).take (j + 1 - i) = (s.data.toList.drop i).take (j - i) ++ [s.data.toList[j]]:=by
    rw [show j + 1 - i = (j - i) + 1 by omega,List.take_add_one,List.getElem?_drop,show i + (j - i) = j by omega,List.getElem?_eq_getElem hl]
    rfl
   have hb : bt s (j : Int) = (s.data.toList[j].toNat : Int):=by
    unfold bt
    rw [dif_pos (by simpa using c)]
    rfl
   rw [hd,hb]
   by_cases n : s.data.toList[j] = 10
   ·rw [n] at ht
    rw [if_pos (by rw [n]; rfl),if_pos (by omega),e1,if_pos (by omega),if_pos (by omega),if_pos (by omega),ih _ (j + 1) (j + 1) (Nat.le_refl _) c (by omega) (by simp; omega)]
    simp only [Int.toNat_natCast,rws,n,if_true]
    rw [extract_seg s i (j + 1) c,ht]
    simp
   ·have nn : ¬ ((s.data.toList[j].toNat : Nat) : Int) = 10:=by
     intro e
     apply n
     apply UInt8.toNat_inj.1
     show s.data.toList[j].toNat = 10
     omega
    rw [if_neg nn,e1,ih _ i (j + 1) (by omega) c (by omega) (by omega),ht]
    simp only [rws,n,if_false]
  ·have ej : j = s.size:=by omega
   have hd : s.data.toList.drop j = []:=List.drop_eq_nil_of_le (by rw [ej]; exact Nat.le_refl _)
   rw [if_neg (by omega),hd]
   have hle : ((s.data.toList.drop i).take (j - i)).length = j - i:=by
    rw [List.length_take,List.length_drop,show s.data.toList.length = s.size from rfl]; omega
   by_cases ci : i < s.size
   ·rw [if_pos (by omega),if_pos (by omega),if_pos (by omega),if_pos (by omega)]
    have hne : ¬ (s.data.toList.drop i).take (j - i) = []:=fun e => by rw [e] at hle; simp at hle; omega
    simp only [Int.toNat_natCast,rws,hne,if_false,List.map_cons,List.map_nil]
    rw [extract_seg s i s.size (Nat.le_refl _),ej]
   ·rw [if_neg (by omega)]
    have hne : (s.data.toList.drop i).take (j - i) = []:=List.eq_nil_of_length_eq_zero (by omega)
    simp [rws,hne]
theorem strOf_bytesOf (s : ByteArray) : strOfNums (bytesOf s) = s:=by
 apply ByteArray.ext
 apply Array.toList_inj.1
 rw [strOfNums_data]
 unfold bytesOf
 rw [List.map_map]
 conv => rhs; rw [← List.map_id s.data.toList]
 apply List.map_congr_left
 intro b _
 simp
theorem spl_len (l : List UInt8) : ∀ acc,(spl acc l).length ≤ l.length + 1:=by
 induction l with
 | nil => intro acc; simp [spl]
 | cons b t ih =>
  intro acc
  by_cases h : b = 10
  ·have:=ih []; simp [spl,h]; omega
  ·have:=ih (acc ++ [b]); simp [spl,h]; omega
theorem spl_last (l : List UInt8) : ∀ acc,∀ p ∈ spl acc l,p.length ≤ acc.length + l.length:=by
 induction l with
 | nil => intro acc p hp; simp [spl] at hp; subst hp; simp
 | cons b t ih =>
  intro acc p hp
  by_cases h : b = 10
  ·simp [spl,h] at hp
   rcases hp with rfl | hp
   ·simp
   ·have:=ih [] p hp; simp at this ⊢; omega
  ·simp [spl,h] at hp
   have:=ih _ p hp; simp at this ⊢; omega
theorem lines_f (s : ByteArray) (hs : s.size ≤ 1048576) (k : Nat) (hk : s.size < k) : diff_lines.f k (bytesOf s) = some ((lns [] s.data.toList).map mkB):=by
 unfold diff_lines.f
 have hz : diff_zzLines.f k (strOfNums (bytesOf s)) = some ((spl [] s.data.toList).map mkB):=by
  rw [strOf_bytesOf]
  have:=zzLines_l0 s hs k [] 0 0 (Nat.le_refl _) (Nat.zero_le _) (by omega) (Nat.zero_le _)
  simpa [diff_zzLines.f] using this
 rw [hz]
 obtain ⟨f,la,h1,h2,h3⟩:=spl_parts s.data.toList []
 have hl:=spl_len s.data.toList []
 have hla:=spl_last s.data.toList [] la (by rw [h1]; simp)
 rw [h1] at hl
 have hsz : s.data.toList.length = s.size:=rfl
 simp only [List.length_append,List.length_cons,List.length_nil,hsz] at hl hla
 rw [h1,h2]
 have e1 : wrap64 (((f.length + 1 : Nat) : Int) - 1) = (f.length : Int):=by unfold wrap64; omega
 simp only [Option.bind_some,List.map_append,List.map_cons,List.map_nil,List.length_append,List.length_map,List.length_cons,List.length_nil,Nat.zero_add,e1]
 have er : rdOf ByteArray.empty (f.map mkB ++ [mkB la]) (f.length : Int) = mkB la:=by
  simp [rdOf]
 rw [if_pos (by omega),if_pos (by omega),er]
 by_cases h0 : la = []
 ·subst h0
  rw [if_pos (by simp [mkB,ByteArray.toList_eq]),if_pos (by omega)]
  simp
 ·rw [if_neg (by simpa [mkB,ByteArray.toList_eq] using h0),if_pos (by simp [mkB,ByteArray.size]; omega),if_neg h0]
  congr 1
  simp [mkB,msg]
  apply ByteArray.ext
  simp
end Go.Proofs.YtplbifmjnanceaaGreatDoor
end
section
namespace Go.Proofs.YtplbifmjnanceaaGreatDoor
set_option linter.unusedVariables false
def mk (r : List UInt8) : List UInt8:=if r.getLast? = some 10 then r else r ++ msg
def Row (r : List UInt8) : Prop:=r ≠ [] ∧ (10 : UInt8) ∉ r.dropLast
theorem lns_rws (l : List UInt8) : ∀ acc,(10 : UInt8) ∉ acc → lns acc l = (rws acc l).map mk:=by
 induction l with
 | nil =>
  intro acc ha
  by_cases h : acc = []
  ·simp [lns,rws,h]
  ·have : acc.getLast? ≠ some 10:=fun e => ha (List.mem_of_getLast? e)
   simp [lns,rws,h,mk,this]
 | cons b t ih =>
  intro acc ha
  by_cases h : b = 10
  ·simp [lns,rws,h,mk,ih [] (by simp)]
  ·simp [lns,rws,h,ih (acc ++ [b]) (by simp; exact ⟨ha,fun e => h e.symm⟩)]
theorem rws_row (l : List UInt8) : ∀ acc,(10 : UInt8) ∉ acc → ∀ r ∈ rws acc l,Row r:=by
 induction l with
 | nil =>
  intro acc ha r hr
  by_cases h : acc = []
  ·simp [rws,h] at hr
  ·simp [rws,h] at hr
   subst hr
   exact ⟨h,fun e => ha (List.dropLast_subset _ e)⟩
 | cons b t ih =>
  intro acc ha r hr
  by_cases h : b = 10
  ·simp [rws,h] at hr
   rcases hr with rfl | hr
   ·exact ⟨by simp,by simpa using ha⟩
   ·exact ih [] (by simp) r hr
  ·simp [rws,h] at hr
   exact ih (acc ++ [b]) (by simp; exact ⟨ha,fun e => h e.symm⟩) r hr
theorem rws_append (b : List UInt8) : ∀ (a acc : List UInt8),a.getLast? = some 10 → rws acc (a ++ b) = rws acc a ++ rws [] b:=by
 intro a
 induction a with
 | nil => intro acc h; simp at h
 | cons c t ih =>
  intro acc h
  by_cases ht : t = []
  ·subst ht
   simp at h
   simp [rws,h]
  ·have h' : t.getLast? = some 10:=by
    rw [List.getLast?_cons] at h
    cases e : t.getLast? with
    | none => exact absurd (List.getLast?_eq_none_iff.1 e) ht
    | some q => rw [e] at h; simpa using h
   by_cases hc : c = 10
   ·simp [rws,hc,ih [] h']
   ·simp [rws,hc,ih (acc ++ [c]) h']
theorem rws_one (l : List UInt8) (h : (10 : UInt8) ∉ l) : ∀ acc,rws acc (l ++ [10]) = [acc ++ l ++ [10]]:=by
 induction l with
 | nil => intro acc; simp [rws]
 | cons c t ih =>
  intro acc
  have hc : ¬ c = 10:=fun e => h (by simp [e])
  have:=ih (fun e => h (List.mem_cons_of_mem _ e)) (acc ++ [c])
  simp [rws,hc,this]
def unm (l : List UInt8) : List UInt8:=if 29 ≤ l.length ∧ l.drop (l.length - 29) = msg then l.take (l.length - 29) else l
theorem unm_mk {r : List UInt8} (hr : Row r) : unm (mk r) = r:=by
 unfold unm mk
 by_cases h : r.getLast? = some 10
 ·rw [if_pos h,if_neg]
  rintro ⟨h1,h2⟩
  apply hr.2
  have e : r = r.take (r.length - 29) ++ msg:=by rw [← h2,List.take_append_drop]
  rw [e,List.dropLast_append_of_ne_nil (by simp [msg])]
  simp [msg]
 ·rw [if_neg h,if_pos]
  ·simp [msg]
  ·simp [msg]
def remark : List UInt8:=msg.tail
def lineRows (p : UInt8 × List UInt8) : List (List UInt8):=if p.2.getLast? = some 10 then [p.1 :: p.2] else [p.1 :: (p.2 ++ [10]),remark]
theorem rws_line {sg : UInt8} {r : List UInt8} (hr : Row r) (hs : sg ≠ 10) : rws [] (sg :: mk r) = lineRows (sg,r):=by
 unfold lineRows mk
 by_cases h : r.getLast? = some 10
 ·simp only [h,if_true]
  obtain ⟨q,hq⟩ : ∃ q,r = q ++ [10]:=by
   obtain ⟨q,hq⟩:=List.getLast?_eq_some_iff.1 h
   exact ⟨q,hq⟩
  have hn : (10 : UInt8) ∉ q:=by have:=hr.2; rw [hq] at this; simpa using this
  rw [hq]
  have:=rws_one (sg :: q) (by simp; exact ⟨fun e => hs e.symm,hn⟩) []
  simpa using this
 ·simp only [h,if_false]
  have hn : (10 : UInt8) ∉ r:=by
   intro e
   rcases List.eq_nil_or_concat r with h0 | ⟨q,a,h0⟩
   ·exact hr.1 h0
   ·have h2:=hr.2
    rw [h0] at h2 e h
    simp at h2 e h
    rcases e with e | e
    ·exact h2 e
    ·exact h e.symm
  have e1 : sg :: (r ++ msg) = ((sg :: r) ++ [10]) ++ remark:=by simp [msg,remark]
  rw [e1,rws_append _ _ _ (List.getLast?_concat),rws_one (sg :: r) (by simp; exact ⟨fun e => hs e.symm,hn⟩) []]
  have e2 : rws [] remark = [remark]:=by decide
  rw [e2]
  simp
end Go.Proofs.YtplbifmjnanceaaGreatDoor
end
section
namespace Go.Proofs.YtplbifmjnanceaaGreatDoor.Pnumber
open Go.RowKit Go.Proofs.YtplbifmjnanceaaGreatDoorW.PrintWords Go.Proofs.YtplbifmjnanceaaGreatDoorW.PrintLast Go.Proofs.YtplbifmjnanceaaGreatDoorW.PrintMore
attribute [local go_sem] max2_int min2_int max_two min_two max_three min_three max_four min_four
set_option linter.unusedVariables false
set_option linter.unusedSimpArgs false
def errW : Option Int → Value
 | none => .nilIface
 | some c => .iface 0 (.int .i64 c)
theorem errW_none : errW none = .nilIface:=rfl
theorem errW_some (c : Int) : errW (some c) = .iface 0 (.int .i64 c):=rfl
end Go.Proofs.YtplbifmjnanceaaGreatDoor.Pnumber
end
section
namespace Go.Proofs.YtplbifmjnanceaaGreatDoor.Pnumber
open Go.RowKit Go.Proofs.YtplbifmjnanceaaGreatDoorW.PrintWords Go.Proofs.YtplbifmjnanceaaGreatDoorW.PrintLast Go.Proofs.YtplbifmjnanceaaGreatDoorW.PrintMore
attribute [local go_sem] max2_int min2_int max_two min_two max_three min_three max_four min_four
set_option linter.unusedVariables false
set_option linter.unusedSimpArgs false
def spec_number.l0 : Nat → ByteArray → Int → Int → Option (Int × ByteArray)
 | 0,_,_,_ => none
 | k + 1,x0,x4,x5 => if x5 < (x0.size : Int) then (if x5 < 9 then (if 0 ≤ x5 then (if (bt x0 x5) ≥ 48 then (if (bt x0 x5) ≤ 57 then (spec_number.l0 k x0 (wrap64 ((wrap64 (10 * x4)) + (((bt x0 x5) - 48) % 256))) (wrap64 (x5 + 1))) else (if x5 = 0 then (some ((-1),x0)) else (if x5 > 1 then (if 0 < (x0.size : Int) then (if (bt x0 0) = 48 then (some ((-1),x0)) else (if x5 ≤ (x0.size : Int) then (some (x4,x0.extract (x5 : Int).toNat x0.size)) else (none))) else (none)) else (if x5 ≤ (x0.size : Int) then (some (x4,x0.extract (x5 : Int).toNat x0.size)) else (none))))) else (if x5 = 0 then (some ((-1),x0)) else (if x5 > 1 then (if 0 < (x0.size : Int) then (if (bt x0 0) = 48 then (some ((-1),x0)) else (if x5 ≤ (x0.size : Int) then (some (x4,x0.extract (x5 : Int).toNat x0.size)) else (none))) else (none)) else (if x5 ≤ (x0.size : Int) then (some (x4,x0.extract (x5 : Int).toNat x0.size)) else (none))))) else (none)) else (if x5 = 0 then (some ((-1),x0)) else (if x5 > 1 then (if 0 < (x0.size : Int) then (if (bt x0 0) = 48 then (some ((-1),x0)) else (if 0 ≤ x5 then (if x5 ≤ (x0.size : Int) then (some (x4,x0.extract (x5 : Int).toNat x0.size)) else (none)) else (none))) else (none)) else (if 0 ≤ x5 then (if x5 ≤ (x0.size : Int) then (some (x4,x0.extract (x5 : Int).toNat x0.size)) else (none)) else (none))))) else (if x5 = 0 then (some ((-1),x0)) else (if x5 > 1 then (if 0 < (x0.size : Int) then (if (bt x0 0) = 48 then (some ((-1),x0)) else (if 0 ≤ x5 then (if x5 ≤ (x0.size : Int) then (some (x4,x0.extract (x5 : Int).toNat x0.size)) else (none)) else (none))) else (none)) else (if 0 ≤ x5 then (if x5 ≤ (x0.size : Int) then (some (x4,x0.extract (x5 : Int).toNat x0.size)) else (none)) else (none))))
def spec_number.f (k : Nat) (a0 : ByteArray) : Option (Int × ByteArray):=spec_number.l0 k a0 0 0
theorem spec_number.mono_l : ∀ k,(∀ y0 y1 y2,LeO (spec_number.l0 k y0 y1 y2) (spec_number.l0 (k + 1) y0 y1 y2))
 | 0 => fun _ _ _ r h => by simp [spec_number.l0] at h
 | k + 1 => by
  have ih0:=spec_number.mono_l k
  ·intro y0 y1 y2
   unfold spec_number.l0
   repeat' first
   | (with_reducible exact ih0 _ _ _)
   | (with_reducible exact LeO.refl _)
   | (with_reducible exact LeO.none _)
   | (with_reducible refine LeO.ite ?_ ?_)
   | (with_reducible refine LeO.bind ?_ (fun _ => ?_))
   | exact ih0 _ _ _
   | exact LeO.none _
   | refine LeO.ite ?_ ?_
   | refine LeO.bind ?_ (fun _ => ?_)
theorem spec_number.mono : ∀ a0 k,LeO (spec_number.f k a0) (spec_number.f (k + 1) a0):=by
 intro a0 k
 have ih0:=spec_number.mono_l k
 unfold spec_number.f
 repeat' first
   | (with_reducible exact ih0 _ _ _)
   | (with_reducible exact LeO.refl _)
   | (with_reducible exact LeO.none _)
   | (with_reducible refine LeO.ite ?_ ?_)
   | (with_reducible refine LeO.bind ?_ (fun _ => ?_))
   | exact ih0 _ _ _
   | exact LeO.none _
   | refine LeO.ite ?_ ?_
   | refine LeO.bind ?_ (fun _ => ?_)
set_option maxHeartbeats 8000000 in
set_option maxRecDepth 100000 in
theorem spec_number.calls (k : Nat) (a0 : ByteArray) (r1 : Int) (r2 : ByteArray) (w : World) (h : spec_number.f k a0 = some (r1,r2)) :
  Calls Tryz.prog 59 #[.string a0] w fun e w' => e = .returned (.tuple #[.int .i64 r1,.string r2]) ∧ Drawn0 w w':=by
 have H : (spec_number.l0 k a0 0 0) = some (r1,r2):=h
 clear h
 have H':=Aside0.mk H
 clear H
 go_enter Tryz.func59,Tryz.ntmps59
 go_wp2
 repeat (go_quiet (fail); try go_wp2)
 go_loopg [4,5] k (fun kq v4 v5 w' => ∃ (x4_1 : Int) (x5_1 : Int),v4 = .int .i64 x4_1 ∧ v5 = .int .i64 x5_1 ∧ Aside0 (spec_number.l0 kq a0 x4_1 x5_1 = some (r1,r2)) ∧ Aside0 (kq ≤ k) ∧ Drawn0 w w')
 case atStart => exact ⟨(0),(0),(by first | rfl | (simp; done) | (simp [*]; done)),(by first | rfl | (simp; done) | (simp [*]; done)),H',⟨Nat.le_refl _⟩,by repeat (first | exact Drawn0.refl _ | apply Drawn0.step)⟩
 case round =>
  clear H'
  obtain ⟨x4_1,x5_1,rfl,rfl,HA,HK1,⟨m1,rfl⟩⟩:=hrel
  cases gk with
  | zero => exact absurd HA.out (by simp [spec_number.l0])
  | succ k1 =>
   have H:=HA.out
   clear HA
   simp only [spec_number.l0] at H
   by_cases c2 : x5_1 < (a0.size : Int)
   ·rw [if_pos c2] at H
    have c2b0 : decide (x5_1 < (a0.size : Int)) = true:=decide_eq_true c2
    clear c2
    by_cases c3 : x5_1 < 9
    ·rw [if_pos c3] at H
     have c3b0 : decide (x5_1 < 9) = true:=decide_eq_true c3
     clear c3
     by_cases c4 : 0 ≤ x5_1
     ·rw [if_pos c4] at H
      have c4b0 : decide (0 ≤ x5_1) = true:=decide_eq_true c4
      clear c4
      by_cases c6 : (bt a0 x5_1) ≥ 48
      ·rw [if_pos c6] at H
       have c6b0 : decide (48 ≤ (bt a0 x5_1)) = true:=decide_eq_true c6
       clear c6
       by_cases c8 : (bt a0 x5_1) ≤ 57
       ·rw [if_pos c8] at H
        have c8b0 : decide ((bt a0 x5_1) ≤ 57) = true:=decide_eq_true c8
        clear c8
        have H':=Aside0.mk H
        clear H
        have p5 : 0 ≤ (x5_1 : Int):=of_decide_eq_true (by first | (with_reducible assumption) | assumption)
        have q5 : x5_1 < (a0.size : Int):=of_decide_eq_true (by first | (with_reducible assumption) | assumption)
        have hx5:=bt_at a0 x5_1
        replace p5:=eq_true p5
        replace q5:=eq_true q5
        have p7 : 0 ≤ (x5_1 : Int):=of_decide_eq_true (by first | (with_reducible assumption) | assumption)
        have q7 : x5_1 < (a0.size : Int):=of_decide_eq_true (by first | (with_reducible assumption) | assumption)
        have hx7:=bt_at a0 x5_1
        replace p7:=eq_true p7
        replace q7:=eq_true q7
        have p9 : 0 ≤ (x5_1 : Int):=of_decide_eq_true (by first | (with_reducible assumption) | assumption)
        have q9 : x5_1 < (a0.size : Int):=of_decide_eq_true (by first | (with_reducible assumption) | assumption)
        have hx9:=bt_at a0 x5_1
        replace p9:=eq_true p9
        replace q9:=eq_true q9
        go_wp2
        repeat (go_quiet (fail); try go_wp2)
        go_roundg k1
        case measure => have:=HK1.out; omega
        case rel => exact ⟨(wrap64 ((wrap64 (10 * x4_1)) + (((bt a0 x5_1) - 48) % 256))),(wrap64 (x5_1 + 1)),(by first | rfl | (simp; done) | (simp [*]; done)),(by first | rfl | (simp; done) | (simp [*]; done)),H',⟨by have:=HK1.out; omega⟩,by repeat (first | exact Drawn0.refl _ | apply Drawn0.step)⟩
       ·rw [if_neg c8] at H
        have c8b0 : decide ((bt a0 x5_1) ≤ 57) = false:=decide_eq_false c8
        clear c8
        by_cases c10 : x5_1 = 0
        ·rw [if_pos c10] at H
         have c10b0 : (x5_1 == 0) = true:=beq_iff_eq.mpr c10
         have c10b1 : (x5_1 != 0) = false:=bne_eq_false_iff_eq.mpr c10
         clear c10
         simp only [Option.some.injEq,Prod.mk.injEq] at H
         obtain ⟨rfl,rfl⟩:=H
         have p5 : 0 ≤ (x5_1 : Int):=of_decide_eq_true (by first | (with_reducible assumption) | assumption)
         have q5 : x5_1 < (a0.size : Int):=of_decide_eq_true (by first | (with_reducible assumption) | assumption)
         have hx5:=bt_at a0 x5_1
         replace p5:=eq_true p5
         replace q5:=eq_true q5
         have p7 : 0 ≤ (x5_1 : Int):=of_decide_eq_true (by first | (with_reducible assumption) | assumption)
         have q7 : x5_1 < (a0.size : Int):=of_decide_eq_true (by first | (with_reducible assumption) | assumption)
         have hx7:=bt_at a0 x5_1
         replace p7:=eq_true p7
         replace q7:=eq_true q7
         go_wp2
         repeat (go_quiet (fail); try go_wp2)
         go_ret2
         exact ⟨by first | rfl | (simp; done) | (simp [*]; done),by repeat (first | exact Drawn0.refl _ | apply Drawn0.step)⟩
        ·rw [if_neg c10] at H
         have c10b0 : (x5_1 == 0) = false:=beq_eq_false_iff_ne.mpr c10
         have c10b1 : (x5_1 != 0) = true:=bne_iff_ne.mpr c10
         by_cases c11 : x5_1 > 1
         ·rw [if_pos c11] at H
          have c11b0 : decide (1 < x5_1) = true:=decide_eq_true c11
          clear c11
          by_cases c12 : 0 < (a0.size : Int)
          ·rw [if_pos c12] at H
           have c12b0 : decide (0 < (a0.size : Int)) = true:=decide_eq_true c12
           have c12b1 : decide (0 < a0.size) = true:=decide_eq_true (by omega)
           clear c12
           by_cases c14 : (bt a0 0) = 48
           ·rw [if_pos c14] at H
            have c14b0 : ((bt a0 0) == 48) = true:=beq_iff_eq.mpr c14
            have c14b1 : ((bt a0 0) != 48) = false:=bne_eq_false_iff_eq.mpr c14
            clear c14
            simp only [Option.some.injEq,Prod.mk.injEq] at H
            obtain ⟨rfl,rfl⟩:=H
            have p5 : 0 ≤ (x5_1 : Int):=of_decide_eq_true (by first | (with_reducible assumption) | assumption)
            have q5 : x5_1 < (a0.size : Int):=of_decide_eq_true (by first | (with_reducible assumption) | assumption)
            have hx5:=bt_at a0 x5_1
            replace p5:=eq_true p5
            replace q5:=eq_true q5
            have p7 : 0 ≤ (x5_1 : Int):=of_decide_eq_true (by first | (with_reducible assumption) | assumption)
            have q7 : x5_1 < (a0.size : Int):=of_decide_eq_true (by first | (with_reducible assumption) | assumption)
            have hx7:=bt_at a0 x5_1
            replace p7:=eq_true p7
            replace q7:=eq_true q7
            have p13 : 0 ≤ (0 : Int):=(by omega)
            have q13 : 0 < a0.size:=(by have : (0 : Int) < (a0.size : Int):=of_decide_eq_true (by first | (with_reducible assumption) | assumption); omega)
            have hx13 : ∀ h : 0 < a0.size,((a0[0]'h).toNat : Int) = bt a0 0:=bt_at a0 0
            clear p13
            have qi13 : (0 < (a0.size : Int)) = True:=eq_true (of_decide_eq_true (by first | (with_reducible assumption) | assumption))
            replace q13:=eq_true q13
            go_wp2
            repeat (go_quiet (fail); try go_wp2)
            go_ret2
            exact ⟨by first | rfl | (simp; done) | (simp [*]; done),by repeat (first | exact Drawn0.refl _ | apply Drawn0.step)⟩
           ·rw [if_neg c14] at H
            have c14b0 : ((bt a0 0) == 48) = false:=beq_eq_false_iff_ne.mpr c14
            have c14b1 : ((bt a0 0) != 48) = true:=bne_iff_ne.mpr c14
            have c15b0:=eq_true (of_decide_eq_true (by first | (with_reducible assumption) | assumption) : 0 ≤ x5_1)
            by_cases c16 : x5_1 ≤ (a0.size : Int)
            ·rw [if_pos c16] at H
             have c16b0:=eq_true c16
             have c16b1 : decide (x5_1 ≤ (a0.size : Int)) = true:=decide_eq_true c16
             clear c16
             simp only [Option.some.injEq,Prod.mk.injEq] at H
             obtain ⟨rfl,rfl⟩:=H
             have p5 : 0 ≤ (x5_1 : Int):=of_decide_eq_true (by first | (with_reducible assumption) | assumption)
             have q5 : x5_1 < (a0.size : Int):=of_decide_eq_true (by first | (with_reducible assumption) | assumption)
             have hx5:=bt_at a0 x5_1
             replace p5:=eq_true p5
             replace q5:=eq_true q5
             have p7 : 0 ≤ (x5_1 : Int):=of_decide_eq_true (by first | (with_reducible assumption) | assumption)
             have q7 : x5_1 < (a0.size : Int):=of_decide_eq_true (by first | (with_reducible assumption) | assumption)
             have hx7:=bt_at a0 x5_1
             replace p7:=eq_true p7
             replace q7:=eq_true q7
             have p13 : 0 ≤ (0 : Int):=(by omega)
             have q13 : 0 < a0.size:=(by have : (0 : Int) < (a0.size : Int):=of_decide_eq_true (by first | (with_reducible assumption) | assumption); omega)
             have hx13 : ∀ h : 0 < a0.size,((a0[0]'h).toNat : Int) = bt a0 0:=bt_at a0 0
             clear p13
             have qi13 : (0 < (a0.size : Int)) = True:=eq_true (of_decide_eq_true (by first | (with_reducible assumption) | assumption))
             replace q13:=eq_true q13
             go_wp2
             repeat (go_quiet (fail); try go_wp2)
             go_ret2
             exact ⟨by first | rfl | (simp; done) | (simp [*]; done),by repeat (first | exact Drawn0.refl _ | apply Drawn0.step)⟩
            ·rw [if_neg c16] at H
             exact absurd H (by simp)
          ·rw [if_neg c12] at H
           exact absurd H (by simp)
         ·rw [if_neg c11] at H
          have c11b0 : decide (1 < x5_1) = false:=decide_eq_false c11
          clear c11
          have c17b0:=eq_true (of_decide_eq_true (by first | (with_reducible assumption) | assumption) : 0 ≤ x5_1)
          by_cases c18 : x5_1 ≤ (a0.size : Int)
          ·rw [if_pos c18] at H
           have c18b0:=eq_true c18
           have c18b1 : decide (x5_1 ≤ (a0.size : Int)) = true:=decide_eq_true c18
           clear c18
           simp only [Option.some.injEq,Prod.mk.injEq] at H
           obtain ⟨rfl,rfl⟩:=H
           have p5 : 0 ≤ (x5_1 : Int):=of_decide_eq_true (by first | (with_reducible assumption) | assumption)
           have q5 : x5_1 < (a0.size : Int):=of_decide_eq_true (by first | (with_reducible assumption) | assumption)
           have hx5:=bt_at a0 x5_1
           replace p5:=eq_true p5
           replace q5:=eq_true q5
           have p7 : 0 ≤ (x5_1 : Int):=of_decide_eq_true (by first | (with_reducible assumption) | assumption)
           have q7 : x5_1 < (a0.size : Int):=of_decide_eq_true (by first | (with_reducible assumption) | assumption)
           have hx7:=bt_at a0 x5_1
           replace p7:=eq_true p7
           replace q7:=eq_true q7
           go_wp2
           repeat (go_quiet (fail); try go_wp2)
           go_ret2
           exact ⟨by first | rfl | (simp; done) | (simp [*]; done),by repeat (first | exact Drawn0.refl _ | apply Drawn0.step)⟩
          ·rw [if_neg c18] at H
           exact absurd H (by simp)
      ·rw [if_neg c6] at H
       have c6b0 : decide (48 ≤ (bt a0 x5_1)) = false:=decide_eq_false c6
       clear c6
       by_cases c19 : x5_1 = 0
       ·rw [if_pos c19] at H
        have c19b0 : (x5_1 == 0) = true:=beq_iff_eq.mpr c19
        have c19b1 : (x5_1 != 0) = false:=bne_eq_false_iff_eq.mpr c19
        clear c19
        simp only [Option.some.injEq,Prod.mk.injEq] at H
        obtain ⟨rfl,rfl⟩:=H
        have p5 : 0 ≤ (x5_1 : Int):=of_decide_eq_true (by first | (with_reducible assumption) | assumption)
        have q5 : x5_1 < (a0.size : Int):=of_decide_eq_true (by first | (with_reducible assumption) | assumption)
        have hx5:=bt_at a0 x5_1
        replace p5:=eq_true p5
        replace q5:=eq_true q5
        go_wp2
        repeat (go_quiet (fail); try go_wp2)
        go_ret2
        exact ⟨by first | rfl | (simp; done) | (simp [*]; done),by repeat (first | exact Drawn0.refl _ | apply Drawn0.step)⟩
       ·rw [if_neg c19] at H
        have c19b0 : (x5_1 == 0) = false:=beq_eq_false_iff_ne.mpr c19
        have c19b1 : (x5_1 != 0) = true:=bne_iff_ne.mpr c19
        by_cases c20 : x5_1 > 1
        ·rw [if_pos c20] at H
         have c20b0 : decide (1 < x5_1) = true:=decide_eq_true c20
         clear c20
         by_cases c21 : 0 < (a0.size : Int)
         ·rw [if_pos c21] at H
          have c21b0 : decide (0 < (a0.size : Int)) = true:=decide_eq_true c21
          have c21b1 : decide (0 < a0.size) = true:=decide_eq_true (by omega)
          clear c21
          by_cases c23 : (bt a0 0) = 48
          ·rw [if_pos c23] at H
           have c23b0 : ((bt a0 0) == 48) = true:=beq_iff_eq.mpr c23
           have c23b1 : ((bt a0 0) != 48) = false:=bne_eq_false_iff_eq.mpr c23
           clear c23
           simp only [Option.some.injEq,Prod.mk.injEq] at H
           obtain ⟨rfl,rfl⟩:=H
           have p5 : 0 ≤ (x5_1 : Int):=of_decide_eq_true (by first | (with_reducible assumption) | assumption)
           have q5 : x5_1 < (a0.size : Int):=of_decide_eq_true (by first | (with_reducible assumption) | assumption)
           have hx5:=bt_at a0 x5_1
           replace p5:=eq_true p5
           replace q5:=eq_true q5
           have p22 : 0 ≤ (0 : Int):=(by omega)
           have q22 : 0 < a0.size:=(by have : (0 : Int) < (a0.size : Int):=of_decide_eq_true (by first | (with_reducible assumption) | assumption); omega)
           have hx22 : ∀ h : 0 < a0.size,((a0[0]'h).toNat : Int) = bt a0 0:=bt_at a0 0
           clear p22
           have qi22 : (0 < (a0.size : Int)) = True:=eq_true (of_decide_eq_true (by first | (with_reducible assumption) | assumption))
           replace q22:=eq_true q22
           go_wp2
           repeat (go_quiet (fail); try go_wp2)
           go_ret2
           exact ⟨by first | rfl | (simp; done) | (simp [*]; done),by repeat (first | exact Drawn0.refl _ | apply Drawn0.step)⟩
          ·rw [if_neg c23] at H
           have c23b0 : ((bt a0 0) == 48) = false:=beq_eq_false_iff_ne.mpr c23
           have c23b1 : ((bt a0 0) != 48) = true:=bne_iff_ne.mpr c23
           have c24b0:=eq_true (of_decide_eq_true (by first | (with_reducible assumption) | assumption) : 0 ≤ x5_1)
           by_cases c25 : x5_1 ≤ (a0.size : Int)
           ·rw [if_pos c25] at H
            have c25b0:=eq_true c25
            have c25b1 : decide (x5_1 ≤ (a0.size : Int)) = true:=decide_eq_true c25
            clear c25
            simp only [Option.some.injEq,Prod.mk.injEq] at H
            obtain ⟨rfl,rfl⟩:=H
            have p5 : 0 ≤ (x5_1 : Int):=of_decide_eq_true (by first | (with_reducible assumption) | assumption)
            have q5 : x5_1 < (a0.size : Int):=of_decide_eq_true (by first | (with_reducible assumption) | assumption)
            have hx5:=bt_at a0 x5_1
            replace p5:=eq_true p5
            replace q5:=eq_true q5
            have p22 : 0 ≤ (0 : Int):=(by omega)
            have q22 : 0 < a0.size:=(by have : (0 : Int) < (a0.size : Int):=of_decide_eq_true (by first | (with_reducible assumption) | assumption); omega)
            have hx22 : ∀ h : 0 < a0.size,((a0[0]'h).toNat : Int) = bt a0 0:=bt_at a0 0
            clear p22
            have qi22 : (0 < (a0.size : Int)) = True:=eq_true (of_decide_eq_true (by first | (with_reducible assumption) | assumption))
            replace q22:=eq_true q22
            go_wp2
            repeat (go_quiet (fail); try go_wp2)
            go_ret2
            exact ⟨by first | rfl | (simp; done) | (simp [*]; done),by repeat (first | exact Drawn0.refl _ | apply Drawn0.step)⟩
           ·rw [if_neg c25] at H
            exact absurd H (by simp)
         ·rw [if_neg c21] at H
          exact absurd H (by simp)
        ·rw [if_neg c20] at H
         have c20b0 : decide (1 < x5_1) = false:=decide_eq_false c20
         clear c20
         have c26b0:=eq_true (of_decide_eq_true (by first | (with_reducible assumption) | assumption) : 0 ≤ x5_1)
         by_cases c27 : x5_1 ≤ (a0.size : Int)
         ·rw [if_pos c27] at H
          have c27b0:=eq_true c27
          have c27b1 : decide (x5_1 ≤ (a0.size : Int)) = true:=decide_eq_true c27
          clear c27
          simp only [Option.some.injEq,Prod.mk.injEq] at H
          obtain ⟨rfl,rfl⟩:=H
          have p5 : 0 ≤ (x5_1 : Int):=of_decide_eq_true (by first | (with_reducible assumption) | assumption)
          have q5 : x5_1 < (a0.size : Int):=of_decide_eq_true (by first | (with_reducible assumption) | assumption)
          have hx5:=bt_at a0 x5_1
          replace p5:=eq_true p5
          replace q5:=eq_true q5
          go_wp2
          repeat (go_quiet (fail); try go_wp2)
          go_ret2
          exact ⟨by first | rfl | (simp; done) | (simp [*]; done),by repeat (first | exact Drawn0.refl _ | apply Drawn0.step)⟩
         ·rw [if_neg c27] at H
          exact absurd H (by simp)
     ·rw [if_neg c4] at H
      exact absurd H (by simp)
    ·rw [if_neg c3] at H
     have c3b0 : decide (x5_1 < 9) = false:=decide_eq_false c3
     clear c3
     by_cases c28 : x5_1 = 0
     ·rw [if_pos c28] at H
      have c28b0 : (x5_1 == 0) = true:=beq_iff_eq.mpr c28
      have c28b1 : (x5_1 != 0) = false:=bne_eq_false_iff_eq.mpr c28
      clear c28
      simp only [Option.some.injEq,Prod.mk.injEq] at H
      obtain ⟨rfl,rfl⟩:=H
      go_wp2
      repeat (go_quiet (fail); try go_wp2)
      go_ret2
      exact ⟨by first | rfl | (simp; done) | (simp [*]; done),by repeat (first | exact Drawn0.refl _ | apply Drawn0.step)⟩
     ·rw [if_neg c28] at H
      have c28b0 : (x5_1 == 0) = false:=beq_eq_false_iff_ne.mpr c28
      have c28b1 : (x5_1 != 0) = true:=bne_iff_ne.mpr c28
      by_cases c29 : x5_1 > 1
      ·rw [if_pos c29] at H
       have c29b0 : decide (1 < x5_1) = true:=decide_eq_true c29
       clear c29
       by_cases c30 : 0 < (a0.size : Int)
       ·rw [if_pos c30] at H
        have c30b0 : decide (0 < (a0.size : Int)) = true:=decide_eq_true c30
        have c30b1 : decide (0 < a0.size) = true:=decide_eq_true (by omega)
        clear c30
        by_cases c32 : (bt a0 0) = 48
        ·rw [if_pos c32] at H
         have c32b0 : ((bt a0 0) == 48) = true:=beq_iff_eq.mpr c32
         have c32b1 : ((bt a0 0) != 48) = false:=bne_eq_false_iff_eq.mpr c32
         clear c32
         simp only [Option.some.injEq,Prod.mk.injEq] at H
         obtain ⟨rfl,rfl⟩:=H
         have p31 : 0 ≤ (0 : Int):=(by omega)
         have q31 : 0 < a0.size:=(by have : (0 : Int) < (a0.size : Int):=of_decide_eq_true (by first | (with_reducible assumption) | assumption); omega)
         have hx31 : ∀ h : 0 < a0.size,((a0[0]'h).toNat : Int) = bt a0 0:=bt_at a0 0
         clear p31
         have qi31 : (0 < (a0.size : Int)) = True:=eq_true (of_decide_eq_true (by first | (with_reducible assumption) | assumption))
         replace q31:=eq_true q31
         go_wp2
         repeat (go_quiet (fail); try go_wp2)
         go_ret2
         exact ⟨by first | rfl | (simp; done) | (simp [*]; done),by repeat (first | exact Drawn0.refl _ | apply Drawn0.step)⟩
        ·rw [if_neg c32] at H
         have c32b0 : ((bt a0 0) == 48) = false:=beq_eq_false_iff_ne.mpr c32
         have c32b1 : ((bt a0 0) != 48) = true:=bne_iff_ne.mpr c32
         by_cases c33 : 0 ≤ x5_1
         ·rw [if_pos c33] at H
          have c33b0:=eq_true c33
          have c33b1 : decide (0 ≤ x5_1) = true:=decide_eq_true c33
          clear c33
          by_cases c34 : x5_1 ≤ (a0.size : Int)
          ·rw [if_pos c34] at H
           have c34b0:=eq_true c34
           have c34b1 : decide (x5_1 ≤ (a0.size : Int)) = true:=decide_eq_true c34
           clear c34
           simp only [Option.some.injEq,Prod.mk.injEq] at H
           obtain ⟨rfl,rfl⟩:=H
           have p31 : 0 ≤ (0 : Int):=(by omega)
           have q31 : 0 < a0.size:=(by have : (0 : Int) < (a0.size : Int):=of_decide_eq_true (by first | (with_reducible assumption) | assumption); omega)
           have hx31 : ∀ h : 0 < a0.size,((a0[0]'h).toNat : Int) = bt a0 0:=bt_at a0 0
           clear p31
           have qi31 : (0 < (a0.size : Int)) = True:=eq_true (of_decide_eq_true (by first | (with_reducible assumption) | assumption))
           replace q31:=eq_true q31
           go_wp2
           repeat (go_quiet (fail); try go_wp2)
           go_ret2
           exact ⟨by first | rfl | (simp; done) | (simp [*]; done),by repeat (first | exact Drawn0.refl _ | apply Drawn0.step)⟩
          ·rw [if_neg c34] at H
           exact absurd H (by simp)
         ·rw [if_neg c33] at H
          exact absurd H (by simp)
       ·rw [if_neg c30] at H
        exact absurd H (by simp)
      ·rw [if_neg c29] at H
       have c29b0 : decide (1 < x5_1) = false:=decide_eq_false c29
       clear c29
       by_cases c35 : 0 ≤ x5_1
       ·rw [if_pos c35] at H
        have c35b0:=eq_true c35
        have c35b1 : decide (0 ≤ x5_1) = true:=decide_eq_true c35
        clear c35
        by_cases c36 : x5_1 ≤ (a0.size : Int)
        ·rw [if_pos c36] at H
         have c36b0:=eq_true c36
         have c36b1 : decide (x5_1 ≤ (a0.size : Int)) = true:=decide_eq_true c36
         clear c36
         simp only [Option.some.injEq,Prod.mk.injEq] at H
         obtain ⟨rfl,rfl⟩:=H
         go_wp2
         repeat (go_quiet (fail); try go_wp2)
         go_ret2
         exact ⟨by first | rfl | (simp; done) | (simp [*]; done),by repeat (first | exact Drawn0.refl _ | apply Drawn0.step)⟩
        ·rw [if_neg c36] at H
         exact absurd H (by simp)
       ·rw [if_neg c35] at H
        exact absurd H (by simp)
   ·rw [if_neg c2] at H
    have c2b0 : decide (x5_1 < (a0.size : Int)) = false:=decide_eq_false c2
    clear c2
    by_cases c37 : x5_1 = 0
    ·rw [if_pos c37] at H
     have c37b0 : (x5_1 == 0) = true:=beq_iff_eq.mpr c37
     have c37b1 : (x5_1 != 0) = false:=bne_eq_false_iff_eq.mpr c37
     clear c37
     simp only [Option.some.injEq,Prod.mk.injEq] at H
     obtain ⟨rfl,rfl⟩:=H
     go_wp2
     repeat (go_quiet (fail); try go_wp2)
     go_ret2
     exact ⟨by first | rfl | (simp; done) | (simp [*]; done),by repeat (first | exact Drawn0.refl _ | apply Drawn0.step)⟩
    ·rw [if_neg c37] at H
     have c37b0 : (x5_1 == 0) = false:=beq_eq_false_iff_ne.mpr c37
     have c37b1 : (x5_1 != 0) = true:=bne_iff_ne.mpr c37
     by_cases c38 : x5_1 > 1
     ·rw [if_pos c38] at H
      have c38b0 : decide (1 < x5_1) = true:=decide_eq_true c38
      clear c38
      by_cases c39 : 0 < (a0.size : Int)
      ·rw [if_pos c39] at H
       have c39b0 : decide (0 < (a0.size : Int)) = true:=decide_eq_true c39
       have c39b1 : decide (0 < a0.size) = true:=decide_eq_true (by omega)
       clear c39
       by_cases c41 : (bt a0 0) = 48
       ·rw [if_pos c41] at H
        have c41b0 : ((bt a0 0) == 48) = true:=beq_iff_eq.mpr c41
        have c41b1 : ((bt a0 0) != 48) = false:=bne_eq_false_iff_eq.mpr c41
        clear c41
        simp only [Option.some.injEq,Prod.mk.injEq] at H
        obtain ⟨rfl,rfl⟩:=H
        have p40 : 0 ≤ (0 : Int):=(by omega)
        have q40 : 0 < a0.size:=(by have : (0 : Int) < (a0.size : Int):=of_decide_eq_true (by first | (with_reducible assumption) | assumption); omega)
        have hx40 : ∀ h : 0 < a0.size,((a0[0]'h).toNat : Int) = bt a0 0:=bt_at a0 0
        clear p40
        have qi40 : (0 < (a0.size : Int)) = True:=eq_true (of_decide_eq_true (by first | (with_reducible assumption) | assumption))
        replace q40:=eq_true q40
        go_wp2
        repeat (go_quiet (fail); try go_wp2)
        go_ret2
        exact ⟨by first | rfl | (simp; done) | (simp [*]; done),by repeat (first | exact Drawn0.refl _ | apply Drawn0.step)⟩
       ·rw [if_neg c41] at H
        have c41b0 : ((bt a0 0) == 48) = false:=beq_eq_false_iff_ne.mpr c41
        have c41b1 : ((bt a0 0) != 48) = true:=bne_iff_ne.mpr c41
        by_cases c42 : 0 ≤ x5_1
        ·rw [if_pos c42] at H
         have c42b0:=eq_true c42
         have c42b1 : decide (0 ≤ x5_1) = true:=decide_eq_true c42
         clear c42
         by_cases c43 : x5_1 ≤ (a0.size : Int)
         ·rw [if_pos c43] at H
          have c43b0:=eq_true c43
          have c43b1 : decide (x5_1 ≤ (a0.size : Int)) = true:=decide_eq_true c43
          clear c43
          simp only [Option.some.injEq,Prod.mk.injEq] at H
          obtain ⟨rfl,rfl⟩:=H
          have p40 : 0 ≤ (0 : Int):=(by omega)
          have q40 : 0 < a0.size:=(by have : (0 : Int) < (a0.size : Int):=of_decide_eq_true (by first | (with_reducible assumption) | assumption); omega)
          have hx40 : ∀ h : 0 < a0.size,((a0[0]'h).toNat : Int) = bt a0 0:=bt_at a0 0
          clear p40
          have qi40 : (0 < (a0.size : Int)) = True:=eq_true (of_decide_eq_true (by first | (with_reducible assumption) | assumption))
          replace q40:=eq_true q40
          go_wp2
          repeat (go_quiet (fail); try go_wp2)
          go_ret2
          exact ⟨by first | rfl | (simp; done) | (simp [*]; done),by repeat (first | exact Drawn0.refl _ | apply Drawn0.step)⟩
         ·rw [if_neg c43] at H
          exact absurd H (by simp)
        ·rw [if_neg c42] at H
         exact absurd H (by simp)
      ·rw [if_neg c39] at H
       exact absurd H (by simp)
     ·rw [if_neg c38] at H
      have c38b0 : decide (1 < x5_1) = false:=decide_eq_false c38
      clear c38
      by_cases c44 : 0 ≤ x5_1
      ·rw [if_pos c44] at H
       have c44b0:=eq_true c44
       have c44b1 : decide (0 ≤ x5_1) = true:=decide_eq_true c44
       clear c44
       by_cases c45 : x5_1 ≤ (a0.size : Int)
       ·rw [if_pos c45] at H
        have c45b0:=eq_true c45
        have c45b1 : decide (x5_1 ≤ (a0.size : Int)) = true:=decide_eq_true c45
        clear c45
        simp only [Option.some.injEq,Prod.mk.injEq] at H
        obtain ⟨rfl,rfl⟩:=H
        go_wp2
        repeat (go_quiet (fail); try go_wp2)
        go_ret2
        exact ⟨by first | rfl | (simp; done) | (simp [*]; done),by repeat (first | exact Drawn0.refl _ | apply Drawn0.step)⟩
       ·rw [if_neg c45] at H
        exact absurd H (by simp)
      ·rw [if_neg c44] at H
       exact absurd H (by simp)
end Go.Proofs.YtplbifmjnanceaaGreatDoor.Pnumber
end
section
namespace Go.Proofs.YtplbifmjnanceaaGreatDoor
open Go.RowKit Go.Proofs.YtplbifmjnanceaaGreatDoorW.PrintWords Go.Proofs.YtplbifmjnanceaaGreatDoorW.PrintLast Go.Proofs.YtplbifmjnanceaaGreatDoorW.PrintMore
set_option linter.unusedVariables false
set_option linter.unusedSimpArgs false
theorem digit_of (d : Nat) (h : d < 10) : (UInt8.ofNat (48 + d)).toNat = 48 + d:=by
 rw [UInt8.toNat_ofNat']
 omega
theorem dec_digits (u : Nat) : ∀ b ∈ Lib.decDigits u,48 ≤ b.toNat ∧ b.toNat ≤ 57:=by
 induction u using Nat.strongRecOn with
 | _ u ih =>
  intro b hb
  rw [Lib.decDigits] at hb
  by_cases h : u < 10
  ·rw [dif_pos h] at hb
   simp only [List.mem_singleton] at hb
   subst hb
   rw [digit_of u h]
   omega
  ·rw [dif_neg h] at hb
   rcases List.mem_append.1 hb with hb | hb
   ·exact ih (u / 10) (by omega) b hb
   ·simp only [List.mem_singleton] at hb
    subst hb
    rw [digit_of _ (by omega)]
    omega
def decVal (n : Nat) (l : List UInt8) : Nat:=l.foldl (fun n b => 10 * n + (b.toNat - 48)) n
theorem dec_val (u : Nat) : decVal 0 (Lib.decDigits u) = u:=by
 induction u using Nat.strongRecOn with
 | _ u ih =>
  rw [Lib.decDigits]
  by_cases h : u < 10
  ·rw [dif_pos h]
   simp only [decVal,List.foldl_cons,List.foldl_nil]
   rw [digit_of u h]
   omega
  ·rw [dif_neg h]
   have:=ih (u / 10) (by omega)
   unfold decVal at this ⊢
   rw [List.foldl_append,this]
   simp only [List.foldl_cons,List.foldl_nil]
   rw [digit_of _ (by omega)]
   omega
theorem dec_first (u : Nat) (h : 1 ≤ u) : ∃ b t,Lib.decDigits u = b :: t ∧ 49 ≤ b.toNat:=by
 induction u using Nat.strongRecOn with
 | _ u ih =>
  rw [Lib.decDigits]
  by_cases h1 : u < 10
  ·rw [dif_pos h1]
   exact ⟨_,[],rfl,by rw [digit_of u h1]; omega⟩
  ·rw [dif_neg h1]
   obtain ⟨b,t,e,hb⟩:=ih (u / 10) (by omega) (by omega)
   exact ⟨b,t ++ _,by rw [e]; rfl,hb⟩
theorem nDigits_le (k : Nat) : ∀ u,u < 10 ^ (k + 1) → Lib.nDigits u ≤ k + 1:=by
 induction k with
 | zero => intro u h; rw [Lib.nDigits_small (by simpa using h)]; exact Nat.le_refl 1
 | succ k ih =>
  intro u h
  by_cases h1 : u < 10
  ·rw [Lib.nDigits_small h1]; omega
  ·rw [Lib.nDigits_big h1]
   have:=ih (u / 10) (by rw [Nat.pow_succ] at h; omega)
   omega
theorem dec_len (u : Nat) (h : u < 1000000000) : 1 ≤ (Lib.decDigits u).length ∧ (Lib.decDigits u).length ≤ 9:=by
 rw [Lib.decDigits_length]
 exact ⟨Lib.nDigits_pos u,nDigits_le 8 u h⟩
theorem decVal_snoc (n : Nat) (l : List UInt8) (b : UInt8) : decVal n (l ++ [b]) = 10 * decVal n l + (b.toNat - 48):=by
 simp [decVal,List.foldl_append]
theorem decVal_lt (l : List UInt8) (h : ∀ b ∈ l,48 ≤ b.toNat ∧ b.toNat ≤ 57) : ∀ j,j ≤ l.length → decVal 0 (l.take j) < 10 ^ j:=by
 intro j
 induction j with
 | zero => intro _; simp [decVal]
 | succ j ih =>
  intro hj
  have e : l.take (j + 1) = l.take j ++ [l[j]]:=by
   rw [List.take_add_one,List.getElem?_eq_getElem (by omega)]; rfl
  have:=ih (by omega)
  have hb:=h l[j] (List.getElem_mem _)
  rw [e,decVal_snoc,Nat.pow_succ]
  omega
theorem bt_list (s : ByteArray) (j : Nat) (h : j < s.data.toList.length) : bt s (j : Int) = (s.data.toList[j].toNat : Int):=by
 unfold bt
 rw [dif_pos (by simpa using h)]
 rfl
theorem wrap64_small (n : Int) (h1 : -9223372036854775808 ≤ n) (h2 : n < 9223372036854775808) : wrap64 n = n:=by
 unfold wrap64
 rw [Int.emod_eq_of_lt (by omega) (by omega)]
 omega
theorem number_l0 (s : ByteArray) (ds rest : List UInt8) (hs : s.data.toList = ds ++ rest) (hd : ∀ b ∈ ds,48 ≤ b.toNat ∧ b.toNat ≤ 57) (hl : 1 ≤ ds.length ∧ ds.length ≤ 9) (hf : ds.length = 1 ∨ ∃ b t,ds = b :: t ∧ 49 ≤ b.toNat)
  (hr : ∀ b t,rest = b :: t → b.toNat < 48 ∨ 57 < b.toNat) : ∀ (k j : Nat),j ≤ ds.length → ds.length - j < k → Pnumber.spec_number.l0 k s (decVal 0 (ds.take j) : Int) (j : Int) = some ((decVal 0 ds : Int),mkB rest):=by
 intro k
 induction k with
 | zero => intro j _ h; omega
 | succ k ih =>
  intro j hj hk
  have hsz : s.size = ds.length + rest.length:=by
   have:=congrArg List.length hs
   simpa using this
  unfold Pnumber.spec_number.l0
  have hv : decVal 0 (ds.take j) < 1000000000:=by
   have h1 : (10 : Nat) ^ j ≤ 10 ^ 9:=Nat.pow_le_pow_right (by decide) (by omega)
   have h2:=decVal_lt ds hd j hj
   have h3 : (10 : Nat) ^ 9 = 1000000000:=by decide
   rw [h3] at h1
   exact Nat.lt_of_lt_of_le h2 h1
  by_cases c : j < ds.length
  ·have g1 : j + 1 ≤ ds.length:=c
   have g2 : ds.length - (j + 1) < k:=by clear hv ih hsz; omega
   have hjl : j < s.data.toList.length:=by rw [hs]; simp; omega
   have eb : s.data.toList[j] = ds[j]:=by simp [hs,List.getElem_append_left c]
   have hb:=hd ds[j] (List.getElem_mem _)
   have hbt:=bt_list s j hjl
   rw [eb] at hbt
   have q1 : (j : Int) < (s.size : Int):=by omega
   have q2 : (j : Int) < 9:=by omega
   have q3 : (0 : Int) ≤ (j : Int):=by omega
   have q4 : bt s (j : Int) ≥ 48:=by omega
   have q5 : bt s (j : Int) ≤ 57:=by omega
   rw [if_pos q1,if_pos q2,if_pos q3,if_pos q4,if_pos q5,hbt]
   have e1 : wrap64 ((j : Int) + 1) = ((j + 1 : Nat) : Int):=by rw [wrap64_small _ (by omega) (by omega)]; omega
   have e2 : wrap64 (wrap64 (10 * (decVal 0 (ds.take j) : Int)) + (((ds[j].toNat : Int) - 48) % 256)) = (decVal 0 (ds.take (j + 1)) : Int):=by
    have e : ds.take (j + 1) = ds.take j ++ [ds[j]]:=by
     rw [List.take_add_one,List.getElem?_eq_getElem (by omega)]; rfl
    rw [e,decVal_snoc]
    have hv2:=hv
    generalize decVal 0 (ds.take j) = V at hv2 ⊢
    have hb1:=hb.1
    have hb2:=hb.2
    generalize ds[j].toNat = d at hb1 hb2 ⊢
    clear hv ih hd hr hf hs
    rw [wrap64_small (10 * (V : Int)) (by omega) (by omega),Int.emod_eq_of_lt (by omega) (by omega),wrap64_small _ (by omega) (by omega)]
    omega
   rw [e1,e2]
   exact ih (j + 1) g1 g2
  ·clear hv ih
   obtain rfl : j = ds.length:=by omega
   rw [List.take_length]
   have hex : s.extract ((ds.length : Nat) : Int).toNat s.size = mkB rest:=by
    rw [Int.toNat_natCast,extract_seg s _ _ (Nat.le_refl _),hs]
    congr 1
    rw [List.drop_left,hsz,List.take_of_length_le (by omega)]
   have h0 : ¬ ((ds.length : Nat) : Int) = 0:=by omega
   have h00 : (0 : Int) ≤ ((ds.length : Nat) : Int):=by omega
   have hz : (0 : Int) < (s.size : Int):=by omega
   have hle : ((ds.length : Nat) : Int) ≤ (s.size : Int):=by omega
   have h48 : ((ds.length : Nat) : Int) > 1 → ¬ bt s 0 = 48:=by
    intro h1 h2
    obtain ⟨b,t,e,hb⟩:=hf.resolve_left (by omega)
    have:=bt_list s 0 (by rw [hs]; simp; omega)
    rw [show (((0 : Nat) : Int)) = 0 from rfl] at this
    rw [this] at h2
    have e3 : s.data.toList[0]'(by rw [hs]; simp; omega) = b:=by simp [hs,e]
    rw [e3] at h2
    omega
   generalize hgd : ((decVal 0 ds : Nat) : Int) = V
   generalize hgs : ((ds.length : Nat) : Int) = J at *
   by_cases c1 : J < (s.size : Int)
   ·rw [if_pos c1]
    by_cases c2 : J < 9
    ·rw [if_pos c2,if_pos h00]
     have hjl : ds.length < s.data.toList.length:=by rw [hs]; simp; omega
     have hrest : ∃ b t,rest = b :: t:=by
      cases rest with
      | nil => simp at hsz; omega
      | cons b t => exact ⟨b,t,rfl⟩
     obtain ⟨b,t,e⟩:=hrest
     have e3 : s.data.toList[ds.length] = b:=by simp [hs,e]
     have hbt:=bt_list s ds.length hjl
     rw [e3,hgs] at hbt
     rcases hr b t e with h | h
     ·have h3 : ¬ (bt s J ≥ 48):=by omega
      rw [if_neg h3,if_neg h0]
      by_cases h1 : J > 1
      ·rw [if_pos h1,if_pos hz,if_neg (h48 h1),if_pos hle,hex]
      ·rw [if_neg h1,if_pos hle,hex]
     ·have h3 : ¬ (bt s J ≤ 57):=by omega
      have h4 : bt s J ≥ 48:=by omega
      rw [if_pos h4,if_neg h3,if_neg h0]
      by_cases h1 : J > 1
      ·rw [if_pos h1,if_pos hz,if_neg (h48 h1),if_pos hle,hex]
      ·rw [if_neg h1,if_pos hle,hex]
    ·rw [if_neg c2,if_neg h0]
     by_cases h1 : J > 1
     ·rw [if_pos h1,if_pos hz,if_neg (h48 h1),if_pos h00,if_pos hle,hex]
     ·rw [if_neg h1,if_pos h00,if_pos hle,hex]
   ·rw [if_neg c1,if_neg h0]
    by_cases h1 : J > 1
    ·rw [if_pos h1,if_pos hz,if_neg (h48 h1),if_pos h00,if_pos hle,hex]
    ·rw [if_neg h1,if_pos h00,if_pos hle,hex]
theorem number_f (u : Nat) (hu : u < 1000000000) (s : ByteArray) (rest : List UInt8) (hs : s.data.toList = Lib.decDigits u ++ rest) (hr : ∀ b t,rest = b :: t → b.toNat < 48 ∨ 57 < b.toNat) (k : Nat) (hk : 10 < k) :
  Pnumber.spec_number.f k s = some ((u : Int),mkB rest):=by
 have hl:=dec_len u hu
 have hf : (Lib.decDigits u).length = 1 ∨ ∃ b t,Lib.decDigits u = b :: t ∧ 49 ≤ b.toNat:=by
  rcases Nat.eq_zero_or_pos u with h | h
  ·subst h
   left
   rw [Lib.decDigits_length]
   exact Lib.nDigits_small (by omega)
  ·exact Or.inr (dec_first u h)
 have:=number_l0 s (Lib.decDigits u) rest hs (dec_digits u) hl hf hr k 0 (Nat.zero_le _) (by omega)
 rw [dec_val] at this
 simpa [decVal,Pnumber.spec_number.f] using this
end Go.Proofs.YtplbifmjnanceaaGreatDoor
end
