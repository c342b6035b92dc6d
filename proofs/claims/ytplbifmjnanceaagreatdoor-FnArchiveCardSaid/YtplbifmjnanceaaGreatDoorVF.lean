/- Names, patterns and data, as the program tests them; the walk through CleanCmd. -/
import Derived.Test.YtplbifmjnanceaaGreatDoorVD
import Derived.Test.YtplbifmjnanceaaGreatDoorVE
import Derived.Test.YtplbifmjnanceaaGreatDoorVB
import Derived.Deep.Cut
import Derived.Deep.LoopGhost
import Derived.Maps.OwnOps
import Derived.StringKeys
import Derived.Maps.OwnSet
section
namespace Go.Proofs.YtplbifmjnanceaaGreatDoor.PFnArchive
open Go.RowKit Go.Proofs.YtplbifmjnanceaaGreatDoorW.PrintWords Go.Proofs.YtplbifmjnanceaaGreatDoorW.PrintLast Go.Proofs.YtplbifmjnanceaaGreatDoorW.PrintMore
attribute [local go_sem] max2_int min2_int max_two min_two max_three min_three max_four min_four
set_option linter.unusedVariables false
set_option linter.unusedSimpArgs false
def spec_IsName.f (k : Nat) (a0 : ByteArray) : Option (Bool):=(spec_isName.f k a0 false).bind fun t129 => (some t129)
theorem spec_IsName.mono : ∀ a0 k,LeO (spec_IsName.f k a0) (spec_IsName.f (k + 1) a0):=by
 intro a0 k
 unfold spec_IsName.f
 repeat' first
   | (with_reducible exact spec_isName.mono _ _ _)
   | (with_reducible exact LeO.refl _)
   | (with_reducible exact LeO.none _)
   | (with_reducible refine LeO.ite ?_ ?_)
   | (with_reducible refine LeO.bind ?_ (fun _ => ?_))
   | exact spec_isName.mono _ _ _
   | exact LeO.none _
   | refine LeO.ite ?_ ?_
   | refine LeO.bind ?_ (fun _ => ?_)
set_option maxHeartbeats 8000000 in
set_option maxRecDepth 100000 in
theorem spec_IsName.calls (k : Nat) (a0 : ByteArray) (r : Bool) (w : World) (h : spec_IsName.f k a0 = some r) :
  Calls Tryz.prog 15 #[.string a0] w fun e w' => e = .returned (.bool r) ∧ Below w.heap.size w w':=by
 have HB:=Aside0.mk (Below.refl w.heap.size w)
 have H : ((spec_isName.f k a0 false).bind fun t129 => (some t129)) = some r:=h
 clear h
 replace H:=Option.bind_eq_some_iff.mp H
 obtain ⟨t129,A20,H⟩:=H
 replace H : (some t129) = some r:=H
 have A2:=Aside0.mk A20
 clear A20
 obtain rfl:=Option.some.inj H
 go_enter Tryz.func15,Tryz.ntmps15
 go_wp2_with (first | ((with_reducible refine gate_callee (f:=33) rfl ?_); refine goesL_ (some 4) rfl rfl Tryz.func33 (by kernel_rfl) rfl #[.string a0,.bool false] rfl (by (try simp only [List.map_toArray,List.map_cons,List.map_nil]); first | done | rfl | (simp only [List.length_drop,List.length_take]; rfl)) ?_; (with_reducible refine (spec_isName.calls k a0 false t129 _ A2.out).mono ?_); rintro e w3 ⟨rfl,hb⟩; refine ⟨_,rfl,?_⟩; have n0_:=Aside0.mk (below_step (by repeat (first | (with_reducible first | exact HB.out | apply below_alloc | apply pw_below_drewN | apply below_drew1) | exact HB.out)) hb); clear HB; have HB:=n0_; clear n0_; (try clear hb); (try clear hb2); (try clear hk); (try clear hi)))
 go_ret
 exact ⟨by first | rfl | (simp [errW_none,errW_some] <;> rfl) | (simp [*,errW_none,errW_some] <;> rfl),by repeat (first | (with_reducible first | exact HB.out | apply below_alloc | apply pw_below_drewN | apply below_drew1) | exact HB.out)⟩
def spec_IsData.l0 : Nat → ByteArray → Int → Int → Option (Bool)
 | 0,_,_,_ => none
 | k + 1,x0,x5,x6 => if x6 < x5 then (if 0 ≤ x6 then (if x6 < (x0.size : Int) then (if (bt x0 x6) < 32 then (if (bt x0 x6) = 10 then (spec_IsData.l0 k x0 x5 (wrap64 (x6 + 1))) else (some false)) else (if (bt x0 x6) > 126 then (if (bt x0 x6) = 10 then (spec_IsData.l0 k x0 x5 (wrap64 (x6 + 1))) else (some false)) else (if (bt x0 x6) = 45 then (if (bt x0 x6) = 10 then (spec_IsData.l0 k x0 x5 (wrap64 (x6 + 1))) else (some false)) else (spec_IsData.l0 k x0 x5 (wrap64 (x6 + 1)))))) else (none)) else (none)) else (some (decide ((x0.size : Int) ≤ 200)))
def spec_IsData.f (k : Nat) (a0 : ByteArray) : Option (Bool):=spec_IsData.l0 k a0 (a0.size : Int) 0
theorem spec_IsData.mono_l : ∀ k,(∀ y0 y1 y2,LeO (spec_IsData.l0 k y0 y1 y2) (spec_IsData.l0 (k + 1) y0 y1 y2))
 | 0 => fun _ _ _ r h => by simp [spec_IsData.l0] at h
 | k + 1 => by
  have ih0:=spec_IsData.mono_l k
  ·intro y0 y1 y2
   unfold spec_IsData.l0
   repeat' first
   | (with_reducible exact ih0 _ _ _)
   | (with_reducible exact LeO.refl _)
   | (with_reducible exact LeO.none _)
   | (with_reducible refine LeO.ite ?_ ?_)
   | (with_reducible refine LeO.bind ?_ (fun _ => ?_))
   | exact ih0 _ _ _
   | exact LeO.none _
   | refine LeO.ite ?_ ?_
   | refine LeO.bind ?_ (fun _ => ?_)
theorem spec_IsData.mono : ∀ a0 k,LeO (spec_IsData.f k a0) (spec_IsData.f (k + 1) a0):=by
 intro a0 k
 have ih0:=spec_IsData.mono_l k
 unfold spec_IsData.f
 repeat' first
   | (with_reducible exact ih0 _ _ _)
   | (with_reducible exact LeO.refl _)
   | (with_reducible exact LeO.none _)
   | (with_reducible refine LeO.ite ?_ ?_)
   | (with_reducible refine LeO.bind ?_ (fun _ => ?_))
   | exact ih0 _ _ _
   | exact LeO.none _
   | refine LeO.ite ?_ ?_
   | refine LeO.bind ?_ (fun _ => ?_)
set_option maxHeartbeats 8000000 in
set_option maxRecDepth 100000 in
theorem spec_IsData.calls (k : Nat) (a0 : ByteArray) (r : Bool) (w : World) (h : spec_IsData.f k a0 = some r) :
  Calls Tryz.prog 16 #[.string a0] w fun e w' => e = .returned (.bool r) ∧ Drawn0 w w':=by
 have H : (spec_IsData.l0 k a0 (a0.size : Int) 0) = some r:=h
 clear h
 have H':=Aside0.mk H
 clear H
 go_enter Tryz.func16,Tryz.ntmps16
 go_wp2
 go_loopg [6] k (fun kq v6 w' => ∃ (x6_1 : Int),v6 = .int .i64 x6_1 ∧ Aside0 (spec_IsData.l0 kq a0 (a0.size : Int) x6_1 = some r) ∧ Aside0 (kq ≤ k) ∧ Drawn0 w w')
 case atStart => exact ⟨(0),(by first | rfl | (simp; done) | (simp [*]; done)),H',⟨Nat.le_refl _⟩,by repeat (first | exact Drawn0.refl _ | apply Drawn0.step)⟩
 case round =>
  clear H'
  try clear c1
  obtain ⟨x6_1,rfl,HA,HK1,⟨m1,rfl⟩⟩:=hrel
  cases gk with
  | zero => exact absurd HA.out (by simp [spec_IsData.l0])
  | succ k1 =>
   have H:=HA.out
   clear HA
   simp only [spec_IsData.l0] at H
   by_cases c2 : x6_1 < (a0.size : Int)
   ·rw [if_pos c2] at H
    have c2b0 : decide (x6_1 < (a0.size : Int)) = true:=decide_eq_true c2
    clear c2
    by_cases c3 : 0 ≤ x6_1
    ·rw [if_pos c3] at H
     have c3b0 : decide (0 ≤ x6_1) = true:=decide_eq_true c3
     clear c3
     by_cases c4 : x6_1 < (a0.size : Int)
     ·rw [if_pos c4] at H
      have c4b0 : decide (x6_1 < (a0.size : Int)) = true:=decide_eq_true c4
      clear c4
      by_cases c6 : (bt a0 x6_1) < 32
      ·rw [if_pos c6] at H
       have c6b0 : decide ((bt a0 x6_1) < 32) = true:=decide_eq_true c6
       clear c6
       by_cases c8 : (bt a0 x6_1) = 10
       ·rw [if_pos c8] at H
        have c8b0 : ((bt a0 x6_1) == 10) = true:=beq_iff_eq.mpr c8
        have c8b1 : ((bt a0 x6_1) != 10) = false:=bne_eq_false_iff_eq.mpr c8
        clear c8
        have H':=Aside0.mk H
        clear H
        have p5 : 0 ≤ (x6_1 : Int):=of_decide_eq_true (by first | (with_reducible assumption) | assumption)
        have q5 : x6_1 < (a0.size : Int):=of_decide_eq_true (by first | (with_reducible assumption) | assumption)
        have hx5:=bt_at a0 x6_1
        replace p5:=eq_true p5
        replace q5:=eq_true q5
        have p7 : 0 ≤ (x6_1 : Int):=of_decide_eq_true (by first | (with_reducible assumption) | assumption)
        have q7 : x6_1 < (a0.size : Int):=of_decide_eq_true (by first | (with_reducible assumption) | assumption)
        have hx7:=bt_at a0 x6_1
        replace p7:=eq_true p7
        replace q7:=eq_true q7
        go_wp2
        go_roundg k1
        case measure => have:=HK1.out; omega
        case rel => exact ⟨(wrap64 (x6_1 + 1)),(by first | rfl | (simp; done) | (simp [*]; done)),H',⟨by have:=HK1.out; omega⟩,by repeat (first | exact Drawn0.refl _ | apply Drawn0.step)⟩
       ·rw [if_neg c8] at H
        have c8b0 : ((bt a0 x6_1) == 10) = false:=beq_eq_false_iff_ne.mpr c8
        have c8b1 : ((bt a0 x6_1) != 10) = true:=bne_iff_ne.mpr c8
        obtain rfl:=Option.some.inj H
        have p5 : 0 ≤ (x6_1 : Int):=of_decide_eq_true (by first | (with_reducible assumption) | assumption)
        have q5 : x6_1 < (a0.size : Int):=of_decide_eq_true (by first | (with_reducible assumption) | assumption)
        have hx5:=bt_at a0 x6_1
        replace p5:=eq_true p5
        replace q5:=eq_true q5
        have p7 : 0 ≤ (x6_1 : Int):=of_decide_eq_true (by first | (with_reducible assumption) | assumption)
        have q7 : x6_1 < (a0.size : Int):=of_decide_eq_true (by first | (with_reducible assumption) | assumption)
        have hx7:=bt_at a0 x6_1
        replace p7:=eq_true p7
        replace q7:=eq_true q7
        go_wp2
        go_ret
        exact ⟨by first | rfl | (simp; done) | (simp [*]; done),by repeat (first | exact Drawn0.refl _ | apply Drawn0.step)⟩
      ·rw [if_neg c6] at H
       have c6b0 : decide ((bt a0 x6_1) < 32) = false:=decide_eq_false c6
       clear c6
       by_cases c10 : (bt a0 x6_1) > 126
       ·rw [if_pos c10] at H
        have c10b0 : decide (126 < (bt a0 x6_1)) = true:=decide_eq_true c10
        clear c10
        by_cases c12 : (bt a0 x6_1) = 10
        ·rw [if_pos c12] at H
         have c12b0 : ((bt a0 x6_1) == 10) = true:=beq_iff_eq.mpr c12
         have c12b1 : ((bt a0 x6_1) != 10) = false:=bne_eq_false_iff_eq.mpr c12
         clear c12
         have H':=Aside0.mk H
         clear H
         have p5 : 0 ≤ (x6_1 : Int):=of_decide_eq_true (by first | (with_reducible assumption) | assumption)
         have q5 : x6_1 < (a0.size : Int):=of_decide_eq_true (by first | (with_reducible assumption) | assumption)
         have hx5:=bt_at a0 x6_1
         replace p5:=eq_true p5
         replace q5:=eq_true q5
         have p9 : 0 ≤ (x6_1 : Int):=of_decide_eq_true (by first | (with_reducible assumption) | assumption)
         have q9 : x6_1 < (a0.size : Int):=of_decide_eq_true (by first | (with_reducible assumption) | assumption)
         have hx9:=bt_at a0 x6_1
         replace p9:=eq_true p9
         replace q9:=eq_true q9
         have p11 : 0 ≤ (x6_1 : Int):=of_decide_eq_true (by first | (with_reducible assumption) | assumption)
         have q11 : x6_1 < (a0.size : Int):=of_decide_eq_true (by first | (with_reducible assumption) | assumption)
         have hx11:=bt_at a0 x6_1
         replace p11:=eq_true p11
         replace q11:=eq_true q11
         go_wp2
         go_roundg k1
         case measure => have:=HK1.out; omega
         case rel => exact ⟨(wrap64 (x6_1 + 1)),(by first | rfl | (simp; done) | (simp [*]; done)),H',⟨by have:=HK1.out; omega⟩,by repeat (first | exact Drawn0.refl _ | apply Drawn0.step)⟩
        ·rw [if_neg c12] at H
         have c12b0 : ((bt a0 x6_1) == 10) = false:=beq_eq_false_iff_ne.mpr c12
         have c12b1 : ((bt a0 x6_1) != 10) = true:=bne_iff_ne.mpr c12
         obtain rfl:=Option.some.inj H
         have p5 : 0 ≤ (x6_1 : Int):=of_decide_eq_true (by first | (with_reducible assumption) | assumption)
         have q5 : x6_1 < (a0.size : Int):=of_decide_eq_true (by first | (with_reducible assumption) | assumption)
         have hx5:=bt_at a0 x6_1
         replace p5:=eq_true p5
         replace q5:=eq_true q5
         have p9 : 0 ≤ (x6_1 : Int):=of_decide_eq_true (by first | (with_reducible assumption) | assumption)
         have q9 : x6_1 < (a0.size : Int):=of_decide_eq_true (by first | (with_reducible assumption) | assumption)
         have hx9:=bt_at a0 x6_1
         replace p9:=eq_true p9
         replace q9:=eq_true q9
         have p11 : 0 ≤ (x6_1 : Int):=of_decide_eq_true (by first | (with_reducible assumption) | assumption)
         have q11 : x6_1 < (a0.size : Int):=of_decide_eq_true (by first | (with_reducible assumption) | assumption)
         have hx11:=bt_at a0 x6_1
         replace p11:=eq_true p11
         replace q11:=eq_true q11
         go_wp2
         go_ret
         exact ⟨by first | rfl | (simp; done) | (simp [*]; done),by repeat (first | exact Drawn0.refl _ | apply Drawn0.step)⟩
       ·rw [if_neg c10] at H
        have c10b0 : decide (126 < (bt a0 x6_1)) = false:=decide_eq_false c10
        clear c10
        by_cases c14 : (bt a0 x6_1) = 45
        ·rw [if_pos c14] at H
         have c14b0 : ((bt a0 x6_1) == 45) = true:=beq_iff_eq.mpr c14
         have c14b1 : ((bt a0 x6_1) != 45) = false:=bne_eq_false_iff_eq.mpr c14
         clear c14
         by_cases c16 : (bt a0 x6_1) = 10
         ·rw [if_pos c16] at H
          have c16b0 : ((bt a0 x6_1) == 10) = true:=beq_iff_eq.mpr c16
          have c16b1 : ((bt a0 x6_1) != 10) = false:=bne_eq_false_iff_eq.mpr c16
          clear c16
          have H':=Aside0.mk H
          clear H
          have p5 : 0 ≤ (x6_1 : Int):=of_decide_eq_true (by first | (with_reducible assumption) | assumption)
          have q5 : x6_1 < (a0.size : Int):=of_decide_eq_true (by first | (with_reducible assumption) | assumption)
          have hx5:=bt_at a0 x6_1
          replace p5:=eq_true p5
          replace q5:=eq_true q5
          have p9 : 0 ≤ (x6_1 : Int):=of_decide_eq_true (by first | (with_reducible assumption) | assumption)
          have q9 : x6_1 < (a0.size : Int):=of_decide_eq_true (by first | (with_reducible assumption) | assumption)
          have hx9:=bt_at a0 x6_1
          replace p9:=eq_true p9
          replace q9:=eq_true q9
          have p13 : 0 ≤ (x6_1 : Int):=of_decide_eq_true (by first | (with_reducible assumption) | assumption)
          have q13 : x6_1 < (a0.size : Int):=of_decide_eq_true (by first | (with_reducible assumption) | assumption)
          have hx13:=bt_at a0 x6_1
          replace p13:=eq_true p13
          replace q13:=eq_true q13
          have p15 : 0 ≤ (x6_1 : Int):=of_decide_eq_true (by first | (with_reducible assumption) | assumption)
          have q15 : x6_1 < (a0.size : Int):=of_decide_eq_true (by first | (with_reducible assumption) | assumption)
          have hx15:=bt_at a0 x6_1
          replace p15:=eq_true p15
          replace q15:=eq_true q15
          go_wp2
          go_roundg k1
          case measure => have:=HK1.out; omega
          case rel => exact ⟨(wrap64 (x6_1 + 1)),(by first | rfl | (simp; done) | (simp [*]; done)),H',⟨by have:=HK1.out; omega⟩,by repeat (first | exact Drawn0.refl _ | apply Drawn0.step)⟩
         ·rw [if_neg c16] at H
          have c16b0 : ((bt a0 x6_1) == 10) = false:=beq_eq_false_iff_ne.mpr c16
          have c16b1 : ((bt a0 x6_1) != 10) = true:=bne_iff_ne.mpr c16
          obtain rfl:=Option.some.inj H
          have p5 : 0 ≤ (x6_1 : Int):=of_decide_eq_true (by first | (with_reducible assumption) | assumption)
          have q5 : x6_1 < (a0.size : Int):=of_decide_eq_true (by first | (with_reducible assumption) | assumption)
          have hx5:=bt_at a0 x6_1
          replace p5:=eq_true p5
          replace q5:=eq_true q5
          have p9 : 0 ≤ (x6_1 : Int):=of_decide_eq_true (by first | (with_reducible assumption) | assumption)
          have q9 : x6_1 < (a0.size : Int):=of_decide_eq_true (by first | (with_reducible assumption) | assumption)
          have hx9:=bt_at a0 x6_1
          replace p9:=eq_true p9
          replace q9:=eq_true q9
          have p13 : 0 ≤ (x6_1 : Int):=of_decide_eq_true (by first | (with_reducible assumption) | assumption)
          have q13 : x6_1 < (a0.size : Int):=of_decide_eq_true (by first | (with_reducible assumption) | assumption)
          have hx13:=bt_at a0 x6_1
          replace p13:=eq_true p13
          replace q13:=eq_true q13
          have p15 : 0 ≤ (x6_1 : Int):=of_decide_eq_true (by first | (with_reducible assumption) | assumption)
          have q15 : x6_1 < (a0.size : Int):=of_decide_eq_true (by first | (with_reducible assumption) | assumption)
          have hx15:=bt_at a0 x6_1
          replace p15:=eq_true p15
          replace q15:=eq_true q15
          go_wp2
          go_ret
          exact ⟨by first | rfl | (simp; done) | (simp [*]; done),by repeat (first | exact Drawn0.refl _ | apply Drawn0.step)⟩
        ·rw [if_neg c14] at H
         have c14b0 : ((bt a0 x6_1) == 45) = false:=beq_eq_false_iff_ne.mpr c14
         have c14b1 : ((bt a0 x6_1) != 45) = true:=bne_iff_ne.mpr c14
         have H':=Aside0.mk H
         clear H
         have p5 : 0 ≤ (x6_1 : Int):=of_decide_eq_true (by first | (with_reducible assumption) | assumption)
         have q5 : x6_1 < (a0.size : Int):=of_decide_eq_true (by first | (with_reducible assumption) | assumption)
         have hx5:=bt_at a0 x6_1
         replace p5:=eq_true p5
         replace q5:=eq_true q5
         have p9 : 0 ≤ (x6_1 : Int):=of_decide_eq_true (by first | (with_reducible assumption) | assumption)
         have q9 : x6_1 < (a0.size : Int):=of_decide_eq_true (by first | (with_reducible assumption) | assumption)
         have hx9:=bt_at a0 x6_1
         replace p9:=eq_true p9
         replace q9:=eq_true q9
         have p13 : 0 ≤ (x6_1 : Int):=of_decide_eq_true (by first | (with_reducible assumption) | assumption)
         have q13 : x6_1 < (a0.size : Int):=of_decide_eq_true (by first | (with_reducible assumption) | assumption)
         have hx13:=bt_at a0 x6_1
         replace p13:=eq_true p13
         replace q13:=eq_true q13
         go_wp2
         go_roundg k1
         case measure => have:=HK1.out; omega
         case rel => exact ⟨(wrap64 (x6_1 + 1)),(by first | rfl | (simp; done) | (simp [*]; done)),H',⟨by have:=HK1.out; omega⟩,by repeat (first | exact Drawn0.refl _ | apply Drawn0.step)⟩
     ·rw [if_neg c4] at H
      exact absurd H (by simp)
    ·rw [if_neg c3] at H
     exact absurd H (by simp)
   ·rw [if_neg c2] at H
    have c2b0 : decide (x6_1 < (a0.size : Int)) = false:=decide_eq_false c2
    clear c2
    obtain rfl:=Option.some.inj H
    go_wp2
    go_ret
    exact ⟨by first | rfl | (simp; done) | (simp [*]; done),by repeat (first | exact Drawn0.refl _ | apply Drawn0.step)⟩
def spec_IsPattern.l0 : Nat → ByteArray → Int → Int → Int → Int → Option (Bool)
 | 0,_,_,_,_,_ => none
 | k + 1,x0,x3,x4,x7,x8 => if x8 < x7 then (if 0 ≤ x8 then (if x8 < (x0.size : Int) then (if (bt x0 x8) = 42 then (if (wrap64 (x4 + 1)) > 2 then (some false) else (spec_IsPattern.l0 k x0 (wrap64 (x3 + 1)) (wrap64 (x4 + 1)) x7 (wrap64 (x8 + 1)))) else (spec_IsPattern.l0 k x0 x3 0 x7 (wrap64 (x8 + 1)))) else (none)) else (none)) else (if x3 ≤ 4 then ((spec_isName.f k x0 true).bind fun t111 => (some t111)) else (some false))
def spec_IsPattern.f (k : Nat) (a0 : ByteArray) : Option (Bool):=spec_IsPattern.l0 k a0 0 0 (a0.size : Int) 0
theorem spec_IsPattern.mono_l : ∀ k,(∀ y0 y1 y2 y3 y4,LeO (spec_IsPattern.l0 k y0 y1 y2 y3 y4) (spec_IsPattern.l0 (k + 1) y0 y1 y2 y3 y4))
 | 0 => fun _ _ _ _ _ r h => by simp [spec_IsPattern.l0] at h
 | k + 1 => by
  have ih0:=spec_IsPattern.mono_l k
  ·intro y0 y1 y2 y3 y4
   unfold spec_IsPattern.l0
   repeat' first
   | (with_reducible exact ih0 _ _ _ _ _)
   | (with_reducible exact spec_isName.mono _ _ _)
   | (with_reducible exact LeO.refl _)
   | (with_reducible exact LeO.none _)
   | (with_reducible refine LeO.ite ?_ ?_)
   | (with_reducible refine LeO.bind ?_ (fun _ => ?_))
   | exact ih0 _ _ _ _ _
   | exact spec_isName.mono _ _ _
   | exact LeO.none _
   | refine LeO.ite ?_ ?_
   | refine LeO.bind ?_ (fun _ => ?_)
theorem spec_IsPattern.mono : ∀ a0 k,LeO (spec_IsPattern.f k a0) (spec_IsPattern.f (k + 1) a0):=by
 intro a0 k
 have ih0:=spec_IsPattern.mono_l k
 unfold spec_IsPattern.f
 repeat' first
   | (with_reducible exact ih0 _ _ _ _ _)
   | (with_reducible exact spec_isName.mono _ _ _)
   | (with_reducible exact LeO.refl _)
   | (with_reducible exact LeO.none _)
   | (with_reducible refine LeO.ite ?_ ?_)
   | (with_reducible refine LeO.bind ?_ (fun _ => ?_))
   | exact ih0 _ _ _ _ _
   | exact spec_isName.mono _ _ _
   | exact LeO.none _
   | refine LeO.ite ?_ ?_
   | refine LeO.bind ?_ (fun _ => ?_)
set_option maxHeartbeats 8000000 in
set_option maxRecDepth 100000 in
theorem spec_IsPattern.calls (k : Nat) (a0 : ByteArray) (r : Bool) (w : World) (h : spec_IsPattern.f k a0 = some r) :
  Calls Tryz.prog 39 #[.string a0] w fun e w' => e = .returned (.bool r) ∧ Below w.heap.size w w':=by
 have HB:=Aside0.mk (Below.refl w.heap.size w)
 have H : (spec_IsPattern.l0 k a0 0 0 (a0.size : Int) 0) = some r:=h
 clear h
 have H':=Aside0.mk H
 clear H
 go_enter Tryz.func39,Tryz.ntmps39
 go_wp2
 go_loopg [3,4,8] k (fun kq v3 v4 v8 w' => ∃ (x3_1 : Int) (x4_1 : Int) (x8_1 : Int),v3 = .int .i64 x3_1 ∧ v4 = .int .i64 x4_1 ∧ v8 = .int .i64 x8_1 ∧ Aside0 (spec_IsPattern.l0 kq a0 x3_1 x4_1 (a0.size : Int) x8_1 = some r) ∧ Aside0 (kq ≤ k) ∧ Aside0 (Below w.heap.size w w'))
 case atStart => exact ⟨(0),(0),(0),(by first | rfl | (simp; done) | (simp [*]; done)),(by first | rfl | (simp; done) | (simp [*]; done)),(by first | rfl | (simp; done) | (simp [*]; done)),H',⟨Nat.le_refl _⟩,⟨by repeat (first | (with_reducible first | exact HB.out | apply below_alloc | apply pw_below_drewN | apply below_drew1) | exact HB.out)⟩⟩
 case round =>
  clear H'
  obtain ⟨x3_1,x4_1,x8_1,rfl,rfl,rfl,HA,HK1,HB⟩:=hrel
  cases gk with
  | zero => exact absurd HA.out (by simp [spec_IsPattern.l0])
  | succ k1 =>
   have H:=HA.out
   clear HA
   simp only [spec_IsPattern.l0] at H
   by_cases c2 : x8_1 < (a0.size : Int)
   ·rw [if_pos c2] at H
    have c2b0 : decide (x8_1 < (a0.size : Int)) = true:=decide_eq_true c2
    clear c2
    by_cases c3 : 0 ≤ x8_1
    ·rw [if_pos c3] at H
     have c3b0 : decide (0 ≤ x8_1) = true:=decide_eq_true c3
     clear c3
     by_cases c4 : x8_1 < (a0.size : Int)
     ·rw [if_pos c4] at H
      have c4b0 : decide (x8_1 < (a0.size : Int)) = true:=decide_eq_true c4
      clear c4
      by_cases c6 : (bt a0 x8_1) = 42
      ·rw [if_pos c6] at H
       have c6b0 : ((bt a0 x8_1) == 42) = true:=beq_iff_eq.mpr c6
       have c6b1 : ((bt a0 x8_1) != 42) = false:=bne_eq_false_iff_eq.mpr c6
       clear c6
       by_cases c7 : (wrap64 (x4_1 + 1)) > 2
       ·rw [if_pos c7] at H
        have c7b0 : decide (2 < (wrap64 (x4_1 + 1))) = true:=decide_eq_true c7
        clear c7
        obtain rfl:=Option.some.inj H
        have p5 : 0 ≤ (x8_1 : Int):=of_decide_eq_true (by first | (with_reducible assumption) | assumption)
        have q5 : x8_1 < (a0.size : Int):=of_decide_eq_true (by first | (with_reducible assumption) | assumption)
        have hx5:=bt_at a0 x8_1
        replace p5:=eq_true p5
        replace q5:=eq_true q5
        go_wp2
        go_ret
        exact ⟨by first | rfl | (simp [errW_none,errW_some] <;> rfl) | (simp [*,errW_none,errW_some] <;> rfl),by repeat (first | (with_reducible first | exact HB.out | apply below_alloc | apply pw_below_drewN | apply below_drew1) | exact HB.out)⟩
       ·rw [if_neg c7] at H
        have c7b0 : decide (2 < (wrap64 (x4_1 + 1))) = false:=decide_eq_false c7
        clear c7
        have H':=Aside0.mk H
        clear H
        have p5 : 0 ≤ (x8_1 : Int):=of_decide_eq_true (by first | (with_reducible assumption) | assumption)
        have q5 : x8_1 < (a0.size : Int):=of_decide_eq_true (by first | (with_reducible assumption) | assumption)
        have hx5:=bt_at a0 x8_1
        replace p5:=eq_true p5
        replace q5:=eq_true q5
        go_wp2
        go_roundg k1
        case measure => have:=HK1.out; omega
        case rel => exact ⟨(wrap64 (x3_1 + 1)),(wrap64 (x4_1 + 1)),(wrap64 (x8_1 + 1)),(by first | rfl | (simp; done) | (simp [*]; done)),(by first | rfl | (simp; done) | (simp [*]; done)),(by first | rfl | (simp; done) | (simp [*]; done)),H',⟨by have:=HK1.out; omega⟩,⟨by repeat (first | (with_reducible first | exact HB.out | apply below_alloc | apply pw_below_drewN | apply below_drew1) | exact HB.out)⟩⟩
      ·rw [if_neg c6] at H
       have c6b0 : ((bt a0 x8_1) == 42) = false:=beq_eq_false_iff_ne.mpr c6
       have c6b1 : ((bt a0 x8_1) != 42) = true:=bne_iff_ne.mpr c6
       have H':=Aside0.mk H
       clear H
       have p5 : 0 ≤ (x8_1 : Int):=of_decide_eq_true (by first | (with_reducible assumption) | assumption)
       have q5 : x8_1 < (a0.size : Int):=of_decide_eq_true (by first | (with_reducible assumption) | assumption)
       have hx5:=bt_at a0 x8_1
       replace p5:=eq_true p5
       replace q5:=eq_true q5
       go_wp2
       go_roundg k1
       case measure => have:=HK1.out; omega
       case rel => exact ⟨(x3_1),(0),(wrap64 (x8_1 + 1)),(by first | rfl | (simp; done) | (simp [*]; done)),(by first | rfl | (simp; done) | (simp [*]; done)),(by first | rfl | (simp; done) | (simp [*]; done)),H',⟨by have:=HK1.out; omega⟩,⟨by repeat (first | (with_reducible first | exact HB.out | apply below_alloc | apply pw_below_drewN | apply below_drew1) | exact HB.out)⟩⟩
     ·rw [if_neg c4] at H
      exact absurd H (by simp)
    ·rw [if_neg c3] at H
     exact absurd H (by simp)
   ·rw [if_neg c2] at H
    have c2b0 : decide (x8_1 < (a0.size : Int)) = false:=decide_eq_false c2
    clear c2
    by_cases c8 : x3_1 ≤ 4
    ·rw [if_pos c8] at H
     have c8b0 : decide (x3_1 ≤ 4) = true:=decide_eq_true c8
     clear c8
     replace H:=Option.bind_eq_some_iff.mp H
     obtain ⟨t111,A90,H⟩:=H
     replace H : (some t111) = some r:=H
     have A9:=Aside0.mk A90
     clear A90
     obtain rfl:=Option.some.inj H
     go_wp2_with (first | (go_at_call 33; (with_reducible refine (spec_isName.calls k1 a0 true t111 _ A9.out).mono ?_); rintro e w10 ⟨rfl,hb⟩; have n0_:=Aside0.mk (below_step (by repeat (first | (with_reducible first | exact HB.out | apply below_alloc | apply pw_below_drewN | apply below_drew1) | exact HB.out)) hb); clear HB; have HB:=n0_; clear n0_; (try clear hb); (try clear hb2); (try clear hk); (try clear hi)))
     go_ret
     exact ⟨by first | rfl | (simp [errW_none,errW_some] <;> rfl) | (simp [*,errW_none,errW_some] <;> rfl),by repeat (first | (with_reducible first | exact HB.out | apply below_alloc | apply pw_below_drewN | apply below_drew1) | exact HB.out)⟩
    ·rw [if_neg c8] at H
     have c8b0 : decide (x3_1 ≤ 4) = false:=decide_eq_false c8
     clear c8
     obtain rfl:=Option.some.inj H
     go_wp2
     go_ret
     exact ⟨by first | rfl | (simp [errW_none,errW_some] <;> rfl) | (simp [*,errW_none,errW_some] <;> rfl),by repeat (first | (with_reducible first | exact HB.out | apply below_alloc | apply pw_below_drewN | apply below_drew1) | exact HB.out)⟩
end Go.Proofs.YtplbifmjnanceaaGreatDoor.PFnArchive
end
section
namespace Go.Proofs.YtplbifmjnanceaaGreatDoor
open Go.RowKit Go.Proofs.YtplbifmjnanceaaGreatDoorW.PrintWords Go.Proofs.YtplbifmjnanceaaGreatDoorW.PrintLast Go.Proofs.YtplbifmjnanceaaGreatDoorW.PrintMore
open Go.Proofs.YtplbifmjnanceaaGreatDoor.PFnArchive
set_option linter.unusedVariables false
set_option linter.unusedSimpArgs false
def sp47 (acc : Bs) : Bs → List Bs
 | [] => [acc]
 | b :: t => if b = 47 then acc :: sp47 [] t else sp47 (acc ++ [b]) t
theorem sp47_mem (l : Bs) : ∀ (acc : Bs) (b : UInt8),b ∈ acc ++ l → b = 47 ∨ ∃ p ∈ sp47 acc l,b ∈ p:=by
 induction l with
 | nil => intro acc b h; rw [List.append_nil] at h; exact Or.inr ⟨acc,List.mem_cons_self,h⟩
 | cons a t ih =>
  intro acc b h
  simp only [sp47]
  by_cases c : a = 47
  ·rw [if_pos c]
   rcases List.mem_append.1 h with h | h
   ·exact Or.inr ⟨acc,List.mem_cons_self,h⟩
   ·rcases List.mem_cons.1 h with h | h
    ·exact Or.inl (h.trans c)
    ·rcases ih [] b (by simpa using h) with h | ⟨p,h1,h2⟩
     ·exact Or.inl h
     ·exact Or.inr ⟨p,List.mem_cons_of_mem _ h1,h2⟩
  ·rw [if_neg c]
   exact ih (acc ++ [a]) b (by simpa using h)
theorem parts_l0 (s : ByteArray) (hs : s.size ≤ 1099511627776) : ∀ (k : Nat) (x3 : List ByteArray) (i j : Nat),i ≤ j → j ≤ s.size → s.size - j + 1 < k → x3.length ≤ j →
  spec_partsOf.l0 k s x3 (i : Int) (j : Int) = some (x3 ++ (sp47 ((s.data.toList.drop i).take (j - i)) (s.data.toList.drop j)).map mkB):=by
 intro k
 induction k with
 | zero => intro x3 i j _ _ h; omega
 | succ k ih =>
  intro x3 i j h1 h2 h3 h4
  unfold spec_partsOf.l0
  have e1 : wrap64 ((j : Int) + 1) = ((j + 1 : Nat) : Int):=by unfold wrap64; omega
  rw [if_pos (by omega)]
  by_cases c : j < s.size
  ·rw [if_neg (by omega),if_pos (by omega),if_pos (by omega)]
   have hl : j < s.data.toList.length:=c
   have hd : s.data.toList.drop j = s.data.toList[j] :: s.data.toList.drop (j + 1):=List.drop_eq_getElem_cons hl
   have ht : (s.data.toList.drop i).take (j + 1 - i) = (s.data.toList.drop i).take (j - i) ++ [s.data.toList[j]]:=by
    rw [show j + 1 - i = (j - i) + 1 by omega,List.take_add_one,List.getElem?_drop,show i + (j - i) = j by omega,List.getElem?_eq_getElem hl]
    rfl
   rw [hd,bt_list s j hl]
   by_cases n : s.data.toList[j] = 47
   ·rw [if_pos (by rw [n]; rfl),if_pos (by omega),if_pos (by omega),if_pos (by omega),e1,ih _ (j + 1) (j + 1) (Nat.le_refl _) c (by omega) (by simp; omega)]
    simp only [Int.toNat_natCast,sp47,n,if_true]
    rw [extract_seg s i j h2]
    simp
   ·have nn : ¬ ((s.data.toList[j].toNat : Nat) : Int) = 47:=by
     intro e
     apply n
     apply UInt8.toNat_inj.1
     show s.data.toList[j].toNat = 47
     omega
    rw [if_neg nn,e1,ih _ i (j + 1) (by omega) c (by omega) (by omega),ht]
    simp only [sp47,n,if_false]
  ·have ej : j = s.size:=by omega
   rw [if_pos (by omega),if_pos (by omega),if_pos (by omega),if_pos (by omega),e1]
   have hd : s.data.toList.drop j = []:=List.drop_eq_nil_of_le (by rw [ej]; exact Nat.le_refl _)
   rw [hd]
   cases k with
   | zero => omega
   | succ k =>
    unfold spec_partsOf.l0
    rw [if_neg (by omega)]
    simp only [Int.toNat_natCast,sp47,List.map_cons,List.map_nil]
    rw [extract_seg s i j h2]
theorem parts_f (s : ByteArray) (hs : s.size ≤ 1099511627776) : ∃ k,spec_partsOf.f k s = some ((sp47 [] s.data.toList).map mkB):=by
 have h1:=parts_l0 s hs (s.size + 2) [] 0 0 (Nat.le_refl _) (Nat.zero_le _) (by omega) (Nat.le_refl _)
 refine ⟨_,h1.trans ?_⟩
 simp
def okN (wild : Bool) (b : Int) : Prop:=(97 ≤ b ∧ b ≤ 122) ∨ (48 ≤ b ∧ b ≤ 57) ∨ b = 46 ∨ (wild = true ∧ (b = 42 ∨ b = 63))
def PartOk (wild : Bool) (p : ByteArray) : Prop:=p.data.toList ≠ [] ∧ p.size ≤ 8 ∧ ∀ q : Nat,q < p.size → okN wild (bt p (q : Int))
set_option maxHeartbeats 2000000 in
theorem name_l1 (wild : Bool) (x5 L : List ByteArray) (p : ByteArray) (n i : Int) (hp : p.size ≤ 2147483647) (h0 : 0 < p.size → bt p 0 ≠ 46) (k0 : Nat) (r0 : Bool) (hr0 : spec_isName.l0 k0 wild x5 L n (wrap64 (i + 1)) = some r0) :
  ∀ (m j : Nat),p.size - j = m → j ≤ p.size → ∃ r,spec_isName.l1 (m + k0 + 1) wild x5 p L n i (p.size : Int) (j : Int) = some r ∧ (r = true → r0 = true ∧ ∀ q : Nat,j ≤ q → q < p.size → okN wild (bt p (q : Int))):=by
 intro m
 induction m with
 | zero =>
  intro j h1 h2
  unfold spec_isName.l1
  rw [if_neg (by omega),Nat.zero_add,hr0]
  exact ⟨r0,rfl,fun h => ⟨h,fun q h3 h4 => by omega⟩⟩
 | succ m ih =>
  intro j h1 h2
  obtain ⟨r1,hr1,hk1⟩:=ih (j + 1) (by omega) (by omega)
  have e1 : wrap64 ((j : Int) + 1) = ((j + 1 : Nat) : Int):=by unfold wrap64; omega
  have hw : bt p (j : Int) = 46 → 0 ≤ wrap64 ((j : Int) - 1) ∧ wrap64 ((j : Int) - 1) < (p.size : Int):=by
   intro hb
   have hj : j ≠ 0:=by
    intro e
    subst e
    exact h0 (by omega) hb
   have e2 : wrap64 ((j : Int) - 1) = ((j - 1 : Nat) : Int):=by unfold wrap64; omega
   rw [e2]
   omega
  have good : okN wild (bt p (j : Int)) → ∃ r,some r1 = some r ∧ (r = true → r0 = true ∧ ∀ q : Nat,j ≤ q → q < p.size → okN wild (bt p (q : Int))):=by
   intro hok
   refine ⟨r1,rfl,fun h => ⟨(hk1 h).1,fun q h3 h4 => ?_⟩⟩
   rcases Nat.eq_or_lt_of_le h3 with e | e
   ·rw [← e]; exact hok
   ·exact (hk1 h).2 q e h4
  have bad : ∃ r,some false = some r ∧ (r = true → r0 = true ∧ ∀ q : Nat,j ≤ q → q < p.size → okN wild (bt p (q : Int))):=⟨false,rfl,fun h => by cases h⟩
  rw [show m + 1 + k0 + 1 = (m + k0 + 1) + 1 by omega]
  unfold spec_isName.l1
  rw [if_pos (by omega),if_pos (by omega),if_pos (by omega),e1,hr1]
  generalize wrap64 ((j : Int) - 1) = wq at *
  generalize bt p (j : Int) = b at *
  clear e1 hr1 hk1 ih hr0 h0 h1 h2
  unfold okN at good
  repeat' split
  all_goals first
   | exact bad
   | (exfalso; omega)
   | exact good (Or.inl ⟨by omega,by omega⟩)
   | exact good (Or.inr (Or.inl ⟨by omega,by omega⟩))
   | exact good (Or.inr (Or.inr (Or.inl (by omega))))
   | exact good (Or.inr (Or.inr (Or.inr ⟨by assumption,Or.inl (by omega)⟩)))
   | exact good (Or.inr (Or.inr (Or.inr ⟨by assumption,Or.inr (by omega)⟩)))
theorem toList_nil (p : ByteArray) : p.toList = ([] : List UInt8) ↔ p.data.toList = []:=by rw [ByteArray.toList_eq]
theorem name_l0 (wild : Bool) (L : List ByteArray) (hL : L.length ≤ 2147483648) (hp : ∀ p ∈ L,p.size ≤ 2147483647) : ∀ (m i : Nat),L.length - i = m → i ≤ L.length → ∃ k r,spec_isName.l0 k wild L L (L.length : Int) (i : Int) = some r ∧ (r = true → L.length ≤ 3 ∧ ∀ (j : Nat) p,i ≤ j → L[j]? = some p → PartOk wild p):=by
 intro m
 induction m with
 | zero =>
  intro i h1 h2
  refine ⟨1,_,by unfold spec_isName.l0; rw [if_neg (by omega)],fun hr => ⟨?_,fun j p h3 h4 => ?_⟩⟩
  ·have:=of_decide_eq_true hr
   omega
  ·have:=get_lt h4
   omega
 | succ m ih =>
  intro i h1 h2
  obtain ⟨k0,r0,hr0,hg0⟩:=ih (i + 1) (by omega) (by omega)
  have e1 : wrap64 ((i : Int) + 1) = ((i + 1 : Nat) : Int):=by unfold wrap64; omega
  obtain ⟨p,hpi⟩ : ∃ p,L[i]? = some p:=⟨L[i],List.getElem?_eq_getElem (by omega)⟩
  have hps:=hp p (List.mem_of_getElem? hpi)
  by_cases c0 : p.toList = ([] : List UInt8)
  ·refine ⟨2 + 1,false,?_,fun h => by cases h⟩
   unfold spec_isName.l0
   rw [if_pos (by omega),if_pos (by omega),if_pos (by omega),rd_get hpi,if_pos c0]
   unfold spec_isName.j1
   rw [if_pos rfl]
  ·have hpne : p.data.toList ≠ []:=fun e => c0 ((toList_nil p).2 e)
   have hpos : 0 < p.size:=List.length_pos_iff.2 hpne
   by_cases c1 : (p.size : Int) > 8
   ·refine ⟨2 + 1,false,?_,fun h => by cases h⟩
    unfold spec_isName.l0
    rw [if_pos (by omega),if_pos (by omega),if_pos (by omega),rd_get hpi,if_neg c0,if_pos c1]
    unfold spec_isName.j1
    rw [if_pos rfl]
   ·by_cases c2 : bt p 0 = 46
    ·refine ⟨2 + 1,false,?_,fun h => by cases h⟩
     unfold spec_isName.l0
     rw [if_pos (by omega),if_pos (by omega),if_pos (by omega),rd_get hpi,if_neg c0,if_neg c1,if_pos (by omega),if_pos c2]
     unfold spec_isName.j1
     rw [if_pos rfl]
    ·have e2 : wrap64 ((p.size : Int) - 1) = ((p.size - 1 : Nat) : Int):=by unfold wrap64; omega
     obtain ⟨r,hr,hk⟩:=name_l1 wild L L p (L.length : Int) (i : Int) hps (fun _ => c2) k0 r0 (by rw [e1]; exact hr0) p.size 0 (by omega) (by omega)
     by_cases c3 : (bt p (((p.size - 1 : Nat)) : Int) == 46) = true
     ·refine ⟨2 + 1,false,?_,fun h => by cases h⟩
      unfold spec_isName.l0
      rw [if_pos (by omega),if_pos (by omega),if_pos (by omega),rd_get hpi,if_neg c0,if_neg c1,if_pos (by omega),if_neg c2,e2,if_pos (by omega),if_pos (by omega),c3]
      unfold spec_isName.j1
      rw [if_pos rfl]
     ·refine ⟨p.size + k0 + 1 + 1 + 1,r,?_,fun h => ⟨(hg0 (hk h).1).1,fun j q h3 h4 => ?_⟩⟩
      ·unfold spec_isName.l0
       rw [if_pos (by omega),if_pos (by omega),if_pos (by omega),rd_get hpi,if_neg c0,if_neg c1,if_pos (by omega),if_neg c2,e2,if_pos (by omega),if_pos (by omega),Bool.eq_false_iff.2 c3]
       unfold spec_isName.j1
       rw [if_neg (by decide)]
       exact hr
      ·rcases Nat.eq_or_lt_of_le h3 with e | e
       ·subst e
        rw [hpi] at h4
        injection h4 with h4
        subst h4
        exact ⟨hpne,by omega,fun q h5 => (hk h).2 q (Nat.zero_le _) h5⟩
       ·exact (hg0 (hk h).1).2 j q e h4
def NameB (wild : Bool) (l : Bs) : Prop:=l ≠ [] ∧ (∀ b ∈ l,b = 47 ∨ okN wild (b.toNat : Int)) ∧ l.length ≤ 26
theorem sp47_len (B : Nat) (l : Bs) : ∀ acc : Bs,(∀ p ∈ sp47 acc l,p.length ≤ B) → acc.length + l.length + 1 ≤ (sp47 acc l).length * (B + 1):=by
 induction l with
 | nil =>
  intro acc h
  have:=h acc List.mem_cons_self
  simp only [sp47,List.length_cons,List.length_nil]
  omega
 | cons a t ih =>
  intro acc h
  simp only [sp47] at h ⊢
  by_cases c : a = 47
  ·rw [if_pos c] at h ⊢
   have h1:=h acc List.mem_cons_self
   have h2:=ih [] (fun p hp => h p (List.mem_cons_of_mem _ hp))
   rw [List.length_cons,List.length_cons,Nat.add_mul]
   simp only [List.length_nil] at h2
   omega
  ·rw [if_neg c] at h ⊢
   have h2:=ih (acc ++ [a]) h
   rw [List.length_append,List.length_singleton] at h2
   rw [List.length_cons]
   omega
theorem isName_f (s : ByteArray) (hs : s.size ≤ 2147483647) (wild : Bool) : ∃ k r,spec_isName.f k s wild = some r ∧ (r = true → NameB wild s.data.toList):=by
 obtain ⟨k1,h1⟩:=parts_f s (by omega)
 have hsum : ∀ (l acc : Bs),(sp47 acc l).length ≤ l.length + 1 ∧ ∀ p ∈ sp47 acc l,p.length ≤ acc.length + l.length:=by
  intro l
  induction l with
  | nil => intro acc; simp [sp47]
  | cons a t ih =>
   intro acc
   simp only [sp47]
   split
   ·obtain ⟨i1,i2⟩:=ih []
    refine ⟨by simp only [List.length_cons]; omega,fun p hp => ?_⟩
    rcases List.mem_cons.1 hp with e | e
    ·subst e; simp
    ·have:=i2 p e
     simp only [List.length_cons,List.length_nil] at this ⊢
     omega
   ·obtain ⟨i1,i2⟩:=ih (acc ++ [a])
    refine ⟨by simp only [List.length_cons]; omega,fun p hp => ?_⟩
    have:=i2 p hp
    simp only [List.length_cons,List.length_append,List.length_nil] at this ⊢
    omega
 have hlen : s.data.toList.length ≤ 2147483647:=hs
 obtain ⟨i1,i2⟩:=hsum s.data.toList []
 obtain ⟨k2,r,h2,h3⟩:=name_l0 wild ((sp47 [] s.data.toList).map mkB) (by rw [List.length_map]; omega) (by
  intro p hp
  obtain ⟨q,hq,rfl⟩:=List.mem_map.1 hp
  rw [mkB_size]
  have:=i2 q hq
  simp only [List.length_nil] at this
  omega) _ 0 rfl (Nat.zero_le _)
 refine ⟨k1 + k2,r,?_,fun hr => ?_⟩
 ·unfold spec_isName.f
  rw [at_rounds (g:=fun k => spec_partsOf.f k s) (fun k => spec_partsOf.mono s k) (Nat.le_add_right k1 k2) h1]
  exact at_rounds (g:=fun k => spec_isName.l0 k wild ((sp47 [] s.data.toList).map mkB) ((sp47 [] s.data.toList).map mkB) (((sp47 [] s.data.toList).map mkB).length : Int) 0) (fun k => (spec_isName.mono_l k).1 _ _ _ _ _) (Nat.le_add_left k2 k1) h2
 ·have hparts : ∀ p ∈ sp47 [] s.data.toList,PartOk wild (mkB p):=by
   intro p hp
   obtain ⟨j,hj⟩:=List.getElem?_of_mem hp
   exact (h3 hr).2 j (mkB p) (Nat.zero_le _) (by rw [List.getElem?_map,hj]; rfl)
  refine ⟨fun e => ?_,fun b hb => ?_,?_⟩
  ·have:=(hparts [] (by rw [e]; exact List.mem_cons_self)).1
   exact this (mkB_list [])
  ·rcases sp47_mem s.data.toList [] b (by simpa using hb) with h | ⟨p,h4,h5⟩
   ·exact Or.inl h
   ·obtain ⟨q,hq,he⟩:=List.getElem_of_mem h5
    have h6:=(hparts p h4).2.2 q (by rw [mkB_size]; exact hq)
    have hl : (mkB p).data.toList = p:=mkB_list p
    rw [bt_list (mkB p) q (by rw [hl]; exact hq)] at h6
    simp only [hl] at h6
    rw [he] at h6
    exact Or.inr h6
  ·have h4:=(h3 hr).1
   rw [List.length_map] at h4
   have h5:=sp47_len 8 s.data.toList [] (fun p hp => by have:=(hparts p hp).2.1; rw [mkB_size] at this; exact this)
   have h6 : (sp47 [] s.data.toList).length * (8 + 1) ≤ 3 * (8 + 1):=Nat.mul_le_mul_right _ h4
   simp only [List.length_nil] at h5
   omega
end Go.Proofs.YtplbifmjnanceaaGreatDoor
end
section
namespace Go.Proofs.YtplbifmjnanceaaGreatDoor
open Go.RowKit Go.Proofs.YtplbifmjnanceaaGreatDoorW.PrintWords Go.Proofs.YtplbifmjnanceaaGreatDoorW.PrintLast Go.Proofs.YtplbifmjnanceaaGreatDoorW.PrintMore
open Go.Proofs.YtplbifmjnanceaaGreatDoor.PFnArchive
set_option linter.unusedVariables false
set_option linter.unusedSimpArgs false
theorem IsName_f (s : ByteArray) (hs : s.size ≤ 2147483647) : ∃ k r,spec_IsName.f k s = some r ∧ (r = true → NameB false s.data.toList):=by
 obtain ⟨k,r,h1,h2⟩:=isName_f s hs false
 exact ⟨k,r,by unfold spec_IsName.f; rw [h1]; rfl,h2⟩
theorem pat_l0 (s : ByteArray) (hs : s.size ≤ 2147483647) (k0 : Nat) (r0 : Bool) (hr0 : spec_isName.f k0 s true = some r0) : ∀ (m i st row : Nat),s.size - i = m → i ≤ s.size → st ≤ i → row ≤ i →
  ∃ r,spec_IsPattern.l0 (m + k0 + 1) s (st : Int) (row : Int) (s.size : Int) (i : Int) = some r ∧ (r = true → r0 = true):=by
 intro m
 induction m with
 | zero =>
  intro i st row h1 h2 h3 h4
  unfold spec_IsPattern.l0
  rw [if_neg (by omega),Nat.zero_add,hr0]
  split
  ·exact ⟨r0,rfl,fun h => h⟩
  ·exact ⟨false,rfl,fun h => by cases h⟩
 | succ m ih =>
  intro i st row h1 h2 h3 h4
  have e1 : wrap64 ((i : Int) + 1) = ((i + 1 : Nat) : Int):=by unfold wrap64; omega
  have e2 : wrap64 ((st : Int) + 1) = ((st + 1 : Nat) : Int):=by unfold wrap64; omega
  have e3 : wrap64 ((row : Int) + 1) = ((row + 1 : Nat) : Int):=by unfold wrap64; omega
  rw [show m + 1 + k0 + 1 = (m + k0 + 1) + 1 by omega]
  unfold spec_IsPattern.l0
  rw [if_pos (by omega),if_pos (by omega),if_pos (by omega),e1,e2,e3]
  split
  ·split
   ·exact ⟨false,rfl,fun h => by cases h⟩
   ·exact ih (i + 1) (st + 1) (row + 1) (by omega) (by omega) (by omega) (by omega)
  ·exact ih (i + 1) st 0 (by omega) (by omega) (by omega) (by omega)
theorem IsPattern_f (s : ByteArray) (hs : s.size ≤ 2147483647) : ∃ k r,spec_IsPattern.f k s = some r ∧ (r = true → NameB true s.data.toList):=by
 obtain ⟨k0,r0,h1,h2⟩:=isName_f s hs true
 obtain ⟨r,h3,h4⟩:=pat_l0 s hs k0 r0 h1 s.size 0 0 0 (by omega) (by omega) (by omega) (by omega)
 exact ⟨_,r,h3,fun h => h2 (h4 h)⟩
theorem data_l0 (s : ByteArray) (hs : s.size ≤ 2147483647) : ∀ (m i : Nat),s.size - i = m → i ≤ s.size →
  ∃ r,spec_IsData.l0 (m + 1) s (s.size : Int) (i : Int) = some r ∧ (r = true → s.size ≤ 200 ∧ ∀ q : Nat,i ≤ q → q < s.size → bt s (q : Int) ≠ 45):=by
 intro m
 induction m with
 | zero =>
  intro i h1 h2
  unfold spec_IsData.l0
  rw [if_neg (by omega)]
  refine ⟨_,rfl,fun h => ⟨?_,fun q h3 h4 => by omega⟩⟩
  have:=of_decide_eq_true h
  omega
 | succ m ih =>
  intro i h1 h2
  obtain ⟨r1,hr1,hk1⟩:=ih (i + 1) (by omega) (by omega)
  have e1 : wrap64 ((i : Int) + 1) = ((i + 1 : Nat) : Int):=by unfold wrap64; omega
  have good : bt s (i : Int) ≠ 45 → ∃ r,some r1 = some r ∧ (r = true → s.size ≤ 200 ∧ ∀ q : Nat,i ≤ q → q < s.size → bt s (q : Int) ≠ 45):=by
   intro hok
   refine ⟨r1,rfl,fun h => ⟨(hk1 h).1,fun q h3 h4 => ?_⟩⟩
   rcases Nat.eq_or_lt_of_le h3 with e | e
   ·rw [← e]; exact hok
   ·exact (hk1 h).2 q e h4
  have bad : ∃ r,some false = some r ∧ (r = true → s.size ≤ 200 ∧ ∀ q : Nat,i ≤ q → q < s.size → bt s (q : Int) ≠ 45):=⟨false,rfl,fun h => by cases h⟩
  unfold spec_IsData.l0
  rw [if_pos (by omega),if_pos (by omega),if_pos (by omega),e1,hr1]
  generalize bt s (i : Int) = b at *
  clear e1 hr1 hk1 ih h1 h2
  repeat' split
  all_goals first
   | exact bad
   | (exfalso; omega)
   | exact good (by omega)
theorem IsData_f (s : ByteArray) (hs : s.size ≤ 2147483647) : ∃ k r,spec_IsData.f k s = some r ∧ (r = true → s.size ≤ 200 ∧ (45 : UInt8) ∉ s.data.toList):=by
 obtain ⟨r,h1,h2⟩:=data_l0 s hs s.size 0 (by omega) (by omega)
 refine ⟨_,r,h1,fun h => ⟨(h2 h).1,fun hm => ?_⟩⟩
 obtain ⟨q,hq,he⟩:=List.getElem_of_mem hm
 apply (h2 h).2 q (Nat.zero_le _) hq
 rw [bt_list s q hq,he]
 rfl
theorem word_l0 (s : ByteArray) (hs : s.size ≤ 2147483647) : ∀ (m i : Nat),s.size - i = m → i ≤ s.size →
  ∃ r,spec_isWord.l0 (m + 1) s (s.size : Int) (i : Int) = some r ∧ (r = true → (s.data.toList ≠ [] ∧ s.size ≤ 8) ∧ ∀ q : Nat,i ≤ q → q < s.size → 97 ≤ bt s (q : Int) ∧ bt s (q : Int) ≤ 122):=by
 intro m
 induction m with
 | zero =>
  intro i h1 h2
  unfold spec_isWord.l0
  rw [if_neg (by omega)]
  split
  ·exact ⟨_,rfl,fun h => by cases h⟩
  ·refine ⟨_,rfl,fun h => ⟨⟨fun e => ‹¬ s.toList = ([] : List UInt8)› ((toList_nil s).2 e),?_⟩,fun q h3 h4 => by omega⟩⟩
   have:=of_decide_eq_true h
   omega
 | succ m ih =>
  intro i h1 h2
  obtain ⟨r1,hr1,hk1⟩:=ih (i + 1) (by omega) (by omega)
  have e1 : wrap64 ((i : Int) + 1) = ((i + 1 : Nat) : Int):=by unfold wrap64; omega
  unfold spec_isWord.l0
  rw [if_pos (by omega),if_pos (by omega),if_pos (by omega),e1,hr1]
  split
  ·exact ⟨false,rfl,fun h => by cases h⟩
  ·split
   ·exact ⟨false,rfl,fun h => by cases h⟩
   ·refine ⟨r1,rfl,fun h => ⟨(hk1 h).1,fun q h3 h4 => ?_⟩⟩
    rcases Nat.eq_or_lt_of_le h3 with e | e
    ·subst e; omega
    ·exact (hk1 h).2 q e h4
def WordB (l : Bs) : Prop:=l ≠ [] ∧ l.length ≤ 8 ∧ ∀ b ∈ l,97 ≤ (b.toNat : Int) ∧ (b.toNat : Int) ≤ 122
theorem isWord_f (s : ByteArray) (hs : s.size ≤ 2147483647) : ∃ k r,spec_isWord.f k s = some r ∧ (r = true → WordB s.data.toList):=by
 obtain ⟨r,h1,h2⟩:=word_l0 s hs s.size 0 (by omega) (by omega)
 refine ⟨_,r,h1,fun h => ⟨(h2 h).1.1,(h2 h).1.2,fun b hm => ?_⟩⟩
 obtain ⟨q,hq,he⟩:=List.getElem_of_mem hm
 have:=(h2 h).2 q (Nat.zero_le _) hq
 rwa [bt_list s q hq,he] at this
end Go.Proofs.YtplbifmjnanceaaGreatDoor
end
section
namespace Go.Proofs.YtplbifmjnanceaaGreatDoor
open Go.RowKit
set_option linter.unusedVariables false
def sl (l : List Value) : Nat → Value:=fun i => l.getD i undef
def FrOf (n : Nat) (u : Nat → Value) : List Value:=(List.range n).map u
theorem frOf_sl (n : Nat) (l : List Value) (h : l.length = n) : FrOf n (sl l) = l:=by
 unfold FrOf sl
 apply List.ext_getElem
 ·simp [h]
 ·intro i h1 h2
  simp [h2]
theorem cutU {P : Program} {s : Code} {K : Act → World → Prop} {Q' : Exit → Act → World → Prop} {l : List Value} {w : World} (n : Nat) (R : (Nat → Value) → World → Prop)
  (rest : ∀ u w',R u w' → K ⟨(FrOf n u).toArray,[]⟩ w')
  (first : ∀ (J K' : Act → World → Prop),(∀ l' w',List.length l' = n → R (sl l') w' → J ⟨l'.toArray,[]⟩ w') → (∀ a' w',Met J a' w' → K' a' w') → s.wp P (Exit.then K' Q') ⟨l.toArray,[]⟩ w) : s.wp P (Exit.then K Q') ⟨l.toArray,[]⟩ w:=by
 refine wp_cut (fun a' w' => ∃ l' : List Value,l'.length = n ∧ R (sl l') w' ∧ a' = ⟨l'.toArray,[]⟩) ?_ ?_
 ·rintro a' w' ⟨l',hl,hR,rfl⟩
  have:=rest _ _ hR
  rwa [frOf_sl n l' hl] at this
 ·intro J K' hJ hK
  exact first J K' (fun l' w' hl hR => hJ _ _ ⟨l',hl,hR,rfl⟩) hK
theorem loopU {P : Program} {c : Code} {Q : Exit → Act → World → Prop} {l : List Value} {w : World} (n : Nat) (R : (Nat → Value) → World → Prop) (m : (Nat → Value) → World → Nat) (hl : l.length = n) (h0 : R (sl l) w)
  (round : ∀ u w',R u w' → ∀ (J K' : Act → World → Prop),(∀ l' w'',List.length l' = n → m (sl l') w'' < m u w' → R (sl l') w'' → J ⟨l'.toArray,[]⟩ w'') → (∀ a' w',Met J a' w' → K' a' w') → c.wp P (Exit.then K' Q) ⟨(FrOf n u).toArray,[]⟩ w') : (Code.loop c).wp P Q ⟨l.toArray,[]⟩ w:=by
 refine wp_loop (fun a' w' => ∃ l' : List Value,l'.length = n ∧ R (sl l') w' ∧ a' = ⟨l'.toArray,[]⟩) (fun a' w' => m (sl a'.tmps.toList) w') ⟨l,hl,h0,rfl⟩ ?_
 rintro a' w' ⟨l',hl',hR,rfl⟩
 have:=round _ _ hR (fun a w'' => (∃ l' : List Value,l'.length = n ∧ R (sl l') w'' ∧ a = ⟨l'.toArray,[]⟩) ∧ m (sl a.tmps.toList) w'' < m (sl l') w') _ (fun l2 w2 h1 h2 h3 => ⟨⟨l2,h1,h3,rfl⟩,h2⟩) (fun _ _ h => h)
 rwa [frOf_sl n l' hl'] at this
theorem loopG {P : Program} {c : Code} {Q : Exit → Act → World → Prop} {l : List Value} {w : World} (n : Nat) (R : Nat → (Nat → Value) → World → Prop) (g0 : Nat) (hl : l.length = n) (h0 : R g0 (sl l) w)
  (round : ∀ g u w',R g u w' → ∀ (J K' : Act → World → Prop),(∀ g' l' w'',List.length l' = n → g' < g → R g' (sl l') w'' → J ⟨l'.toArray,[]⟩ w'') → (∀ a' w',Met J a' w' → K' a' w') → c.wp P (Exit.then K' Q) ⟨(FrOf n u).toArray,[]⟩ w') : (Code.loop c).wp P Q ⟨l.toArray,[]⟩ w:=by
 refine wp_loop_ghost (fun g a' w' => ∃ l' : List Value,l'.length = n ∧ R g (sl l') w' ∧ a' = ⟨l'.toArray,[]⟩) g0 ⟨l,hl,h0,rfl⟩ ?_
 rintro g a' w' ⟨l',hl',hR,rfl⟩
 have:=round g _ _ hR (fun a w'' => ∃ g',g' < g ∧ ∃ l' : List Value,l'.length = n ∧ R g' (sl l') w'' ∧ a = ⟨l'.toArray,[]⟩) _ (fun g2 l2 w2 h1 h2 h3 => ⟨g2,h2,l2,h1,h3,rfl⟩) (fun _ _ h => h)
 rwa [frOf_sl n l' hl'] at this
set_option maxRecDepth 100000 in
theorem lit379 (u : Nat → Value) : FrOf 379 u = [u 0,u 1,u 2,u 3,u 4,u 5,u 6,u 7,u 8,u 9,u 10,u 11,u 12,u 13,u 14,u 15,u 16,u 17,u 18,u 19,u 20,u 21,u 22,u 23,u 24,u 25,u 26,u 27,u 28,u 29,u 30,u 31,u 32,u 33,u 34,u 35,u 36,u 37,u 38,u 39,u 40,u 41,u 42,u 43,u 44,u 45,u 46,u 47,u 48,u 49,u 50,u 51,u 52,u 53,u 54,u 55,u 56,u 57,u 58,u 59,u 60,u 61,u 62,u 63,u 64,u 65,u 66,u 67,u 68,u 69,u 70,u 71,u 72,u 73,u 74,u 75,u 76,u 77,u 78,u 79,u 80,u 81,u 82,u 83,u 84,u 85,u 86,u 87,u 88,u 89,u 90,u 91,u 92,u 93,u 94,u 95,u 96,u 97,u 98,u 99,u 100,u 101,u 102,u 103,u 104,u 105,u 106,u 107,u 108,u 109,u 110,u 111,u 112,u 113,u 114,u 115,u 116,u 117,u 118,u 119,u 120,u 121,u 122,u 123,u 124,u 125,u 126,u 127,u 128,u 129,u 130,u 131,u 132,u 133,u 134,u 135,u 136,u 137,u 138,u 139,u 140,u 141,u 142,u 143,u 144,u 145,u 146,u 147,u 148,u 149,u 150,u 151,u 152,u 153,u 154,u 155,u 156,u 157,u 158,u 159,u 160,u 161,u 162,u 163,u 164,u 165,u 166,u 167,u 168,u 169,u 170,u 171,u 172,u 173,u 174,u 175,u 176,u 177,u 178,u 179,u 180,u 181,u 182,u 183,u 184,u 185,u 186,u 187,u 188,u 189,u 190,u 191,u 192,u 193,u 194,u 195,u 196,u 197,u 198,u 199,u 200,u 201,u 202,u 203,u 204,u 205,u 206,u 207,u 208,u 209,u 210,u 211,u 212,u 213,u 214,u 215,u 216,u 217,u 218,u 219,u 220,u 221,u 222,u 223,u 224,u 225,u 226,u 227,u 228,u 229,u 230,u 231,u 232,u 233,u 234,u 235,u 236,u 237,u 238,u 239,u 240,u 241,u 242,u 243,u 244,u 245,u 246,u 247,u 248,u 249,u 250,u 251,u 252,u 253,u 254,u 255,u 256,u 257,u 258,u 259,u 260,u 261,u 262,u 263,u 264,u 265,u 266,u 267,u 268,u 269,u 270,u 271,u 272,u 273,u 274,u 275,u 276,u 277,u 278,u 279,u 280,u 281,u 282,u 283,u 284,u 285,u 286,u 287,u 288,u 289,u 290,u 291,u 292,u 293,u 294,u 295,u 296,u 297,u 298,u 299,u 300,u 301,u 302,u 303,u 304,u 305,u 306,u 307,u 308,u 309,u 310,u 311,u 312,u 313,u 314,u 315,u 316,u 317,u 318,u 319,u 320,u 321,u 322,u 323,u 324,u 325,u 326,u 327,u 328,u 329,u 330,u 331,u 332,u 333,u 334,u 335,u 336,u 337,u 338,u 339,u 340,u 341,u 342,u 343,u 344,u 345,u 346,u 347,u 348,u 349,u 350,u 351,u 352,u 353,u 354,u 355,u 356,u 357,u 358,u 359,u 360,u 361,u 362,u 363,u 364,u 365,u 366,u 367,u 368,u 369,u 370,u 371,u 372,u 373,u 374,u 375,u 376,u 377,u 378]:=rfl
end Go.Proofs.YtplbifmjnanceaaGreatDoor
end
section
namespace Go.Proofs.YtplbifmjnanceaaGreatDoor
open Go.RowKit Go.Maps
open Go.ChangeMaps Go.WideMaps
def MapIs (P : Program) (w : World) (b n : Nat) (f : List UInt8 → Int) (S : List UInt8 → Prop) : Prop :=
 ∃ D : DataW Unit,w.ownsMap P 9 (plainElem P 3) b n D ∧ IsMap D ∧ (∀ s,D.atKey (.string s) (.lit (.int .i64 0)) = .lit (.int .i64 (f s))) ∧ ∀ s,S s → has D (.string s) = true
theorem keyS : Keyed Tryz.prog 9:=string_keyed Tryz.underlying9
theorem zeroInt (w : World) : (zeroValue 3).run Tryz.prog w = .ok (.int .i64 0) w:=by kernel_rfl
theorem MapIs.made (w : World) : MapIs Tryz.prog (w.alloc (.map #[] 0)) w.heap.size 0 (fun _ => 0) (fun _ => False) :=
 ⟨.map [],World.ownsMap_made _ _ _ _,isMap_empty,fun _ => rfl,fun _ h => h.elim⟩
theorem MapIs.kept {P : Program} {w w' : World} {b n : Nat} {f : List UInt8 → Int} {S : List UInt8 → Prop} {row : Option Nat} (h : MapIs P w b n f S) (hg : w.grownBy w' row) (hne : some b ≠ row) : MapIs P w' b n f S:=by
 obtain ⟨D,h1,h2⟩:=h
 exact ⟨D,h1.kept hg hne,h2⟩
theorem MapIs.alloc {P : Program} {w : World} {b n : Nat} {f : List UInt8 → Int} {S : List UInt8 → Prop} (h : MapIs P w b n f S) (o : Obj) : MapIs P (w.alloc o) b n f S:=h.kept (World.grownBy_alloc w o none) (by simp)
theorem MapIs.imp {P : Program} {w : World} {b n n' : Nat} {f g : List UInt8 → Int} {S S' : List UInt8 → Prop} (h : MapIs P w b n f S) (hn : n ≤ n') (hfg : ∀ s,g s = f s) (hS : ∀ s,S' s → S s ∨ f s ≠ 0) : MapIs P w b n' g S':=by
 obtain ⟨D,h1,h2,h3,h4⟩:=h
 refine ⟨D,h1.mono hn,h2,fun s => by rw [hfg]; exact h3 s,fun s hs => ?_⟩
 rcases hS s hs with h | h
 ·exact h4 s h
 ·cases e : has D (.string s) with
  | true => rfl
  | false =>
   have:=(atKey_of_not_has e (.lit (.int .i64 0))).symm.trans (h3 s)
   injection this with this
   injection this with _ this
   exact absurd this.symm h
theorem MapIs.mono {P : Program} {w : World} {b n n' : Nat} {f : List UInt8 → Int} {S : List UInt8 → Prop} (h : MapIs P w b n f S) (hn : n ≤ n') : MapIs P w b n' f S:=by
 obtain ⟨D,h1,h2⟩:=h
 exact ⟨D,h1.mono hn,h2⟩
theorem MapIs.lt {P : Program} {w : World} {b n : Nat} {f : List UInt8 → Int} {S : List UInt8 → Prop} (h : MapIs P w b n f S) : b < w.heap.size:=by
 obtain ⟨D,h1,h2⟩:=h
 exact h1.lt
theorem infoInt : (Tryz.prog.info? 3).map (fun i => (i.zero,i.size,i.bytes)) = some (some (.int .i64 0),1,8):=by kernel_rfl
theorem wp_look {w : World} {ops : Array Oper} {rest : List Oper} {o : Oper} {a : Act} {Q : Exit → Act → World → Prop}
  (hg : o.guard = none) (m x : Operand) (hop : o.op = Op.lookup 127 m x false) (b n : Nat) (f : List UInt8 → Int) (S : List UInt8 → Prop)
  (hm : a.eval m = .map (some b)) (h : MapIs Tryz.prog w b n f S) (s : ByteArray) (hs : s.size ≤ maxLen) (hx : a.eval x = .string s)
  (hK : wpList Tryz.prog ops Q rest (a.put o.dst (.int .i64 (f s.data.toList))) w) : wpList Tryz.prog ops Q (o :: rest) a w:=by
 obtain ⟨D,h1,h2,h3,h4⟩:=h
 refine wpList_lookup_own_int w hg m x 127 hop 9 3 .i64 keyS Tryz.underlying127 Tryz.underlying3 (zeroInt w) b n D hm h1 _ _ hx (keyOf_string_mk Tryz.underlying9 hs) ?_
 intro c hc _
 have e:=(h3 s.data.toList).symm.trans hc
 injection e with e
 injection e with _ e
 rw [← e]
 exact hK
theorem wp_look_ok {w : World} {ops : Array Oper} {rest : List Oper} {o : Oper} {a : Act} {Q : Exit → Act → World → Prop}
  (hg : o.guard = none) (m x : Operand) (hop : o.op = Op.lookup 127 m x true) (b n : Nat) (f : List UInt8 → Int) (S : List UInt8 → Prop)
  (hm : a.eval m = .map (some b)) (h : MapIs Tryz.prog w b n f S) (s : ByteArray) (hs : s.size ≤ maxLen) (hx : a.eval x = .string s) (hS : S s.data.toList)
  (hK : wpList Tryz.prog ops Q rest (a.put o.dst (.tuple #[.int .i64 (f s.data.toList),.bool true])) w) : wpList Tryz.prog ops Q (o :: rest) a w:=by
 obtain ⟨D,h1,h2,h3,h4⟩:=h
 refine wpList_lookup_own_ok_int w hg m x 127 hop 9 3 .i64 keyS Tryz.underlying127 Tryz.underlying3 (zeroInt w) b n D hm h1 _ _ hx (keyOf_string_mk Tryz.underlying9 hs) ?_
 intro c hc _
 have e:=(h3 s.data.toList).symm.trans hc
 injection e with e
 injection e with _ e
 rw [← e,h4 _ hS]
 exact hK
theorem wp_put {w : World} {ops : Array Oper} {rest : List Oper} {o : Oper} {a : Act} {Q : Exit → Act → World → Prop}
  (hg : o.guard = none) (m x v : Operand) (hop : o.op = Op.mapUpdate 127 m x v) (b n : Nat) (f : List UInt8 → Int) (S : List UInt8 → Prop)
  (hm : a.eval m = .map (some b)) (h : MapIs Tryz.prog w b n f S) (hn : n < maxLen) (s : ByteArray) (hs : s.size ≤ maxLen) (hx : a.eval x = .string s) (i : Int) (hi : (Lit.int .i64 i).wf = true) (hv : a.eval v = .int .i64 i)
  (hK : ∀ w',MapIs Tryz.prog w' b (n + 1) (fun t => if s.data.toList = t then i else f t) (fun t => S t ∨ s.data.toList = t) → w.grownBy w' (some b) → wpList Tryz.prog ops Q rest (a.put o.dst undef) w') : wpList Tryz.prog ops Q (o :: rest) a w:=by
 obtain ⟨D,h1,h2,h3,h4⟩:=h
 refine wpList_mapUpdate_own w hg m x v 127 hop 9 3 keyS Tryz.underlying127 _ b n D hm h1 hn _ _ _ hx hv (keyOf_string_mk Tryz.underlying9 hs) _ [] (plainElem_int Tryz.underlying3 hi) ?_
 intro w' r1 r2
 have hk : WideAt.IsKeyLit (.string s.data.toList):=by simp [WideAt.IsKeyLit]
 refine hK w' ⟨_,r1,h2.put _ _,fun t => ?_,fun t ht => ?_⟩ r2
 ·by_cases e : s.data.toList = t
  ·subst e
   rw [atKey_put_same h2 hk]; simp
  ·rw [atKey_put_other (by intro e2; injection e2 with e2; exact e e2.symm),h3 t]; simp [e]
 ·by_cases e : s.data.toList = t
  ·subst e
   exact has_put_same h2 hk _
  ·rw [has_put_other (by intro e2; injection e2 with e2; exact e e2.symm)]
   rcases ht with ht | ht
   ·exact h4 t ht
   ·exact absurd ht e
end Go.Proofs.YtplbifmjnanceaaGreatDoor
end
section
namespace Go.Proofs.YtplbifmjnanceaaGreatDoor
open Go.RowKit Go.Proofs.YtplbifmjnanceaaGreatDoorW.PrintWords Go.Proofs.YtplbifmjnanceaaGreatDoorW.PrintLast Go.Proofs.YtplbifmjnanceaaGreatDoorW.PrintMore
def ints (l : List Nat) : List Int:=l.map fun i : Nat => (i : Int)
theorem ints_snoc (l : List Nat) (i : Nat) : ints (l ++ [i]) = ints l ++ [(i : Int)]:=by simp [ints]
theorem ints_len (l : List Nat) : (ints l).length = l.length:=by simp [ints]
theorem ints_getD (l : List Nat) (k : Nat) : (ints l).getD k 0 = (l.getD k 0 : Nat):=by
 simp only [ints,List.getD_eq_getElem?_getD,List.getElem?_map]
 cases l[k]? <;> rfl
theorem ints_set (l : List Nat) (k v : Nat) : (ints l).set k (v : Int) = ints (l.set k v):=by simp [ints,List.map_set]
def IntsAt (w : World) (base : Nat) (v : Value) (l : List Nat) : Prop:=(Kd.int .i64).R 3 w base (fun _ => True) v (ints l)
section
variable {w w1 : World} {base : Nat} {v u v1 : Value} {l m : List Nat}
theorem IntsAt.of {ok : Nat → Prop} (h : (Kd.int .i64).R 3 w base ok v (ints l)) : IntsAt w base v l:=Kd.R_mono h (fun _ _ => trivial)
theorem IntsAt.nil (w : World) (base : Nat) : IntsAt w base (.slice none 0 0) []:=Kd.R_nil _ _ _ _ _
theorem IntsAt.own (h : IntsAt w base v l) : ∃ inner,w.ownsRow base 3 1 v (ints l).length inner:=Kd.R_own h
theorem IntsAt.ge (h : IntsAt w base v l) (k : Nat) (hk : v.ownBlock = some k) : base ≤ k:=by
 obtain ⟨i,ho⟩:=h.own
 exact own_base ho k hk
theorem IntsAt.lt (h : IntsAt w base v l) (k : Nat) (hk : v.ownBlock = some k) : k < w.heap.size:=by
 obtain ⟨i,ho⟩:=h.own
 exact own_lt ho k hk
theorem IntsAt.kept (h : IntsAt w base v l) {row : Option Nat} (hg : w.grownBy w1 row) (hne : ∀ k,v.ownBlock = some k → some k ≠ row) : IntsAt w1 base v l:=by
 have h2 : (Kd.int .i64).R 3 w base (fun k => some k ≠ row) v (ints l):=⟨hne,h.2⟩
 exact IntsAt.of (Kd.R_grown h2 hg (fun _ hk => hk))
theorem IntsAt.below (h : IntsAt w base v l) (hb : Below w.heap.size w w1) : IntsAt w1 base v l:=Kd.R_below h hb
theorem IntsAt.ne_of_base {b : Nat} (h : IntsAt w base v l) (hb : b < base) : some b ≠ v.ownBlock:=by
 intro e
 have:=h.ge b e.symm
 omega
theorem ne_appended (hne : NeRow v u) (hu : IntsAt w base u m) (hat : v1.ownBlock = v.ownBlock ∨ ∃ b,v1.ownBlock = some b ∧ w.heap.size ≤ b) : NeRow v1 u:=by
 intro k hk hk2
 rcases hat with e | ⟨b,e,hb⟩
 ·rw [e] at hk; exact hne k hk hk2
 ·rw [e] at hk; cases hk
  have:=hu.lt _ hk2
  omega
theorem NeRow.symm' (h : NeRow v u) : NeRow u v:=fun k hk hk2 => h k hk2 hk
theorem NeRow.row (h : NeRow v u) : ∀ k,v.ownBlock = some k → some k ≠ u.ownBlock:=fun k hk e => h k hk e.symm
theorem NeRow.nil (u : Value) : NeRow (.slice none 0 0) u:=fun k hk => by simp [Value.ownBlock] at hk
theorem IntsAt.store (h : IntsAt w base v l) (k : Nat) (hk : k < l.length) : ∃ g cap,v = .slice (some ⟨g,0,none⟩) l.length cap ∧ base ≤ g ∧ g < w.heap.size ∧ (∃ cells,w.heap[g]? = some (.cells cells 3 (0,0))) ∧ w.cell? ⟨g,k,none⟩ = some (.int .i64 (l.getD k 0 : Nat)) ∧ w.frozen? ⟨g,k,none⟩ = false ∧
  ∀ x : Nat,IntsAt (w.setCell ⟨g,k,none⟩ (.int .i64 x)) base v (l.set k x) ∧ w.grownBy (w.setCell ⟨g,k,none⟩ (.int .i64 x)) (some g):=by
 unfold IntsAt at h
 obtain ⟨g,cap,rfl,h1,h2,h3⟩:=Kd.R_form h (by rw [ints_len]; omega)
 obtain ⟨c1,c2⟩:=Kd.R_cell (0 : Int) h (k : Int) (by omega) (by rw [ints_len]; omega)
 simp only [Int.toNat_natCast,rdOf,ints_getD] at c1 c2
 refine ⟨g,cap,by rw [ints_len],h1,h2,h3,c1,c2,fun x => ?_⟩
 obtain ⟨p1,p2⟩:=Kd.R_put h (k : Int) (x : Int)
 simp only [Int.toNat_natCast,ints_set] at p1 p2
 refine ⟨?_,p2⟩
 unfold IntsAt
 have e : (ints (l.set k x)).length = (ints l).length:=by rw [ints_len,ints_len,List.length_set]
 exact p1
theorem ints_cell {A : Option Addr} (h : Kd.C (Kd.int .i64) w A l.length (ints l)) (k : Nat) (hk : k < l.length) : ∃ ad,A = some ad ∧ w.cell? (ad.add k) = some (.int .i64 (l.getD k 0 : Nat)):=by
 obtain ⟨ad,e,hc⟩:=Kd.at_int h (k : Int) (by omega) (by omega)
 refine ⟨ad,e,?_⟩
 have e2 : rd (ints l) (k : Int) = ((l.getD k 0 : Nat) : Int):=by simp only [rd,Int.toNat_natCast,ints_getD]
 simpa [e2] using hc
theorem IntsAt.reads (h : IntsAt w base v l) : ∃ A c,v = .slice A l.length c ∧ l.length ≤ c ∧ Kd.C (Kd.int .i64) w A l.length (ints l):=by
 obtain ⟨A,c,e,h1,h2⟩:=Kd.R_reads h
 rw [ints_len] at e h1 h2
 exact ⟨A,c,e,h1,h2⟩
theorem zeros_at {n : Nat} (h : (Kd.int .i64).R 3 w base (fun _ => True) v (List.replicate ((n : Int)).toNat 0)) : IntsAt w base v (List.replicate n 0) ∧ ∃ A c,v = .slice A n c:=by
 simp only [Int.toNat_natCast] at h
 have h2 : IntsAt w base v (List.replicate n 0):=by unfold IntsAt; simpa [ints] using h
 obtain ⟨A,c,e,_⟩:=h2.reads
 exact ⟨h2,A,c,by rw [e,List.length_replicate]⟩
end
structure St (W4 : World) (gT : Nat) (J T L : Value) (n : Nat) (lT lL : List Nat) (w : World) : Prop where
 bJ : w.heap[W4.heap.size]? = some (.cells #[J] 123 (0,0))
 bT : w.heap[gT]? = some (.cells #[T] 123 (0,0))
 t : IntsAt w (W4.heap.size + 1) T lT
 l : IntsAt w (W4.heap.size + 1) L lL
 ap : NeRow T L
 lenT : lT.length = n
 lenL : lL.length = n
 bel : Below W4.heap.size W4 w
section
variable {W4 w w1 : World} {gT n : Nat} {J T L : Value} {lT lL : List Nat}
theorem St.below (h : St W4 gT J T L n lT lL w) (hb : Below w.heap.size w w1) : St W4 gT J T L n lT lL w1 :=
 ⟨blk_below h.bJ hb,blk_below h.bT hb,h.t.below hb,h.l.below hb,h.ap,h.lenT,h.lenL,h.bel.trans (hb.mono h.bel.size)⟩
theorem St.alloc (h : St W4 gT J T L n lT lL w) (o : Obj) : St W4 gT J T L n lT lL (w.alloc o):=h.below ((Below.refl _ _).alloc (Nat.le_refl _) o)
theorem St.drewN (h : St W4 gT J T L n lT lL w) (q : Nat) : St W4 gT J T L n lT lL (w.drewN q):=h.below (pw_below_drewN (Below.refl _ _) q)
theorem St.lt (h : St W4 gT J T L n lT lL w) : W4.heap.size < w.heap.size:=blk_lt h.bJ
theorem St.storeT (h : St W4 gT J T L n lT lL w) (k : Nat) (hk : k < n) : ∃ g cap,T = .slice (some ⟨g,0,none⟩) n cap ∧ g < w.heap.size ∧ w.cell? ⟨g,k,none⟩ = some (.int .i64 (lT.getD k 0 : Nat)) ∧ w.frozen? ⟨g,k,none⟩ = false ∧
  ∀ x : Nat,St W4 gT J T L n (lT.set k x) lL (w.setCell ⟨g,k,none⟩ (.int .i64 x)):=by
 obtain ⟨g,cap,e,hb,hlt,_,hc,hf,hs⟩:=h.t.store k (by rw [h.lenT]; exact hk)
 rw [h.lenT] at e
 refine ⟨g,cap,e,hlt,hc,hf,fun x => ?_⟩
 obtain ⟨s1,s2⟩:=hs x
 have eo : T.ownBlock = some g:=by rw [e]; rfl
 have n1 : some W4.heap.size ≠ some g:=by rw [← eo]; exact Kd.R_ne h.t h.bJ (by decide)
 have n2 : some gT ≠ some g:=by rw [← eo]; exact Kd.R_ne h.t h.bT (by decide)
 refine ⟨blk_grown h.bJ s2 n1,blk_grown h.bT s2 n2,s1,h.l.kept s2 ?_,h.ap,by simp [h.lenT],h.lenL,h.bel.trans ((Below.refl _ _).setCell ?_ _)⟩
 ·rw [← eo]; exact NeRow.row (NeRow.symm' h.ap)
 ·simp; omega
theorem St.storeL (h : St W4 gT J T L n lT lL w) (k : Nat) (hk : k < n) : ∃ g cap,L = .slice (some ⟨g,0,none⟩) n cap ∧ g < w.heap.size ∧ w.cell? ⟨g,k,none⟩ = some (.int .i64 (lL.getD k 0 : Nat)) ∧ w.frozen? ⟨g,k,none⟩ = false ∧
  ∀ x : Nat,St W4 gT J T L n lT (lL.set k x) (w.setCell ⟨g,k,none⟩ (.int .i64 x)):=by
 obtain ⟨g,cap,e,hb,hlt,_,hc,hf,hs⟩:=h.l.store k (by rw [h.lenL]; exact hk)
 rw [h.lenL] at e
 refine ⟨g,cap,e,hlt,hc,hf,fun x => ?_⟩
 obtain ⟨s1,s2⟩:=hs x
 have eo : L.ownBlock = some g:=by rw [e]; rfl
 have n1 : some W4.heap.size ≠ some g:=by rw [← eo]; exact Kd.R_ne h.l h.bJ (by decide)
 have n2 : some gT ≠ some g:=by rw [← eo]; exact Kd.R_ne h.l h.bT (by decide)
 refine ⟨blk_grown h.bJ s2 n1,blk_grown h.bT s2 n2,h.t.kept s2 ?_,s1,h.ap,h.lenT,by simp [h.lenL],h.bel.trans ((Below.refl _ _).setCell ?_ _)⟩
 ·rw [← eo]; exact NeRow.row h.ap
 ·simp; omega
theorem St.cellsT {g cap : Nat} (h : St W4 gT J (.slice (some ⟨g,0,none⟩) n cap) L n lT lL w) (k : Nat) (hk : k < n) : w.cell? ⟨g,k,none⟩ = some (.int .i64 (lT.getD k 0 : Nat)) ∧ w.frozen? ⟨g,k,none⟩ = false ∧
  ∀ x : Nat,St W4 gT J (.slice (some ⟨g,0,none⟩) n cap) L n (lT.set k x) lL (w.setCell ⟨g,k,none⟩ (.int .i64 x)):=by
 obtain ⟨g',cap',e,_,h1,h2,h3⟩:=h.storeT k hk
 injection e with e
 injection e with e
 injection e with e
 subst e
 exact ⟨h1,h2,h3⟩
theorem St.cellsL {g cap : Nat} (h : St W4 gT J T (.slice (some ⟨g,0,none⟩) n cap) n lT lL w) (k : Nat) (hk : k < n) : w.cell? ⟨g,k,none⟩ = some (.int .i64 (lL.getD k 0 : Nat)) ∧ w.frozen? ⟨g,k,none⟩ = false ∧
  ∀ x : Nat,St W4 gT J T (.slice (some ⟨g,0,none⟩) n cap) n lT (lL.set k x) (w.setCell ⟨g,k,none⟩ (.int .i64 x)):=by
 obtain ⟨g',cap',e,_,h1,h2,h3⟩:=h.storeL k hk
 injection e with e
 injection e with e
 injection e with e
 subst e
 exact ⟨h1,h2,h3⟩
theorem St.readL {Al : Option Addr} {cl : Nat} (h : St W4 gT J T (.slice Al n cl) n lT lL w) : Kd.C (Kd.int .i64) w Al lL.length (ints lL):=by
 obtain ⟨A,c,e,_,hC⟩:=h.l.reads
 injection e with e
 subst e
 exact hC
theorem St.cellJ (h : St W4 gT J T L n lT lL w) : w.cell? ⟨W4.heap.size,0,none⟩ = some J:=by simpa using blk_cell h.bJ 0
theorem St.cellT (h : St W4 gT J T L n lT lL w) : w.cell? ⟨gT,0,none⟩ = some T:=by simpa using blk_cell h.bT 0
end
theorem fill_step (n k : Nat) (hk : k < n) : (List.replicate k (n + 1) ++ List.replicate (n - k) 0).set k (n + 1) = List.replicate (k + 1) (n + 1) ++ List.replicate (n - (k + 1)) 0:=by
 obtain ⟨m,e⟩ : ∃ m,n - k = m + 1:=⟨n - k - 1,by omega⟩
 have e2 : n - (k + 1) = m:=by omega
 rw [e,e2,List.set_append_right _ _ (by simp)]
 simp [List.replicate_succ']
 rw [← List.replicate_succ',List.replicate_succ,List.set_cons_zero]
def kP : Kd (Int × Int):=Kd.pair (Kd.int .i64) (Kd.int .i64)
def prs (l : List (Nat × Nat)) : List (Int × Int):=l.map fun p : Nat × Nat => ((p.1 : Int),(p.2 : Int))
theorem prs_len (l : List (Nat × Nat)) : (prs l).length = l.length:=by simp [prs]
theorem prs_set (l : List (Nat × Nat)) (k a b : Nat) : (prs l).set k ((a : Int),(b : Int)) = prs (l.set k (a,b)):=by simp [prs,List.map_set]
theorem prs_getD (l : List (Nat × Nat)) (k : Nat) : (prs l).getD k ((0 : Int),(0 : Int)) = (((l.getD k (0,0)).1 : Int),((l.getD k (0,0)).2 : Int)):=by
 simp only [prs,List.getD_eq_getElem?_getD,List.getElem?_map]
 cases l[k]? <;> rfl
theorem infoPair : (Tryz.prog.info? 113).map (fun i => (i.zero,i.size,i.bytes)) = some (some (.agg #[.int .i64 0,.int .i64 0]),2,16):=by kernel_rfl
def PairsAt (w : World) (base : Nat) (v : Value) (l : List (Nat × Nat)) : Prop:=kP.R 113 w base (fun _ => True) v (prs l)
section
variable {w w1 : World} {base : Nat} {v u v1 : Value} {l : List (Nat × Nat)}
theorem PairsAt.ge (h : PairsAt w base v l) (k : Nat) (hk : v.ownBlock = some k) : base ≤ k:=by
 obtain ⟨i,ho⟩:=Kd.R_own h
 exact own_base ho k hk
theorem PairsAt.kept (h : PairsAt w base v l) {row : Option Nat} (hg : w.grownBy w1 row) (hne : ∀ k,v.ownBlock = some k → some k ≠ row) : PairsAt w1 base v l:=by
 obtain ⟨h1,inner,ho,hr⟩:=h
 refine ⟨h1,inner,own_other ho hg ?_,?_⟩
 ·cases e : v.ownBlock with
  | none => exact Or.inl rfl
  | some k => exact Or.inr (hne k e)
 ·exact hr
theorem PairsAt.below (h : PairsAt w base v l) (hb : Below w.heap.size w w1) : PairsAt w1 base v l:=Kd.R_below h hb
theorem PairsAt.zeros {n : Nat} (h : kP.R 113 w base (fun _ => True) v (List.replicate ((n : Int)).toNat ((0 : Int),(0 : Int)))) : PairsAt w base v (List.replicate n (0,0)) ∧ ∃ A c,v = .slice A n c:=by
 simp only [Int.toNat_natCast] at h
 have h2 : PairsAt w base v (List.replicate n (0,0)):=by unfold PairsAt; simpa [prs] using h
 obtain ⟨A,c,e,_⟩:=Kd.R_reads h
 exact ⟨h2,A,c,by rw [e,List.length_replicate]⟩
theorem PairsAt.reads (h : PairsAt w base v l) : ∃ A c,v = .slice A l.length c ∧ l.length ≤ c ∧ kP.C w A l.length (prs l):=by
 obtain ⟨A,c,e,h1,h2⟩:=Kd.R_reads h
 rw [prs_len] at e h1 h2
 exact ⟨A,c,e,h1,h2⟩
theorem pair_cell {A : Option Addr} {n : Nat} (h : kP.C w A n (prs l)) (k : Nat) (hk : k < n) : ∃ ad,A = some ad ∧ w.cell? (ad.add (k * 2)) = some (.int .i64 (l.getD k (0,0)).1) ∧ w.cell? ⟨(ad.add (k * 2)).block,(ad.add (k * 2)).off + 1,none⟩ = some (.int .i64 (l.getD k (0,0)).2):=by
 obtain ⟨ad,c,e,_,hK,hc0⟩:=Kd.C_get h ((0 : Int),(0 : Int)) (k : Int) (by omega) (by omega)
 rw [Int.toNat_natCast] at hK hc0
 have hc : ∀ j u,c[j]? = some u → w.cell? (ad.add (k * 2 + j)) = some u:=hc0
 have e2:=prs_getD l k
 rw [e2] at hK
 obtain ⟨c0,c1,rfl,rfl,rfl⟩:=hK
 exact ⟨ad,e,hc 0 _ rfl,by rw [← add_field _ _ 1 (by omega)]; exact hc 1 _ rfl⟩
theorem PairsAt.store (h : PairsAt w base v l) (k : Nat) (hk : k < l.length) : ∃ g cap,v = .slice (some ⟨g,0,none⟩) l.length cap ∧ base ≤ g ∧ g < w.heap.size ∧
  (∃ a b,w.cell? ⟨g,k * 2,none⟩ = some (.int .i64 a) ∧ w.cell? ⟨g,k * 2 + 1,none⟩ = some (.int .i64 b)) ∧ w.frozen? ⟨g,k * 2,none⟩ = false ∧ w.frozen? ⟨g,k * 2 + 1,none⟩ = false ∧
  ∀ a b : Nat,PairsAt ((w.setCell ⟨g,k * 2,none⟩ (.int .i64 a)).setCell ⟨g,k * 2 + 1,none⟩ (.int .i64 b)) base v (l.set k (a,b)) ∧ w.grownBy ((w.setCell ⟨g,k * 2,none⟩ (.int .i64 a)).setCell ⟨g,k * 2 + 1,none⟩ (.int .i64 b)) (some g):=by
 unfold PairsAt at h
 obtain ⟨g,cap,rfl,h1,h2,cells,h3⟩:=Kd.R_form h (by rw [prs_len]; omega)
 rw [prs_len] at h
 obtain ⟨_,hnc,hC⟩:=Kd.R_reads' h
 rw [prs_len] at hC
 obtain ⟨ad,e,c1,c2⟩:=pair_cell hC k hk
 cases e
 have ea : (Addr.add ⟨g,0,none⟩ (k * 2)) = ⟨g,k * 2,none⟩:=by simp [Addr.add]; intro e; omega
 rw [ea] at c1 c2
 simp only at c2
 refine ⟨g,cap,by rw [prs_len],h1,h2,⟨_,_,c1,c2⟩,blk_frozen h3 _,blk_frozen h3 _,fun a b => ?_⟩
 have hs:=Kd.R_seg h (k : Int) (by omega) (by omega) (c:=[.int .i64 (l.getD k (0,0)).1,.int .i64 (l.getD k (0,0)).2]) (seg:=[.int .i64 (a : Int),.int .i64 (b : Int)]) (j:=0) (x':=((a : Int),(b : Int))) (okp:=fun _ => False) rfl
  (fun j u hj => by
   match j,hj with
   | 0,hj => cases hj; exact c1
   | 1,hj => cases hj; exact c2
   | j + 2,hj => simp at hj) (Nat.le_refl _) ⟨[.int .i64 (a : Int)],[.int .i64 (b : Int)],rfl,rfl,rfl⟩ (fun _ h => h.elim)
 rw [Int.toNat_natCast,prs_set] at hs
 refine ⟨?_,hs.2⟩
 unfold PairsAt
 rw [prs_len]
 exact hs.1
end
structure St8 (W4 : World) (J : Value) (L : Value) (lL : List Nat) (v : Value) (seq : List (Nat × Nat)) (w : World) : Prop where
 bJ : w.heap[W4.heap.size]? = some (.cells #[J] 123 (0,0))
 l : IntsAt w (W4.heap.size + 1) L lL
 p : PairsAt w (W4.heap.size + 1) v seq
 bel : Below W4.heap.size W4 w
section
variable {W4 w w1 : World} {J L v : Value} {lL : List Nat} {seq : List (Nat × Nat)}
theorem St8.below (h : St8 W4 J L lL v seq w) (hb : Below w.heap.size w w1) : St8 W4 J L lL v seq w1:=⟨blk_below h.bJ hb,h.l.below hb,h.p.below hb,h.bel.trans (hb.mono h.bel.size)⟩
theorem St8.store (h : St8 W4 J L lL v seq w) (k : Nat) (hk : k < seq.length) : ∃ g cap,v = .slice (some ⟨g,0,none⟩) seq.length cap ∧ g < w.heap.size ∧
  (∃ a b,w.cell? ⟨g,k * 2,none⟩ = some (.int .i64 a) ∧ w.cell? ⟨g,k * 2 + 1,none⟩ = some (.int .i64 b)) ∧ w.frozen? ⟨g,k * 2,none⟩ = false ∧ w.frozen? ⟨g,k * 2 + 1,none⟩ = false ∧
  ∀ a b : Nat,St8 W4 J L lL v (seq.set k (a,b)) ((w.setCell ⟨g,k * 2,none⟩ (.int .i64 a)).setCell ⟨g,k * 2 + 1,none⟩ (.int .i64 b)):=by
 obtain ⟨g,cap,e,h1,h2,h3,h4,h5,h6⟩:=h.p.store k hk
 refine ⟨g,cap,e,h2,h3,h4,h5,fun a b => ?_⟩
 obtain ⟨s1,s2⟩:=h6 a b
 have eo : v.ownBlock = some g:=by rw [e]; rfl
 have hl : IntsAt ((w.setCell ⟨g,k * 2,none⟩ (.int .i64 a)).setCell ⟨g,k * 2 + 1,none⟩ (.int .i64 b)) (W4.heap.size + 1) L lL :=
  Kd.R_over h.l h.p (by intro q hq; simp [Kd.int,Kd.scalar] at hq; subst hq; decide) (by rw [eo]; exact s2)
 refine ⟨blk_grown h.bJ s2 (fun e => by injection e with e; omega),hl,s1,h.bel.trans ?_⟩
 exact ((Below.refl _ _).setCell (by simp; omega) _).setCell (by simp; omega) _
theorem St8.cellJ (h : St8 W4 J L lL v seq w) : w.cell? ⟨W4.heap.size,0,none⟩ = some J:=by simpa using blk_cell h.bJ 0
theorem St8.readL {Al : Option Addr} {n cl : Nat} (h : St8 W4 J (.slice Al n cl) lL v seq w) : Kd.C (Kd.int .i64) w Al lL.length (ints lL):=by
 obtain ⟨A,c,e,_,hC⟩:=h.l.reads
 injection e with e
 subst e
 exact hC
end
end Go.Proofs.YtplbifmjnanceaaGreatDoor
end
section
namespace Go.Proofs.YtplbifmjnanceaaGreatDoor.PFnArchive
open Go.RowKit Go.Proofs.YtplbifmjnanceaaGreatDoorW.PrintWords Go.Proofs.YtplbifmjnanceaaGreatDoorW.PrintLast Go.Proofs.YtplbifmjnanceaaGreatDoorW.PrintMore
attribute [local go_sem] max2_int min2_int max_two min_two max_three min_three max_four min_four
set_option linter.unusedVariables false
set_option linter.unusedSimpArgs false
def spec_opNames.f  : Option (List ByteArray):=some (([(⟨#[106,111,105,110]⟩ : ByteArray),(⟨#[112,97,99,107]⟩ : ByteArray),(⟨#[112,105,99,107]⟩ : ByteArray),(⟨#[115,99,114,105,112,116]⟩ : ByteArray)] : List ByteArray))
set_option maxHeartbeats 8000000 in
set_option maxRecDepth 100000 in
theorem spec_opNames.calls  (r : List ByteArray) (w : World) (h : spec_opNames.f  = some r) :
  Calls Tryz.prog 21 #[] w fun e w' => ∃ v0_ : Value,e = .returned (v0_) ∧ Kd.R Kd.string 9 w' w.heap.size (fun _ => True) v0_ r ∧ Below w.heap.size w w':=by
 have HB:=Aside0.mk (Below.refl w.heap.size w)
 have H : (some (([(⟨#[106,111,105,110]⟩ : ByteArray),(⟨#[112,97,99,107]⟩ : ByteArray),(⟨#[112,105,99,107]⟩ : ByteArray),(⟨#[115,99,114,105,112,116]⟩ : ByteArray)] : List ByteArray))) = some r:=h
 clear h
 obtain ⟨y226,hy226⟩ : ∃ y_ : List ByteArray,y_ = (([(⟨#[106,111,105,110]⟩ : ByteArray),(⟨#[112,97,99,107]⟩ : ByteArray),(⟨#[112,105,99,107]⟩ : ByteArray),(⟨#[115,99,114,105,112,116]⟩ : ByteArray)] : List ByteArray)):=⟨_,rfl⟩
 replace H : (some y226) = some r:=by first | (rw [hy226]; with_reducible exact H) | (have H2_:=(Option.bind_some _ _).symm.trans H; rw [hy226]; with_reducible exact H2_) | (have H2_:=(Option.bind_some _ _).symm.trans H; with_reducible exact H2_) | with_reducible exact H | (rw [hy226]; exact H) | exact H
 have Ny226:=Aside0.mk hy226
 clear hy226
 obtain rfl:=Option.some.inj H
 go_enter Tryz.func21,Tryz.ntmps21
 go_wp2_with (first | ((with_reducible refine gate_dst (N:=1) rfl ?_); refine Kd.R_lit Kd.string _ 9 ?hg (N:=1) ?hd (xs:=([(⟨#[106,111,105,110]⟩ : ByteArray),(⟨#[112,97,99,107]⟩ : ByteArray),(⟨#[112,105,99,107]⟩ : ByteArray),(⟨#[115,99,114,105,112,116]⟩ : ByteArray)] : List ByteArray)) (inner:=[.string (⟨#[106,111,105,110]⟩ : ByteArray),.string (⟨#[112,97,99,107]⟩ : ByteArray),.string (⟨#[112,105,99,107]⟩ : ByteArray),.string (⟨#[115,99,114,105,112,116]⟩ : ByteArray)]) (ok:=fun _ => True) (okp:=fun _ => True) ?hr ?hp (fun _ hk => hk) trivial (Below.refl _ _) (Nat.le_refl _) (by simp) ?_; (case hd => rfl); (case hg => rfl); (case hr => first | (go_simp; done) | (go_simp; rfl)); (case hp => exact (Reps.one (show Kd.M Kd.string _ _ _ (⟨#[106,111,105,110]⟩ : ByteArray) [.string (⟨#[106,111,105,110]⟩ : ByteArray)] from rfl) (Reps.one (show Kd.M Kd.string _ _ _ (⟨#[112,97,99,107]⟩ : ByteArray) [.string (⟨#[112,97,99,107]⟩ : ByteArray)] from rfl) (Reps.one (show Kd.M Kd.string _ _ _ (⟨#[112,105,99,107]⟩ : ByteArray) [.string (⟨#[112,105,99,107]⟩ : ByteArray)] from rfl) (Reps.one (show Kd.M Kd.string _ _ _ (⟨#[115,99,114,105,112,116]⟩ : ByteArray) [.string (⟨#[115,99,114,105,112,116]⟩ : ByteArray)] from rfl) (Reps.none _ _)))))); intro v227 w1 ho2 hb hg_ hnew_; clear hg_ hnew_; (first | rw [← Ny226.out] at ho2 | (simp only [Int.reduceToNat] at ho2; rw [← Ny226.out] at ho2)); have n0_:=Aside0.mk (Kd.R_lower ho2 (below_size (by repeat (first | (with_reducible first | exact HB.out | apply below_alloc | apply pw_below_drewN | apply below_drew1) | exact HB.out)))); have n1_:=Aside0.mk (below_step (by repeat (first | (with_reducible first | exact HB.out | apply below_alloc | apply pw_below_drewN | apply below_drew1) | exact HB.out)) hb); clear HB; have HO228:=n0_; have HB:=n1_; clear n0_ n1_; clear hb ho2))
 go_ret
 exact ⟨_,by first | rfl | (simp [errW_none,errW_some] <;> rfl) | (simp [*,errW_none,errW_some] <;> rfl),by (with_reducible repeat (first | apply Kd.R_alloc | apply Kd.R_drewN | apply Kd.R_drew)); exact HO228.out,by repeat (first | (with_reducible first | exact HB.out | apply below_alloc | apply pw_below_drewN | apply below_drew1) | exact HB.out)⟩
def spec_Places.f  : Option (List ByteArray):=some (([(⟨#[105,110,48]⟩ : ByteArray),(⟨#[105,110,49]⟩ : ByteArray),(⟨#[105,110,50]⟩ : ByteArray),(⟨#[105,110,51]⟩ : ByteArray),(⟨#[111,117,116]⟩ : ByteArray),(⟨#[100,47,97]⟩ : ByteArray),(⟨#[100,47,98]⟩ : ByteArray)] : List ByteArray))
set_option maxHeartbeats 8000000 in
set_option maxRecDepth 100000 in
theorem spec_Places.calls  (r : List ByteArray) (w : World) (h : spec_Places.f  = some r) :
  Calls Tryz.prog 46 #[] w fun e w' => ∃ v0_ : Value,e = .returned (v0_) ∧ Kd.R Kd.string 9 w' w.heap.size (fun _ => True) v0_ r ∧ Below w.heap.size w w':=by
 have HB:=Aside0.mk (Below.refl w.heap.size w)
 have H : (some (([(⟨#[105,110,48]⟩ : ByteArray),(⟨#[105,110,49]⟩ : ByteArray),(⟨#[105,110,50]⟩ : ByteArray),(⟨#[105,110,51]⟩ : ByteArray),(⟨#[111,117,116]⟩ : ByteArray),(⟨#[100,47,97]⟩ : ByteArray),(⟨#[100,47,98]⟩ : ByteArray)] : List ByteArray))) = some r:=h
 clear h
 obtain ⟨y229,hy229⟩ : ∃ y_ : List ByteArray,y_ = (([(⟨#[105,110,48]⟩ : ByteArray),(⟨#[105,110,49]⟩ : ByteArray),(⟨#[105,110,50]⟩ : ByteArray),(⟨#[105,110,51]⟩ : ByteArray),(⟨#[111,117,116]⟩ : ByteArray),(⟨#[100,47,97]⟩ : ByteArray),(⟨#[100,47,98]⟩ : ByteArray)] : List ByteArray)):=⟨_,rfl⟩
 replace H : (some y229) = some r:=by first | (rw [hy229]; with_reducible exact H) | (have H2_:=(Option.bind_some _ _).symm.trans H; rw [hy229]; with_reducible exact H2_) | (have H2_:=(Option.bind_some _ _).symm.trans H; with_reducible exact H2_) | with_reducible exact H | (rw [hy229]; exact H) | exact H
 have Ny229:=Aside0.mk hy229
 clear hy229
 obtain rfl:=Option.some.inj H
 go_enter Tryz.func46,Tryz.ntmps46
 go_wp2_with (first | ((with_reducible refine gate_dst (N:=1) rfl ?_); refine Kd.R_lit Kd.string _ 9 ?hg (N:=1) ?hd (xs:=([(⟨#[105,110,48]⟩ : ByteArray),(⟨#[105,110,49]⟩ : ByteArray),(⟨#[105,110,50]⟩ : ByteArray),(⟨#[105,110,51]⟩ : ByteArray),(⟨#[111,117,116]⟩ : ByteArray),(⟨#[100,47,97]⟩ : ByteArray),(⟨#[100,47,98]⟩ : ByteArray)] : List ByteArray)) (inner:=[.string (⟨#[105,110,48]⟩ : ByteArray),.string (⟨#[105,110,49]⟩ : ByteArray),.string (⟨#[105,110,50]⟩ : ByteArray),.string (⟨#[105,110,51]⟩ : ByteArray),.string (⟨#[111,117,116]⟩ : ByteArray),.string (⟨#[100,47,97]⟩ : ByteArray),.string (⟨#[100,47,98]⟩ : ByteArray)]) (ok:=fun _ => True) (okp:=fun _ => True) ?hr ?hp (fun _ hk => hk) trivial (Below.refl _ _) (Nat.le_refl _) (by simp) ?_; (case hd => rfl); (case hg => rfl); (case hr => first | (go_simp; done) | (go_simp; rfl)); (case hp => exact (Reps.one (show Kd.M Kd.string _ _ _ (⟨#[105,110,48]⟩ : ByteArray) [.string (⟨#[105,110,48]⟩ : ByteArray)] from rfl) (Reps.one (show Kd.M Kd.string _ _ _ (⟨#[105,110,49]⟩ : ByteArray) [.string (⟨#[105,110,49]⟩ : ByteArray)] from rfl) (Reps.one (show Kd.M Kd.string _ _ _ (⟨#[105,110,50]⟩ : ByteArray) [.string (⟨#[105,110,50]⟩ : ByteArray)] from rfl) (Reps.one (show Kd.M Kd.string _ _ _ (⟨#[105,110,51]⟩ : ByteArray) [.string (⟨#[105,110,51]⟩ : ByteArray)] from rfl) (Reps.one (show Kd.M Kd.string _ _ _ (⟨#[111,117,116]⟩ : ByteArray) [.string (⟨#[111,117,116]⟩ : ByteArray)] from rfl) (Reps.one (show Kd.M Kd.string _ _ _ (⟨#[100,47,97]⟩ : ByteArray) [.string (⟨#[100,47,97]⟩ : ByteArray)] from rfl) (Reps.one (show Kd.M Kd.string _ _ _ (⟨#[100,47,98]⟩ : ByteArray) [.string (⟨#[100,47,98]⟩ : ByteArray)] from rfl) (Reps.none _ _))))))))); intro v230 w1 ho2 hb hg_ hnew_; clear hg_ hnew_; (first | rw [← Ny229.out] at ho2 | (simp only [Int.reduceToNat] at ho2; rw [← Ny229.out] at ho2)); have n0_:=Aside0.mk (Kd.R_lower ho2 (below_size (by repeat (first | (with_reducible first | exact HB.out | apply below_alloc | apply pw_below_drewN | apply below_drew1) | exact HB.out)))); have n1_:=Aside0.mk (below_step (by repeat (first | (with_reducible first | exact HB.out | apply below_alloc | apply pw_below_drewN | apply below_drew1) | exact HB.out)) hb); clear HB; have HO231:=n0_; have HB:=n1_; clear n0_ n1_; clear hb ho2))
 go_ret
 exact ⟨_,by first | rfl | (simp [errW_none,errW_some] <;> rfl) | (simp [*,errW_none,errW_some] <;> rfl),by (with_reducible repeat (first | apply Kd.R_alloc | apply Kd.R_drewN | apply Kd.R_drew)); exact HO231.out,by repeat (first | (with_reducible first | exact HB.out | apply below_alloc | apply pw_below_drewN | apply below_drew1) | exact HB.out)⟩
end Go.Proofs.YtplbifmjnanceaaGreatDoor.PFnArchive
end
section
namespace Go.Proofs.YtplbifmjnanceaaGreatDoor
open Go.RowKit Go.Proofs.YtplbifmjnanceaaGreatDoorW.PrintWords Go.Proofs.YtplbifmjnanceaaGreatDoorW.PrintLast Go.Proofs.YtplbifmjnanceaaGreatDoorW.PrintMore
open Go.Proofs.YtplbifmjnanceaaGreatDoor.PFnArchive
set_option linter.unusedVariables false
set_option linter.unusedSimpArgs false
def cleanC (wd : ByteArray → Bool) (x : S56) : Bool :=
 !(decide (x.f0 ≥ 7) || decide (x.f2 ≥ 7) || decide (x.f3 ≥ 7) || (x.f1 && (decide (x.f0 < 3) || decide (x.f0 > 5))) || (!(decide (x.f0 ≤ 1) || x.f0 == 3) && (x.f3 != 0)) || ((decide (x.f0 ≤ 1) || x.f0 == 3) && (x.f2 == x.f3)) || ((x.f0 == 6) && (x.f2 != 0)))
  && (((x.f0 == 5) && wd x.f4) || ((x.f0 != 5) && (x.f4.toList == ([] : List UInt8))))
set_option maxHeartbeats 4000000 in
set_option maxRecDepth 100000 in
theorem CleanCmd_calls (w : World) (x : S56) (wd : ByteArray → Bool) (hwd : ∃ k,spec_isWord.f k x.f4 = some (wd x.f4)) :
  Calls Tryz.prog 42 #[.agg #[.int .u8 x.f0,.bool x.f1,.int .u8 x.f2,.int .u8 x.f3,.string x.f4]] w fun e w' => e = .returned (.bool (cleanC wd x)) ∧ Below w.heap.size w w':=by
 obtain ⟨k,hk⟩:=hwd
 obtain ⟨kd,no,a,b,t⟩:=x
 simp only at hk ⊢
 obtain ⟨q,hq⟩ : ∃ z,z = wd t:=⟨_,rfl⟩
 rw [← hq] at hk
 have HQ:=Aside0.mk hq
 have HW:=Aside0.mk (fun W => spec_isWord.calls k t q W hk)
 clear hq
 obtain ⟨V,hV⟩ : ∃ z,z = cleanC wd ⟨kd,no,a,b,t⟩:=⟨_,rfl⟩
 rw [← hV]
 have HV:=Aside0.mk hV
 clear hk hV
 go_enter Tryz.func42,Tryz.ntmps42
 go_wp2_with (first | ((with_reducible refine gate_dst (N:=1) rfl ?_); refine box_event ?hg (N:=1) ?hd (cs:=#[.int .u8 kd,.bool no,.int .u8 a,.int .u8 b,.string t]) (t:=56) ?hr ?_; (case hd => rfl); (case hg => rfl); (case hr => first | (go_simp; done) | (go_simp; rfl)); intro g hg w1 hbx hb; have HX:=Aside0.mk hbx; have HB1:=Aside0.mk hb; clear hbx hb hg))
 refine (spec_Places.calls _ w1 rfl).mono ?_
 rintro e w2 ⟨v,rfl,hR,hb2⟩
 obtain ⟨A,c,eF,hcF,hC⟩:=Kd.R_reads hR
 subst eF
 have HB:=Aside0.mk (HB1.out.trans (hb2.mono HB1.out.size))
 have hx:=blk_below HX.out hb2
 have c0:=(blk_cell hx 0).trans rfl
 have c1:=(blk_cell hx 1).trans rfl
 have c2:=(blk_cell hx 2).trans rfl
 have c3:=(blk_cell hx 3).trans rfl
 have c4:=(blk_cell hx 4).trans rfl
 have HX2:=Aside0.mk hx
 clear hx hb2 HX HB1 hR hC hcF
 have hkd : kd ≥ 7 ∨ kd ≤ 1 ∨ kd = 2 ∨ kd = 3 ∨ kd = 4 ∨ kd = 5 ∨ kd = 6:=by omega
 rcases hkd with hkd | hkd | rfl | rfl | rfl | rfl | rfl
 ·have k1 : decide (kd ≤ 1) = false:=decide_eq_false (by omega)
  have k2 : decide (kd ≥ 7) = true:=decide_eq_true hkd
  have k3 : (kd == 3) = false:=beq_eq_false_iff_ne.2 (by omega)
  have k4 : 7 ≤ kd:=hkd
  go_wp2
  go_ret
  exact ⟨by rw [HV.out]; simp [cleanC, *],HB.out⟩
 ·have k1 : decide (kd ≤ 1) = true:=decide_eq_true hkd
  have k2 : decide (kd ≥ 7) = false:=decide_eq_false (by omega)
  have k3 : (kd == 3) = false:=beq_eq_false_iff_ne.2 (by omega)
  have k4 : ¬ 7 ≤ kd:=by omega
  have k5 : decide (kd < 3) = true:=decide_eq_true (by omega)
  have k6 : (kd == 6) = false:=beq_eq_false_iff_ne.2 (by omega)
  have k7 : (kd == 5) = false:=beq_eq_false_iff_ne.2 (by omega)
  have k8 : (kd != 5) = true:=bne_iff_ne.2 (by omega)
  have k9 : kd < 3:=by omega
  by_cases ha : a ≥ 7
  ·have a1 : decide (a ≥ 7) = true:=decide_eq_true ha
   have a2 : 7 ≤ a:=ha
   go_wp2
   go_ret
   exact ⟨by rw [HV.out]; simp [cleanC, *],HB.out⟩
  ·have a1 : decide (a ≥ 7) = false:=decide_eq_false ha
   have a2 : ¬ 7 ≤ a:=ha
   clear ha
   by_cases hb : b ≥ 7
   ·have b1 : decide (b ≥ 7) = true:=decide_eq_true hb
    have b2 : 7 ≤ b:=hb
    go_wp2
    go_ret
    exact ⟨by rw [HV.out]; simp [cleanC, *],HB.out⟩
   ·have b1 : decide (b ≥ 7) = false:=decide_eq_false hb
    have b2 : ¬ 7 ≤ b:=hb
    clear hb
    cases no with
    | true =>
     go_wp2
     go_ret
     exact ⟨by rw [HV.out]; simp [cleanC, *],HB.out⟩
    | false =>
     by_cases hz : a = b
     ·subst hz
      go_wp2
      go_ret
      exact ⟨by rw [HV.out]; simp [cleanC, *],HB.out⟩
     ·have z1 : (a == b) = false:=beq_eq_false_iff_ne.2 hz
      go_wp2
      go_ret
      exact ⟨by rw [HV.out]; simp [cleanC, *],HB.out⟩
 ·by_cases ha : a ≥ 7
  ·have a1 : decide (a ≥ 7) = true:=decide_eq_true ha
   have a2 : 7 ≤ a:=ha
   go_wp2
   go_ret
   exact ⟨by rw [HV.out]; simp [cleanC, *],HB.out⟩
  ·have a1 : decide (a ≥ 7) = false:=decide_eq_false ha
   have a2 : ¬ 7 ≤ a:=ha
   clear ha
   by_cases hb : b ≥ 7
   ·have b1 : decide (b ≥ 7) = true:=decide_eq_true hb
    have b2 : 7 ≤ b:=hb
    go_wp2
    go_ret
    exact ⟨by rw [HV.out]; simp [cleanC, *],HB.out⟩
   ·have b1 : decide (b ≥ 7) = false:=decide_eq_false hb
    have b2 : ¬ 7 ≤ b:=hb
    clear hb
    cases no with
    | true =>
     go_wp2
     go_ret
     exact ⟨by rw [HV.out]; simp [cleanC, *],HB.out⟩
    | false =>
     by_cases hz : b = 0
     ·subst hz
      go_wp2
      go_ret
      exact ⟨by rw [HV.out]; simp [cleanC, *],HB.out⟩
     ·have z1 : (b != 0) = true:=bne_iff_ne.2 hz
      have z2 : (b == 0) = false:=beq_eq_false_iff_ne.2 hz
      go_wp2
      go_ret
      exact ⟨by rw [HV.out]; simp [cleanC, *],HB.out⟩
 ·by_cases ha : a ≥ 7
  ·have a1 : decide (a ≥ 7) = true:=decide_eq_true ha
   have a2 : 7 ≤ a:=ha
   go_wp2
   go_ret
   exact ⟨by rw [HV.out]; simp [cleanC, *],HB.out⟩
  ·have a1 : decide (a ≥ 7) = false:=decide_eq_false ha
   have a2 : ¬ 7 ≤ a:=ha
   clear ha
   by_cases hb : b ≥ 7
   ·have b1 : decide (b ≥ 7) = true:=decide_eq_true hb
    have b2 : 7 ≤ b:=hb
    go_wp2
    go_ret
    exact ⟨by rw [HV.out]; simp [cleanC, *],HB.out⟩
   ·have b1 : decide (b ≥ 7) = false:=decide_eq_false hb
    have b2 : ¬ 7 ≤ b:=hb
    clear hb
    cases no with
    | true =>
     by_cases hz : a = b
     ·subst hz
      go_wp2
      go_ret
      exact ⟨by rw [HV.out]; simp [cleanC, *],HB.out⟩
     ·have z1 : (a == b) = false:=beq_eq_false_iff_ne.2 hz
      go_wp2
      go_ret
      exact ⟨by rw [HV.out]; simp [cleanC, *],HB.out⟩
    | false =>
     by_cases hz : a = b
     ·subst hz
      go_wp2
      go_ret
      exact ⟨by rw [HV.out]; simp [cleanC, *],HB.out⟩
     ·have z1 : (a == b) = false:=beq_eq_false_iff_ne.2 hz
      go_wp2
      go_ret
      exact ⟨by rw [HV.out]; simp [cleanC, *],HB.out⟩
 ·by_cases ha : a ≥ 7
  ·have a1 : decide (a ≥ 7) = true:=decide_eq_true ha
   have a2 : 7 ≤ a:=ha
   go_wp2
   go_ret
   exact ⟨by rw [HV.out]; simp [cleanC, *],HB.out⟩
  ·have a1 : decide (a ≥ 7) = false:=decide_eq_false ha
   have a2 : ¬ 7 ≤ a:=ha
   clear ha
   by_cases hb : b ≥ 7
   ·have b1 : decide (b ≥ 7) = true:=decide_eq_true hb
    have b2 : 7 ≤ b:=hb
    go_wp2
    go_ret
    exact ⟨by rw [HV.out]; simp [cleanC, *],HB.out⟩
   ·have b1 : decide (b ≥ 7) = false:=decide_eq_false hb
    have b2 : ¬ 7 ≤ b:=hb
    clear hb
    cases no with
    | true =>
     by_cases hz : b = 0
     ·subst hz
      go_wp2
      go_ret
      exact ⟨by rw [HV.out]; simp [cleanC, *],HB.out⟩
     ·have z1 : (b != 0) = true:=bne_iff_ne.2 hz
      have z2 : (b == 0) = false:=beq_eq_false_iff_ne.2 hz
      go_wp2
      go_ret
      exact ⟨by rw [HV.out]; simp [cleanC, *],HB.out⟩
    | false =>
     by_cases hz : b = 0
     ·subst hz
      go_wp2
      go_ret
      exact ⟨by rw [HV.out]; simp [cleanC, *],HB.out⟩
     ·have z1 : (b != 0) = true:=bne_iff_ne.2 hz
      have z2 : (b == 0) = false:=beq_eq_false_iff_ne.2 hz
      go_wp2
      go_ret
      exact ⟨by rw [HV.out]; simp [cleanC, *],HB.out⟩
 ·by_cases ha : a ≥ 7
  ·have a1 : decide (a ≥ 7) = true:=decide_eq_true ha
   have a2 : 7 ≤ a:=ha
   go_wp2
   go_ret
   exact ⟨by rw [HV.out]; simp [cleanC, *],HB.out⟩
  ·have a1 : decide (a ≥ 7) = false:=decide_eq_false ha
   have a2 : ¬ 7 ≤ a:=ha
   clear ha
   by_cases hb : b ≥ 7
   ·have b1 : decide (b ≥ 7) = true:=decide_eq_true hb
    have b2 : 7 ≤ b:=hb
    go_wp2
    go_ret
    exact ⟨by rw [HV.out]; simp [cleanC, *],HB.out⟩
   ·have b1 : decide (b ≥ 7) = false:=decide_eq_false hb
    have b2 : ¬ 7 ≤ b:=hb
    clear hb
    cases no with
    | true =>
     by_cases hz : b = 0
     ·subst hz
      go_wp2_with fail
      refine (HW.out _).mono ?_
      rintro e w3 ⟨rfl,hd⟩
      have HB3:=Aside0.mk (HB.out.trans (hd.below.mono HB.out.size))
      have hx3:=blk_below HX2.out hd.below
      have d0:=(blk_cell hx3 0).trans rfl
      have d4:=(blk_cell hx3 4).trans rfl
      clear hd hx3
      cases q with
      | true =>
       go_wp2
       go_ret
       exact ⟨by rw [HV.out]; simp [cleanC,HQ.out.symm,a2,b2],HB3.out⟩
      | false =>
       go_wp2
       go_ret
       exact ⟨by rw [HV.out]; simp [cleanC,HQ.out.symm,a2,b2],HB3.out⟩
     ·have z1 : (b != 0) = true:=bne_iff_ne.2 hz
      have z2 : (b == 0) = false:=beq_eq_false_iff_ne.2 hz
      go_wp2
      go_ret
      exact ⟨by rw [HV.out]; simp [cleanC, *],HB.out⟩
    | false =>
     by_cases hz : b = 0
     ·subst hz
      go_wp2_with fail
      refine (HW.out _).mono ?_
      rintro e w3 ⟨rfl,hd⟩
      have HB3:=Aside0.mk (HB.out.trans (hd.below.mono HB.out.size))
      have hx3:=blk_below HX2.out hd.below
      have d0:=(blk_cell hx3 0).trans rfl
      have d4:=(blk_cell hx3 4).trans rfl
      clear hd hx3
      cases q with
      | true =>
       go_wp2
       go_ret
       exact ⟨by rw [HV.out]; simp [cleanC,HQ.out.symm,a2,b2],HB3.out⟩
      | false =>
       go_wp2
       go_ret
       exact ⟨by rw [HV.out]; simp [cleanC,HQ.out.symm,a2,b2],HB3.out⟩
     ·have z1 : (b != 0) = true:=bne_iff_ne.2 hz
      have z2 : (b == 0) = false:=beq_eq_false_iff_ne.2 hz
      go_wp2
      go_ret
      exact ⟨by rw [HV.out]; simp [cleanC, *],HB.out⟩
 ·by_cases ha : a ≥ 7
  ·have a1 : decide (a ≥ 7) = true:=decide_eq_true ha
   have a2 : 7 ≤ a:=ha
   go_wp2
   go_ret
   exact ⟨by rw [HV.out]; simp [cleanC, *],HB.out⟩
  ·have a1 : decide (a ≥ 7) = false:=decide_eq_false ha
   have a2 : ¬ 7 ≤ a:=ha
   clear ha
   by_cases hb : b ≥ 7
   ·have b1 : decide (b ≥ 7) = true:=decide_eq_true hb
    have b2 : 7 ≤ b:=hb
    go_wp2
    go_ret
    exact ⟨by rw [HV.out]; simp [cleanC, *],HB.out⟩
   ·have b1 : decide (b ≥ 7) = false:=decide_eq_false hb
    have b2 : ¬ 7 ≤ b:=hb
    clear hb
    cases no with
    | true =>
     go_wp2
     go_ret
     exact ⟨by rw [HV.out]; simp [cleanC, *],HB.out⟩
    | false =>
     by_cases hz : b = 0
     ·subst hz
      by_cases hy : a = 0
      ·subst hy
       go_wp2
       go_ret
       exact ⟨by rw [HV.out]; simp [cleanC, *],HB.out⟩
      ·have y1 : (a != 0) = true:=bne_iff_ne.2 hy
       have y2 : (a == 0) = false:=beq_eq_false_iff_ne.2 hy
       go_wp2
       go_ret
       exact ⟨by rw [HV.out]; simp [cleanC, *],HB.out⟩
     ·have z1 : (b != 0) = true:=bne_iff_ne.2 hz
      have z2 : (b == 0) = false:=beq_eq_false_iff_ne.2 hz
      go_wp2
      go_ret
      exact ⟨by rw [HV.out]; simp [cleanC, *],HB.out⟩
end Go.Proofs.YtplbifmjnanceaaGreatDoor
end
