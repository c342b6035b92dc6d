/- The walk through isName. -/
import Derived.Test.YtplbifmjnanceaaGreatDoorVD
namespace Go.Proofs.YtplbifmjnanceaaGreatDoor.PFnArchive
open Go.RowKit Go.Proofs.YtplbifmjnanceaaGreatDoorW.PrintWords Go.Proofs.YtplbifmjnanceaaGreatDoorW.PrintLast Go.Proofs.YtplbifmjnanceaaGreatDoorW.PrintMore
attribute [local go_sem] max2_int min2_int max_two min_two max_three min_three max_four min_four
set_option linter.unusedVariables false
set_option linter.unusedSimpArgs false
mutual
def spec_isName.l0 : Nat → Bool → List ByteArray → List ByteArray → Int → Int → Option (Bool)
 | 0,_,_,_,_,_ => none
 | k + 1,x1,x5,x13,x14,x15 => if x15 < x14 then (if 0 ≤ x15 then (if x15 < (x13.length : Int) then (if (rdOf ByteArray.empty x13 x15).toList = ([] : List UInt8) then (spec_isName.j1 k x1 x5 (rdOf ByteArray.empty x13 x15) x13 x14 x15 true) else (if ((rdOf ByteArray.empty x13 x15).size : Int) > 8 then (spec_isName.j1 k x1 x5 (rdOf ByteArray.empty x13 x15) x13 x14 x15 true) else (if 0 < ((rdOf ByteArray.empty x13 x15).size : Int) then (if (bt (rdOf ByteArray.empty x13 x15) 0) = 46 then (spec_isName.j1 k x1 x5 (rdOf ByteArray.empty x13 x15) x13 x14 x15 true) else (if 0 ≤ (wrap64 (((rdOf ByteArray.empty x13 x15).size : Int) - 1)) then (if (wrap64 (((rdOf ByteArray.empty x13 x15).size : Int) - 1)) < ((rdOf ByteArray.empty x13 x15).size : Int) then (spec_isName.j1 k x1 x5 (rdOf ByteArray.empty x13 x15) x13 x14 x15 ((bt (rdOf ByteArray.empty x13 x15) (wrap64 (((rdOf ByteArray.empty x13 x15).size : Int) - 1))) == 46)) else (none)) else (none))) else (none)))) else (none)) else (none)) else (some (decide ((x5.length : Int) ≤ 3)))
def spec_isName.j1 : Nat → Bool → List ByteArray → ByteArray → List ByteArray → Int → Int → Bool → Option (Bool)
 | 0,_,_,_,_,_,_,_ => none
 | k + 1,x1,x5,x7,x13,x14,x15,x38 => if x38 = true then (some false) else (spec_isName.l1 k x1 x5 x7 x13 x14 x15 (x7.size : Int) 0)
def spec_isName.l1 : Nat → Bool → List ByteArray → ByteArray → List ByteArray → Int → Int → Int → Int → Option (Bool)
 | 0,_,_,_,_,_,_,_,_ => none
 | k + 1,x1,x5,x7,x13,x14,x15,x40,x41 => if x41 < x40 then (if 0 ≤ x41 then (if x41 < (x7.size : Int) then (if (bt x7 x41) ≥ 97 then (if (bt x7 x41) ≤ 122 then (spec_isName.l1 k x1 x5 x7 x13 x14 x15 x40 (wrap64 (x41 + 1))) else (if (bt x7 x41) ≥ 48 then (if ((bt x7 x41) ≤ 57) then (spec_isName.l1 k x1 x5 x7 x13 x14 x15 x40 (wrap64 (x41 + 1))) else (if (bt x7 x41) = 46 then (if 0 ≤ (wrap64 (x41 - 1)) then (if (wrap64 (x41 - 1)) < (x7.size : Int) then (if (bt x7 (wrap64 (x41 - 1))) = 46 then (if x1 = true then (if (bt x7 x41) = 42 then (spec_isName.l1 k x1 x5 x7 x13 x14 x15 x40 (wrap64 (x41 + 1))) else (if ((bt x7 x41) = 63) then (spec_isName.l1 k x1 x5 x7 x13 x14 x15 x40 (wrap64 (x41 + 1))) else (some false))) else (some false)) else (spec_isName.l1 k x1 x5 x7 x13 x14 x15 x40 (wrap64 (x41 + 1)))) else (none)) else (none)) else (if x1 = true then (if (bt x7 x41) = 42 then (spec_isName.l1 k x1 x5 x7 x13 x14 x15 x40 (wrap64 (x41 + 1))) else (if ((bt x7 x41) = 63) then (spec_isName.l1 k x1 x5 x7 x13 x14 x15 x40 (wrap64 (x41 + 1))) else (some false))) else (some false)))) else (if (bt x7 x41) = 46 then (if 0 ≤ (wrap64 (x41 - 1)) then (if (wrap64 (x41 - 1)) < (x7.size : Int) then (if (bt x7 (wrap64 (x41 - 1))) = 46 then (if x1 = true then (if (bt x7 x41) = 42 then (spec_isName.l1 k x1 x5 x7 x13 x14 x15 x40 (wrap64 (x41 + 1))) else (if ((bt x7 x41) = 63) then (spec_isName.l1 k x1 x5 x7 x13 x14 x15 x40 (wrap64 (x41 + 1))) else (some false))) else (some false)) else (spec_isName.l1 k x1 x5 x7 x13 x14 x15 x40 (wrap64 (x41 + 1)))) else (none)) else (none)) else (if x1 = true then (if (bt x7 x41) = 42 then (spec_isName.l1 k x1 x5 x7 x13 x14 x15 x40 (wrap64 (x41 + 1))) else (if ((bt x7 x41) = 63) then (spec_isName.l1 k x1 x5 x7 x13 x14 x15 x40 (wrap64 (x41 + 1))) else (some false))) else (some false))))) else (if (bt x7 x41) ≥ 48 then (if ((bt x7 x41) ≤ 57) then (spec_isName.l1 k x1 x5 x7 x13 x14 x15 x40 (wrap64 (x41 + 1))) else (if (bt x7 x41) = 46 then (if 0 ≤ (wrap64 (x41 - 1)) then (if (wrap64 (x41 - 1)) < (x7.size : Int) then (if (bt x7 (wrap64 (x41 - 1))) = 46 then (if x1 = true then (if (bt x7 x41) = 42 then (spec_isName.l1 k x1 x5 x7 x13 x14 x15 x40 (wrap64 (x41 + 1))) else (if ((bt x7 x41) = 63) then (spec_isName.l1 k x1 x5 x7 x13 x14 x15 x40 (wrap64 (x41 + 1))) else (some false))) else (some false)) else (spec_isName.l1 k x1 x5 x7 x13 x14 x15 x40 (wrap64 (x41 + 1)))) else (none)) else (none)) else (if x1 = true then (if (bt x7 x41) = 42 then (spec_isName.l1 k x1 x5 x7 x13 x14 x15 x40 (wrap64 (x41 + 1))) else (if ((bt x7 x41) = 63) then (spec_isName.l1 k x1 x5 x7 x13 x14 x15 x40 (wrap64 (x41 + 1))) else (some false))) else (some false)))) else (if (bt x7 x41) = 46 then (if 0 ≤ (wrap64 (x41 - 1)) then (if (wrap64 (x41 - 1)) < (x7.size : Int) then (if (bt x7 (wrap64 (x41 - 1))) = 46 then (if x1 = true then (if (bt x7 x41) = 42 then (spec_isName.l1 k x1 x5 x7 x13 x14 x15 x40 (wrap64 (x41 + 1))) else (if ((bt x7 x41) = 63) then (spec_isName.l1 k x1 x5 x7 x13 x14 x15 x40 (wrap64 (x41 + 1))) else (some false))) else (some false)) else (spec_isName.l1 k x1 x5 x7 x13 x14 x15 x40 (wrap64 (x41 + 1)))) else (none)) else (none)) else (if x1 = true then (if (bt x7 x41) = 42 then (spec_isName.l1 k x1 x5 x7 x13 x14 x15 x40 (wrap64 (x41 + 1))) else (if ((bt x7 x41) = 63) then (spec_isName.l1 k x1 x5 x7 x13 x14 x15 x40 (wrap64 (x41 + 1))) else (some false))) else (some false))))) else (none)) else (none)) else (spec_isName.l0 k x1 x5 x13 x14 (wrap64 (x15 + 1)))
end
def spec_isName.f (k : Nat) (a0 : ByteArray) (a1 : Bool) : Option (Bool):=(spec_partsOf.f k a0).bind fun t125 => (spec_isName.l0 k a1 t125 t125 (t125.length : Int) 0)
theorem spec_isName.mono_l : ∀ k,(∀ y0 y1 y2 y3 y4,LeO (spec_isName.l0 k y0 y1 y2 y3 y4) (spec_isName.l0 (k + 1) y0 y1 y2 y3 y4)) ∧ (∀ y0 y1 y2 y3 y4 y5 y6,LeO (spec_isName.j1 k y0 y1 y2 y3 y4 y5 y6) (spec_isName.j1 (k + 1) y0 y1 y2 y3 y4 y5 y6)) ∧ (∀ y0 y1 y2 y3 y4 y5 y6 y7,LeO (spec_isName.l1 k y0 y1 y2 y3 y4 y5 y6 y7) (spec_isName.l1 (k + 1) y0 y1 y2 y3 y4 y5 y6 y7))
 | 0 => ⟨fun _ _ _ _ _ r h => by simp [spec_isName.l0] at h,fun _ _ _ _ _ _ _ r h => by simp [spec_isName.j1] at h,fun _ _ _ _ _ _ _ _ r h => by simp [spec_isName.l1] at h⟩
 | k + 1 => by
  obtain ⟨ih0,ih1,ih2⟩:=spec_isName.mono_l k
  refine ⟨?_,?_,?_⟩
  ·intro y0 y1 y2 y3 y4
   unfold spec_isName.l0
   repeat' first
   | (with_reducible exact ih0 _ _ _ _ _)
   | (with_reducible exact ih1 _ _ _ _ _ _ _)
   | (with_reducible exact ih2 _ _ _ _ _ _ _ _)
   | (with_reducible exact spec_partsOf.mono _ _)
   | (with_reducible exact LeO.refl _)
   | (with_reducible exact LeO.none _)
   | (with_reducible refine LeO.ite ?_ ?_)
   | (with_reducible refine LeO.bind ?_ (fun _ => ?_))
   | exact ih0 _ _ _ _ _
   | exact ih1 _ _ _ _ _ _ _
   | exact ih2 _ _ _ _ _ _ _ _
   | exact spec_partsOf.mono _ _
   | exact LeO.none _
   | refine LeO.ite ?_ ?_
   | refine LeO.bind ?_ (fun _ => ?_)
  ·intro y0 y1 y2 y3 y4 y5 y6
   unfold spec_isName.j1
   repeat' first
   | (with_reducible exact ih0 _ _ _ _ _)
   | (with_reducible exact ih1 _ _ _ _ _ _ _)
   | (with_reducible exact ih2 _ _ _ _ _ _ _ _)
   | (with_reducible exact spec_partsOf.mono _ _)
   | (with_reducible exact LeO.refl _)
   | (with_reducible exact LeO.none _)
   | (with_reducible refine LeO.ite ?_ ?_)
   | (with_reducible refine LeO.bind ?_ (fun _ => ?_))
   | exact ih0 _ _ _ _ _
   | exact ih1 _ _ _ _ _ _ _
   | exact ih2 _ _ _ _ _ _ _ _
   | exact spec_partsOf.mono _ _
   | exact LeO.none _
   | refine LeO.ite ?_ ?_
   | refine LeO.bind ?_ (fun _ => ?_)
  ·intro y0 y1 y2 y3 y4 y5 y6 y7
   unfold spec_isName.l1
   repeat' first
   | (with_reducible exact ih0 _ _ _ _ _)
   | (with_reducible exact ih1 _ _ _ _ _ _ _)
   | (with_reducible exact ih2 _ _ _ _ _ _ _ _)
   | (with_reducible exact spec_partsOf.mono _ _)
   | (with_reducible exact LeO.refl _)
   | (with_reducible exact LeO.none _)
   | (with_reducible refine LeO.ite ?_ ?_)
   | (with_reducible refine LeO.bind ?_ (fun _ => ?_))
   | exact ih0 _ _ _ _ _
   | exact ih1 _ _ _ _ _ _ _
   | exact ih2 _ _ _ _ _ _ _ _
   | exact spec_partsOf.mono _ _
   | exact LeO.none _
   | refine LeO.ite ?_ ?_
   | refine LeO.bind ?_ (fun _ => ?_)
theorem spec_isName.mono : ∀ a0 a1 k,LeO (spec_isName.f k a0 a1) (spec_isName.f (k + 1) a0 a1):=by
 intro a0 a1 k
 obtain ⟨ih0,ih1,ih2⟩:=spec_isName.mono_l k
 unfold spec_isName.f
 repeat' first
   | (with_reducible exact ih0 _ _ _ _ _)
   | (with_reducible exact ih1 _ _ _ _ _ _ _)
   | (with_reducible exact ih2 _ _ _ _ _ _ _ _)
   | (with_reducible exact spec_partsOf.mono _ _)
   | (with_reducible exact LeO.refl _)
   | (with_reducible exact LeO.none _)
   | (with_reducible refine LeO.ite ?_ ?_)
   | (with_reducible refine LeO.bind ?_ (fun _ => ?_))
   | exact ih0 _ _ _ _ _
   | exact ih1 _ _ _ _ _ _ _
   | exact ih2 _ _ _ _ _ _ _ _
   | exact spec_partsOf.mono _ _
   | exact LeO.none _
   | refine LeO.ite ?_ ?_
   | refine LeO.bind ?_ (fun _ => ?_)
set_option maxHeartbeats 8000000 in
set_option maxRecDepth 100000 in
theorem spec_isName.calls (k : Nat) (a0 : ByteArray) (a1 : Bool) (r : Bool) (w : World) (h : spec_isName.f k a0 a1 = some r) :
  Calls Tryz.prog 33 #[.string a0,.bool a1] w fun e w' => e = .returned (.bool r) ∧ Below w.heap.size w w':=by
 have HB:=Aside0.mk (Below.refl w.heap.size w)
 have H : ((spec_partsOf.f k a0).bind fun t125 => (spec_isName.l0 k a1 t125 t125 (t125.length : Int) 0)) = some r:=h
 clear h
 replace H:=Option.bind_eq_some_iff.mp H
 obtain ⟨t125,A30,H⟩:=H
 replace H : (spec_isName.l0 k a1 t125 t125 (t125.length : Int) 0) = some r:=H
 have A3:=Aside0.mk A30
 clear A30
 have H':=Aside0.mk H
 clear H
 go_enter Tryz.func33,Tryz.ntmps33
 go_wp2_with (first | ((with_reducible refine gate_callee (f:=55) rfl ?_); refine goesL_ (some 12) rfl rfl Tryz.func55 (by kernel_rfl) rfl #[.string a0] rfl (by (try simp only [List.map_toArray,List.map_cons,List.map_nil]); first | done | rfl | (simp only [List.length_drop,List.length_take]; rfl)) ?_; (with_reducible refine (spec_partsOf.calls k a0 t125 _ A3.out).mono ?_); rintro e w4 ⟨v126,rfl,ho0,hb⟩; refine ⟨_,rfl,?_⟩; have n0_:=Aside0.mk (Kd.R_lower ho0 (below_size (by repeat (first | (with_reducible first | exact HB.out | apply below_alloc | apply pw_below_drewN | apply below_drew1) | exact HB.out)))); have n1_:=Aside0.mk (below_step (by repeat (first | (with_reducible first | exact HB.out | apply below_alloc | apply pw_below_drewN | apply below_drew1) | exact HB.out)) hb); clear HB; have HO127:=n0_; have HB:=n1_; clear n0_ n1_; (try clear hb); (try clear hb2); (try clear hk); (try clear hi); (try clear ho0); obtain ⟨Ao5,co5,eo5⟩:=Kd.R_slice HO127.out; subst eo5))
 go_loopg [15] k (fun kq v15 w' => ∃ (x15_1 : Int),v15 = .int .i64 x15_1 ∧ Aside0 (spec_isName.l0 kq a1 t125 t125 (t125.length : Int) x15_1 = some r) ∧ Aside0 (kq ≤ k) ∧ Aside0 (Kd.R Kd.string 9 w' w.heap.size (fun _ => True) (.slice Ao5 t125.length co5) t125) ∧ Aside0 (Kd.R Kd.string 9 w' w.heap.size (fun _ => True) (.slice Ao5 t125.length co5) t125) ∧ Aside0 (Below w.heap.size w w'))
 case atStart => exact ⟨(0),(by first | rfl | (simp; done) | (simp [*]; done)),H',⟨Nat.le_refl _⟩,⟨by (with_reducible repeat (first | apply Kd.R_alloc | apply Kd.R_drewN | apply Kd.R_drew)); exact HO127.out⟩,⟨by (with_reducible repeat (first | apply Kd.R_alloc | apply Kd.R_drewN | apply Kd.R_drew)); exact HO127.out⟩,⟨by repeat (first | (with_reducible first | exact HB.out | apply below_alloc | apply pw_below_drewN | apply below_drew1) | exact HB.out)⟩⟩
 case round =>
  clear H'
  try clear p2
  try clear c3
  try clear c5
  obtain ⟨x15_1,rfl,HA,HK1,HO_5,HO_13,HB⟩:=hrel
  cases gk with
  | zero => exact absurd HA.out (by simp [spec_isName.l0])
  | succ k1 =>
   have H:=HA.out
   clear HA
   simp only [spec_isName.l0] at H
   by_cases c6 : x15_1 < (t125.length : Int)
   ·rw [if_pos c6] at H
    have c6b0 : decide (x15_1 < (t125.length : Int)) = true:=decide_eq_true c6
    clear c6
    by_cases c7 : 0 ≤ x15_1
    ·rw [if_pos c7] at H
     have c7b0 : decide (0 ≤ x15_1) = true:=decide_eq_true c7
     clear c7
     by_cases c8 : x15_1 < (t125.length : Int)
     ·rw [if_pos c8] at H
      have c8b0 : decide (x15_1 < (t125.length : Int)) = true:=decide_eq_true c8
      clear c8
      have HC9:=Aside0.mk H
      clear H
      have p128 : 0 ≤ (x15_1 : Int):=of_decide_eq_true (by first | (with_reducible assumption) | assumption)
      have q128 : x15_1 < (t125.length : Int):=of_decide_eq_true (by first | (with_reducible assumption) | assumption)
      obtain ⟨ad128,e128,hx128_0⟩:=Kd.at_string (Kd.R_reads' HO_13.out).2.2 x15_1 p128 q128
      cases e128
      replace p128:=eq_true p128
      replace q128:=eq_true q128
      go_upto_region 5 with (fail)
      go_cut [38] (fun v38 wc => ∃ (kq : Nat) (x38_8 : Bool),v38 = .bool x38_8 ∧ Aside0 (spec_isName.j1 kq a1 t125 (rdOf ByteArray.empty t125 x15_1) t125 (t125.length : Int) x15_1 x38_8 = some r) ∧ Aside0 (kq ≤ k1) ∧ Aside0 (Kd.R Kd.string 9 wc w.heap.size (fun _ => True) (.slice (some ad128) t125.length co5) t125) ∧ Aside0 (Kd.R Kd.string 9 wc w.heap.size (fun _ => True) (.slice (some ad128) t125.length co5) t125) ∧ Aside0 (Below w.heap.size w wc))
      case first =>
       have H:=HC9.out
       clear HC9
       by_cases c10 : (rdOf ByteArray.empty t125 x15_1).toList = ([] : List UInt8)
       ·rw [if_pos c10] at H
        have c10b0 : ((rdOf ByteArray.empty t125 x15_1).toList == ([] : List UInt8)) = true:=beq_iff_eq.mpr c10
        have c10b1 : ((rdOf ByteArray.empty t125 x15_1).toList != ([] : List UInt8)) = false:=bne_eq_false_iff_eq.mpr c10
        clear c10
        (first | rw [c10b0] | (simp only [i64_w,i32_w]; rw [c10b0]) | skip)
        have H':=Aside0.mk H
        clear H
        go_wp2
        go_meet
        case rel => exact ⟨_,(true),(by first | rfl | (simp; done) | (simp [*]; done)),H',⟨by have:=HK1.out; first | omega | exact Nat.le_refl _⟩,⟨by (with_reducible repeat (first | apply Kd.R_alloc | apply Kd.R_drewN | apply Kd.R_drew)); exact HO_5.out⟩,⟨by (with_reducible repeat (first | apply Kd.R_alloc | apply Kd.R_drewN | apply Kd.R_drew)); exact HO_13.out⟩,⟨by repeat (first | (with_reducible first | exact HB.out | apply below_alloc | apply pw_below_drewN | apply below_drew1) | exact HB.out)⟩⟩
       ·rw [if_neg c10] at H
        have c10b0 : ((rdOf ByteArray.empty t125 x15_1).toList == ([] : List UInt8)) = false:=beq_eq_false_iff_ne.mpr c10
        have c10b1 : ((rdOf ByteArray.empty t125 x15_1).toList != ([] : List UInt8)) = true:=bne_iff_ne.mpr c10
        (first | rw [c10b0] | (simp only [i64_w,i32_w]; rw [c10b0]) | skip)
        by_cases c11 : ((rdOf ByteArray.empty t125 x15_1).size : Int) > 8
        ·rw [if_pos c11] at H
         have c11b0 : decide (8 < ((rdOf ByteArray.empty t125 x15_1).size : Int)) = true:=decide_eq_true c11
         have c11b1 : decide (8 < (rdOf ByteArray.empty t125 x15_1).size) = true:=decide_eq_true (by omega)
         clear c11
         have H':=Aside0.mk H
         clear H
         go_wp2
         go_meet
         case rel => exact ⟨_,(true),(by first | rfl | (simp; done) | (simp [*]; done)),H',⟨by have:=HK1.out; first | omega | exact Nat.le_refl _⟩,⟨by (with_reducible repeat (first | apply Kd.R_alloc | apply Kd.R_drewN | apply Kd.R_drew)); exact HO_5.out⟩,⟨by (with_reducible repeat (first | apply Kd.R_alloc | apply Kd.R_drewN | apply Kd.R_drew)); exact HO_13.out⟩,⟨by repeat (first | (with_reducible first | exact HB.out | apply below_alloc | apply pw_below_drewN | apply below_drew1) | exact HB.out)⟩⟩
        ·rw [if_neg c11] at H
         have c11b0 : decide (8 < ((rdOf ByteArray.empty t125 x15_1).size : Int)) = false:=decide_eq_false c11
         have c11b1 : decide (8 < (rdOf ByteArray.empty t125 x15_1).size) = false:=decide_eq_false (by omega)
         clear c11
         by_cases c12 : 0 < ((rdOf ByteArray.empty t125 x15_1).size : Int)
         ·rw [if_pos c12] at H
          have c12b0 : decide (0 < ((rdOf ByteArray.empty t125 x15_1).size : Int)) = true:=decide_eq_true c12
          have c12b1 : decide (0 < (rdOf ByteArray.empty t125 x15_1).size) = true:=decide_eq_true (by omega)
          clear c12
          by_cases c14 : (bt (rdOf ByteArray.empty t125 x15_1) 0) = 46
          ·rw [if_pos c14] at H
           have c14b0 : ((bt (rdOf ByteArray.empty t125 x15_1) 0) == 46) = true:=beq_iff_eq.mpr c14
           have c14b1 : ((bt (rdOf ByteArray.empty t125 x15_1) 0) != 46) = false:=bne_eq_false_iff_eq.mpr c14
           clear c14
           have H':=Aside0.mk H
           clear H
           have p13 : 0 ≤ (0 : Int):=(by omega)
           have q13 : 0 < (rdOf ByteArray.empty t125 x15_1).size:=(by have : (0 : Int) < ((rdOf ByteArray.empty t125 x15_1).size : Int):=of_decide_eq_true (by first | (with_reducible assumption) | assumption); omega)
           have hx13 : ∀ h : 0 < (rdOf ByteArray.empty t125 x15_1).size,(((rdOf ByteArray.empty t125 x15_1)[0]'h).toNat : Int) = bt (rdOf ByteArray.empty t125 x15_1) 0:=bt_at (rdOf ByteArray.empty t125 x15_1) 0
           clear p13
           have qi13 : (0 < ((rdOf ByteArray.empty t125 x15_1).size : Int)) = True:=eq_true (of_decide_eq_true (by first | (with_reducible assumption) | assumption))
           replace q13:=eq_true q13
           go_wp2
           go_meet
           case rel => exact ⟨_,(true),(by first | rfl | (simp; done) | (simp [*]; done)),H',⟨by have:=HK1.out; first | omega | exact Nat.le_refl _⟩,⟨by (with_reducible repeat (first | apply Kd.R_alloc | apply Kd.R_drewN | apply Kd.R_drew)); exact HO_5.out⟩,⟨by (with_reducible repeat (first | apply Kd.R_alloc | apply Kd.R_drewN | apply Kd.R_drew)); exact HO_13.out⟩,⟨by repeat (first | (with_reducible first | exact HB.out | apply below_alloc | apply pw_below_drewN | apply below_drew1) | exact HB.out)⟩⟩
          ·rw [if_neg c14] at H
           have c14b0 : ((bt (rdOf ByteArray.empty t125 x15_1) 0) == 46) = false:=beq_eq_false_iff_ne.mpr c14
           have c14b1 : ((bt (rdOf ByteArray.empty t125 x15_1) 0) != 46) = true:=bne_iff_ne.mpr c14
           obtain ⟨ji15,hji15⟩ : ∃ j_ : Int,(wrap64 (((rdOf ByteArray.empty t125 x15_1).size : Int) - 1)) = j_:=⟨_,rfl⟩
           replace H : (if 0 ≤ (ji15) then (if (ji15) < ((rdOf ByteArray.empty t125 x15_1).size : Int) then (spec_isName.j1 k1 a1 t125 (rdOf ByteArray.empty t125 x15_1) t125 (t125.length : Int) x15_1 ((bt (rdOf ByteArray.empty t125 x15_1) (ji15)) == 46)) else (none)) else (none)) = some r:=by first | (rw [hji15] at H; exact H) | (simp only [hji15] at H ⊢; exact H)
           have hji15w : (IntKind.i64.wrap (((rdOf ByteArray.empty t125 x15_1).size : Int) - 1)) = ji15:=(i64_w _).trans hji15
           by_cases c16 : 0 ≤ (ji15)
           ·rw [if_pos c16] at H
            have c16b0 : decide (0 ≤ (ji15)) = true:=decide_eq_true c16
            clear c16
            by_cases c17 : (ji15) < ((rdOf ByteArray.empty t125 x15_1).size : Int)
            ·rw [if_pos c17] at H
             have c17b0 : decide ((ji15) < ((rdOf ByteArray.empty t125 x15_1).size : Int)) = true:=decide_eq_true c17
             clear c17
             have H':=Aside0.mk H
             clear H
             have p13 : 0 ≤ (0 : Int):=(by omega)
             have q13 : 0 < (rdOf ByteArray.empty t125 x15_1).size:=(by have : (0 : Int) < ((rdOf ByteArray.empty t125 x15_1).size : Int):=of_decide_eq_true (by first | (with_reducible assumption) | assumption); omega)
             have hx13 : ∀ h : 0 < (rdOf ByteArray.empty t125 x15_1).size,(((rdOf ByteArray.empty t125 x15_1)[0]'h).toNat : Int) = bt (rdOf ByteArray.empty t125 x15_1) 0:=bt_at (rdOf ByteArray.empty t125 x15_1) 0
             clear p13
             have qi13 : (0 < ((rdOf ByteArray.empty t125 x15_1).size : Int)) = True:=eq_true (of_decide_eq_true (by first | (with_reducible assumption) | assumption))
             replace q13:=eq_true q13
             have p18 : 0 ≤ ((ji15) : Int):=of_decide_eq_true (by first | (with_reducible assumption) | assumption)
             have q18 : (ji15) < ((rdOf ByteArray.empty t125 x15_1).size : Int):=of_decide_eq_true (by first | (with_reducible assumption) | assumption)
             have hx18:=bt_at (rdOf ByteArray.empty t125 x15_1) (ji15)
             replace p18:=eq_true p18
             replace q18:=eq_true q18
             go_wp2
             go_meet
             case rel => exact ⟨_,(((bt (rdOf ByteArray.empty t125 x15_1) (ji15)) == 46)),(by first | rfl | (simp; done) | (simp only [← hji15] <;> (first | rfl | simp)) | (simp [*]; done)),H',⟨by have:=HK1.out; first | omega | exact Nat.le_refl _⟩,⟨by (with_reducible repeat (first | apply Kd.R_alloc | apply Kd.R_drewN | apply Kd.R_drew)); exact HO_5.out⟩,⟨by (with_reducible repeat (first | apply Kd.R_alloc | apply Kd.R_drewN | apply Kd.R_drew)); exact HO_13.out⟩,⟨by repeat (first | (with_reducible first | exact HB.out | apply below_alloc | apply pw_below_drewN | apply below_drew1) | exact HB.out)⟩⟩
            ·rw [if_neg c17] at H
             exact absurd H (by simp)
           ·rw [if_neg c16] at H
            exact absurd H (by simp)
         ·rw [if_neg c12] at H
          exact absurd H (by simp)
      case rest =>
       clear HC9
       try clear c1
       try clear p1
       try clear q1
       try clear hx1
       try clear qi1
       try clear p2
       try clear c3
       try clear c5
       try clear c6
       try clear c6b0
       try clear p6
       try clear c7
       try clear c7b0
       try clear c8
       try clear c8b0
       try clear c10
       try clear c10b0
       try clear c10b1
       try clear c11
       try clear c11b0
       try clear c11b1
       try clear c12
       try clear c12b0
       try clear c12b1
       try clear p12
       try clear q12
       try clear hx12
       try clear p13
       try clear q13
       try clear hx13
       try clear qi13
       try clear c14
       try clear c14b0
       try clear c14b1
       try clear c16
       try clear c16b0
       try clear c17
       try clear c17b0
       try clear p18
       try clear q18
       try clear hx18
       try clear hx128_0
       try clear p128
       try clear p13
       try clear p18
       try clear p2
       try clear q128
       try clear q13
       try clear q18
       obtain ⟨kq,x38_8,rfl,HA,HJ8,HO_5,HO_13,HB⟩:=hcut
       cases kq with
       | zero => exact absurd HA.out (by simp [spec_isName.j1])
       | succ kj8 =>
        have H:=HA.out
        clear HA
        simp only [spec_isName.j1] at H
        by_cases c19 : x38_8 = true
        ·subst c19
         have H1 : (some false) = some r:=by rw [if_pos rfl] at H; exact H
         clear H
         have H:=H1
         clear H1
         obtain rfl:=Option.some.inj H
         go_wp2
         go_ret
         exact ⟨by first | rfl | (simp [errW_none,errW_some] <;> rfl) | (simp [*,errW_none,errW_some] <;> rfl),by repeat (first | (with_reducible first | exact HB.out | apply below_alloc | apply pw_below_drewN | apply below_drew1) | exact HB.out)⟩
        ·replace c19:=Bool.eq_false_iff.mpr c19
         subst c19
         have H1 : (spec_isName.l1 kj8 a1 t125 (rdOf ByteArray.empty t125 x15_1) t125 (t125.length : Int) x15_1 ((rdOf ByteArray.empty t125 x15_1).size : Int) 0) = some r:=by rw [if_neg (show ¬ (false = true) by decide)] at H; exact H
         clear H
         have H:=H1
         clear H1
         have H':=Aside0.mk H
         clear H
         go_wp2
         go_loopg [41] kj8 (fun kq v41 w' => ∃ (x41_3 : Int),v41 = .int .i64 x41_3 ∧ Aside0 (spec_isName.l1 kq a1 t125 (rdOf ByteArray.empty t125 x15_1) t125 (t125.length : Int) x15_1 ((rdOf ByteArray.empty t125 x15_1).size : Int) x41_3 = some r) ∧ Aside0 (kq ≤ kj8) ∧ Aside0 (Kd.R Kd.string 9 w' w.heap.size (fun _ => True) (.slice (some ad128) t125.length co5) t125) ∧ Aside0 (Kd.R Kd.string 9 w' w.heap.size (fun _ => True) (.slice (some ad128) t125.length co5) t125) ∧ Aside0 (Below w.heap.size w w'))
         case atStart => exact ⟨(0),(by first | rfl | (simp; done) | (simp [*]; done)),H',⟨Nat.le_refl _⟩,⟨by (with_reducible repeat (first | apply Kd.R_alloc | apply Kd.R_drewN | apply Kd.R_drew)); exact HO_5.out⟩,⟨by (with_reducible repeat (first | apply Kd.R_alloc | apply Kd.R_drewN | apply Kd.R_drew)); exact HO_13.out⟩,⟨by repeat (first | (with_reducible first | exact HB.out | apply below_alloc | apply pw_below_drewN | apply below_drew1) | exact HB.out)⟩⟩
         case round =>
          clear H'
          try clear c1
          try clear p1
          try clear q1
          try clear hx1
          try clear qi1
          try clear p2
          try clear c3
          try clear c5
          try clear c6
          try clear c6b0
          try clear p6
          try clear c7
          try clear c7b0
          try clear c8
          try clear c8b0
          try clear c10
          try clear c10b0
          try clear c10b1
          try clear c11
          try clear c11b0
          try clear c11b1
          try clear c12
          try clear c12b0
          try clear c12b1
          try clear p12
          try clear q12
          try clear hx12
          try clear p13
          try clear q13
          try clear hx13
          try clear qi13
          try clear c14
          try clear c14b0
          try clear c14b1
          try clear c16
          try clear c16b0
          try clear c17
          try clear c17b0
          try clear p18
          try clear q18
          try clear hx18
          try clear c19
          try clear hx128_0
          try clear p1
          try clear p12
          try clear p128
          try clear p13
          try clear p18
          try clear p2
          try clear p6
          try clear q1
          try clear q12
          try clear q128
          try clear q13
          try clear q18
          obtain ⟨x41_3,rfl,HA,HK3,HO_5,HO_13,HB⟩:=hrel
          cases gk with
          | zero => exact absurd HA.out (by simp [spec_isName.l1])
          | succ k3 =>
           have H:=HA.out
           clear HA
           simp only [spec_isName.l1] at H
           by_cases c20 : x41_3 < ((rdOf ByteArray.empty t125 x15_1).size : Int)
           ·rw [if_pos c20] at H
            have c20b0 : decide (x41_3 < ((rdOf ByteArray.empty t125 x15_1).size : Int)) = true:=decide_eq_true c20
            clear c20
            by_cases c21 : 0 ≤ x41_3
            ·rw [if_pos c21] at H
             have c21b0 : decide (0 ≤ x41_3) = true:=decide_eq_true c21
             clear c21
             by_cases c22 : x41_3 < ((rdOf ByteArray.empty t125 x15_1).size : Int)
             ·rw [if_pos c22] at H
              have c22b0 : decide (x41_3 < ((rdOf ByteArray.empty t125 x15_1).size : Int)) = true:=decide_eq_true c22
              clear c22
              by_cases c24 : (bt (rdOf ByteArray.empty t125 x15_1) x41_3) ≥ 97
              ·rw [if_pos c24] at H
               have c24b0 : decide (97 ≤ (bt (rdOf ByteArray.empty t125 x15_1) x41_3)) = true:=decide_eq_true c24
               clear c24
               by_cases c25 : (bt (rdOf ByteArray.empty t125 x15_1) x41_3) ≤ 122
               ·rw [if_pos c25] at H
                have c25b0 : decide ((bt (rdOf ByteArray.empty t125 x15_1) x41_3) ≤ 122) = true:=decide_eq_true c25
                clear c25
                have H':=Aside0.mk H
                clear H
                have p23 : 0 ≤ (x41_3 : Int):=of_decide_eq_true (by first | (with_reducible assumption) | assumption)
                have q23 : x41_3 < ((rdOf ByteArray.empty t125 x15_1).size : Int):=of_decide_eq_true (by first | (with_reducible assumption) | assumption)
                have hx23:=bt_at (rdOf ByteArray.empty t125 x15_1) x41_3
                replace p23:=eq_true p23
                replace q23:=eq_true q23
                go_wp2
                go_roundg k3
                case measure => have:=HK1.out; have:=HJ8.out; have:=HK3.out; omega
                case rel => exact ⟨(wrap64 (x41_3 + 1)),(by first | rfl | (simp; done) | (simp [*]; done)),H',⟨by have:=HK1.out; have:=HJ8.out; have:=HK3.out; omega⟩,⟨by (with_reducible repeat (first | apply Kd.R_alloc | apply Kd.R_drewN | apply Kd.R_drew)); exact HO_5.out⟩,⟨by (with_reducible repeat (first | apply Kd.R_alloc | apply Kd.R_drewN | apply Kd.R_drew)); exact HO_13.out⟩,⟨by repeat (first | (with_reducible first | exact HB.out | apply below_alloc | apply pw_below_drewN | apply below_drew1) | exact HB.out)⟩⟩
               ·rw [if_neg c25] at H
                have c25b0 : decide ((bt (rdOf ByteArray.empty t125 x15_1) x41_3) ≤ 122) = false:=decide_eq_false c25
                clear c25
                by_cases c26 : (bt (rdOf ByteArray.empty t125 x15_1) x41_3) ≥ 48
                ·rw [if_pos c26] at H
                 have c26b0 : decide (48 ≤ (bt (rdOf ByteArray.empty t125 x15_1) x41_3)) = true:=decide_eq_true c26
                 clear c26
                 by_cases c27 : ((bt (rdOf ByteArray.empty t125 x15_1) x41_3) ≤ 57)
                 ·rw [if_pos c27] at H
                  have c27b0 : decide ((bt (rdOf ByteArray.empty t125 x15_1) x41_3) ≤ 57) = true:=decide_eq_true c27
                  clear c27
                  have H':=Aside0.mk H
                  clear H
                  have p23 : 0 ≤ (x41_3 : Int):=of_decide_eq_true (by first | (with_reducible assumption) | assumption)
                  have q23 : x41_3 < ((rdOf ByteArray.empty t125 x15_1).size : Int):=of_decide_eq_true (by first | (with_reducible assumption) | assumption)
                  have hx23:=bt_at (rdOf ByteArray.empty t125 x15_1) x41_3
                  replace p23:=eq_true p23
                  replace q23:=eq_true q23
                  go_wp2
                  go_roundg k3
                  case measure => have:=HK1.out; have:=HJ8.out; have:=HK3.out; omega
                  case rel => exact ⟨(wrap64 (x41_3 + 1)),(by first | rfl | (simp; done) | (simp [*]; done)),H',⟨by have:=HK1.out; have:=HJ8.out; have:=HK3.out; omega⟩,⟨by (with_reducible repeat (first | apply Kd.R_alloc | apply Kd.R_drewN | apply Kd.R_drew)); exact HO_5.out⟩,⟨by (with_reducible repeat (first | apply Kd.R_alloc | apply Kd.R_drewN | apply Kd.R_drew)); exact HO_13.out⟩,⟨by repeat (first | (with_reducible first | exact HB.out | apply below_alloc | apply pw_below_drewN | apply below_drew1) | exact HB.out)⟩⟩
                 ·rw [if_neg c27] at H
                  have c27b0 : decide ((bt (rdOf ByteArray.empty t125 x15_1) x41_3) ≤ 57) = false:=decide_eq_false c27
                  clear c27
                  by_cases c28 : (bt (rdOf ByteArray.empty t125 x15_1) x41_3) = 46
                  ·rw [if_pos c28] at H
                   have c28b0 : ((bt (rdOf ByteArray.empty t125 x15_1) x41_3) == 46) = true:=beq_iff_eq.mpr c28
                   have c28b1 : ((bt (rdOf ByteArray.empty t125 x15_1) x41_3) != 46) = false:=bne_eq_false_iff_eq.mpr c28
                   clear c28
                   obtain ⟨ji29,hji29⟩ : ∃ j_ : Int,(wrap64 (x41_3 - 1)) = j_:=⟨_,rfl⟩
                   replace H : (if 0 ≤ (ji29) then (if (ji29) < ((rdOf ByteArray.empty t125 x15_1).size : Int) then (if (bt (rdOf ByteArray.empty t125 x15_1) (ji29)) = 46 then (if a1 = true then (if (bt (rdOf ByteArray.empty t125 x15_1) x41_3) = 42 then (spec_isName.l1 k3 a1 t125 (rdOf ByteArray.empty t125 x15_1) t125 (t125.length : Int) x15_1 ((rdOf ByteArray.empty t125 x15_1).size : Int) (wrap64 (x41_3 + 1))) else (if ((bt (rdOf ByteArray.empty t125 x15_1) x41_3) = 63) then (spec_isName.l1 k3 a1 t125 (rdOf ByteArray.empty t125 x15_1) t125 (t125.length : Int) x15_1 ((rdOf ByteArray.empty t125 x15_1).size : Int) (wrap64 (x41_3 + 1))) else (some false))) else (some false)) else (spec_isName.l1 k3 a1 t125 (rdOf ByteArray.empty t125 x15_1) t125 (t125.length : Int) x15_1 ((rdOf ByteArray.empty t125 x15_1).size : Int) (wrap64 (x41_3 + 1)))) else (none)) else (none)) = some r:=by first | (rw [hji29] at H; exact H) | (simp only [hji29] at H ⊢; exact H)
                   have hji29w : (IntKind.i64.wrap (x41_3 - 1)) = ji29:=(i64_w _).trans hji29
                   by_cases c30 : 0 ≤ (ji29)
                   ·rw [if_pos c30] at H
                    have c30b0 : decide (0 ≤ (ji29)) = true:=decide_eq_true c30
                    clear c30
                    by_cases c31 : (ji29) < ((rdOf ByteArray.empty t125 x15_1).size : Int)
                    ·rw [if_pos c31] at H
                     have c31b0 : decide ((ji29) < ((rdOf ByteArray.empty t125 x15_1).size : Int)) = true:=decide_eq_true c31
                     clear c31
                     by_cases c33 : (bt (rdOf ByteArray.empty t125 x15_1) (ji29)) = 46
                     ·rw [if_pos c33] at H
                      have c33b0 : ((bt (rdOf ByteArray.empty t125 x15_1) (ji29)) == 46) = true:=beq_iff_eq.mpr c33
                      have c33b1 : ((bt (rdOf ByteArray.empty t125 x15_1) (ji29)) != 46) = false:=bne_eq_false_iff_eq.mpr c33
                      clear c33
                      by_cases c34 : a1 = true
                      ·subst c34
                       have H1 : (if (bt (rdOf ByteArray.empty t125 x15_1) x41_3) = 42 then (spec_isName.l1 k3 true t125 (rdOf ByteArray.empty t125 x15_1) t125 (t125.length : Int) x15_1 ((rdOf ByteArray.empty t125 x15_1).size : Int) (wrap64 (x41_3 + 1))) else (if ((bt (rdOf ByteArray.empty t125 x15_1) x41_3) = 63) then (spec_isName.l1 k3 true t125 (rdOf ByteArray.empty t125 x15_1) t125 (t125.length : Int) x15_1 ((rdOf ByteArray.empty t125 x15_1).size : Int) (wrap64 (x41_3 + 1))) else (some false))) = some r:=by rw [if_pos rfl] at H; exact H
                       clear H
                       have H:=H1
                       clear H1
                       by_cases c35 : (bt (rdOf ByteArray.empty t125 x15_1) x41_3) = 42
                       ·rw [if_pos c35] at H
                        have c35b0 : ((bt (rdOf ByteArray.empty t125 x15_1) x41_3) == 42) = true:=beq_iff_eq.mpr c35
                        have c35b1 : ((bt (rdOf ByteArray.empty t125 x15_1) x41_3) != 42) = false:=bne_eq_false_iff_eq.mpr c35
                        clear c35
                        have H':=Aside0.mk H
                        clear H
                        have p23 : 0 ≤ (x41_3 : Int):=of_decide_eq_true (by first | (with_reducible assumption) | assumption)
                        have q23 : x41_3 < ((rdOf ByteArray.empty t125 x15_1).size : Int):=of_decide_eq_true (by first | (with_reducible assumption) | assumption)
                        have hx23:=bt_at (rdOf ByteArray.empty t125 x15_1) x41_3
                        replace p23:=eq_true p23
                        replace q23:=eq_true q23
                        have p32 : 0 ≤ ((ji29) : Int):=of_decide_eq_true (by first | (with_reducible assumption) | assumption)
                        have q32 : (ji29) < ((rdOf ByteArray.empty t125 x15_1).size : Int):=of_decide_eq_true (by first | (with_reducible assumption) | assumption)
                        have hx32:=bt_at (rdOf ByteArray.empty t125 x15_1) (ji29)
                        replace p32:=eq_true p32
                        replace q32:=eq_true q32
                        go_wp2
                        go_roundg k3
                        case measure => have:=HK1.out; have:=HJ8.out; have:=HK3.out; omega
                        case rel => exact ⟨(wrap64 (x41_3 + 1)),(by first | rfl | (simp; done) | (simp [*]; done)),H',⟨by have:=HK1.out; have:=HJ8.out; have:=HK3.out; omega⟩,⟨by (with_reducible repeat (first | apply Kd.R_alloc | apply Kd.R_drewN | apply Kd.R_drew)); exact HO_5.out⟩,⟨by (with_reducible repeat (first | apply Kd.R_alloc | apply Kd.R_drewN | apply Kd.R_drew)); exact HO_13.out⟩,⟨by repeat (first | (with_reducible first | exact HB.out | apply below_alloc | apply pw_below_drewN | apply below_drew1) | exact HB.out)⟩⟩
                       ·rw [if_neg c35] at H
                        have c35b0 : ((bt (rdOf ByteArray.empty t125 x15_1) x41_3) == 42) = false:=beq_eq_false_iff_ne.mpr c35
                        have c35b1 : ((bt (rdOf ByteArray.empty t125 x15_1) x41_3) != 42) = true:=bne_iff_ne.mpr c35
                        by_cases c36 : ((bt (rdOf ByteArray.empty t125 x15_1) x41_3) = 63)
                        ·rw [if_pos c36] at H
                         have c36b0 : ((bt (rdOf ByteArray.empty t125 x15_1) x41_3) == 63) = true:=beq_iff_eq.mpr c36
                         have c36b1 : ((bt (rdOf ByteArray.empty t125 x15_1) x41_3) != 63) = false:=bne_eq_false_iff_eq.mpr c36
                         clear c36
                         have H':=Aside0.mk H
                         clear H
                         have p23 : 0 ≤ (x41_3 : Int):=of_decide_eq_true (by first | (with_reducible assumption) | assumption)
                         have q23 : x41_3 < ((rdOf ByteArray.empty t125 x15_1).size : Int):=of_decide_eq_true (by first | (with_reducible assumption) | assumption)
                         have hx23:=bt_at (rdOf ByteArray.empty t125 x15_1) x41_3
                         replace p23:=eq_true p23
                         replace q23:=eq_true q23
                         have p32 : 0 ≤ ((ji29) : Int):=of_decide_eq_true (by first | (with_reducible assumption) | assumption)
                         have q32 : (ji29) < ((rdOf ByteArray.empty t125 x15_1).size : Int):=of_decide_eq_true (by first | (with_reducible assumption) | assumption)
                         have hx32:=bt_at (rdOf ByteArray.empty t125 x15_1) (ji29)
                         replace p32:=eq_true p32
                         replace q32:=eq_true q32
                         go_wp2
                         go_roundg k3
                         case measure => have:=HK1.out; have:=HJ8.out; have:=HK3.out; omega
                         case rel => exact ⟨(wrap64 (x41_3 + 1)),(by first | rfl | (simp; done) | (simp [*]; done)),H',⟨by have:=HK1.out; have:=HJ8.out; have:=HK3.out; omega⟩,⟨by (with_reducible repeat (first | apply Kd.R_alloc | apply Kd.R_drewN | apply Kd.R_drew)); exact HO_5.out⟩,⟨by (with_reducible repeat (first | apply Kd.R_alloc | apply Kd.R_drewN | apply Kd.R_drew)); exact HO_13.out⟩,⟨by repeat (first | (with_reducible first | exact HB.out | apply below_alloc | apply pw_below_drewN | apply below_drew1) | exact HB.out)⟩⟩
                        ·rw [if_neg c36] at H
                         have c36b0 : ((bt (rdOf ByteArray.empty t125 x15_1) x41_3) == 63) = false:=beq_eq_false_iff_ne.mpr c36
                         have c36b1 : ((bt (rdOf ByteArray.empty t125 x15_1) x41_3) != 63) = true:=bne_iff_ne.mpr c36
                         obtain rfl:=Option.some.inj H
                         have p23 : 0 ≤ (x41_3 : Int):=of_decide_eq_true (by first | (with_reducible assumption) | assumption)
                         have q23 : x41_3 < ((rdOf ByteArray.empty t125 x15_1).size : Int):=of_decide_eq_true (by first | (with_reducible assumption) | assumption)
                         have hx23:=bt_at (rdOf ByteArray.empty t125 x15_1) x41_3
                         replace p23:=eq_true p23
                         replace q23:=eq_true q23
                         have p32 : 0 ≤ ((ji29) : Int):=of_decide_eq_true (by first | (with_reducible assumption) | assumption)
                         have q32 : (ji29) < ((rdOf ByteArray.empty t125 x15_1).size : Int):=of_decide_eq_true (by first | (with_reducible assumption) | assumption)
                         have hx32:=bt_at (rdOf ByteArray.empty t125 x15_1) (ji29)
                         replace p32:=eq_true p32
                         replace q32:=eq_true q32
                         go_wp2
                         go_ret
                         exact ⟨by first | rfl | (simp [errW_none,errW_some] <;> rfl) | (simp only [← hji29]; first | rfl | (simp [errW_none,errW_some] <;> rfl)) | (simp [*,errW_none,errW_some] <;> rfl),by repeat (first | (with_reducible first | exact HB.out | apply below_alloc | apply pw_below_drewN | apply below_drew1) | exact HB.out)⟩
                      ·replace c34:=Bool.eq_false_iff.mpr c34
                       subst c34
                       have H1 : (some false) = some r:=by rw [if_neg (show ¬ (false = true) by decide)] at H; exact H
                       clear H
                       have H:=H1
                       clear H1
                       obtain rfl:=Option.some.inj H
                       have p23 : 0 ≤ (x41_3 : Int):=of_decide_eq_true (by first | (with_reducible assumption) | assumption)
                       have q23 : x41_3 < ((rdOf ByteArray.empty t125 x15_1).size : Int):=of_decide_eq_true (by first | (with_reducible assumption) | assumption)
                       have hx23:=bt_at (rdOf ByteArray.empty t125 x15_1) x41_3
                       replace p23:=eq_true p23
                       replace q23:=eq_true q23
                       have p32 : 0 ≤ ((ji29) : Int):=of_decide_eq_true (by first | (with_reducible assumption) | assumption)
                       have q32 : (ji29) < ((rdOf ByteArray.empty t125 x15_1).size : Int):=of_decide_eq_true (by first | (with_reducible assumption) | assumption)
                       have hx32:=bt_at (rdOf ByteArray.empty t125 x15_1) (ji29)
                       replace p32:=eq_true p32
                       replace q32:=eq_true q32
                       go_wp2
                       go_ret
                       exact ⟨by first | rfl | (simp [errW_none,errW_some] <;> rfl) | (simp only [← hji29]; first | rfl | (simp [errW_none,errW_some] <;> rfl)) | (simp [*,errW_none,errW_some] <;> rfl),by repeat (first | (with_reducible first | exact HB.out | apply below_alloc | apply pw_below_drewN | apply below_drew1) | exact HB.out)⟩
                     ·rw [if_neg c33] at H
                      have c33b0 : ((bt (rdOf ByteArray.empty t125 x15_1) (ji29)) == 46) = false:=beq_eq_false_iff_ne.mpr c33
                      have c33b1 : ((bt (rdOf ByteArray.empty t125 x15_1) (ji29)) != 46) = true:=bne_iff_ne.mpr c33
                      have H':=Aside0.mk H
                      clear H
                      have p23 : 0 ≤ (x41_3 : Int):=of_decide_eq_true (by first | (with_reducible assumption) | assumption)
                      have q23 : x41_3 < ((rdOf ByteArray.empty t125 x15_1).size : Int):=of_decide_eq_true (by first | (with_reducible assumption) | assumption)
                      have hx23:=bt_at (rdOf ByteArray.empty t125 x15_1) x41_3
                      replace p23:=eq_true p23
                      replace q23:=eq_true q23
                      have p32 : 0 ≤ ((ji29) : Int):=of_decide_eq_true (by first | (with_reducible assumption) | assumption)
                      have q32 : (ji29) < ((rdOf ByteArray.empty t125 x15_1).size : Int):=of_decide_eq_true (by first | (with_reducible assumption) | assumption)
                      have hx32:=bt_at (rdOf ByteArray.empty t125 x15_1) (ji29)
                      replace p32:=eq_true p32
                      replace q32:=eq_true q32
                      go_wp2
                      go_roundg k3
                      case measure => have:=HK1.out; have:=HJ8.out; have:=HK3.out; omega
                      case rel => exact ⟨(wrap64 (x41_3 + 1)),(by first | rfl | (simp; done) | (simp [*]; done)),H',⟨by have:=HK1.out; have:=HJ8.out; have:=HK3.out; omega⟩,⟨by (with_reducible repeat (first | apply Kd.R_alloc | apply Kd.R_drewN | apply Kd.R_drew)); exact HO_5.out⟩,⟨by (with_reducible repeat (first | apply Kd.R_alloc | apply Kd.R_drewN | apply Kd.R_drew)); exact HO_13.out⟩,⟨by repeat (first | (with_reducible first | exact HB.out | apply below_alloc | apply pw_below_drewN | apply below_drew1) | exact HB.out)⟩⟩
                    ·rw [if_neg c31] at H
                     exact absurd H (by simp)
                   ·rw [if_neg c30] at H
                    exact absurd H (by simp)
                  ·rw [if_neg c28] at H
                   have c28b0 : ((bt (rdOf ByteArray.empty t125 x15_1) x41_3) == 46) = false:=beq_eq_false_iff_ne.mpr c28
                   have c28b1 : ((bt (rdOf ByteArray.empty t125 x15_1) x41_3) != 46) = true:=bne_iff_ne.mpr c28
                   by_cases c37 : a1 = true
                   ·subst c37
                    have H1 : (if (bt (rdOf ByteArray.empty t125 x15_1) x41_3) = 42 then (spec_isName.l1 k3 true t125 (rdOf ByteArray.empty t125 x15_1) t125 (t125.length : Int) x15_1 ((rdOf ByteArray.empty t125 x15_1).size : Int) (wrap64 (x41_3 + 1))) else (if ((bt (rdOf ByteArray.empty t125 x15_1) x41_3) = 63) then (spec_isName.l1 k3 true t125 (rdOf ByteArray.empty t125 x15_1) t125 (t125.length : Int) x15_1 ((rdOf ByteArray.empty t125 x15_1).size : Int) (wrap64 (x41_3 + 1))) else (some false))) = some r:=by rw [if_pos rfl] at H; exact H
                    clear H
                    have H:=H1
                    clear H1
                    by_cases c38 : (bt (rdOf ByteArray.empty t125 x15_1) x41_3) = 42
                    ·rw [if_pos c38] at H
                     have c38b0 : ((bt (rdOf ByteArray.empty t125 x15_1) x41_3) == 42) = true:=beq_iff_eq.mpr c38
                     have c38b1 : ((bt (rdOf ByteArray.empty t125 x15_1) x41_3) != 42) = false:=bne_eq_false_iff_eq.mpr c38
                     clear c38
                     have H':=Aside0.mk H
                     clear H
                     have p23 : 0 ≤ (x41_3 : Int):=of_decide_eq_true (by first | (with_reducible assumption) | assumption)
                     have q23 : x41_3 < ((rdOf ByteArray.empty t125 x15_1).size : Int):=of_decide_eq_true (by first | (with_reducible assumption) | assumption)
                     have hx23:=bt_at (rdOf ByteArray.empty t125 x15_1) x41_3
                     replace p23:=eq_true p23
                     replace q23:=eq_true q23
                     go_wp2
                     go_roundg k3
                     case measure => have:=HK1.out; have:=HJ8.out; have:=HK3.out; omega
                     case rel => exact ⟨(wrap64 (x41_3 + 1)),(by first | rfl | (simp; done) | (simp [*]; done)),H',⟨by have:=HK1.out; have:=HJ8.out; have:=HK3.out; omega⟩,⟨by (with_reducible repeat (first | apply Kd.R_alloc | apply Kd.R_drewN | apply Kd.R_drew)); exact HO_5.out⟩,⟨by (with_reducible repeat (first | apply Kd.R_alloc | apply Kd.R_drewN | apply Kd.R_drew)); exact HO_13.out⟩,⟨by repeat (first | (with_reducible first | exact HB.out | apply below_alloc | apply pw_below_drewN | apply below_drew1) | exact HB.out)⟩⟩
                    ·rw [if_neg c38] at H
                     have c38b0 : ((bt (rdOf ByteArray.empty t125 x15_1) x41_3) == 42) = false:=beq_eq_false_iff_ne.mpr c38
                     have c38b1 : ((bt (rdOf ByteArray.empty t125 x15_1) x41_3) != 42) = true:=bne_iff_ne.mpr c38
                     by_cases c39 : ((bt (rdOf ByteArray.empty t125 x15_1) x41_3) = 63)
                     ·rw [if_pos c39] at H
                      have c39b0 : ((bt (rdOf ByteArray.empty t125 x15_1) x41_3) == 63) = true:=beq_iff_eq.mpr c39
                      have c39b1 : ((bt (rdOf ByteArray.empty t125 x15_1) x41_3) != 63) = false:=bne_eq_false_iff_eq.mpr c39
                      clear c39
                      have H':=Aside0.mk H
                      clear H
                      have p23 : 0 ≤ (x41_3 : Int):=of_decide_eq_true (by first | (with_reducible assumption) | assumption)
                      have q23 : x41_3 < ((rdOf ByteArray.empty t125 x15_1).size : Int):=of_decide_eq_true (by first | (with_reducible assumption) | assumption)
                      have hx23:=bt_at (rdOf ByteArray.empty t125 x15_1) x41_3
                      replace p23:=eq_true p23
                      replace q23:=eq_true q23
                      go_wp2
                      go_roundg k3
                      case measure => have:=HK1.out; have:=HJ8.out; have:=HK3.out; omega
                      case rel => exact ⟨(wrap64 (x41_3 + 1)),(by first | rfl | (simp; done) | (simp [*]; done)),H',⟨by have:=HK1.out; have:=HJ8.out; have:=HK3.out; omega⟩,⟨by (with_reducible repeat (first | apply Kd.R_alloc | apply Kd.R_drewN | apply Kd.R_drew)); exact HO_5.out⟩,⟨by (with_reducible repeat (first | apply Kd.R_alloc | apply Kd.R_drewN | apply Kd.R_drew)); exact HO_13.out⟩,⟨by repeat (first | (with_reducible first | exact HB.out | apply below_alloc | apply pw_below_drewN | apply below_drew1) | exact HB.out)⟩⟩
                     ·rw [if_neg c39] at H
                      have c39b0 : ((bt (rdOf ByteArray.empty t125 x15_1) x41_3) == 63) = false:=beq_eq_false_iff_ne.mpr c39
                      have c39b1 : ((bt (rdOf ByteArray.empty t125 x15_1) x41_3) != 63) = true:=bne_iff_ne.mpr c39
                      obtain rfl:=Option.some.inj H
                      have p23 : 0 ≤ (x41_3 : Int):=of_decide_eq_true (by first | (with_reducible assumption) | assumption)
                      have q23 : x41_3 < ((rdOf ByteArray.empty t125 x15_1).size : Int):=of_decide_eq_true (by first | (with_reducible assumption) | assumption)
                      have hx23:=bt_at (rdOf ByteArray.empty t125 x15_1) x41_3
                      replace p23:=eq_true p23
                      replace q23:=eq_true q23
                      go_wp2
                      go_ret
                      exact ⟨by first | rfl | (simp [errW_none,errW_some] <;> rfl) | (simp [*,errW_none,errW_some] <;> rfl),by repeat (first | (with_reducible first | exact HB.out | apply below_alloc | apply pw_below_drewN | apply below_drew1) | exact HB.out)⟩
                   ·replace c37:=Bool.eq_false_iff.mpr c37
                    subst c37
                    have H1 : (some false) = some r:=by rw [if_neg (show ¬ (false = true) by decide)] at H; exact H
                    clear H
                    have H:=H1
                    clear H1
                    obtain rfl:=Option.some.inj H
                    have p23 : 0 ≤ (x41_3 : Int):=of_decide_eq_true (by first | (with_reducible assumption) | assumption)
                    have q23 : x41_3 < ((rdOf ByteArray.empty t125 x15_1).size : Int):=of_decide_eq_true (by first | (with_reducible assumption) | assumption)
                    have hx23:=bt_at (rdOf ByteArray.empty t125 x15_1) x41_3
                    replace p23:=eq_true p23
                    replace q23:=eq_true q23
                    go_wp2
                    go_ret
                    exact ⟨by first | rfl | (simp [errW_none,errW_some] <;> rfl) | (simp [*,errW_none,errW_some] <;> rfl),by repeat (first | (with_reducible first | exact HB.out | apply below_alloc | apply pw_below_drewN | apply below_drew1) | exact HB.out)⟩
                ·rw [if_neg c26] at H
                 have c26b0 : decide (48 ≤ (bt (rdOf ByteArray.empty t125 x15_1) x41_3)) = false:=decide_eq_false c26
                 clear c26
                 by_cases c40 : (bt (rdOf ByteArray.empty t125 x15_1) x41_3) = 46
                 ·rw [if_pos c40] at H
                  have c40b0 : ((bt (rdOf ByteArray.empty t125 x15_1) x41_3) == 46) = true:=beq_iff_eq.mpr c40
                  have c40b1 : ((bt (rdOf ByteArray.empty t125 x15_1) x41_3) != 46) = false:=bne_eq_false_iff_eq.mpr c40
                  clear c40
                  obtain ⟨ji41,hji41⟩ : ∃ j_ : Int,(wrap64 (x41_3 - 1)) = j_:=⟨_,rfl⟩
                  replace H : (if 0 ≤ (ji41) then (if (ji41) < ((rdOf ByteArray.empty t125 x15_1).size : Int) then (if (bt (rdOf ByteArray.empty t125 x15_1) (ji41)) = 46 then (if a1 = true then (if (bt (rdOf ByteArray.empty t125 x15_1) x41_3) = 42 then (spec_isName.l1 k3 a1 t125 (rdOf ByteArray.empty t125 x15_1) t125 (t125.length : Int) x15_1 ((rdOf ByteArray.empty t125 x15_1).size : Int) (wrap64 (x41_3 + 1))) else (if ((bt (rdOf ByteArray.empty t125 x15_1) x41_3) = 63) then (spec_isName.l1 k3 a1 t125 (rdOf ByteArray.empty t125 x15_1) t125 (t125.length : Int) x15_1 ((rdOf ByteArray.empty t125 x15_1).size : Int) (wrap64 (x41_3 + 1))) else (some false))) else (some false)) else (spec_isName.l1 k3 a1 t125 (rdOf ByteArray.empty t125 x15_1) t125 (t125.length : Int) x15_1 ((rdOf ByteArray.empty t125 x15_1).size : Int) (wrap64 (x41_3 + 1)))) else (none)) else (none)) = some r:=by first | (rw [hji41] at H; exact H) | (simp only [hji41] at H ⊢; exact H)
                  have hji41w : (IntKind.i64.wrap (x41_3 - 1)) = ji41:=(i64_w _).trans hji41
                  by_cases c42 : 0 ≤ (ji41)
                  ·rw [if_pos c42] at H
                   have c42b0 : decide (0 ≤ (ji41)) = true:=decide_eq_true c42
                   clear c42
                   by_cases c43 : (ji41) < ((rdOf ByteArray.empty t125 x15_1).size : Int)
                   ·rw [if_pos c43] at H
                    have c43b0 : decide ((ji41) < ((rdOf ByteArray.empty t125 x15_1).size : Int)) = true:=decide_eq_true c43
                    clear c43
                    by_cases c45 : (bt (rdOf ByteArray.empty t125 x15_1) (ji41)) = 46
                    ·rw [if_pos c45] at H
                     have c45b0 : ((bt (rdOf ByteArray.empty t125 x15_1) (ji41)) == 46) = true:=beq_iff_eq.mpr c45
                     have c45b1 : ((bt (rdOf ByteArray.empty t125 x15_1) (ji41)) != 46) = false:=bne_eq_false_iff_eq.mpr c45
                     clear c45
                     by_cases c46 : a1 = true
                     ·subst c46
                      have H1 : (if (bt (rdOf ByteArray.empty t125 x15_1) x41_3) = 42 then (spec_isName.l1 k3 true t125 (rdOf ByteArray.empty t125 x15_1) t125 (t125.length : Int) x15_1 ((rdOf ByteArray.empty t125 x15_1).size : Int) (wrap64 (x41_3 + 1))) else (if ((bt (rdOf ByteArray.empty t125 x15_1) x41_3) = 63) then (spec_isName.l1 k3 true t125 (rdOf ByteArray.empty t125 x15_1) t125 (t125.length : Int) x15_1 ((rdOf ByteArray.empty t125 x15_1).size : Int) (wrap64 (x41_3 + 1))) else (some false))) = some r:=by rw [if_pos rfl] at H; exact H
                      clear H
                      have H:=H1
                      clear H1
                      by_cases c47 : (bt (rdOf ByteArray.empty t125 x15_1) x41_3) = 42
                      ·rw [if_pos c47] at H
                       have c47b0 : ((bt (rdOf ByteArray.empty t125 x15_1) x41_3) == 42) = true:=beq_iff_eq.mpr c47
                       have c47b1 : ((bt (rdOf ByteArray.empty t125 x15_1) x41_3) != 42) = false:=bne_eq_false_iff_eq.mpr c47
                       clear c47
                       have H':=Aside0.mk H
                       clear H
                       have p23 : 0 ≤ (x41_3 : Int):=of_decide_eq_true (by first | (with_reducible assumption) | assumption)
                       have q23 : x41_3 < ((rdOf ByteArray.empty t125 x15_1).size : Int):=of_decide_eq_true (by first | (with_reducible assumption) | assumption)
                       have hx23:=bt_at (rdOf ByteArray.empty t125 x15_1) x41_3
                       replace p23:=eq_true p23
                       replace q23:=eq_true q23
                       have p44 : 0 ≤ ((ji41) : Int):=of_decide_eq_true (by first | (with_reducible assumption) | assumption)
                       have q44 : (ji41) < ((rdOf ByteArray.empty t125 x15_1).size : Int):=of_decide_eq_true (by first | (with_reducible assumption) | assumption)
                       have hx44:=bt_at (rdOf ByteArray.empty t125 x15_1) (ji41)
                       replace p44:=eq_true p44
                       replace q44:=eq_true q44
                       go_wp2
                       go_roundg k3
                       case measure => have:=HK1.out; have:=HJ8.out; have:=HK3.out; omega
                       case rel => exact ⟨(wrap64 (x41_3 + 1)),(by first | rfl | (simp; done) | (simp [*]; done)),H',⟨by have:=HK1.out; have:=HJ8.out; have:=HK3.out; omega⟩,⟨by (with_reducible repeat (first | apply Kd.R_alloc | apply Kd.R_drewN | apply Kd.R_drew)); exact HO_5.out⟩,⟨by (with_reducible repeat (first | apply Kd.R_alloc | apply Kd.R_drewN | apply Kd.R_drew)); exact HO_13.out⟩,⟨by repeat (first | (with_reducible first | exact HB.out | apply below_alloc | apply pw_below_drewN | apply below_drew1) | exact HB.out)⟩⟩
                      ·rw [if_neg c47] at H
                       have c47b0 : ((bt (rdOf ByteArray.empty t125 x15_1) x41_3) == 42) = false:=beq_eq_false_iff_ne.mpr c47
                       have c47b1 : ((bt (rdOf ByteArray.empty t125 x15_1) x41_3) != 42) = true:=bne_iff_ne.mpr c47
                       by_cases c48 : ((bt (rdOf ByteArray.empty t125 x15_1) x41_3) = 63)
                       ·rw [if_pos c48] at H
                        have c48b0 : ((bt (rdOf ByteArray.empty t125 x15_1) x41_3) == 63) = true:=beq_iff_eq.mpr c48
                        have c48b1 : ((bt (rdOf ByteArray.empty t125 x15_1) x41_3) != 63) = false:=bne_eq_false_iff_eq.mpr c48
                        clear c48
                        have H':=Aside0.mk H
                        clear H
                        have p23 : 0 ≤ (x41_3 : Int):=of_decide_eq_true (by first | (with_reducible assumption) | assumption)
                        have q23 : x41_3 < ((rdOf ByteArray.empty t125 x15_1).size : Int):=of_decide_eq_true (by first | (with_reducible assumption) | assumption)
                        have hx23:=bt_at (rdOf ByteArray.empty t125 x15_1) x41_3
                        replace p23:=eq_true p23
                        replace q23:=eq_true q23
                        have p44 : 0 ≤ ((ji41) : Int):=of_decide_eq_true (by first | (with_reducible assumption) | assumption)
                        have q44 : (ji41) < ((rdOf ByteArray.empty t125 x15_1).size : Int):=of_decide_eq_true (by first | (with_reducible assumption) | assumption)
                        have hx44:=bt_at (rdOf ByteArray.empty t125 x15_1) (ji41)
                        replace p44:=eq_true p44
                        replace q44:=eq_true q44
                        go_wp2
                        go_roundg k3
                        case measure => have:=HK1.out; have:=HJ8.out; have:=HK3.out; omega
                        case rel => exact ⟨(wrap64 (x41_3 + 1)),(by first | rfl | (simp; done) | (simp [*]; done)),H',⟨by have:=HK1.out; have:=HJ8.out; have:=HK3.out; omega⟩,⟨by (with_reducible repeat (first | apply Kd.R_alloc | apply Kd.R_drewN | apply Kd.R_drew)); exact HO_5.out⟩,⟨by (with_reducible repeat (first | apply Kd.R_alloc | apply Kd.R_drewN | apply Kd.R_drew)); exact HO_13.out⟩,⟨by repeat (first | (with_reducible first | exact HB.out | apply below_alloc | apply pw_below_drewN | apply below_drew1) | exact HB.out)⟩⟩
                       ·rw [if_neg c48] at H
                        have c48b0 : ((bt (rdOf ByteArray.empty t125 x15_1) x41_3) == 63) = false:=beq_eq_false_iff_ne.mpr c48
                        have c48b1 : ((bt (rdOf ByteArray.empty t125 x15_1) x41_3) != 63) = true:=bne_iff_ne.mpr c48
                        obtain rfl:=Option.some.inj H
                        have p23 : 0 ≤ (x41_3 : Int):=of_decide_eq_true (by first | (with_reducible assumption) | assumption)
                        have q23 : x41_3 < ((rdOf ByteArray.empty t125 x15_1).size : Int):=of_decide_eq_true (by first | (with_reducible assumption) | assumption)
                        have hx23:=bt_at (rdOf ByteArray.empty t125 x15_1) x41_3
                        replace p23:=eq_true p23
                        replace q23:=eq_true q23
                        have p44 : 0 ≤ ((ji41) : Int):=of_decide_eq_true (by first | (with_reducible assumption) | assumption)
                        have q44 : (ji41) < ((rdOf ByteArray.empty t125 x15_1).size : Int):=of_decide_eq_true (by first | (with_reducible assumption) | assumption)
                        have hx44:=bt_at (rdOf ByteArray.empty t125 x15_1) (ji41)
                        replace p44:=eq_true p44
                        replace q44:=eq_true q44
                        go_wp2
                        go_ret
                        exact ⟨by first | rfl | (simp [errW_none,errW_some] <;> rfl) | (simp only [← hji41]; first | rfl | (simp [errW_none,errW_some] <;> rfl)) | (simp [*,errW_none,errW_some] <;> rfl),by repeat (first | (with_reducible first | exact HB.out | apply below_alloc | apply pw_below_drewN | apply below_drew1) | exact HB.out)⟩
                     ·replace c46:=Bool.eq_false_iff.mpr c46
                      subst c46
                      have H1 : (some false) = some r:=by rw [if_neg (show ¬ (false = true) by decide)] at H; exact H
                      clear H
                      have H:=H1
                      clear H1
                      obtain rfl:=Option.some.inj H
                      have p23 : 0 ≤ (x41_3 : Int):=of_decide_eq_true (by first | (with_reducible assumption) | assumption)
                      have q23 : x41_3 < ((rdOf ByteArray.empty t125 x15_1).size : Int):=of_decide_eq_true (by first | (with_reducible assumption) | assumption)
                      have hx23:=bt_at (rdOf ByteArray.empty t125 x15_1) x41_3
                      replace p23:=eq_true p23
                      replace q23:=eq_true q23
                      have p44 : 0 ≤ ((ji41) : Int):=of_decide_eq_true (by first | (with_reducible assumption) | assumption)
                      have q44 : (ji41) < ((rdOf ByteArray.empty t125 x15_1).size : Int):=of_decide_eq_true (by first | (with_reducible assumption) | assumption)
                      have hx44:=bt_at (rdOf ByteArray.empty t125 x15_1) (ji41)
                      replace p44:=eq_true p44
                      replace q44:=eq_true q44
                      go_wp2
                      go_ret
                      exact ⟨by first | rfl | (simp [errW_none,errW_some] <;> rfl) | (simp only [← hji41]; first | rfl | (simp [errW_none,errW_some] <;> rfl)) | (simp [*,errW_none,errW_some] <;> rfl),by repeat (first | (with_reducible first | exact HB.out | apply below_alloc | apply pw_below_drewN | apply below_drew1) | exact HB.out)⟩
                    ·rw [if_neg c45] at H
                     have c45b0 : ((bt (rdOf ByteArray.empty t125 x15_1) (ji41)) == 46) = false:=beq_eq_false_iff_ne.mpr c45
                     have c45b1 : ((bt (rdOf ByteArray.empty t125 x15_1) (ji41)) != 46) = true:=bne_iff_ne.mpr c45
                     have H':=Aside0.mk H
                     clear H
                     have p23 : 0 ≤ (x41_3 : Int):=of_decide_eq_true (by first | (with_reducible assumption) | assumption)
                     have q23 : x41_3 < ((rdOf ByteArray.empty t125 x15_1).size : Int):=of_decide_eq_true (by first | (with_reducible assumption) | assumption)
                     have hx23:=bt_at (rdOf ByteArray.empty t125 x15_1) x41_3
                     replace p23:=eq_true p23
                     replace q23:=eq_true q23
                     have p44 : 0 ≤ ((ji41) : Int):=of_decide_eq_true (by first | (with_reducible assumption) | assumption)
                     have q44 : (ji41) < ((rdOf ByteArray.empty t125 x15_1).size : Int):=of_decide_eq_true (by first | (with_reducible assumption) | assumption)
                     have hx44:=bt_at (rdOf ByteArray.empty t125 x15_1) (ji41)
                     replace p44:=eq_true p44
                     replace q44:=eq_true q44
                     go_wp2
                     go_roundg k3
                     case measure => have:=HK1.out; have:=HJ8.out; have:=HK3.out; omega
                     case rel => exact ⟨(wrap64 (x41_3 + 1)),(by first | rfl | (simp; done) | (simp [*]; done)),H',⟨by have:=HK1.out; have:=HJ8.out; have:=HK3.out; omega⟩,⟨by (with_reducible repeat (first | apply Kd.R_alloc | apply Kd.R_drewN | apply Kd.R_drew)); exact HO_5.out⟩,⟨by (with_reducible repeat (first | apply Kd.R_alloc | apply Kd.R_drewN | apply Kd.R_drew)); exact HO_13.out⟩,⟨by repeat (first | (with_reducible first | exact HB.out | apply below_alloc | apply pw_below_drewN | apply below_drew1) | exact HB.out)⟩⟩
                   ·rw [if_neg c43] at H
                    exact absurd H (by simp)
                  ·rw [if_neg c42] at H
                   exact absurd H (by simp)
                 ·rw [if_neg c40] at H
                  have c40b0 : ((bt (rdOf ByteArray.empty t125 x15_1) x41_3) == 46) = false:=beq_eq_false_iff_ne.mpr c40
                  have c40b1 : ((bt (rdOf ByteArray.empty t125 x15_1) x41_3) != 46) = true:=bne_iff_ne.mpr c40
                  by_cases c49 : a1 = true
                  ·subst c49
                   have H1 : (if (bt (rdOf ByteArray.empty t125 x15_1) x41_3) = 42 then (spec_isName.l1 k3 true t125 (rdOf ByteArray.empty t125 x15_1) t125 (t125.length : Int) x15_1 ((rdOf ByteArray.empty t125 x15_1).size : Int) (wrap64 (x41_3 + 1))) else (if ((bt (rdOf ByteArray.empty t125 x15_1) x41_3) = 63) then (spec_isName.l1 k3 true t125 (rdOf ByteArray.empty t125 x15_1) t125 (t125.length : Int) x15_1 ((rdOf ByteArray.empty t125 x15_1).size : Int) (wrap64 (x41_3 + 1))) else (some false))) = some r:=by rw [if_pos rfl] at H; exact H
                   clear H
                   have H:=H1
                   clear H1
                   by_cases c50 : (bt (rdOf ByteArray.empty t125 x15_1) x41_3) = 42
                   ·rw [if_pos c50] at H
                    have c50b0 : ((bt (rdOf ByteArray.empty t125 x15_1) x41_3) == 42) = true:=beq_iff_eq.mpr c50
                    have c50b1 : ((bt (rdOf ByteArray.empty t125 x15_1) x41_3) != 42) = false:=bne_eq_false_iff_eq.mpr c50
                    clear c50
                    have H':=Aside0.mk H
                    clear H
                    have p23 : 0 ≤ (x41_3 : Int):=of_decide_eq_true (by first | (with_reducible assumption) | assumption)
                    have q23 : x41_3 < ((rdOf ByteArray.empty t125 x15_1).size : Int):=of_decide_eq_true (by first | (with_reducible assumption) | assumption)
                    have hx23:=bt_at (rdOf ByteArray.empty t125 x15_1) x41_3
                    replace p23:=eq_true p23
                    replace q23:=eq_true q23
                    go_wp2
                    go_roundg k3
                    case measure => have:=HK1.out; have:=HJ8.out; have:=HK3.out; omega
                    case rel => exact ⟨(wrap64 (x41_3 + 1)),(by first | rfl | (simp; done) | (simp [*]; done)),H',⟨by have:=HK1.out; have:=HJ8.out; have:=HK3.out; omega⟩,⟨by (with_reducible repeat (first | apply Kd.R_alloc | apply Kd.R_drewN | apply Kd.R_drew)); exact HO_5.out⟩,⟨by (with_reducible repeat (first | apply Kd.R_alloc | apply Kd.R_drewN | apply Kd.R_drew)); exact HO_13.out⟩,⟨by repeat (first | (with_reducible first | exact HB.out | apply below_alloc | apply pw_below_drewN | apply below_drew1) | exact HB.out)⟩⟩
                   ·rw [if_neg c50] at H
                    have c50b0 : ((bt (rdOf ByteArray.empty t125 x15_1) x41_3) == 42) = false:=beq_eq_false_iff_ne.mpr c50
                    have c50b1 : ((bt (rdOf ByteArray.empty t125 x15_1) x41_3) != 42) = true:=bne_iff_ne.mpr c50
                    by_cases c51 : ((bt (rdOf ByteArray.empty t125 x15_1) x41_3) = 63)
                    ·rw [if_pos c51] at H
                     have c51b0 : ((bt (rdOf ByteArray.empty t125 x15_1) x41_3) == 63) = true:=beq_iff_eq.mpr c51
                     have c51b1 : ((bt (rdOf ByteArray.empty t125 x15_1) x41_3) != 63) = false:=bne_eq_false_iff_eq.mpr c51
                     clear c51
                     have H':=Aside0.mk H
                     clear H
                     have p23 : 0 ≤ (x41_3 : Int):=of_decide_eq_true (by first | (with_reducible assumption) | assumption)
                     have q23 : x41_3 < ((rdOf ByteArray.empty t125 x15_1).size : Int):=of_decide_eq_true (by first | (with_reducible assumption) | assumption)
                     have hx23:=bt_at (rdOf ByteArray.empty t125 x15_1) x41_3
                     replace p23:=eq_true p23
                     replace q23:=eq_true q23
                     go_wp2
                     go_roundg k3
                     case measure => have:=HK1.out; have:=HJ8.out; have:=HK3.out; omega
                     case rel => exact ⟨(wrap64 (x41_3 + 1)),(by first | rfl | (simp; done) | (simp [*]; done)),H',⟨by have:=HK1.out; have:=HJ8.out; have:=HK3.out; omega⟩,⟨by (with_reducible repeat (first | apply Kd.R_alloc | apply Kd.R_drewN | apply Kd.R_drew)); exact HO_5.out⟩,⟨by (with_reducible repeat (first | apply Kd.R_alloc | apply Kd.R_drewN | apply Kd.R_drew)); exact HO_13.out⟩,⟨by repeat (first | (with_reducible first | exact HB.out | apply below_alloc | apply pw_below_drewN | apply below_drew1) | exact HB.out)⟩⟩
                    ·rw [if_neg c51] at H
                     have c51b0 : ((bt (rdOf ByteArray.empty t125 x15_1) x41_3) == 63) = false:=beq_eq_false_iff_ne.mpr c51
                     have c51b1 : ((bt (rdOf ByteArray.empty t125 x15_1) x41_3) != 63) = true:=bne_iff_ne.mpr c51
                     obtain rfl:=Option.some.inj H
                     have p23 : 0 ≤ (x41_3 : Int):=of_decide_eq_true (by first | (with_reducible assumption) | assumption)
                     have q23 : x41_3 < ((rdOf ByteArray.empty t125 x15_1).size : Int):=of_decide_eq_true (by first | (with_reducible assumption) | assumption)
                     have hx23:=bt_at (rdOf ByteArray.empty t125 x15_1) x41_3
                     replace p23:=eq_true p23
                     replace q23:=eq_true q23
                     go_wp2
                     go_ret
                     exact ⟨by first | rfl | (simp [errW_none,errW_some] <;> rfl) | (simp [*,errW_none,errW_some] <;> rfl),by repeat (first | (with_reducible first | exact HB.out | apply below_alloc | apply pw_below_drewN | apply below_drew1) | exact HB.out)⟩
                  ·replace c49:=Bool.eq_false_iff.mpr c49
                   subst c49
                   have H1 : (some false) = some r:=by rw [if_neg (show ¬ (false = true) by decide)] at H; exact H
                   clear H
                   have H:=H1
                   clear H1
                   obtain rfl:=Option.some.inj H
                   have p23 : 0 ≤ (x41_3 : Int):=of_decide_eq_true (by first | (with_reducible assumption) | assumption)
                   have q23 : x41_3 < ((rdOf ByteArray.empty t125 x15_1).size : Int):=of_decide_eq_true (by first | (with_reducible assumption) | assumption)
                   have hx23:=bt_at (rdOf ByteArray.empty t125 x15_1) x41_3
                   replace p23:=eq_true p23
                   replace q23:=eq_true q23
                   go_wp2
                   go_ret
                   exact ⟨by first | rfl | (simp [errW_none,errW_some] <;> rfl) | (simp [*,errW_none,errW_some] <;> rfl),by repeat (first | (with_reducible first | exact HB.out | apply below_alloc | apply pw_below_drewN | apply below_drew1) | exact HB.out)⟩
              ·rw [if_neg c24] at H
               have c24b0 : decide (97 ≤ (bt (rdOf ByteArray.empty t125 x15_1) x41_3)) = false:=decide_eq_false c24
               clear c24
               by_cases c52 : (bt (rdOf ByteArray.empty t125 x15_1) x41_3) ≥ 48
               ·rw [if_pos c52] at H
                have c52b0 : decide (48 ≤ (bt (rdOf ByteArray.empty t125 x15_1) x41_3)) = true:=decide_eq_true c52
                clear c52
                by_cases c53 : ((bt (rdOf ByteArray.empty t125 x15_1) x41_3) ≤ 57)
                ·rw [if_pos c53] at H
                 have c53b0 : decide ((bt (rdOf ByteArray.empty t125 x15_1) x41_3) ≤ 57) = true:=decide_eq_true c53
                 clear c53
                 have H':=Aside0.mk H
                 clear H
                 have p23 : 0 ≤ (x41_3 : Int):=of_decide_eq_true (by first | (with_reducible assumption) | assumption)
                 have q23 : x41_3 < ((rdOf ByteArray.empty t125 x15_1).size : Int):=of_decide_eq_true (by first | (with_reducible assumption) | assumption)
                 have hx23:=bt_at (rdOf ByteArray.empty t125 x15_1) x41_3
                 replace p23:=eq_true p23
                 replace q23:=eq_true q23
                 go_wp2
                 go_roundg k3
                 case measure => have:=HK1.out; have:=HJ8.out; have:=HK3.out; omega
                 case rel => exact ⟨(wrap64 (x41_3 + 1)),(by first | rfl | (simp; done) | (simp [*]; done)),H',⟨by have:=HK1.out; have:=HJ8.out; have:=HK3.out; omega⟩,⟨by (with_reducible repeat (first | apply Kd.R_alloc | apply Kd.R_drewN | apply Kd.R_drew)); exact HO_5.out⟩,⟨by (with_reducible repeat (first | apply Kd.R_alloc | apply Kd.R_drewN | apply Kd.R_drew)); exact HO_13.out⟩,⟨by repeat (first | (with_reducible first | exact HB.out | apply below_alloc | apply pw_below_drewN | apply below_drew1) | exact HB.out)⟩⟩
                ·rw [if_neg c53] at H
                 have c53b0 : decide ((bt (rdOf ByteArray.empty t125 x15_1) x41_3) ≤ 57) = false:=decide_eq_false c53
                 clear c53
                 by_cases c54 : (bt (rdOf ByteArray.empty t125 x15_1) x41_3) = 46
                 ·rw [if_pos c54] at H
                  have c54b0 : ((bt (rdOf ByteArray.empty t125 x15_1) x41_3) == 46) = true:=beq_iff_eq.mpr c54
                  have c54b1 : ((bt (rdOf ByteArray.empty t125 x15_1) x41_3) != 46) = false:=bne_eq_false_iff_eq.mpr c54
                  clear c54
                  obtain ⟨ji55,hji55⟩ : ∃ j_ : Int,(wrap64 (x41_3 - 1)) = j_:=⟨_,rfl⟩
                  replace H : (if 0 ≤ (ji55) then (if (ji55) < ((rdOf ByteArray.empty t125 x15_1).size : Int) then (if (bt (rdOf ByteArray.empty t125 x15_1) (ji55)) = 46 then (if a1 = true then (if (bt (rdOf ByteArray.empty t125 x15_1) x41_3) = 42 then (spec_isName.l1 k3 a1 t125 (rdOf ByteArray.empty t125 x15_1) t125 (t125.length : Int) x15_1 ((rdOf ByteArray.empty t125 x15_1).size : Int) (wrap64 (x41_3 + 1))) else (if ((bt (rdOf ByteArray.empty t125 x15_1) x41_3) = 63) then (spec_isName.l1 k3 a1 t125 (rdOf ByteArray.empty t125 x15_1) t125 (t125.length : Int) x15_1 ((rdOf ByteArray.empty t125 x15_1).size : Int) (wrap64 (x41_3 + 1))) else (some false))) else (some false)) else (spec_isName.l1 k3 a1 t125 (rdOf ByteArray.empty t125 x15_1) t125 (t125.length : Int) x15_1 ((rdOf ByteArray.empty t125 x15_1).size : Int) (wrap64 (x41_3 + 1)))) else (none)) else (none)) = some r:=by first | (rw [hji55] at H; exact H) | (simp only [hji55] at H ⊢; exact H)
                  have hji55w : (IntKind.i64.wrap (x41_3 - 1)) = ji55:=(i64_w _).trans hji55
                  by_cases c56 : 0 ≤ (ji55)
                  ·rw [if_pos c56] at H
                   have c56b0 : decide (0 ≤ (ji55)) = true:=decide_eq_true c56
                   clear c56
                   by_cases c57 : (ji55) < ((rdOf ByteArray.empty t125 x15_1).size : Int)
                   ·rw [if_pos c57] at H
                    have c57b0 : decide ((ji55) < ((rdOf ByteArray.empty t125 x15_1).size : Int)) = true:=decide_eq_true c57
                    clear c57
                    by_cases c59 : (bt (rdOf ByteArray.empty t125 x15_1) (ji55)) = 46
                    ·rw [if_pos c59] at H
                     have c59b0 : ((bt (rdOf ByteArray.empty t125 x15_1) (ji55)) == 46) = true:=beq_iff_eq.mpr c59
                     have c59b1 : ((bt (rdOf ByteArray.empty t125 x15_1) (ji55)) != 46) = false:=bne_eq_false_iff_eq.mpr c59
                     clear c59
                     by_cases c60 : a1 = true
                     ·subst c60
                      have H1 : (if (bt (rdOf ByteArray.empty t125 x15_1) x41_3) = 42 then (spec_isName.l1 k3 true t125 (rdOf ByteArray.empty t125 x15_1) t125 (t125.length : Int) x15_1 ((rdOf ByteArray.empty t125 x15_1).size : Int) (wrap64 (x41_3 + 1))) else (if ((bt (rdOf ByteArray.empty t125 x15_1) x41_3) = 63) then (spec_isName.l1 k3 true t125 (rdOf ByteArray.empty t125 x15_1) t125 (t125.length : Int) x15_1 ((rdOf ByteArray.empty t125 x15_1).size : Int) (wrap64 (x41_3 + 1))) else (some false))) = some r:=by rw [if_pos rfl] at H; exact H
                      clear H
                      have H:=H1
                      clear H1
                      by_cases c61 : (bt (rdOf ByteArray.empty t125 x15_1) x41_3) = 42
                      ·rw [if_pos c61] at H
                       have c61b0 : ((bt (rdOf ByteArray.empty t125 x15_1) x41_3) == 42) = true:=beq_iff_eq.mpr c61
                       have c61b1 : ((bt (rdOf ByteArray.empty t125 x15_1) x41_3) != 42) = false:=bne_eq_false_iff_eq.mpr c61
                       clear c61
                       have H':=Aside0.mk H
                       clear H
                       have p23 : 0 ≤ (x41_3 : Int):=of_decide_eq_true (by first | (with_reducible assumption) | assumption)
                       have q23 : x41_3 < ((rdOf ByteArray.empty t125 x15_1).size : Int):=of_decide_eq_true (by first | (with_reducible assumption) | assumption)
                       have hx23:=bt_at (rdOf ByteArray.empty t125 x15_1) x41_3
                       replace p23:=eq_true p23
                       replace q23:=eq_true q23
                       have p58 : 0 ≤ ((ji55) : Int):=of_decide_eq_true (by first | (with_reducible assumption) | assumption)
                       have q58 : (ji55) < ((rdOf ByteArray.empty t125 x15_1).size : Int):=of_decide_eq_true (by first | (with_reducible assumption) | assumption)
                       have hx58:=bt_at (rdOf ByteArray.empty t125 x15_1) (ji55)
                       replace p58:=eq_true p58
                       replace q58:=eq_true q58
                       go_wp2
                       go_roundg k3
                       case measure => have:=HK1.out; have:=HJ8.out; have:=HK3.out; omega
                       case rel => exact ⟨(wrap64 (x41_3 + 1)),(by first | rfl | (simp; done) | (simp [*]; done)),H',⟨by have:=HK1.out; have:=HJ8.out; have:=HK3.out; omega⟩,⟨by (with_reducible repeat (first | apply Kd.R_alloc | apply Kd.R_drewN | apply Kd.R_drew)); exact HO_5.out⟩,⟨by (with_reducible repeat (first | apply Kd.R_alloc | apply Kd.R_drewN | apply Kd.R_drew)); exact HO_13.out⟩,⟨by repeat (first | (with_reducible first | exact HB.out | apply below_alloc | apply pw_below_drewN | apply below_drew1) | exact HB.out)⟩⟩
                      ·rw [if_neg c61] at H
                       have c61b0 : ((bt (rdOf ByteArray.empty t125 x15_1) x41_3) == 42) = false:=beq_eq_false_iff_ne.mpr c61
                       have c61b1 : ((bt (rdOf ByteArray.empty t125 x15_1) x41_3) != 42) = true:=bne_iff_ne.mpr c61
                       by_cases c62 : ((bt (rdOf ByteArray.empty t125 x15_1) x41_3) = 63)
                       ·rw [if_pos c62] at H
                        have c62b0 : ((bt (rdOf ByteArray.empty t125 x15_1) x41_3) == 63) = true:=beq_iff_eq.mpr c62
                        have c62b1 : ((bt (rdOf ByteArray.empty t125 x15_1) x41_3) != 63) = false:=bne_eq_false_iff_eq.mpr c62
                        clear c62
                        have H':=Aside0.mk H
                        clear H
                        have p23 : 0 ≤ (x41_3 : Int):=of_decide_eq_true (by first | (with_reducible assumption) | assumption)
                        have q23 : x41_3 < ((rdOf ByteArray.empty t125 x15_1).size : Int):=of_decide_eq_true (by first | (with_reducible assumption) | assumption)
                        have hx23:=bt_at (rdOf ByteArray.empty t125 x15_1) x41_3
                        replace p23:=eq_true p23
                        replace q23:=eq_true q23
                        have p58 : 0 ≤ ((ji55) : Int):=of_decide_eq_true (by first | (with_reducible assumption) | assumption)
                        have q58 : (ji55) < ((rdOf ByteArray.empty t125 x15_1).size : Int):=of_decide_eq_true (by first | (with_reducible assumption) | assumption)
                        have hx58:=bt_at (rdOf ByteArray.empty t125 x15_1) (ji55)
                        replace p58:=eq_true p58
                        replace q58:=eq_true q58
                        go_wp2
                        go_roundg k3
                        case measure => have:=HK1.out; have:=HJ8.out; have:=HK3.out; omega
                        case rel => exact ⟨(wrap64 (x41_3 + 1)),(by first | rfl | (simp; done) | (simp [*]; done)),H',⟨by have:=HK1.out; have:=HJ8.out; have:=HK3.out; omega⟩,⟨by (with_reducible repeat (first | apply Kd.R_alloc | apply Kd.R_drewN | apply Kd.R_drew)); exact HO_5.out⟩,⟨by (with_reducible repeat (first | apply Kd.R_alloc | apply Kd.R_drewN | apply Kd.R_drew)); exact HO_13.out⟩,⟨by repeat (first | (with_reducible first | exact HB.out | apply below_alloc | apply pw_below_drewN | apply below_drew1) | exact HB.out)⟩⟩
                       ·rw [if_neg c62] at H
                        have c62b0 : ((bt (rdOf ByteArray.empty t125 x15_1) x41_3) == 63) = false:=beq_eq_false_iff_ne.mpr c62
                        have c62b1 : ((bt (rdOf ByteArray.empty t125 x15_1) x41_3) != 63) = true:=bne_iff_ne.mpr c62
                        obtain rfl:=Option.some.inj H
                        have p23 : 0 ≤ (x41_3 : Int):=of_decide_eq_true (by first | (with_reducible assumption) | assumption)
                        have q23 : x41_3 < ((rdOf ByteArray.empty t125 x15_1).size : Int):=of_decide_eq_true (by first | (with_reducible assumption) | assumption)
                        have hx23:=bt_at (rdOf ByteArray.empty t125 x15_1) x41_3
                        replace p23:=eq_true p23
                        replace q23:=eq_true q23
                        have p58 : 0 ≤ ((ji55) : Int):=of_decide_eq_true (by first | (with_reducible assumption) | assumption)
                        have q58 : (ji55) < ((rdOf ByteArray.empty t125 x15_1).size : Int):=of_decide_eq_true (by first | (with_reducible assumption) | assumption)
                        have hx58:=bt_at (rdOf ByteArray.empty t125 x15_1) (ji55)
                        replace p58:=eq_true p58
                        replace q58:=eq_true q58
                        go_wp2
                        go_ret
                        exact ⟨by first | rfl | (simp [errW_none,errW_some] <;> rfl) | (simp only [← hji55]; first | rfl | (simp [errW_none,errW_some] <;> rfl)) | (simp [*,errW_none,errW_some] <;> rfl),by repeat (first | (with_reducible first | exact HB.out | apply below_alloc | apply pw_below_drewN | apply below_drew1) | exact HB.out)⟩
                     ·replace c60:=Bool.eq_false_iff.mpr c60
                      subst c60
                      have H1 : (some false) = some r:=by rw [if_neg (show ¬ (false = true) by decide)] at H; exact H
                      clear H
                      have H:=H1
                      clear H1
                      obtain rfl:=Option.some.inj H
                      have p23 : 0 ≤ (x41_3 : Int):=of_decide_eq_true (by first | (with_reducible assumption) | assumption)
                      have q23 : x41_3 < ((rdOf ByteArray.empty t125 x15_1).size : Int):=of_decide_eq_true (by first | (with_reducible assumption) | assumption)
                      have hx23:=bt_at (rdOf ByteArray.empty t125 x15_1) x41_3
                      replace p23:=eq_true p23
                      replace q23:=eq_true q23
                      have p58 : 0 ≤ ((ji55) : Int):=of_decide_eq_true (by first | (with_reducible assumption) | assumption)
                      have q58 : (ji55) < ((rdOf ByteArray.empty t125 x15_1).size : Int):=of_decide_eq_true (by first | (with_reducible assumption) | assumption)
                      have hx58:=bt_at (rdOf ByteArray.empty t125 x15_1) (ji55)
                      replace p58:=eq_true p58
                      replace q58:=eq_true q58
                      go_wp2
                      go_ret
                      exact ⟨by first | rfl | (simp [errW_none,errW_some] <;> rfl) | (simp only [← hji55]; first | rfl | (simp [errW_none,errW_some] <;> rfl)) | (simp [*,errW_none,errW_some] <;> rfl),by repeat (first | (with_reducible first | exact HB.out | apply below_alloc | apply pw_below_drewN | apply below_drew1) | exact HB.out)⟩
                    ·rw [if_neg c59] at H
                     have c59b0 : ((bt (rdOf ByteArray.empty t125 x15_1) (ji55)) == 46) = false:=beq_eq_false_iff_ne.mpr c59
                     have c59b1 : ((bt (rdOf ByteArray.empty t125 x15_1) (ji55)) != 46) = true:=bne_iff_ne.mpr c59
                     have H':=Aside0.mk H
                     clear H
                     have p23 : 0 ≤ (x41_3 : Int):=of_decide_eq_true (by first | (with_reducible assumption) | assumption)
                     have q23 : x41_3 < ((rdOf ByteArray.empty t125 x15_1).size : Int):=of_decide_eq_true (by first | (with_reducible assumption) | assumption)
                     have hx23:=bt_at (rdOf ByteArray.empty t125 x15_1) x41_3
                     replace p23:=eq_true p23
                     replace q23:=eq_true q23
                     have p58 : 0 ≤ ((ji55) : Int):=of_decide_eq_true (by first | (with_reducible assumption) | assumption)
                     have q58 : (ji55) < ((rdOf ByteArray.empty t125 x15_1).size : Int):=of_decide_eq_true (by first | (with_reducible assumption) | assumption)
                     have hx58:=bt_at (rdOf ByteArray.empty t125 x15_1) (ji55)
                     replace p58:=eq_true p58
                     replace q58:=eq_true q58
                     go_wp2
                     go_roundg k3
                     case measure => have:=HK1.out; have:=HJ8.out; have:=HK3.out; omega
                     case rel => exact ⟨(wrap64 (x41_3 + 1)),(by first | rfl | (simp; done) | (simp [*]; done)),H',⟨by have:=HK1.out; have:=HJ8.out; have:=HK3.out; omega⟩,⟨by (with_reducible repeat (first | apply Kd.R_alloc | apply Kd.R_drewN | apply Kd.R_drew)); exact HO_5.out⟩,⟨by (with_reducible repeat (first | apply Kd.R_alloc | apply Kd.R_drewN | apply Kd.R_drew)); exact HO_13.out⟩,⟨by repeat (first | (with_reducible first | exact HB.out | apply below_alloc | apply pw_below_drewN | apply below_drew1) | exact HB.out)⟩⟩
                   ·rw [if_neg c57] at H
                    exact absurd H (by simp)
                  ·rw [if_neg c56] at H
                   exact absurd H (by simp)
                 ·rw [if_neg c54] at H
                  have c54b0 : ((bt (rdOf ByteArray.empty t125 x15_1) x41_3) == 46) = false:=beq_eq_false_iff_ne.mpr c54
                  have c54b1 : ((bt (rdOf ByteArray.empty t125 x15_1) x41_3) != 46) = true:=bne_iff_ne.mpr c54
                  by_cases c63 : a1 = true
                  ·subst c63
                   have H1 : (if (bt (rdOf ByteArray.empty t125 x15_1) x41_3) = 42 then (spec_isName.l1 k3 true t125 (rdOf ByteArray.empty t125 x15_1) t125 (t125.length : Int) x15_1 ((rdOf ByteArray.empty t125 x15_1).size : Int) (wrap64 (x41_3 + 1))) else (if ((bt (rdOf ByteArray.empty t125 x15_1) x41_3) = 63) then (spec_isName.l1 k3 true t125 (rdOf ByteArray.empty t125 x15_1) t125 (t125.length : Int) x15_1 ((rdOf ByteArray.empty t125 x15_1).size : Int) (wrap64 (x41_3 + 1))) else (some false))) = some r:=by rw [if_pos rfl] at H; exact H
                   clear H
                   have H:=H1
                   clear H1
                   by_cases c64 : (bt (rdOf ByteArray.empty t125 x15_1) x41_3) = 42
                   ·rw [if_pos c64] at H
                    have c64b0 : ((bt (rdOf ByteArray.empty t125 x15_1) x41_3) == 42) = true:=beq_iff_eq.mpr c64
                    have c64b1 : ((bt (rdOf ByteArray.empty t125 x15_1) x41_3) != 42) = false:=bne_eq_false_iff_eq.mpr c64
                    clear c64
                    have H':=Aside0.mk H
                    clear H
                    have p23 : 0 ≤ (x41_3 : Int):=of_decide_eq_true (by first | (with_reducible assumption) | assumption)
                    have q23 : x41_3 < ((rdOf ByteArray.empty t125 x15_1).size : Int):=of_decide_eq_true (by first | (with_reducible assumption) | assumption)
                    have hx23:=bt_at (rdOf ByteArray.empty t125 x15_1) x41_3
                    replace p23:=eq_true p23
                    replace q23:=eq_true q23
                    go_wp2
                    go_roundg k3
                    case measure => have:=HK1.out; have:=HJ8.out; have:=HK3.out; omega
                    case rel => exact ⟨(wrap64 (x41_3 + 1)),(by first | rfl | (simp; done) | (simp [*]; done)),H',⟨by have:=HK1.out; have:=HJ8.out; have:=HK3.out; omega⟩,⟨by (with_reducible repeat (first | apply Kd.R_alloc | apply Kd.R_drewN | apply Kd.R_drew)); exact HO_5.out⟩,⟨by (with_reducible repeat (first | apply Kd.R_alloc | apply Kd.R_drewN | apply Kd.R_drew)); exact HO_13.out⟩,⟨by repeat (first | (with_reducible first | exact HB.out | apply below_alloc | apply pw_below_drewN | apply below_drew1) | exact HB.out)⟩⟩
                   ·rw [if_neg c64] at H
                    have c64b0 : ((bt (rdOf ByteArray.empty t125 x15_1) x41_3) == 42) = false:=beq_eq_false_iff_ne.mpr c64
                    have c64b1 : ((bt (rdOf ByteArray.empty t125 x15_1) x41_3) != 42) = true:=bne_iff_ne.mpr c64
                    by_cases c65 : ((bt (rdOf ByteArray.empty t125 x15_1) x41_3) = 63)
                    ·rw [if_pos c65] at H
                     have c65b0 : ((bt (rdOf ByteArray.empty t125 x15_1) x41_3) == 63) = true:=beq_iff_eq.mpr c65
                     have c65b1 : ((bt (rdOf ByteArray.empty t125 x15_1) x41_3) != 63) = false:=bne_eq_false_iff_eq.mpr c65
                     clear c65
                     have H':=Aside0.mk H
                     clear H
                     have p23 : 0 ≤ (x41_3 : Int):=of_decide_eq_true (by first | (with_reducible assumption) | assumption)
                     have q23 : x41_3 < ((rdOf ByteArray.empty t125 x15_1).size : Int):=of_decide_eq_true (by first | (with_reducible assumption) | assumption)
                     have hx23:=bt_at (rdOf ByteArray.empty t125 x15_1) x41_3
                     replace p23:=eq_true p23
                     replace q23:=eq_true q23
                     go_wp2
                     go_roundg k3
                     case measure => have:=HK1.out; have:=HJ8.out; have:=HK3.out; omega
                     case rel => exact ⟨(wrap64 (x41_3 + 1)),(by first | rfl | (simp; done) | (simp [*]; done)),H',⟨by have:=HK1.out; have:=HJ8.out; have:=HK3.out; omega⟩,⟨by (with_reducible repeat (first | apply Kd.R_alloc | apply Kd.R_drewN | apply Kd.R_drew)); exact HO_5.out⟩,⟨by (with_reducible repeat (first | apply Kd.R_alloc | apply Kd.R_drewN | apply Kd.R_drew)); exact HO_13.out⟩,⟨by repeat (first | (with_reducible first | exact HB.out | apply below_alloc | apply pw_below_drewN | apply below_drew1) | exact HB.out)⟩⟩
                    ·rw [if_neg c65] at H
                     have c65b0 : ((bt (rdOf ByteArray.empty t125 x15_1) x41_3) == 63) = false:=beq_eq_false_iff_ne.mpr c65
                     have c65b1 : ((bt (rdOf ByteArray.empty t125 x15_1) x41_3) != 63) = true:=bne_iff_ne.mpr c65
                     obtain rfl:=Option.some.inj H
                     have p23 : 0 ≤ (x41_3 : Int):=of_decide_eq_true (by first | (with_reducible assumption) | assumption)
                     have q23 : x41_3 < ((rdOf ByteArray.empty t125 x15_1).size : Int):=of_decide_eq_true (by first | (with_reducible assumption) | assumption)
                     have hx23:=bt_at (rdOf ByteArray.empty t125 x15_1) x41_3
                     replace p23:=eq_true p23
                     replace q23:=eq_true q23
                     go_wp2
                     go_ret
                     exact ⟨by first | rfl | (simp [errW_none,errW_some] <;> rfl) | (simp [*,errW_none,errW_some] <;> rfl),by repeat (first | (with_reducible first | exact HB.out | apply below_alloc | apply pw_below_drewN | apply below_drew1) | exact HB.out)⟩
                  ·replace c63:=Bool.eq_false_iff.mpr c63
                   subst c63
                   have H1 : (some false) = some r:=by rw [if_neg (show ¬ (false = true) by decide)] at H; exact H
                   clear H
                   have H:=H1
                   clear H1
                   obtain rfl:=Option.some.inj H
                   have p23 : 0 ≤ (x41_3 : Int):=of_decide_eq_true (by first | (with_reducible assumption) | assumption)
                   have q23 : x41_3 < ((rdOf ByteArray.empty t125 x15_1).size : Int):=of_decide_eq_true (by first | (with_reducible assumption) | assumption)
                   have hx23:=bt_at (rdOf ByteArray.empty t125 x15_1) x41_3
                   replace p23:=eq_true p23
                   replace q23:=eq_true q23
                   go_wp2
                   go_ret
                   exact ⟨by first | rfl | (simp [errW_none,errW_some] <;> rfl) | (simp [*,errW_none,errW_some] <;> rfl),by repeat (first | (with_reducible first | exact HB.out | apply below_alloc | apply pw_below_drewN | apply below_drew1) | exact HB.out)⟩
               ·rw [if_neg c52] at H
                have c52b0 : decide (48 ≤ (bt (rdOf ByteArray.empty t125 x15_1) x41_3)) = false:=decide_eq_false c52
                clear c52
                by_cases c66 : (bt (rdOf ByteArray.empty t125 x15_1) x41_3) = 46
                ·rw [if_pos c66] at H
                 have c66b0 : ((bt (rdOf ByteArray.empty t125 x15_1) x41_3) == 46) = true:=beq_iff_eq.mpr c66
                 have c66b1 : ((bt (rdOf ByteArray.empty t125 x15_1) x41_3) != 46) = false:=bne_eq_false_iff_eq.mpr c66
                 clear c66
                 obtain ⟨ji67,hji67⟩ : ∃ j_ : Int,(wrap64 (x41_3 - 1)) = j_:=⟨_,rfl⟩
                 replace H : (if 0 ≤ (ji67) then (if (ji67) < ((rdOf ByteArray.empty t125 x15_1).size : Int) then (if (bt (rdOf ByteArray.empty t125 x15_1) (ji67)) = 46 then (if a1 = true then (if (bt (rdOf ByteArray.empty t125 x15_1) x41_3) = 42 then (spec_isName.l1 k3 a1 t125 (rdOf ByteArray.empty t125 x15_1) t125 (t125.length : Int) x15_1 ((rdOf ByteArray.empty t125 x15_1).size : Int) (wrap64 (x41_3 + 1))) else (if ((bt (rdOf ByteArray.empty t125 x15_1) x41_3) = 63) then (spec_isName.l1 k3 a1 t125 (rdOf ByteArray.empty t125 x15_1) t125 (t125.length : Int) x15_1 ((rdOf ByteArray.empty t125 x15_1).size : Int) (wrap64 (x41_3 + 1))) else (some false))) else (some false)) else (spec_isName.l1 k3 a1 t125 (rdOf ByteArray.empty t125 x15_1) t125 (t125.length : Int) x15_1 ((rdOf ByteArray.empty t125 x15_1).size : Int) (wrap64 (x41_3 + 1)))) else (none)) else (none)) = some r:=by first | (rw [hji67] at H; exact H) | (simp only [hji67] at H ⊢; exact H)
                 have hji67w : (IntKind.i64.wrap (x41_3 - 1)) = ji67:=(i64_w _).trans hji67
                 by_cases c68 : 0 ≤ (ji67)
                 ·rw [if_pos c68] at H
                  have c68b0 : decide (0 ≤ (ji67)) = true:=decide_eq_true c68
                  clear c68
                  by_cases c69 : (ji67) < ((rdOf ByteArray.empty t125 x15_1).size : Int)
                  ·rw [if_pos c69] at H
                   have c69b0 : decide ((ji67) < ((rdOf ByteArray.empty t125 x15_1).size : Int)) = true:=decide_eq_true c69
                   clear c69
                   by_cases c71 : (bt (rdOf ByteArray.empty t125 x15_1) (ji67)) = 46
                   ·rw [if_pos c71] at H
                    have c71b0 : ((bt (rdOf ByteArray.empty t125 x15_1) (ji67)) == 46) = true:=beq_iff_eq.mpr c71
                    have c71b1 : ((bt (rdOf ByteArray.empty t125 x15_1) (ji67)) != 46) = false:=bne_eq_false_iff_eq.mpr c71
                    clear c71
                    by_cases c72 : a1 = true
                    ·subst c72
                     have H1 : (if (bt (rdOf ByteArray.empty t125 x15_1) x41_3) = 42 then (spec_isName.l1 k3 true t125 (rdOf ByteArray.empty t125 x15_1) t125 (t125.length : Int) x15_1 ((rdOf ByteArray.empty t125 x15_1).size : Int) (wrap64 (x41_3 + 1))) else (if ((bt (rdOf ByteArray.empty t125 x15_1) x41_3) = 63) then (spec_isName.l1 k3 true t125 (rdOf ByteArray.empty t125 x15_1) t125 (t125.length : Int) x15_1 ((rdOf ByteArray.empty t125 x15_1).size : Int) (wrap64 (x41_3 + 1))) else (some false))) = some r:=by rw [if_pos rfl] at H; exact H
                     clear H
                     have H:=H1
                     clear H1
                     by_cases c73 : (bt (rdOf ByteArray.empty t125 x15_1) x41_3) = 42
                     ·rw [if_pos c73] at H
                      have c73b0 : ((bt (rdOf ByteArray.empty t125 x15_1) x41_3) == 42) = true:=beq_iff_eq.mpr c73
                      have c73b1 : ((bt (rdOf ByteArray.empty t125 x15_1) x41_3) != 42) = false:=bne_eq_false_iff_eq.mpr c73
                      clear c73
                      have H':=Aside0.mk H
                      clear H
                      have p23 : 0 ≤ (x41_3 : Int):=of_decide_eq_true (by first | (with_reducible assumption) | assumption)
                      have q23 : x41_3 < ((rdOf ByteArray.empty t125 x15_1).size : Int):=of_decide_eq_true (by first | (with_reducible assumption) | assumption)
                      have hx23:=bt_at (rdOf ByteArray.empty t125 x15_1) x41_3
                      replace p23:=eq_true p23
                      replace q23:=eq_true q23
                      have p70 : 0 ≤ ((ji67) : Int):=of_decide_eq_true (by first | (with_reducible assumption) | assumption)
                      have q70 : (ji67) < ((rdOf ByteArray.empty t125 x15_1).size : Int):=of_decide_eq_true (by first | (with_reducible assumption) | assumption)
                      have hx70:=bt_at (rdOf ByteArray.empty t125 x15_1) (ji67)
                      replace p70:=eq_true p70
                      replace q70:=eq_true q70
                      go_wp2
                      go_roundg k3
                      case measure => have:=HK1.out; have:=HJ8.out; have:=HK3.out; omega
                      case rel => exact ⟨(wrap64 (x41_3 + 1)),(by first | rfl | (simp; done) | (simp [*]; done)),H',⟨by have:=HK1.out; have:=HJ8.out; have:=HK3.out; omega⟩,⟨by (with_reducible repeat (first | apply Kd.R_alloc | apply Kd.R_drewN | apply Kd.R_drew)); exact HO_5.out⟩,⟨by (with_reducible repeat (first | apply Kd.R_alloc | apply Kd.R_drewN | apply Kd.R_drew)); exact HO_13.out⟩,⟨by repeat (first | (with_reducible first | exact HB.out | apply below_alloc | apply pw_below_drewN | apply below_drew1) | exact HB.out)⟩⟩
                     ·rw [if_neg c73] at H
                      have c73b0 : ((bt (rdOf ByteArray.empty t125 x15_1) x41_3) == 42) = false:=beq_eq_false_iff_ne.mpr c73
                      have c73b1 : ((bt (rdOf ByteArray.empty t125 x15_1) x41_3) != 42) = true:=bne_iff_ne.mpr c73
                      by_cases c74 : ((bt (rdOf ByteArray.empty t125 x15_1) x41_3) = 63)
                      ·rw [if_pos c74] at H
                       have c74b0 : ((bt (rdOf ByteArray.empty t125 x15_1) x41_3) == 63) = true:=beq_iff_eq.mpr c74
                       have c74b1 : ((bt (rdOf ByteArray.empty t125 x15_1) x41_3) != 63) = false:=bne_eq_false_iff_eq.mpr c74
                       clear c74
                       have H':=Aside0.mk H
                       clear H
                       have p23 : 0 ≤ (x41_3 : Int):=of_decide_eq_true (by first | (with_reducible assumption) | assumption)
                       have q23 : x41_3 < ((rdOf ByteArray.empty t125 x15_1).size : Int):=of_decide_eq_true (by first | (with_reducible assumption) | assumption)
                       have hx23:=bt_at (rdOf ByteArray.empty t125 x15_1) x41_3
                       replace p23:=eq_true p23
                       replace q23:=eq_true q23
                       have p70 : 0 ≤ ((ji67) : Int):=of_decide_eq_true (by first | (with_reducible assumption) | assumption)
                       have q70 : (ji67) < ((rdOf ByteArray.empty t125 x15_1).size : Int):=of_decide_eq_true (by first | (with_reducible assumption) | assumption)
                       have hx70:=bt_at (rdOf ByteArray.empty t125 x15_1) (ji67)
                       replace p70:=eq_true p70
                       replace q70:=eq_true q70
                       go_wp2
                       go_roundg k3
                       case measure => have:=HK1.out; have:=HJ8.out; have:=HK3.out; omega
                       case rel => exact ⟨(wrap64 (x41_3 + 1)),(by first | rfl | (simp; done) | (simp [*]; done)),H',⟨by have:=HK1.out; have:=HJ8.out; have:=HK3.out; omega⟩,⟨by (with_reducible repeat (first | apply Kd.R_alloc | apply Kd.R_drewN | apply Kd.R_drew)); exact HO_5.out⟩,⟨by (with_reducible repeat (first | apply Kd.R_alloc | apply Kd.R_drewN | apply Kd.R_drew)); exact HO_13.out⟩,⟨by repeat (first | (with_reducible first | exact HB.out | apply below_alloc | apply pw_below_drewN | apply below_drew1) | exact HB.out)⟩⟩
                      ·rw [if_neg c74] at H
                       have c74b0 : ((bt (rdOf ByteArray.empty t125 x15_1) x41_3) == 63) = false:=beq_eq_false_iff_ne.mpr c74
                       have c74b1 : ((bt (rdOf ByteArray.empty t125 x15_1) x41_3) != 63) = true:=bne_iff_ne.mpr c74
                       obtain rfl:=Option.some.inj H
                       have p23 : 0 ≤ (x41_3 : Int):=of_decide_eq_true (by first | (with_reducible assumption) | assumption)
                       have q23 : x41_3 < ((rdOf ByteArray.empty t125 x15_1).size : Int):=of_decide_eq_true (by first | (with_reducible assumption) | assumption)
                       have hx23:=bt_at (rdOf ByteArray.empty t125 x15_1) x41_3
                       replace p23:=eq_true p23
                       replace q23:=eq_true q23
                       have p70 : 0 ≤ ((ji67) : Int):=of_decide_eq_true (by first | (with_reducible assumption) | assumption)
                       have q70 : (ji67) < ((rdOf ByteArray.empty t125 x15_1).size : Int):=of_decide_eq_true (by first | (with_reducible assumption) | assumption)
                       have hx70:=bt_at (rdOf ByteArray.empty t125 x15_1) (ji67)
                       replace p70:=eq_true p70
                       replace q70:=eq_true q70
                       go_wp2
                       go_ret
                       exact ⟨by first | rfl | (simp [errW_none,errW_some] <;> rfl) | (simp only [← hji67]; first | rfl | (simp [errW_none,errW_some] <;> rfl)) | (simp [*,errW_none,errW_some] <;> rfl),by repeat (first | (with_reducible first | exact HB.out | apply below_alloc | apply pw_below_drewN | apply below_drew1) | exact HB.out)⟩
                    ·replace c72:=Bool.eq_false_iff.mpr c72
                     subst c72
                     have H1 : (some false) = some r:=by rw [if_neg (show ¬ (false = true) by decide)] at H; exact H
                     clear H
                     have H:=H1
                     clear H1
                     obtain rfl:=Option.some.inj H
                     have p23 : 0 ≤ (x41_3 : Int):=of_decide_eq_true (by first | (with_reducible assumption) | assumption)
                     have q23 : x41_3 < ((rdOf ByteArray.empty t125 x15_1).size : Int):=of_decide_eq_true (by first | (with_reducible assumption) | assumption)
                     have hx23:=bt_at (rdOf ByteArray.empty t125 x15_1) x41_3
                     replace p23:=eq_true p23
                     replace q23:=eq_true q23
                     have p70 : 0 ≤ ((ji67) : Int):=of_decide_eq_true (by first | (with_reducible assumption) | assumption)
                     have q70 : (ji67) < ((rdOf ByteArray.empty t125 x15_1).size : Int):=of_decide_eq_true (by first | (with_reducible assumption) | assumption)
                     have hx70:=bt_at (rdOf ByteArray.empty t125 x15_1) (ji67)
                     replace p70:=eq_true p70
                     replace q70:=eq_true q70
                     go_wp2
                     go_ret
                     exact ⟨by first | rfl | (simp [errW_none,errW_some] <;> rfl) | (simp only [← hji67]; first | rfl | (simp [errW_none,errW_some] <;> rfl)) | (simp [*,errW_none,errW_some] <;> rfl),by repeat (first | (with_reducible first | exact HB.out | apply below_alloc | apply pw_below_drewN | apply below_drew1) | exact HB.out)⟩
                   ·rw [if_neg c71] at H
                    have c71b0 : ((bt (rdOf ByteArray.empty t125 x15_1) (ji67)) == 46) = false:=beq_eq_false_iff_ne.mpr c71
                    have c71b1 : ((bt (rdOf ByteArray.empty t125 x15_1) (ji67)) != 46) = true:=bne_iff_ne.mpr c71
                    have H':=Aside0.mk H
                    clear H
                    have p23 : 0 ≤ (x41_3 : Int):=of_decide_eq_true (by first | (with_reducible assumption) | assumption)
                    have q23 : x41_3 < ((rdOf ByteArray.empty t125 x15_1).size : Int):=of_decide_eq_true (by first | (with_reducible assumption) | assumption)
                    have hx23:=bt_at (rdOf ByteArray.empty t125 x15_1) x41_3
                    replace p23:=eq_true p23
                    replace q23:=eq_true q23
                    have p70 : 0 ≤ ((ji67) : Int):=of_decide_eq_true (by first | (with_reducible assumption) | assumption)
                    have q70 : (ji67) < ((rdOf ByteArray.empty t125 x15_1).size : Int):=of_decide_eq_true (by first | (with_reducible assumption) | assumption)
                    have hx70:=bt_at (rdOf ByteArray.empty t125 x15_1) (ji67)
                    replace p70:=eq_true p70
                    replace q70:=eq_true q70
                    go_wp2
                    go_roundg k3
                    case measure => have:=HK1.out; have:=HJ8.out; have:=HK3.out; omega
                    case rel => exact ⟨(wrap64 (x41_3 + 1)),(by first | rfl | (simp; done) | (simp [*]; done)),H',⟨by have:=HK1.out; have:=HJ8.out; have:=HK3.out; omega⟩,⟨by (with_reducible repeat (first | apply Kd.R_alloc | apply Kd.R_drewN | apply Kd.R_drew)); exact HO_5.out⟩,⟨by (with_reducible repeat (first | apply Kd.R_alloc | apply Kd.R_drewN | apply Kd.R_drew)); exact HO_13.out⟩,⟨by repeat (first | (with_reducible first | exact HB.out | apply below_alloc | apply pw_below_drewN | apply below_drew1) | exact HB.out)⟩⟩
                  ·rw [if_neg c69] at H
                   exact absurd H (by simp)
                 ·rw [if_neg c68] at H
                  exact absurd H (by simp)
                ·rw [if_neg c66] at H
                 have c66b0 : ((bt (rdOf ByteArray.empty t125 x15_1) x41_3) == 46) = false:=beq_eq_false_iff_ne.mpr c66
                 have c66b1 : ((bt (rdOf ByteArray.empty t125 x15_1) x41_3) != 46) = true:=bne_iff_ne.mpr c66
                 by_cases c75 : a1 = true
                 ·subst c75
                  have H1 : (if (bt (rdOf ByteArray.empty t125 x15_1) x41_3) = 42 then (spec_isName.l1 k3 true t125 (rdOf ByteArray.empty t125 x15_1) t125 (t125.length : Int) x15_1 ((rdOf ByteArray.empty t125 x15_1).size : Int) (wrap64 (x41_3 + 1))) else (if ((bt (rdOf ByteArray.empty t125 x15_1) x41_3) = 63) then (spec_isName.l1 k3 true t125 (rdOf ByteArray.empty t125 x15_1) t125 (t125.length : Int) x15_1 ((rdOf ByteArray.empty t125 x15_1).size : Int) (wrap64 (x41_3 + 1))) else (some false))) = some r:=by rw [if_pos rfl] at H; exact H
                  clear H
                  have H:=H1
                  clear H1
                  by_cases c76 : (bt (rdOf ByteArray.empty t125 x15_1) x41_3) = 42
                  ·rw [if_pos c76] at H
                   have c76b0 : ((bt (rdOf ByteArray.empty t125 x15_1) x41_3) == 42) = true:=beq_iff_eq.mpr c76
                   have c76b1 : ((bt (rdOf ByteArray.empty t125 x15_1) x41_3) != 42) = false:=bne_eq_false_iff_eq.mpr c76
                   clear c76
                   have H':=Aside0.mk H
                   clear H
                   have p23 : 0 ≤ (x41_3 : Int):=of_decide_eq_true (by first | (with_reducible assumption) | assumption)
                   have q23 : x41_3 < ((rdOf ByteArray.empty t125 x15_1).size : Int):=of_decide_eq_true (by first | (with_reducible assumption) | assumption)
                   have hx23:=bt_at (rdOf ByteArray.empty t125 x15_1) x41_3
                   replace p23:=eq_true p23
                   replace q23:=eq_true q23
                   go_wp2
                   go_roundg k3
                   case measure => have:=HK1.out; have:=HJ8.out; have:=HK3.out; omega
                   case rel => exact ⟨(wrap64 (x41_3 + 1)),(by first | rfl | (simp; done) | (simp [*]; done)),H',⟨by have:=HK1.out; have:=HJ8.out; have:=HK3.out; omega⟩,⟨by (with_reducible repeat (first | apply Kd.R_alloc | apply Kd.R_drewN | apply Kd.R_drew)); exact HO_5.out⟩,⟨by (with_reducible repeat (first | apply Kd.R_alloc | apply Kd.R_drewN | apply Kd.R_drew)); exact HO_13.out⟩,⟨by repeat (first | (with_reducible first | exact HB.out | apply below_alloc | apply pw_below_drewN | apply below_drew1) | exact HB.out)⟩⟩
                  ·rw [if_neg c76] at H
                   have c76b0 : ((bt (rdOf ByteArray.empty t125 x15_1) x41_3) == 42) = false:=beq_eq_false_iff_ne.mpr c76
                   have c76b1 : ((bt (rdOf ByteArray.empty t125 x15_1) x41_3) != 42) = true:=bne_iff_ne.mpr c76
                   by_cases c77 : ((bt (rdOf ByteArray.empty t125 x15_1) x41_3) = 63)
                   ·rw [if_pos c77] at H
                    have c77b0 : ((bt (rdOf ByteArray.empty t125 x15_1) x41_3) == 63) = true:=beq_iff_eq.mpr c77
                    have c77b1 : ((bt (rdOf ByteArray.empty t125 x15_1) x41_3) != 63) = false:=bne_eq_false_iff_eq.mpr c77
                    clear c77
                    have H':=Aside0.mk H
                    clear H
                    have p23 : 0 ≤ (x41_3 : Int):=of_decide_eq_true (by first | (with_reducible assumption) | assumption)
                    have q23 : x41_3 < ((rdOf ByteArray.empty t125 x15_1).size : Int):=of_decide_eq_true (by first | (with_reducible assumption) | assumption)
                    have hx23:=bt_at (rdOf ByteArray.empty t125 x15_1) x41_3
                    replace p23:=eq_true p23
                    replace q23:=eq_true q23
                    go_wp2
                    go_roundg k3
                    case measure => have:=HK1.out; have:=HJ8.out; have:=HK3.out; omega
                    case rel => exact ⟨(wrap64 (x41_3 + 1)),(by first | rfl | (simp; done) | (simp [*]; done)),H',⟨by have:=HK1.out; have:=HJ8.out; have:=HK3.out; omega⟩,⟨by (with_reducible repeat (first | apply Kd.R_alloc | apply Kd.R_drewN | apply Kd.R_drew)); exact HO_5.out⟩,⟨by (with_reducible repeat (first | apply Kd.R_alloc | apply Kd.R_drewN | apply Kd.R_drew)); exact HO_13.out⟩,⟨by repeat (first | (with_reducible first | exact HB.out | apply below_alloc | apply pw_below_drewN | apply below_drew1) | exact HB.out)⟩⟩
                   ·rw [if_neg c77] at H
                    have c77b0 : ((bt (rdOf ByteArray.empty t125 x15_1) x41_3) == 63) = false:=beq_eq_false_iff_ne.mpr c77
                    have c77b1 : ((bt (rdOf ByteArray.empty t125 x15_1) x41_3) != 63) = true:=bne_iff_ne.mpr c77
                    obtain rfl:=Option.some.inj H
                    have p23 : 0 ≤ (x41_3 : Int):=of_decide_eq_true (by first | (with_reducible assumption) | assumption)
                    have q23 : x41_3 < ((rdOf ByteArray.empty t125 x15_1).size : Int):=of_decide_eq_true (by first | (with_reducible assumption) | assumption)
                    have hx23:=bt_at (rdOf ByteArray.empty t125 x15_1) x41_3
                    replace p23:=eq_true p23
                    replace q23:=eq_true q23
                    go_wp2
                    go_ret
                    exact ⟨by first | rfl | (simp [errW_none,errW_some] <;> rfl) | (simp [*,errW_none,errW_some] <;> rfl),by repeat (first | (with_reducible first | exact HB.out | apply below_alloc | apply pw_below_drewN | apply below_drew1) | exact HB.out)⟩
                 ·replace c75:=Bool.eq_false_iff.mpr c75
                  subst c75
                  have H1 : (some false) = some r:=by rw [if_neg (show ¬ (false = true) by decide)] at H; exact H
                  clear H
                  have H:=H1
                  clear H1
                  obtain rfl:=Option.some.inj H
                  have p23 : 0 ≤ (x41_3 : Int):=of_decide_eq_true (by first | (with_reducible assumption) | assumption)
                  have q23 : x41_3 < ((rdOf ByteArray.empty t125 x15_1).size : Int):=of_decide_eq_true (by first | (with_reducible assumption) | assumption)
                  have hx23:=bt_at (rdOf ByteArray.empty t125 x15_1) x41_3
                  replace p23:=eq_true p23
                  replace q23:=eq_true q23
                  go_wp2
                  go_ret
                  exact ⟨by first | rfl | (simp [errW_none,errW_some] <;> rfl) | (simp [*,errW_none,errW_some] <;> rfl),by repeat (first | (with_reducible first | exact HB.out | apply below_alloc | apply pw_below_drewN | apply below_drew1) | exact HB.out)⟩
             ·rw [if_neg c22] at H
              exact absurd H (by simp)
            ·rw [if_neg c21] at H
             exact absurd H (by simp)
           ·rw [if_neg c20] at H
            have c20b0 : decide (x41_3 < ((rdOf ByteArray.empty t125 x15_1).size : Int)) = false:=decide_eq_false c20
            clear c20
            have H':=Aside0.mk H
            clear H
            go_wp2
            go_roundg k3
            case measure => have:=HK1.out; have:=HJ8.out; have:=HK3.out; omega
            case rel => exact ⟨(wrap64 (x15_1 + 1)),(by first | rfl | (simp; done) | (simp [*]; done)),H',⟨by have:=HK1.out; have:=HJ8.out; have:=HK3.out; omega⟩,⟨by (with_reducible repeat (first | apply Kd.R_alloc | apply Kd.R_drewN | apply Kd.R_drew)); exact HO_5.out⟩,⟨by (with_reducible repeat (first | apply Kd.R_alloc | apply Kd.R_drewN | apply Kd.R_drew)); exact HO_13.out⟩,⟨by repeat (first | (with_reducible first | exact HB.out | apply below_alloc | apply pw_below_drewN | apply below_drew1) | exact HB.out)⟩⟩
     ·rw [if_neg c8] at H
      exact absurd H (by simp)
    ·rw [if_neg c7] at H
     exact absurd H (by simp)
   ·rw [if_neg c6] at H
    have c6b0 : decide (x15_1 < (t125.length : Int)) = false:=decide_eq_false c6
    clear c6
    obtain rfl:=Option.some.inj H
    go_wp2
    go_ret
    exact ⟨by first | rfl | (simp [errW_none,errW_some] <;> rfl) | (simp [*,errW_none,errW_some] <;> rfl),by repeat (first | (with_reducible first | exact HB.out | apply below_alloc | apply pw_below_drewN | apply below_drew1) | exact HB.out)⟩
end Go.Proofs.YtplbifmjnanceaaGreatDoor.PFnArchive
