/- Values that fit, and equality of a value with itself. -/
import Derived.Test.YtplbifmjnanceaaGreatDoorVD
import Derived.Test.YtplbifmjnanceaaGreatDoorVF
import Derived.Test.YtplbifmjnanceaaGreatDoorVG
section
namespace Go.Proofs.YtplbifmjnanceaaGreatDoor.PFnArchive
open Go.RowKit Go.Proofs.YtplbifmjnanceaaGreatDoorW.PrintWords Go.Proofs.YtplbifmjnanceaaGreatDoorW.PrintLast Go.Proofs.YtplbifmjnanceaaGreatDoorW.PrintMore
attribute [local go_sem] max2_int min2_int max_two min_two max_three min_three max_four min_four
set_option linter.unusedVariables false
set_option linter.unusedSimpArgs false
theorem eqA35 (d : Nat) (w : World) (x0 y0 : ByteArray) (x1 y1 : ByteArray) :
  (Op.equalIn (d + 2) 35 (.agg #[.string x0,.string x1]) (.agg #[.string y0,.string y1])).run Tryz.prog w = .ok (x0.toList == y0.toList && (x1.toList == y1.toList)) w:=by
 refine eqA_of Tryz.underlying35 (by kernel_rfl) ?_
 refine eqf_cons (by rfl) (by go_simp; rfl) (by go_simp; rfl) (by go_simp) ?_
 exact eqf_last (by rfl) (by go_simp; rfl) (by go_simp; rfl) (by go_simp)
end Go.Proofs.YtplbifmjnanceaaGreatDoor.PFnArchive
end
section
namespace Go.Proofs.YtplbifmjnanceaaGreatDoor.PFnArchive
open Go.RowKit Go.Proofs.YtplbifmjnanceaaGreatDoorW.PrintWords Go.Proofs.YtplbifmjnanceaaGreatDoorW.PrintLast Go.Proofs.YtplbifmjnanceaaGreatDoorW.PrintMore
attribute [local go_sem] max2_int min2_int max_two min_two max_three min_three max_four min_four
set_option linter.unusedVariables false
set_option linter.unusedSimpArgs false
theorem eqA56 (d : Nat) (w : World) (x0 y0 : Int) (x1 y1 : Bool) (x2 y2 : Int) (x3 y3 : Int) (x4 y4 : ByteArray) :
  (Op.equalIn (d + 2) 56 (.agg #[.int .u8 x0,.bool x1,.int .u8 x2,.int .u8 x3,.string x4]) (.agg #[.int .u8 y0,.bool y1,.int .u8 y2,.int .u8 y3,.string y4])).run Tryz.prog w = .ok (x0 == y0 && (x1 == y1 && (x2 == y2 && (x3 == y3 && (x4.toList == y4.toList))))) w:=by
 refine eqA_of Tryz.underlying56 (by kernel_rfl) ?_
 refine eqf_cons (by rfl) (by go_simp; rfl) (by go_simp; rfl) (by go_simp) ?_
 refine eqf_cons (by rfl) (by go_simp; rfl) (by go_simp; rfl) (by go_simp) ?_
 refine eqf_cons (by rfl) (by go_simp; rfl) (by go_simp; rfl) (by go_simp) ?_
 refine eqf_cons (by rfl) (by go_simp; rfl) (by go_simp; rfl) (by go_simp) ?_
 exact eqf_last (by rfl) (by go_simp; rfl) (by go_simp; rfl) (by go_simp)
end Go.Proofs.YtplbifmjnanceaaGreatDoor.PFnArchive
end
section
namespace Go.Proofs.YtplbifmjnanceaaGreatDoor.PFnArchive
open Go.RowKit Go.Proofs.YtplbifmjnanceaaGreatDoorW.PrintWords Go.Proofs.YtplbifmjnanceaaGreatDoorW.PrintLast Go.Proofs.YtplbifmjnanceaaGreatDoorW.PrintMore
attribute [local go_sem] max2_int min2_int max_two min_two max_three min_three max_four min_four
set_option linter.unusedVariables false
set_option linter.unusedSimpArgs false
attribute [local go_sem high] eqA35 eqA56
def spec_File.l0 : Nat → List (S35) → List (S35) → Int → Int → Option (Bool)
 | 0,_,_,_,_ => none
 | k + 1,x0,x1,x12,x13 => if x13 < x12 then (if 0 ≤ x13 then (if x13 < (x0.length : Int) then (if x13 < (x1.length : Int) then (if (!((((rd_T35 x0 x13).f0).toList) == (((rd_T35 x1 x13).f0).toList)) || (!((((rd_T35 x0 x13).f1).toList) == (((rd_T35 x1 x13).f1).toList)))) = true then (some false) else (spec_File.l0 k x0 x1 x12 (wrap64 (x13 + 1)))) else (none)) else (none)) else (none)) else (some true)
def spec_File.f (k : Nat) (l0 : List (S35)) (l1 : List (S35)) : Option (Bool):=if (l0.length : Int) = (l1.length : Int) then (spec_File.l0 k l0 l1 (l0.length : Int) 0) else (some false)
theorem spec_File.mono_l : ∀ k,(∀ y0 y1 y2 y3,LeO (spec_File.l0 k y0 y1 y2 y3) (spec_File.l0 (k + 1) y0 y1 y2 y3))
 | 0 => fun _ _ _ _ r h => by simp [spec_File.l0] at h
 | k + 1 => by
  have ih0:=spec_File.mono_l k
  ·intro y0 y1 y2 y3
   unfold spec_File.l0
   repeat' first
   | (with_reducible exact ih0 _ _ _ _)
   | (with_reducible exact LeO.refl _)
   | (with_reducible exact LeO.none _)
   | (with_reducible refine LeO.ite ?_ ?_)
   | (with_reducible refine LeO.bind ?_ (fun _ => ?_))
   | exact ih0 _ _ _ _
   | exact LeO.none _
   | refine LeO.ite ?_ ?_
   | refine LeO.bind ?_ (fun _ => ?_)
theorem spec_File.mono : ∀ a0 a1 k,LeO (spec_File.f k a0 a1) (spec_File.f (k + 1) a0 a1):=by
 intro a0 a1 k
 have ih0:=spec_File.mono_l k
 unfold spec_File.f
 repeat' first
   | (with_reducible exact ih0 _ _ _ _)
   | (with_reducible exact LeO.refl _)
   | (with_reducible exact LeO.none _)
   | (with_reducible refine LeO.ite ?_ ?_)
   | (with_reducible refine LeO.bind ?_ (fun _ => ?_))
   | exact ih0 _ _ _ _
   | exact LeO.none _
   | refine LeO.ite ?_ ?_
   | refine LeO.bind ?_ (fun _ => ?_)
set_option maxHeartbeats 8000000 in
set_option maxRecDepth 100000 in
theorem spec_File.calls (k : Nat) (A0 : Option Addr) (c0 : Nat) (l0 : List (S35)) (A1 : Option Addr) (c1 : Nat) (l1 : List (S35)) (r : Bool) (w : World) (hr0 : Kd.C k35 w A0 l0.length l0) (hc0 : l0.length ≤ c0) (hr1 : Kd.C k35 w A1 l1.length l1) (hc1 : l1.length ≤ c1) (h : spec_File.f k l0 l1 = some r) :
  Calls Tryz.prog 28 #[.slice A0 l0.length c0,.slice A1 l1.length c1] w fun e w' => e = .returned (.bool r) ∧ Drawn0 w w':=by
 have hu35:=Tryz.underlying35
 have HR0:=Aside0.mk hr0
 have HC0:=Aside0.mk hc0
 clear hr0 hc0
 have HR1:=Aside0.mk hr1
 have HC1:=Aside0.mk hc1
 clear hr1 hc1
 have H : (if (l0.length : Int) = (l1.length : Int) then (spec_File.l0 k l0 l1 (l0.length : Int) 0) else (some false)) = some r:=h
 clear h
 by_cases c3 : (l0.length : Int) = (l1.length : Int)
 ·rw [if_pos c3] at H
  have c3b0 : ((l0.length : Int) == (l1.length : Int)) = true:=beq_iff_eq.mpr c3
  have c3b1 : ((l0.length : Int) != (l1.length : Int)) = false:=bne_eq_false_iff_eq.mpr c3
  have c3b2 : (l0.length == l1.length) = true:=by first | simpa using c3 | (simp at c3 ⊢; omega)
  clear c3
  have H':=Aside0.mk H
  clear H
  go_enter Tryz.func28,Tryz.ntmps28
  go_wp2
  repeat (go_quiet (fail); try go_wp2)
  go_loopg [13] k (fun kq v13 w' => ∃ (x13_1 : Int),v13 = .int .i64 x13_1 ∧ Aside0 (spec_File.l0 kq l0 l1 (l0.length : Int) x13_1 = some r) ∧ Aside0 (kq ≤ k) ∧ Drawn0 w w')
  case atStart => exact ⟨(0),(by first | rfl | (simp; done) | (simp [*]; done)),H',⟨Nat.le_refl _⟩,by repeat (first | exact Drawn0.refl _ | apply Drawn0.step)⟩
  case round =>
   clear H'
   try clear c1
   try clear c2
   try clear p2
   try clear c3
   try clear c3b0
   try clear c3b1
   try clear c3b2
   obtain ⟨x13_1,rfl,HA,HK1,⟨m1,rfl⟩⟩:=hrel
   cases gk with
   | zero => exact absurd HA.out (by simp [spec_File.l0])
   | succ k1 =>
    have H:=HA.out
    clear HA
    simp only [spec_File.l0] at H
    by_cases c4 : x13_1 < (l0.length : Int)
    ·rw [if_pos c4] at H
     have c4b0 : decide (x13_1 < (l0.length : Int)) = true:=decide_eq_true c4
     clear c4
     by_cases c5 : 0 ≤ x13_1
     ·rw [if_pos c5] at H
      have c5b0 : decide (0 ≤ x13_1) = true:=decide_eq_true c5
      clear c5
      by_cases c6 : x13_1 < (l0.length : Int)
      ·rw [if_pos c6] at H
       have c6b0 : decide (x13_1 < (l0.length : Int)) = true:=decide_eq_true c6
       clear c6
       by_cases c7 : x13_1 < (l1.length : Int)
       ·rw [if_pos c7] at H
        have c7b0 : decide (x13_1 < (l1.length : Int)) = true:=decide_eq_true c7
        clear c7
        by_cases c8 : (!((((rd_T35 l0 x13_1).f0).toList) == (((rd_T35 l1 x13_1).f0).toList)) || (!((((rd_T35 l0 x13_1).f1).toList) == (((rd_T35 l1 x13_1).f1).toList)))) = true
        ·rw [if_pos c8] at H
         have c8b0 : (!((((rd_T35 l0 x13_1).f0).toList) == (((rd_T35 l1 x13_1).f0).toList)) || (!((((rd_T35 l0 x13_1).f1).toList) == (((rd_T35 l1 x13_1).f1).toList)))) = true:=c8
         clear c8
         obtain rfl:=Option.some.inj H
         have p338 : 0 ≤ (x13_1 : Int):=of_decide_eq_true (by first | (with_reducible assumption) | assumption)
         have q338 : x13_1 < (l0.length : Int):=of_decide_eq_true (by first | (with_reducible assumption) | assumption)
         obtain ⟨ad338,e338,hx338_0,hx338_1⟩:=at_T35 HR0.out x13_1 p338 q338
         cases e338
         replace p338:=eq_true p338
         replace q338:=eq_true q338
         have p339 : 0 ≤ (x13_1 : Int):=of_decide_eq_true (by first | (with_reducible assumption) | assumption)
         have q339 : x13_1 < (l1.length : Int):=of_decide_eq_true (by first | (with_reducible assumption) | assumption)
         obtain ⟨ad339,e339,hx339_0,hx339_1⟩:=at_T35 HR1.out x13_1 p339 q339
         cases e339
         replace p339:=eq_true p339
         replace q339:=eq_true q339
         go_wp2
         repeat (go_quiet (fail); try go_wp2)
         go_ret
         exact ⟨by first | rfl | (simp; done) | (simp [*]; done),by repeat (first | exact Drawn0.refl _ | apply Drawn0.step)⟩
        ·rw [if_neg c8] at H
         have c8b0 : (!((((rd_T35 l0 x13_1).f0).toList) == (((rd_T35 l1 x13_1).f0).toList)) || (!((((rd_T35 l0 x13_1).f1).toList) == (((rd_T35 l1 x13_1).f1).toList)))) = false:=by simpa using c8
         clear c8
         have H':=Aside0.mk H
         clear H
         have p338 : 0 ≤ (x13_1 : Int):=of_decide_eq_true (by first | (with_reducible assumption) | assumption)
         have q338 : x13_1 < (l0.length : Int):=of_decide_eq_true (by first | (with_reducible assumption) | assumption)
         obtain ⟨ad338,e338,hx338_0,hx338_1⟩:=at_T35 HR0.out x13_1 p338 q338
         cases e338
         replace p338:=eq_true p338
         replace q338:=eq_true q338
         have p339 : 0 ≤ (x13_1 : Int):=of_decide_eq_true (by first | (with_reducible assumption) | assumption)
         have q339 : x13_1 < (l1.length : Int):=of_decide_eq_true (by first | (with_reducible assumption) | assumption)
         obtain ⟨ad339,e339,hx339_0,hx339_1⟩:=at_T35 HR1.out x13_1 p339 q339
         cases e339
         replace p339:=eq_true p339
         replace q339:=eq_true q339
         go_wp2
         repeat (go_quiet (fail); try go_wp2)
         go_roundg k1
         case measure => have:=HK1.out; omega
         case rel => exact ⟨(wrap64 (x13_1 + 1)),(by first | rfl | (simp; done) | (simp [*]; done)),H',⟨by have:=HK1.out; omega⟩,by repeat (first | exact Drawn0.refl _ | apply Drawn0.step)⟩
       ·rw [if_neg c7] at H
        exact absurd H (by simp)
      ·rw [if_neg c6] at H
       exact absurd H (by simp)
     ·rw [if_neg c5] at H
      exact absurd H (by simp)
    ·rw [if_neg c4] at H
     have c4b0 : decide (x13_1 < (l0.length : Int)) = false:=decide_eq_false c4
     clear c4
     obtain rfl:=Option.some.inj H
     go_wp2
     repeat (go_quiet (fail); try go_wp2)
     go_ret
     exact ⟨by first | rfl | (simp; done) | (simp [*]; done),by repeat (first | exact Drawn0.refl _ | apply Drawn0.step)⟩
 ·rw [if_neg c3] at H
  have c3b0 : ((l0.length : Int) == (l1.length : Int)) = false:=beq_eq_false_iff_ne.mpr c3
  have c3b1 : ((l0.length : Int) != (l1.length : Int)) = true:=bne_iff_ne.mpr c3
  have c3b2 : (l0.length == l1.length) = false:=by first | simpa using c3 | (simp at c3 ⊢; omega)
  obtain rfl:=Option.some.inj H
  go_enter Tryz.func28,Tryz.ntmps28
  go_wp2
  repeat (go_quiet (fail); try go_wp2)
  go_ret
  exact ⟨by first | rfl | (simp; done) | (simp [*]; done),by repeat (first | exact Drawn0.refl _ | apply Drawn0.step)⟩
def slices_Equal_string_string.l0 : Nat → List ByteArray → List ByteArray → Int → Int → Option (Bool)
 | 0,_,_,_,_ => none
 | k + 1,x0,x1,x12,x13 => if x13 < x12 then (if 0 ≤ x13 then (if x13 < (x0.length : Int) then (if x13 < (x1.length : Int) then (if (rdOf ByteArray.empty x0 x13).toList = (rdOf ByteArray.empty x1 x13).toList then (slices_Equal_string_string.l0 k x0 x1 x12 (wrap64 (x13 + 1))) else (some false)) else (none)) else (none)) else (none)) else (some true)
def slices_Equal_string_string.f (k : Nat) (l0 : List ByteArray) (l1 : List ByteArray) : Option (Bool):=if (l0.length : Int) = (l1.length : Int) then (slices_Equal_string_string.l0 k l0 l1 (l0.length : Int) 0) else (some false)
theorem slices_Equal_string_string.mono_l : ∀ k,(∀ y0 y1 y2 y3,LeO (slices_Equal_string_string.l0 k y0 y1 y2 y3) (slices_Equal_string_string.l0 (k + 1) y0 y1 y2 y3))
 | 0 => fun _ _ _ _ r h => by simp [slices_Equal_string_string.l0] at h
 | k + 1 => by
  have ih0:=slices_Equal_string_string.mono_l k
  ·intro y0 y1 y2 y3
   unfold slices_Equal_string_string.l0
   repeat' first
   | (with_reducible exact ih0 _ _ _ _)
   | (with_reducible exact LeO.refl _)
   | (with_reducible exact LeO.none _)
   | (with_reducible refine LeO.ite ?_ ?_)
   | (with_reducible refine LeO.bind ?_ (fun _ => ?_))
   | exact ih0 _ _ _ _
   | exact LeO.none _
   | refine LeO.ite ?_ ?_
   | refine LeO.bind ?_ (fun _ => ?_)
theorem slices_Equal_string_string.mono : ∀ a0 a1 k,LeO (slices_Equal_string_string.f k a0 a1) (slices_Equal_string_string.f (k + 1) a0 a1):=by
 intro a0 a1 k
 have ih0:=slices_Equal_string_string.mono_l k
 unfold slices_Equal_string_string.f
 repeat' first
   | (with_reducible exact ih0 _ _ _ _)
   | (with_reducible exact LeO.refl _)
   | (with_reducible exact LeO.none _)
   | (with_reducible refine LeO.ite ?_ ?_)
   | (with_reducible refine LeO.bind ?_ (fun _ => ?_))
   | exact ih0 _ _ _ _
   | exact LeO.none _
   | refine LeO.ite ?_ ?_
   | refine LeO.bind ?_ (fun _ => ?_)
set_option maxHeartbeats 8000000 in
set_option maxRecDepth 100000 in
theorem slices_Equal_string_string.calls (k : Nat) (A0 : Option Addr) (c0 : Nat) (l0 : List ByteArray) (A1 : Option Addr) (c1 : Nat) (l1 : List ByteArray) (r : Bool) (w : World) (hr0 : Kd.C Kd.string w A0 l0.length l0) (hc0 : l0.length ≤ c0) (hr1 : Kd.C Kd.string w A1 l1.length l1) (hc1 : l1.length ≤ c1) (h : slices_Equal_string_string.f k l0 l1 = some r) :
  Calls Tryz.prog 51 #[.slice A0 l0.length c0,.slice A1 l1.length c1] w fun e w' => e = .returned (.bool r) ∧ Drawn0 w w':=by
 have HR0:=Aside0.mk hr0
 have HC0:=Aside0.mk hc0
 clear hr0 hc0
 have HR1:=Aside0.mk hr1
 have HC1:=Aside0.mk hc1
 clear hr1 hc1
 have H : (if (l0.length : Int) = (l1.length : Int) then (slices_Equal_string_string.l0 k l0 l1 (l0.length : Int) 0) else (some false)) = some r:=h
 clear h
 by_cases c3 : (l0.length : Int) = (l1.length : Int)
 ·rw [if_pos c3] at H
  have c3b0 : ((l0.length : Int) == (l1.length : Int)) = true:=beq_iff_eq.mpr c3
  have c3b1 : ((l0.length : Int) != (l1.length : Int)) = false:=bne_eq_false_iff_eq.mpr c3
  have c3b2 : (l0.length == l1.length) = true:=by first | simpa using c3 | (simp at c3 ⊢; omega)
  clear c3
  have H':=Aside0.mk H
  clear H
  go_enter Tryz.func51,Tryz.ntmps51
  go_wp2
  repeat (go_quiet (fail); try go_wp2)
  go_loopg [13] k (fun kq v13 w' => ∃ (x13_1 : Int),v13 = .int .i64 x13_1 ∧ Aside0 (slices_Equal_string_string.l0 kq l0 l1 (l0.length : Int) x13_1 = some r) ∧ Aside0 (kq ≤ k) ∧ Drawn0 w w')
  case atStart => exact ⟨(0),(by first | rfl | (simp; done) | (simp [*]; done)),H',⟨Nat.le_refl _⟩,by repeat (first | exact Drawn0.refl _ | apply Drawn0.step)⟩
  case round =>
   clear H'
   try clear c1
   try clear p2
   try clear c3
   try clear c3b0
   try clear c3b1
   try clear c3b2
   obtain ⟨x13_1,rfl,HA,HK1,⟨m1,rfl⟩⟩:=hrel
   cases gk with
   | zero => exact absurd HA.out (by simp [slices_Equal_string_string.l0])
   | succ k1 =>
    have H:=HA.out
    clear HA
    simp only [slices_Equal_string_string.l0] at H
    by_cases c4 : x13_1 < (l0.length : Int)
    ·rw [if_pos c4] at H
     have c4b0 : decide (x13_1 < (l0.length : Int)) = true:=decide_eq_true c4
     clear c4
     by_cases c5 : 0 ≤ x13_1
     ·rw [if_pos c5] at H
      have c5b0 : decide (0 ≤ x13_1) = true:=decide_eq_true c5
      clear c5
      by_cases c6 : x13_1 < (l0.length : Int)
      ·rw [if_pos c6] at H
       have c6b0 : decide (x13_1 < (l0.length : Int)) = true:=decide_eq_true c6
       clear c6
       by_cases c7 : x13_1 < (l1.length : Int)
       ·rw [if_pos c7] at H
        have c7b0 : decide (x13_1 < (l1.length : Int)) = true:=decide_eq_true c7
        clear c7
        by_cases c8 : (rdOf ByteArray.empty l0 x13_1).toList = (rdOf ByteArray.empty l1 x13_1).toList
        ·rw [if_pos c8] at H
         have c8b0 : ((rdOf ByteArray.empty l0 x13_1).toList == (rdOf ByteArray.empty l1 x13_1).toList) = true:=beq_iff_eq.mpr c8
         have c8b1 : ((rdOf ByteArray.empty l0 x13_1).toList != (rdOf ByteArray.empty l1 x13_1).toList) = false:=bne_eq_false_iff_eq.mpr c8
         clear c8
         have H':=Aside0.mk H
         clear H
         have p340 : 0 ≤ (x13_1 : Int):=of_decide_eq_true (by first | (with_reducible assumption) | assumption)
         have q340 : x13_1 < (l0.length : Int):=of_decide_eq_true (by first | (with_reducible assumption) | assumption)
         obtain ⟨ad340,e340,hx340_0⟩:=Kd.at_string HR0.out x13_1 p340 q340
         cases e340
         replace p340:=eq_true p340
         replace q340:=eq_true q340
         have p341 : 0 ≤ (x13_1 : Int):=of_decide_eq_true (by first | (with_reducible assumption) | assumption)
         have q341 : x13_1 < (l1.length : Int):=of_decide_eq_true (by first | (with_reducible assumption) | assumption)
         obtain ⟨ad341,e341,hx341_0⟩:=Kd.at_string HR1.out x13_1 p341 q341
         cases e341
         replace p341:=eq_true p341
         replace q341:=eq_true q341
         go_wp2
         repeat (go_quiet (fail); try go_wp2)
         go_roundg k1
         case measure => have:=HK1.out; omega
         case rel => exact ⟨(wrap64 (x13_1 + 1)),(by first | rfl | (simp; done) | (simp [*]; done)),H',⟨by have:=HK1.out; omega⟩,by repeat (first | exact Drawn0.refl _ | apply Drawn0.step)⟩
        ·rw [if_neg c8] at H
         have c8b0 : ((rdOf ByteArray.empty l0 x13_1).toList == (rdOf ByteArray.empty l1 x13_1).toList) = false:=beq_eq_false_iff_ne.mpr c8
         have c8b1 : ((rdOf ByteArray.empty l0 x13_1).toList != (rdOf ByteArray.empty l1 x13_1).toList) = true:=bne_iff_ne.mpr c8
         obtain rfl:=Option.some.inj H
         have p340 : 0 ≤ (x13_1 : Int):=of_decide_eq_true (by first | (with_reducible assumption) | assumption)
         have q340 : x13_1 < (l0.length : Int):=of_decide_eq_true (by first | (with_reducible assumption) | assumption)
         obtain ⟨ad340,e340,hx340_0⟩:=Kd.at_string HR0.out x13_1 p340 q340
         cases e340
         replace p340:=eq_true p340
         replace q340:=eq_true q340
         have p341 : 0 ≤ (x13_1 : Int):=of_decide_eq_true (by first | (with_reducible assumption) | assumption)
         have q341 : x13_1 < (l1.length : Int):=of_decide_eq_true (by first | (with_reducible assumption) | assumption)
         obtain ⟨ad341,e341,hx341_0⟩:=Kd.at_string HR1.out x13_1 p341 q341
         cases e341
         replace p341:=eq_true p341
         replace q341:=eq_true q341
         go_wp2
         repeat (go_quiet (fail); try go_wp2)
         go_ret
         exact ⟨by first | rfl | (simp; done) | (simp [*]; done),by repeat (first | exact Drawn0.refl _ | apply Drawn0.step)⟩
       ·rw [if_neg c7] at H
        exact absurd H (by simp)
      ·rw [if_neg c6] at H
       exact absurd H (by simp)
     ·rw [if_neg c5] at H
      exact absurd H (by simp)
    ·rw [if_neg c4] at H
     have c4b0 : decide (x13_1 < (l0.length : Int)) = false:=decide_eq_false c4
     clear c4
     obtain rfl:=Option.some.inj H
     go_wp2
     repeat (go_quiet (fail); try go_wp2)
     go_ret
     exact ⟨by first | rfl | (simp; done) | (simp [*]; done),by repeat (first | exact Drawn0.refl _ | apply Drawn0.step)⟩
 ·rw [if_neg c3] at H
  have c3b0 : ((l0.length : Int) == (l1.length : Int)) = false:=beq_eq_false_iff_ne.mpr c3
  have c3b1 : ((l0.length : Int) != (l1.length : Int)) = true:=bne_iff_ne.mpr c3
  have c3b2 : (l0.length == l1.length) = false:=by first | simpa using c3 | (simp at c3 ⊢; omega)
  obtain rfl:=Option.some.inj H
  go_enter Tryz.func51,Tryz.ntmps51
  go_wp2
  repeat (go_quiet (fail); try go_wp2)
  go_ret
  exact ⟨by first | rfl | (simp; done) | (simp [*]; done),by repeat (first | exact Drawn0.refl _ | apply Drawn0.step)⟩
def spec_Cmd_52.l0 : Nat → List (S56) → List (S56) → Int → Int → Option (Bool)
 | 0,_,_,_,_ => none
 | k + 1,x0,x1,x12,x13 => if x13 < x12 then (if 0 ≤ x13 then (if x13 < (x0.length : Int) then (if x13 < (x1.length : Int) then (if (!(((rd_T56 x0 x13).f0) == ((rd_T56 x1 x13).f0)) || (!(((rd_T56 x0 x13).f1) == ((rd_T56 x1 x13).f1)) || (!(((rd_T56 x0 x13).f2) == ((rd_T56 x1 x13).f2)) || (!(((rd_T56 x0 x13).f3) == ((rd_T56 x1 x13).f3)) || (!((((rd_T56 x0 x13).f4).toList) == (((rd_T56 x1 x13).f4).toList))))))) = true then (some false) else (spec_Cmd_52.l0 k x0 x1 x12 (wrap64 (x13 + 1)))) else (none)) else (none)) else (none)) else (some true)
def spec_Cmd_52.f (k : Nat) (l0 : List (S56)) (l1 : List (S56)) : Option (Bool):=if (l0.length : Int) = (l1.length : Int) then (spec_Cmd_52.l0 k l0 l1 (l0.length : Int) 0) else (some false)
theorem spec_Cmd_52.mono_l : ∀ k,(∀ y0 y1 y2 y3,LeO (spec_Cmd_52.l0 k y0 y1 y2 y3) (spec_Cmd_52.l0 (k + 1) y0 y1 y2 y3))
 | 0 => fun _ _ _ _ r h => by simp [spec_Cmd_52.l0] at h
 | k + 1 => by
  have ih0:=spec_Cmd_52.mono_l k
  ·intro y0 y1 y2 y3
   unfold spec_Cmd_52.l0
   repeat' first
   | (with_reducible exact ih0 _ _ _ _)
   | (with_reducible exact LeO.refl _)
   | (with_reducible exact LeO.none _)
   | (with_reducible refine LeO.ite ?_ ?_)
   | (with_reducible refine LeO.bind ?_ (fun _ => ?_))
   | exact ih0 _ _ _ _
   | exact LeO.none _
   | refine LeO.ite ?_ ?_
   | refine LeO.bind ?_ (fun _ => ?_)
theorem spec_Cmd_52.mono : ∀ a0 a1 k,LeO (spec_Cmd_52.f k a0 a1) (spec_Cmd_52.f (k + 1) a0 a1):=by
 intro a0 a1 k
 have ih0:=spec_Cmd_52.mono_l k
 unfold spec_Cmd_52.f
 repeat' first
   | (with_reducible exact ih0 _ _ _ _)
   | (with_reducible exact LeO.refl _)
   | (with_reducible exact LeO.none _)
   | (with_reducible refine LeO.ite ?_ ?_)
   | (with_reducible refine LeO.bind ?_ (fun _ => ?_))
   | exact ih0 _ _ _ _
   | exact LeO.none _
   | refine LeO.ite ?_ ?_
   | refine LeO.bind ?_ (fun _ => ?_)
set_option maxHeartbeats 8000000 in
set_option maxRecDepth 100000 in
theorem spec_Cmd_52.calls (k : Nat) (A0 : Option Addr) (c0 : Nat) (l0 : List (S56)) (A1 : Option Addr) (c1 : Nat) (l1 : List (S56)) (r : Bool) (w : World) (hr0 : Kd.C k56 w A0 l0.length l0) (hc0 : l0.length ≤ c0) (hr1 : Kd.C k56 w A1 l1.length l1) (hc1 : l1.length ≤ c1) (h : spec_Cmd_52.f k l0 l1 = some r) :
  Calls Tryz.prog 52 #[.slice A0 l0.length c0,.slice A1 l1.length c1] w fun e w' => e = .returned (.bool r) ∧ Drawn0 w w':=by
 have hu56:=Tryz.underlying56
 have HR0:=Aside0.mk hr0
 have HC0:=Aside0.mk hc0
 clear hr0 hc0
 have HR1:=Aside0.mk hr1
 have HC1:=Aside0.mk hc1
 clear hr1 hc1
 have H : (if (l0.length : Int) = (l1.length : Int) then (spec_Cmd_52.l0 k l0 l1 (l0.length : Int) 0) else (some false)) = some r:=h
 clear h
 by_cases c3 : (l0.length : Int) = (l1.length : Int)
 ·rw [if_pos c3] at H
  have c3b0 : ((l0.length : Int) == (l1.length : Int)) = true:=beq_iff_eq.mpr c3
  have c3b1 : ((l0.length : Int) != (l1.length : Int)) = false:=bne_eq_false_iff_eq.mpr c3
  have c3b2 : (l0.length == l1.length) = true:=by first | simpa using c3 | (simp at c3 ⊢; omega)
  clear c3
  have H':=Aside0.mk H
  clear H
  go_enter Tryz.func52,Tryz.ntmps52
  go_wp2
  repeat (go_quiet (fail); try go_wp2)
  go_loopg [13] k (fun kq v13 w' => ∃ (x13_1 : Int),v13 = .int .i64 x13_1 ∧ Aside0 (spec_Cmd_52.l0 kq l0 l1 (l0.length : Int) x13_1 = some r) ∧ Aside0 (kq ≤ k) ∧ Drawn0 w w')
  case atStart => exact ⟨(0),(by first | rfl | (simp; done) | (simp [*]; done)),H',⟨Nat.le_refl _⟩,by repeat (first | exact Drawn0.refl _ | apply Drawn0.step)⟩
  case round =>
   clear H'
   try clear c1
   try clear p2
   try clear c3
   try clear c3b0
   try clear c3b1
   try clear c3b2
   obtain ⟨x13_1,rfl,HA,HK1,⟨m1,rfl⟩⟩:=hrel
   cases gk with
   | zero => exact absurd HA.out (by simp [spec_Cmd_52.l0])
   | succ k1 =>
    have H:=HA.out
    clear HA
    simp only [spec_Cmd_52.l0] at H
    by_cases c4 : x13_1 < (l0.length : Int)
    ·rw [if_pos c4] at H
     have c4b0 : decide (x13_1 < (l0.length : Int)) = true:=decide_eq_true c4
     clear c4
     by_cases c5 : 0 ≤ x13_1
     ·rw [if_pos c5] at H
      have c5b0 : decide (0 ≤ x13_1) = true:=decide_eq_true c5
      clear c5
      by_cases c6 : x13_1 < (l0.length : Int)
      ·rw [if_pos c6] at H
       have c6b0 : decide (x13_1 < (l0.length : Int)) = true:=decide_eq_true c6
       clear c6
       by_cases c7 : x13_1 < (l1.length : Int)
       ·rw [if_pos c7] at H
        have c7b0 : decide (x13_1 < (l1.length : Int)) = true:=decide_eq_true c7
        clear c7
        by_cases c8 : (!(((rd_T56 l0 x13_1).f0) == ((rd_T56 l1 x13_1).f0)) || (!(((rd_T56 l0 x13_1).f1) == ((rd_T56 l1 x13_1).f1)) || (!(((rd_T56 l0 x13_1).f2) == ((rd_T56 l1 x13_1).f2)) || (!(((rd_T56 l0 x13_1).f3) == ((rd_T56 l1 x13_1).f3)) || (!((((rd_T56 l0 x13_1).f4).toList) == (((rd_T56 l1 x13_1).f4).toList))))))) = true
        ·rw [if_pos c8] at H
         have c8b0 : (!(((rd_T56 l0 x13_1).f0) == ((rd_T56 l1 x13_1).f0)) || (!(((rd_T56 l0 x13_1).f1) == ((rd_T56 l1 x13_1).f1)) || (!(((rd_T56 l0 x13_1).f2) == ((rd_T56 l1 x13_1).f2)) || (!(((rd_T56 l0 x13_1).f3) == ((rd_T56 l1 x13_1).f3)) || (!((((rd_T56 l0 x13_1).f4).toList) == (((rd_T56 l1 x13_1).f4).toList))))))) = true:=c8
         clear c8
         obtain rfl:=Option.some.inj H
         have p342 : 0 ≤ (x13_1 : Int):=of_decide_eq_true (by first | (with_reducible assumption) | assumption)
         have q342 : x13_1 < (l0.length : Int):=of_decide_eq_true (by first | (with_reducible assumption) | assumption)
         obtain ⟨ad342,e342,hx342_0,hx342_1,hx342_2,hx342_3,hx342_4⟩:=at_T56 HR0.out x13_1 p342 q342
         cases e342
         replace p342:=eq_true p342
         replace q342:=eq_true q342
         have p343 : 0 ≤ (x13_1 : Int):=of_decide_eq_true (by first | (with_reducible assumption) | assumption)
         have q343 : x13_1 < (l1.length : Int):=of_decide_eq_true (by first | (with_reducible assumption) | assumption)
         obtain ⟨ad343,e343,hx343_0,hx343_1,hx343_2,hx343_3,hx343_4⟩:=at_T56 HR1.out x13_1 p343 q343
         cases e343
         replace p343:=eq_true p343
         replace q343:=eq_true q343
         go_wp2
         repeat (go_quiet (fail); try go_wp2)
         go_ret
         exact ⟨by first | rfl | (simp; done) | (simp [*]; done),by repeat (first | exact Drawn0.refl _ | apply Drawn0.step)⟩
        ·rw [if_neg c8] at H
         have c8b0 : (!(((rd_T56 l0 x13_1).f0) == ((rd_T56 l1 x13_1).f0)) || (!(((rd_T56 l0 x13_1).f1) == ((rd_T56 l1 x13_1).f1)) || (!(((rd_T56 l0 x13_1).f2) == ((rd_T56 l1 x13_1).f2)) || (!(((rd_T56 l0 x13_1).f3) == ((rd_T56 l1 x13_1).f3)) || (!((((rd_T56 l0 x13_1).f4).toList) == (((rd_T56 l1 x13_1).f4).toList))))))) = false:=by simpa using c8
         clear c8
         have H':=Aside0.mk H
         clear H
         have p342 : 0 ≤ (x13_1 : Int):=of_decide_eq_true (by first | (with_reducible assumption) | assumption)
         have q342 : x13_1 < (l0.length : Int):=of_decide_eq_true (by first | (with_reducible assumption) | assumption)
         obtain ⟨ad342,e342,hx342_0,hx342_1,hx342_2,hx342_3,hx342_4⟩:=at_T56 HR0.out x13_1 p342 q342
         cases e342
         replace p342:=eq_true p342
         replace q342:=eq_true q342
         have p343 : 0 ≤ (x13_1 : Int):=of_decide_eq_true (by first | (with_reducible assumption) | assumption)
         have q343 : x13_1 < (l1.length : Int):=of_decide_eq_true (by first | (with_reducible assumption) | assumption)
         obtain ⟨ad343,e343,hx343_0,hx343_1,hx343_2,hx343_3,hx343_4⟩:=at_T56 HR1.out x13_1 p343 q343
         cases e343
         replace p343:=eq_true p343
         replace q343:=eq_true q343
         go_wp2
         repeat (go_quiet (fail); try go_wp2)
         go_roundg k1
         case measure => have:=HK1.out; omega
         case rel => exact ⟨(wrap64 (x13_1 + 1)),(by first | rfl | (simp; done) | (simp [*]; done)),H',⟨by have:=HK1.out; omega⟩,by repeat (first | exact Drawn0.refl _ | apply Drawn0.step)⟩
       ·rw [if_neg c7] at H
        exact absurd H (by simp)
      ·rw [if_neg c6] at H
       exact absurd H (by simp)
     ·rw [if_neg c5] at H
      exact absurd H (by simp)
    ·rw [if_neg c4] at H
     have c4b0 : decide (x13_1 < (l0.length : Int)) = false:=decide_eq_false c4
     clear c4
     obtain rfl:=Option.some.inj H
     go_wp2
     repeat (go_quiet (fail); try go_wp2)
     go_ret
     exact ⟨by first | rfl | (simp; done) | (simp [*]; done),by repeat (first | exact Drawn0.refl _ | apply Drawn0.step)⟩
 ·rw [if_neg c3] at H
  have c3b0 : ((l0.length : Int) == (l1.length : Int)) = false:=beq_eq_false_iff_ne.mpr c3
  have c3b1 : ((l0.length : Int) != (l1.length : Int)) = true:=bne_iff_ne.mpr c3
  have c3b2 : (l0.length == l1.length) = false:=by first | simpa using c3 | (simp at c3 ⊢; omega)
  obtain rfl:=Option.some.inj H
  go_enter Tryz.func52,Tryz.ntmps52
  go_wp2
  repeat (go_quiet (fail); try go_wp2)
  go_ret
  exact ⟨by first | rfl | (simp; done) | (simp [*]; done),by repeat (first | exact Drawn0.refl _ | apply Drawn0.step)⟩
def spec_SameRule.f (k : Nat) (a0_0 : ByteArray) (l0_1 : List ByteArray) (a0_2 : Int) (a0_3 : ByteArray) (l0_4 : List (S56)) (a1_0 : ByteArray) (l1_1 : List ByteArray) (a1_2 : Int) (a1_3 : ByteArray) (l1_4 : List (S56)) : Option (Bool):=if a0_0.toList = a1_0.toList then ((slices_Equal_string_string.f k l0_1 l1_1).bind fun t346 => (if t346 = true then (if a0_2 = a1_2 then (if a0_3.toList = a1_3.toList then ((spec_Cmd_52.f k l0_4 l1_4).bind fun t347 => (some t347)) else (some false)) else (some false)) else (some false))) else (some false)
theorem spec_SameRule.mono : ∀ a0 a1 a2 a3 a4 a5 a6 a7 a8 a9 k,LeO (spec_SameRule.f k a0 a1 a2 a3 a4 a5 a6 a7 a8 a9) (spec_SameRule.f (k + 1) a0 a1 a2 a3 a4 a5 a6 a7 a8 a9):=by
 intro a0 a1 a2 a3 a4 a5 a6 a7 a8 a9 k
 unfold spec_SameRule.f
 repeat' first
   | (with_reducible exact slices_Equal_string_string.mono _ _ _)
   | (with_reducible exact spec_Cmd_52.mono _ _ _)
   | (with_reducible exact LeO.refl _)
   | (with_reducible exact LeO.none _)
   | (with_reducible refine LeO.ite ?_ ?_)
   | (with_reducible refine LeO.bind ?_ (fun _ => ?_))
   | exact slices_Equal_string_string.mono _ _ _
   | exact spec_Cmd_52.mono _ _ _
   | exact LeO.none _
   | refine LeO.ite ?_ ?_
   | refine LeO.bind ?_ (fun _ => ?_)
set_option maxHeartbeats 8000000 in
set_option maxRecDepth 100000 in
theorem spec_SameRule.calls (k : Nat) (a0_0 : ByteArray) (A0_1 : Option Addr) (c0_1 : Nat) (l0_1 : List ByteArray) (a0_2 : Int) (a0_3 : ByteArray) (A0_4 : Option Addr) (c0_4 : Nat) (l0_4 : List (S56)) (a1_0 : ByteArray) (A1_1 : Option Addr) (c1_1 : Nat) (l1_1 : List ByteArray) (a1_2 : Int) (a1_3 : ByteArray) (A1_4 : Option Addr) (c1_4 : Nat) (l1_4 : List (S56)) (r : Bool) (w : World) (hr0_1 : Kd.C Kd.string w A0_1 l0_1.length l0_1) (hc0_1 : l0_1.length ≤ c0_1) (hr0_4 : Kd.C k56 w A0_4 l0_4.length l0_4) (hc0_4 : l0_4.length ≤ c0_4) (hr1_1 : Kd.C Kd.string w A1_1 l1_1.length l1_1) (hc1_1 : l1_1.length ≤ c1_1) (hr1_4 : Kd.C k56 w A1_4 l1_4.length l1_4) (hc1_4 : l1_4.length ≤ c1_4) (h : spec_SameRule.f k a0_0 l0_1 a0_2 a0_3 l0_4 a1_0 l1_1 a1_2 a1_3 l1_4 = some r) :
  Calls Tryz.prog 30 #[.agg #[.string a0_0,.slice A0_1 l0_1.length c0_1,.int .u8 a0_2,.string a0_3,.slice A0_4 l0_4.length c0_4],.agg #[.string a1_0,.slice A1_1 l1_1.length c1_1,.int .u8 a1_2,.string a1_3,.slice A1_4 l1_4.length c1_4]] w fun e w' => e = .returned (.bool r) ∧ Below w.heap.size w w':=by
 have hu31:=Tryz.underlying31
 have HR0_1:=Aside0.mk hr0_1
 have HC0_1:=Aside0.mk hc0_1
 clear hr0_1 hc0_1
 have HR0_4:=Aside0.mk hr0_4
 have HC0_4:=Aside0.mk hc0_4
 clear hr0_4 hc0_4
 have HR1_1:=Aside0.mk hr1_1
 have HC1_1:=Aside0.mk hc1_1
 clear hr1_1 hc1_1
 have HR1_4:=Aside0.mk hr1_4
 have HC1_4:=Aside0.mk hc1_4
 clear hr1_4 hc1_4
 have HB:=Aside0.mk (Below.refl w.heap.size w)
 have H : (if a0_0.toList = a1_0.toList then ((slices_Equal_string_string.f k l0_1 l1_1).bind fun t346 => (if t346 = true then (if a0_2 = a1_2 then (if a0_3.toList = a1_3.toList then ((spec_Cmd_52.f k l0_4 l1_4).bind fun t347 => (some t347)) else (some false)) else (some false)) else (some false))) else (some false)) = some r:=h
 clear h
 by_cases c3 : a0_0.toList = a1_0.toList
 ·rw [if_pos c3] at H
  have c3b0 : (a0_0.toList == a1_0.toList) = true:=beq_iff_eq.mpr c3
  have c3b1 : (a0_0.toList != a1_0.toList) = false:=bne_eq_false_iff_eq.mpr c3
  clear c3
  replace H:=Option.bind_eq_some_iff.mp H
  obtain ⟨t346,A40,H⟩:=H
  replace H : (if t346 = true then (if a0_2 = a1_2 then (if a0_3.toList = a1_3.toList then ((spec_Cmd_52.f k l0_4 l1_4).bind fun t347 => (some t347)) else (some false)) else (some false)) else (some false)) = some r:=H
  have A4:=Aside0.mk A40
  clear A40
  by_cases c5 : t346 = true
  ·subst c5
   have H1 : (if a0_2 = a1_2 then (if a0_3.toList = a1_3.toList then ((spec_Cmd_52.f k l0_4 l1_4).bind fun t347 => (some t347)) else (some false)) else (some false)) = some r:=by rw [if_pos rfl] at H; exact H
   clear H
   have H:=H1
   clear H1
   by_cases c6 : a0_2 = a1_2
   ·rw [if_pos c6] at H
    have c6b0 : (a0_2 == a1_2) = true:=beq_iff_eq.mpr c6
    have c6b1 : (a0_2 != a1_2) = false:=bne_eq_false_iff_eq.mpr c6
    clear c6
    by_cases c7 : a0_3.toList = a1_3.toList
    ·rw [if_pos c7] at H
     have c7b0 : (a0_3.toList == a1_3.toList) = true:=beq_iff_eq.mpr c7
     have c7b1 : (a0_3.toList != a1_3.toList) = false:=bne_eq_false_iff_eq.mpr c7
     clear c7
     replace H:=Option.bind_eq_some_iff.mp H
     obtain ⟨t347,A80,H⟩:=H
     replace H : (some t347) = some r:=H
     have A8:=Aside0.mk A80
     clear A80
     obtain rfl:=Option.some.inj H
     go_enter Tryz.func30,Tryz.ntmps30
     go_wp2_with (first | ((with_reducible refine gate_dst (N:=2) rfl ?_); refine box_event ?hg (N:=2) ?hd (cs:=#[.string a0_0,.slice A0_1 l0_1.length c0_1,.int .u8 a0_2,.string a0_3,.slice A0_4 l0_4.length c0_4]) (t:=31) ?hr ?_; (case hd => rfl); (case hg => rfl); (case hr => first | (go_simp; done) | (go_simp; rfl)); intro gb344 hg w9 hbox hb; have n0_:=Aside0.mk (below_step (by repeat (first | (with_reducible first | exact HB.out | apply below_alloc | apply pw_below_drewN | apply below_drew1) | exact HB.out)) hb); have n1_:=Aside0.mk (hbox); have n2_:=Aside0.mk ((by rw [hg]; exact (below_size (by repeat (first | (with_reducible first | exact HB.out | apply below_alloc | apply pw_below_drewN | apply below_drew1) | exact HB.out))) : w.heap.size ≤ gb344)); have n3_:=Aside0.mk ((by rw [hg]; exact (below_size (by repeat (first | (with_reducible first | exact HB.out | apply below_alloc | apply pw_below_drewN | apply below_drew1) | exact HB.out))) : w.heap.size ≤ gb344)); clear HB; have HB:=n0_; have BK344:=n1_; have GW344:=n2_; have GE344:=n3_; clear n0_ n1_ n2_ n3_; clear hb hbox hg) | ((with_reducible refine gate_dst (N:=3) rfl ?_); refine box_event ?hg (N:=3) ?hd (cs:=#[.string a1_0,.slice A1_1 l1_1.length c1_1,.int .u8 a1_2,.string a1_3,.slice A1_4 l1_4.length c1_4]) (t:=31) ?hr ?_; (case hd => rfl); (case hg => rfl); (case hr => first | (go_simp; done) | (go_simp; rfl)); intro gb345 hg w10 hbox hb; have n0_:=Aside0.mk (blk_below (g:=gb344) (o:=.cells #[.string a0_0,.slice A0_1 l0_1.length c0_1,.int .u8 a0_2,.string a0_3,.slice A0_4 l0_4.length c0_4] 31 (0,0)) (by (with_reducible repeat (first | refine blk_drewN ?_ _ | refine blk_drew ?_ | refine blk_alloc ?_ _)); exact BK344.out) hb); have n1_:=Aside0.mk (below_step (by repeat (first | (with_reducible first | exact HB.out | apply below_alloc | apply pw_below_drewN | apply below_drew1 | refine below_set ?_ GE344.out) | exact HB.out)) hb); have n2_:=Aside0.mk (hbox); have n3_:=Aside0.mk ((by rw [hg]; exact (below_size (by repeat (first | (with_reducible first | exact HB.out | apply below_alloc | apply pw_below_drewN | apply below_drew1 | refine below_set ?_ GE344.out) | exact HB.out))) : w.heap.size ≤ gb345)); have n4_:=Aside0.mk ((by rw [hg]; exact (below_size (by repeat (first | (with_reducible first | exact HB.out | apply below_alloc | apply pw_below_drewN | apply below_drew1 | refine below_set ?_ GE344.out) | exact HB.out))) : w.heap.size ≤ gb345)); have n5_:=Aside0.mk ((by rw [hg]; exact Nat.ne_of_lt (blk_lt (g:=gb344) (o:=.cells #[.string a0_0,.slice A0_1 l0_1.length c0_1,.int .u8 a0_2,.string a0_3,.slice A0_4 l0_4.length c0_4] 31 (0,0)) (by (with_reducible repeat (first | refine blk_drewN ?_ _ | refine blk_drew ?_ | refine blk_alloc ?_ _)); exact BK344.out)) : gb344 ≠ gb345)); have n6_:=Aside0.mk ((by rw [hg]; exact Nat.ne_of_gt (blk_lt (g:=gb344) (o:=.cells #[.string a0_0,.slice A0_1 l0_1.length c0_1,.int .u8 a0_2,.string a0_3,.slice A0_4 l0_4.length c0_4] 31 (0,0)) (by (with_reducible repeat (first | refine blk_drewN ?_ _ | refine blk_drew ?_ | refine blk_alloc ?_ _)); exact BK344.out)) : gb345 ≠ gb344)); clear BK344; clear HB; have BK344:=n0_; have HB:=n1_; have BK345:=n2_; have GW345:=n3_; have GE345:=n4_; have NB344_345:=n5_; have NB345_344:=n6_; clear n0_ n1_ n2_ n3_ n4_ n5_ n6_; clear hb hbox hg; have hnb11:=NB344_345.out; have hnc11:=NB345_344.out; have hcz12_0 : w10.cell? ⟨gb344,0,none⟩ = some (.string a0_0):=(blk_cell BK344.out 0).trans rfl; have hcz12_1 : w10.cell? ⟨gb344,1,none⟩ = some (.slice A0_1 l0_1.length c0_1):=(blk_cell BK344.out 1).trans rfl; have hcz12_2 : w10.cell? ⟨gb344,2,none⟩ = some (.int .u8 a0_2):=(blk_cell BK344.out 2).trans rfl; have hcz12_3 : w10.cell? ⟨gb344,3,none⟩ = some (.string a0_3):=(blk_cell BK344.out 3).trans rfl; have hcz12_4 : w10.cell? ⟨gb344,4,none⟩ = some (.slice A0_4 l0_4.length c0_4):=(blk_cell BK344.out 4).trans rfl; have hfz12_0:=blk_frozen BK344.out 0; have hfz12_1:=blk_frozen BK344.out 1; have hfz12_2:=blk_frozen BK344.out 2; have hfz12_3:=blk_frozen BK344.out 3; have hfz12_4:=blk_frozen BK344.out 4; have hcz13_0 : w10.cell? ⟨gb345,0,none⟩ = some (.string a1_0):=(blk_cell BK345.out 0).trans rfl; have hcz13_1 : w10.cell? ⟨gb345,1,none⟩ = some (.slice A1_1 l1_1.length c1_1):=(blk_cell BK345.out 1).trans rfl; have hcz13_2 : w10.cell? ⟨gb345,2,none⟩ = some (.int .u8 a1_2):=(blk_cell BK345.out 2).trans rfl; have hcz13_3 : w10.cell? ⟨gb345,3,none⟩ = some (.string a1_3):=(blk_cell BK345.out 3).trans rfl; have hcz13_4 : w10.cell? ⟨gb345,4,none⟩ = some (.slice A1_4 l1_4.length c1_4):=(blk_cell BK345.out 4).trans rfl; have hfz13_0:=blk_frozen BK345.out 0; have hfz13_1:=blk_frozen BK345.out 1; have hfz13_2:=blk_frozen BK345.out 2; have hfz13_3:=blk_frozen BK345.out 3; have hfz13_4:=blk_frozen BK345.out 4) | (go_at_call 51; (with_reducible refine (slices_Equal_string_string.calls k _ _ l0_1 _ _ l1_1 true _ ?side1 ?side2 ?side3 ?side4 A4.out).mono ?_); (case side1 => repeat (first | exact (Kd.C_below HR0_1.out HB.out) | (with_reducible refine Kd.C_alloc ?_ _) | (with_reducible refine Kd.C_drewN ?_ _) | (with_reducible refine Kd.C_drew ?_))); (case side2 => exact HC0_1.out); (case side3 => repeat (first | exact (Kd.C_below HR1_1.out HB.out) | (with_reducible refine Kd.C_alloc ?_ _) | (with_reducible refine Kd.C_drewN ?_ _) | (with_reducible refine Kd.C_drew ?_))); (case side4 => exact HC1_1.out); rintro e w' ⟨rfl,⟨nd,rfl⟩⟩) | (go_at_call 52; (with_reducible refine (spec_Cmd_52.calls k _ _ l0_4 _ _ l1_4 t347 _ ?side1 ?side2 ?side3 ?side4 A8.out).mono ?_); (case side1 => repeat (first | exact (Kd.C_below HR0_4.out (by repeat (first | (with_reducible first | exact HB.out | apply below_alloc | apply pw_below_drewN | apply below_drew1 | refine below_set ?_ GE344.out | refine below_set ?_ GE345.out) | exact HB.out))) | (with_reducible refine Kd.C_alloc ?_ _) | (with_reducible refine Kd.C_drewN ?_ _) | (with_reducible refine Kd.C_drew ?_))); (case side2 => exact HC0_4.out); (case side3 => repeat (first | exact (Kd.C_below HR1_4.out (by repeat (first | (with_reducible first | exact HB.out | apply below_alloc | apply pw_below_drewN | apply below_drew1 | refine below_set ?_ GE344.out | refine below_set ?_ GE345.out) | exact HB.out))) | (with_reducible refine Kd.C_alloc ?_ _) | (with_reducible refine Kd.C_drewN ?_ _) | (with_reducible refine Kd.C_drew ?_))); (case side4 => exact HC1_4.out); rintro e w' ⟨rfl,⟨nd,rfl⟩⟩))
     go_ret
     exact ⟨by first | rfl | (simp [errW_none,errW_some] <;> rfl) | (simp [*,errW_none,errW_some] <;> rfl),by repeat (first | (with_reducible first | exact HB.out | apply below_alloc | apply pw_below_drewN | apply below_drew1 | refine below_set ?_ GE344.out | refine below_set ?_ GE345.out) | exact HB.out)⟩
    ·rw [if_neg c7] at H
     have c7b0 : (a0_3.toList == a1_3.toList) = false:=beq_eq_false_iff_ne.mpr c7
     have c7b1 : (a0_3.toList != a1_3.toList) = true:=bne_iff_ne.mpr c7
     obtain rfl:=Option.some.inj H
     go_enter Tryz.func30,Tryz.ntmps30
     go_wp2_with (first | ((with_reducible refine gate_dst (N:=2) rfl ?_); refine box_event ?hg (N:=2) ?hd (cs:=#[.string a0_0,.slice A0_1 l0_1.length c0_1,.int .u8 a0_2,.string a0_3,.slice A0_4 l0_4.length c0_4]) (t:=31) ?hr ?_; (case hd => rfl); (case hg => rfl); (case hr => first | (go_simp; done) | (go_simp; rfl)); intro gb344 hg w14 hbox hb; have n0_:=Aside0.mk (below_step (by repeat (first | (with_reducible first | exact HB.out | apply below_alloc | apply pw_below_drewN | apply below_drew1) | exact HB.out)) hb); have n1_:=Aside0.mk (hbox); have n2_:=Aside0.mk ((by rw [hg]; exact (below_size (by repeat (first | (with_reducible first | exact HB.out | apply below_alloc | apply pw_below_drewN | apply below_drew1) | exact HB.out))) : w.heap.size ≤ gb344)); have n3_:=Aside0.mk ((by rw [hg]; exact (below_size (by repeat (first | (with_reducible first | exact HB.out | apply below_alloc | apply pw_below_drewN | apply below_drew1) | exact HB.out))) : w.heap.size ≤ gb344)); clear HB; have HB:=n0_; have BK344:=n1_; have GW344:=n2_; have GE344:=n3_; clear n0_ n1_ n2_ n3_; clear hb hbox hg) | ((with_reducible refine gate_dst (N:=3) rfl ?_); refine box_event ?hg (N:=3) ?hd (cs:=#[.string a1_0,.slice A1_1 l1_1.length c1_1,.int .u8 a1_2,.string a1_3,.slice A1_4 l1_4.length c1_4]) (t:=31) ?hr ?_; (case hd => rfl); (case hg => rfl); (case hr => first | (go_simp; done) | (go_simp; rfl)); intro gb345 hg w15 hbox hb; have n0_:=Aside0.mk (blk_below (g:=gb344) (o:=.cells #[.string a0_0,.slice A0_1 l0_1.length c0_1,.int .u8 a0_2,.string a0_3,.slice A0_4 l0_4.length c0_4] 31 (0,0)) (by (with_reducible repeat (first | refine blk_drewN ?_ _ | refine blk_drew ?_ | refine blk_alloc ?_ _)); exact BK344.out) hb); have n1_:=Aside0.mk (below_step (by repeat (first | (with_reducible first | exact HB.out | apply below_alloc | apply pw_below_drewN | apply below_drew1 | refine below_set ?_ GE344.out) | exact HB.out)) hb); have n2_:=Aside0.mk (hbox); have n3_:=Aside0.mk ((by rw [hg]; exact (below_size (by repeat (first | (with_reducible first | exact HB.out | apply below_alloc | apply pw_below_drewN | apply below_drew1 | refine below_set ?_ GE344.out) | exact HB.out))) : w.heap.size ≤ gb345)); have n4_:=Aside0.mk ((by rw [hg]; exact (below_size (by repeat (first | (with_reducible first | exact HB.out | apply below_alloc | apply pw_below_drewN | apply below_drew1 | refine below_set ?_ GE344.out) | exact HB.out))) : w.heap.size ≤ gb345)); have n5_:=Aside0.mk ((by rw [hg]; exact Nat.ne_of_lt (blk_lt (g:=gb344) (o:=.cells #[.string a0_0,.slice A0_1 l0_1.length c0_1,.int .u8 a0_2,.string a0_3,.slice A0_4 l0_4.length c0_4] 31 (0,0)) (by (with_reducible repeat (first | refine blk_drewN ?_ _ | refine blk_drew ?_ | refine blk_alloc ?_ _)); exact BK344.out)) : gb344 ≠ gb345)); have n6_:=Aside0.mk ((by rw [hg]; exact Nat.ne_of_gt (blk_lt (g:=gb344) (o:=.cells #[.string a0_0,.slice A0_1 l0_1.length c0_1,.int .u8 a0_2,.string a0_3,.slice A0_4 l0_4.length c0_4] 31 (0,0)) (by (with_reducible repeat (first | refine blk_drewN ?_ _ | refine blk_drew ?_ | refine blk_alloc ?_ _)); exact BK344.out)) : gb345 ≠ gb344)); clear BK344; clear HB; have BK344:=n0_; have HB:=n1_; have BK345:=n2_; have GW345:=n3_; have GE345:=n4_; have NB344_345:=n5_; have NB345_344:=n6_; clear n0_ n1_ n2_ n3_ n4_ n5_ n6_; clear hb hbox hg; have hnb16:=NB344_345.out; have hnc16:=NB345_344.out; have hcz17_0 : w15.cell? ⟨gb344,0,none⟩ = some (.string a0_0):=(blk_cell BK344.out 0).trans rfl; have hcz17_1 : w15.cell? ⟨gb344,1,none⟩ = some (.slice A0_1 l0_1.length c0_1):=(blk_cell BK344.out 1).trans rfl; have hcz17_2 : w15.cell? ⟨gb344,2,none⟩ = some (.int .u8 a0_2):=(blk_cell BK344.out 2).trans rfl; have hcz17_3 : w15.cell? ⟨gb344,3,none⟩ = some (.string a0_3):=(blk_cell BK344.out 3).trans rfl; have hcz17_4 : w15.cell? ⟨gb344,4,none⟩ = some (.slice A0_4 l0_4.length c0_4):=(blk_cell BK344.out 4).trans rfl; have hfz17_0:=blk_frozen BK344.out 0; have hfz17_1:=blk_frozen BK344.out 1; have hfz17_2:=blk_frozen BK344.out 2; have hfz17_3:=blk_frozen BK344.out 3; have hfz17_4:=blk_frozen BK344.out 4; have hcz18_0 : w15.cell? ⟨gb345,0,none⟩ = some (.string a1_0):=(blk_cell BK345.out 0).trans rfl; have hcz18_1 : w15.cell? ⟨gb345,1,none⟩ = some (.slice A1_1 l1_1.length c1_1):=(blk_cell BK345.out 1).trans rfl; have hcz18_2 : w15.cell? ⟨gb345,2,none⟩ = some (.int .u8 a1_2):=(blk_cell BK345.out 2).trans rfl; have hcz18_3 : w15.cell? ⟨gb345,3,none⟩ = some (.string a1_3):=(blk_cell BK345.out 3).trans rfl; have hcz18_4 : w15.cell? ⟨gb345,4,none⟩ = some (.slice A1_4 l1_4.length c1_4):=(blk_cell BK345.out 4).trans rfl; have hfz18_0:=blk_frozen BK345.out 0; have hfz18_1:=blk_frozen BK345.out 1; have hfz18_2:=blk_frozen BK345.out 2; have hfz18_3:=blk_frozen BK345.out 3; have hfz18_4:=blk_frozen BK345.out 4) | (go_at_call 51; (with_reducible refine (slices_Equal_string_string.calls k _ _ l0_1 _ _ l1_1 true _ ?side1 ?side2 ?side3 ?side4 A4.out).mono ?_); (case side1 => repeat (first | exact (Kd.C_below HR0_1.out HB.out) | (with_reducible refine Kd.C_alloc ?_ _) | (with_reducible refine Kd.C_drewN ?_ _) | (with_reducible refine Kd.C_drew ?_))); (case side2 => exact HC0_1.out); (case side3 => repeat (first | exact (Kd.C_below HR1_1.out HB.out) | (with_reducible refine Kd.C_alloc ?_ _) | (with_reducible refine Kd.C_drewN ?_ _) | (with_reducible refine Kd.C_drew ?_))); (case side4 => exact HC1_1.out); rintro e w' ⟨rfl,⟨nd,rfl⟩⟩))
     go_ret
     exact ⟨by first | rfl | (simp [errW_none,errW_some] <;> rfl) | (simp [*,errW_none,errW_some] <;> rfl),by repeat (first | (with_reducible first | exact HB.out | apply below_alloc | apply pw_below_drewN | apply below_drew1 | refine below_set ?_ GE344.out | refine below_set ?_ GE345.out) | exact HB.out)⟩
   ·rw [if_neg c6] at H
    have c6b0 : (a0_2 == a1_2) = false:=beq_eq_false_iff_ne.mpr c6
    have c6b1 : (a0_2 != a1_2) = true:=bne_iff_ne.mpr c6
    obtain rfl:=Option.some.inj H
    go_enter Tryz.func30,Tryz.ntmps30
    go_wp2_with (first | ((with_reducible refine gate_dst (N:=2) rfl ?_); refine box_event ?hg (N:=2) ?hd (cs:=#[.string a0_0,.slice A0_1 l0_1.length c0_1,.int .u8 a0_2,.string a0_3,.slice A0_4 l0_4.length c0_4]) (t:=31) ?hr ?_; (case hd => rfl); (case hg => rfl); (case hr => first | (go_simp; done) | (go_simp; rfl)); intro gb344 hg w19 hbox hb; have n0_:=Aside0.mk (below_step (by repeat (first | (with_reducible first | exact HB.out | apply below_alloc | apply pw_below_drewN | apply below_drew1) | exact HB.out)) hb); have n1_:=Aside0.mk (hbox); have n2_:=Aside0.mk ((by rw [hg]; exact (below_size (by repeat (first | (with_reducible first | exact HB.out | apply below_alloc | apply pw_below_drewN | apply below_drew1) | exact HB.out))) : w.heap.size ≤ gb344)); have n3_:=Aside0.mk ((by rw [hg]; exact (below_size (by repeat (first | (with_reducible first | exact HB.out | apply below_alloc | apply pw_below_drewN | apply below_drew1) | exact HB.out))) : w.heap.size ≤ gb344)); clear HB; have HB:=n0_; have BK344:=n1_; have GW344:=n2_; have GE344:=n3_; clear n0_ n1_ n2_ n3_; clear hb hbox hg) | ((with_reducible refine gate_dst (N:=3) rfl ?_); refine box_event ?hg (N:=3) ?hd (cs:=#[.string a1_0,.slice A1_1 l1_1.length c1_1,.int .u8 a1_2,.string a1_3,.slice A1_4 l1_4.length c1_4]) (t:=31) ?hr ?_; (case hd => rfl); (case hg => rfl); (case hr => first | (go_simp; done) | (go_simp; rfl)); intro gb345 hg w20 hbox hb; have n0_:=Aside0.mk (blk_below (g:=gb344) (o:=.cells #[.string a0_0,.slice A0_1 l0_1.length c0_1,.int .u8 a0_2,.string a0_3,.slice A0_4 l0_4.length c0_4] 31 (0,0)) (by (with_reducible repeat (first | refine blk_drewN ?_ _ | refine blk_drew ?_ | refine blk_alloc ?_ _)); exact BK344.out) hb); have n1_:=Aside0.mk (below_step (by repeat (first | (with_reducible first | exact HB.out | apply below_alloc | apply pw_below_drewN | apply below_drew1 | refine below_set ?_ GE344.out) | exact HB.out)) hb); have n2_:=Aside0.mk (hbox); have n3_:=Aside0.mk ((by rw [hg]; exact (below_size (by repeat (first | (with_reducible first | exact HB.out | apply below_alloc | apply pw_below_drewN | apply below_drew1 | refine below_set ?_ GE344.out) | exact HB.out))) : w.heap.size ≤ gb345)); have n4_:=Aside0.mk ((by rw [hg]; exact (below_size (by repeat (first | (with_reducible first | exact HB.out | apply below_alloc | apply pw_below_drewN | apply below_drew1 | refine below_set ?_ GE344.out) | exact HB.out))) : w.heap.size ≤ gb345)); have n5_:=Aside0.mk ((by rw [hg]; exact Nat.ne_of_lt (blk_lt (g:=gb344) (o:=.cells #[.string a0_0,.slice A0_1 l0_1.length c0_1,.int .u8 a0_2,.string a0_3,.slice A0_4 l0_4.length c0_4] 31 (0,0)) (by (with_reducible repeat (first | refine blk_drewN ?_ _ | refine blk_drew ?_ | refine blk_alloc ?_ _)); exact BK344.out)) : gb344 ≠ gb345)); have n6_:=Aside0.mk ((by rw [hg]; exact Nat.ne_of_gt (blk_lt (g:=gb344) (o:=.cells #[.string a0_0,.slice A0_1 l0_1.length c0_1,.int .u8 a0_2,.string a0_3,.slice A0_4 l0_4.length c0_4] 31 (0,0)) (by (with_reducible repeat (first | refine blk_drewN ?_ _ | refine blk_drew ?_ | refine blk_alloc ?_ _)); exact BK344.out)) : gb345 ≠ gb344)); clear BK344; clear HB; have BK344:=n0_; have HB:=n1_; have BK345:=n2_; have GW345:=n3_; have GE345:=n4_; have NB344_345:=n5_; have NB345_344:=n6_; clear n0_ n1_ n2_ n3_ n4_ n5_ n6_; clear hb hbox hg; have hnb21:=NB344_345.out; have hnc21:=NB345_344.out; have hcz22_0 : w20.cell? ⟨gb344,0,none⟩ = some (.string a0_0):=(blk_cell BK344.out 0).trans rfl; have hcz22_1 : w20.cell? ⟨gb344,1,none⟩ = some (.slice A0_1 l0_1.length c0_1):=(blk_cell BK344.out 1).trans rfl; have hcz22_2 : w20.cell? ⟨gb344,2,none⟩ = some (.int .u8 a0_2):=(blk_cell BK344.out 2).trans rfl; have hcz22_3 : w20.cell? ⟨gb344,3,none⟩ = some (.string a0_3):=(blk_cell BK344.out 3).trans rfl; have hcz22_4 : w20.cell? ⟨gb344,4,none⟩ = some (.slice A0_4 l0_4.length c0_4):=(blk_cell BK344.out 4).trans rfl; have hfz22_0:=blk_frozen BK344.out 0; have hfz22_1:=blk_frozen BK344.out 1; have hfz22_2:=blk_frozen BK344.out 2; have hfz22_3:=blk_frozen BK344.out 3; have hfz22_4:=blk_frozen BK344.out 4; have hcz23_0 : w20.cell? ⟨gb345,0,none⟩ = some (.string a1_0):=(blk_cell BK345.out 0).trans rfl; have hcz23_1 : w20.cell? ⟨gb345,1,none⟩ = some (.slice A1_1 l1_1.length c1_1):=(blk_cell BK345.out 1).trans rfl; have hcz23_2 : w20.cell? ⟨gb345,2,none⟩ = some (.int .u8 a1_2):=(blk_cell BK345.out 2).trans rfl; have hcz23_3 : w20.cell? ⟨gb345,3,none⟩ = some (.string a1_3):=(blk_cell BK345.out 3).trans rfl; have hcz23_4 : w20.cell? ⟨gb345,4,none⟩ = some (.slice A1_4 l1_4.length c1_4):=(blk_cell BK345.out 4).trans rfl; have hfz23_0:=blk_frozen BK345.out 0; have hfz23_1:=blk_frozen BK345.out 1; have hfz23_2:=blk_frozen BK345.out 2; have hfz23_3:=blk_frozen BK345.out 3; have hfz23_4:=blk_frozen BK345.out 4) | (go_at_call 51; (with_reducible refine (slices_Equal_string_string.calls k _ _ l0_1 _ _ l1_1 true _ ?side1 ?side2 ?side3 ?side4 A4.out).mono ?_); (case side1 => repeat (first | exact (Kd.C_below HR0_1.out HB.out) | (with_reducible refine Kd.C_alloc ?_ _) | (with_reducible refine Kd.C_drewN ?_ _) | (with_reducible refine Kd.C_drew ?_))); (case side2 => exact HC0_1.out); (case side3 => repeat (first | exact (Kd.C_below HR1_1.out HB.out) | (with_reducible refine Kd.C_alloc ?_ _) | (with_reducible refine Kd.C_drewN ?_ _) | (with_reducible refine Kd.C_drew ?_))); (case side4 => exact HC1_1.out); rintro e w' ⟨rfl,⟨nd,rfl⟩⟩))
    go_ret
    exact ⟨by first | rfl | (simp [errW_none,errW_some] <;> rfl) | (simp [*,errW_none,errW_some] <;> rfl),by repeat (first | (with_reducible first | exact HB.out | apply below_alloc | apply pw_below_drewN | apply below_drew1 | refine below_set ?_ GE344.out | refine below_set ?_ GE345.out) | exact HB.out)⟩
  ·replace c5:=Bool.eq_false_iff.mpr c5
   subst c5
   have H1 : (some false) = some r:=by rw [if_neg (show ¬ (false = true) by decide)] at H; exact H
   clear H
   have H:=H1
   clear H1
   obtain rfl:=Option.some.inj H
   go_enter Tryz.func30,Tryz.ntmps30
   go_wp2_with (first | ((with_reducible refine gate_dst (N:=2) rfl ?_); refine box_event ?hg (N:=2) ?hd (cs:=#[.string a0_0,.slice A0_1 l0_1.length c0_1,.int .u8 a0_2,.string a0_3,.slice A0_4 l0_4.length c0_4]) (t:=31) ?hr ?_; (case hd => rfl); (case hg => rfl); (case hr => first | (go_simp; done) | (go_simp; rfl)); intro gb344 hg w24 hbox hb; have n0_:=Aside0.mk (below_step (by repeat (first | (with_reducible first | exact HB.out | apply below_alloc | apply pw_below_drewN | apply below_drew1) | exact HB.out)) hb); have n1_:=Aside0.mk (hbox); have n2_:=Aside0.mk ((by rw [hg]; exact (below_size (by repeat (first | (with_reducible first | exact HB.out | apply below_alloc | apply pw_below_drewN | apply below_drew1) | exact HB.out))) : w.heap.size ≤ gb344)); have n3_:=Aside0.mk ((by rw [hg]; exact (below_size (by repeat (first | (with_reducible first | exact HB.out | apply below_alloc | apply pw_below_drewN | apply below_drew1) | exact HB.out))) : w.heap.size ≤ gb344)); clear HB; have HB:=n0_; have BK344:=n1_; have GW344:=n2_; have GE344:=n3_; clear n0_ n1_ n2_ n3_; clear hb hbox hg) | ((with_reducible refine gate_dst (N:=3) rfl ?_); refine box_event ?hg (N:=3) ?hd (cs:=#[.string a1_0,.slice A1_1 l1_1.length c1_1,.int .u8 a1_2,.string a1_3,.slice A1_4 l1_4.length c1_4]) (t:=31) ?hr ?_; (case hd => rfl); (case hg => rfl); (case hr => first | (go_simp; done) | (go_simp; rfl)); intro gb345 hg w25 hbox hb; have n0_:=Aside0.mk (blk_below (g:=gb344) (o:=.cells #[.string a0_0,.slice A0_1 l0_1.length c0_1,.int .u8 a0_2,.string a0_3,.slice A0_4 l0_4.length c0_4] 31 (0,0)) (by (with_reducible repeat (first | refine blk_drewN ?_ _ | refine blk_drew ?_ | refine blk_alloc ?_ _)); exact BK344.out) hb); have n1_:=Aside0.mk (below_step (by repeat (first | (with_reducible first | exact HB.out | apply below_alloc | apply pw_below_drewN | apply below_drew1 | refine below_set ?_ GE344.out) | exact HB.out)) hb); have n2_:=Aside0.mk (hbox); have n3_:=Aside0.mk ((by rw [hg]; exact (below_size (by repeat (first | (with_reducible first | exact HB.out | apply below_alloc | apply pw_below_drewN | apply below_drew1 | refine below_set ?_ GE344.out) | exact HB.out))) : w.heap.size ≤ gb345)); have n4_:=Aside0.mk ((by rw [hg]; exact (below_size (by repeat (first | (with_reducible first | exact HB.out | apply below_alloc | apply pw_below_drewN | apply below_drew1 | refine below_set ?_ GE344.out) | exact HB.out))) : w.heap.size ≤ gb345)); have n5_:=Aside0.mk ((by rw [hg]; exact Nat.ne_of_lt (blk_lt (g:=gb344) (o:=.cells #[.string a0_0,.slice A0_1 l0_1.length c0_1,.int .u8 a0_2,.string a0_3,.slice A0_4 l0_4.length c0_4] 31 (0,0)) (by (with_reducible repeat (first | refine blk_drewN ?_ _ | refine blk_drew ?_ | refine blk_alloc ?_ _)); exact BK344.out)) : gb344 ≠ gb345)); have n6_:=Aside0.mk ((by rw [hg]; exact Nat.ne_of_gt (blk_lt (g:=gb344) (o:=.cells #[.string a0_0,.slice A0_1 l0_1.length c0_1,.int .u8 a0_2,.string a0_3,.slice A0_4 l0_4.length c0_4] 31 (0,0)) (by (with_reducible repeat (first | refine blk_drewN ?_ _ | refine blk_drew ?_ | refine blk_alloc ?_ _)); exact BK344.out)) : gb345 ≠ gb344)); clear BK344; clear HB; have BK344:=n0_; have HB:=n1_; have BK345:=n2_; have GW345:=n3_; have GE345:=n4_; have NB344_345:=n5_; have NB345_344:=n6_; clear n0_ n1_ n2_ n3_ n4_ n5_ n6_; clear hb hbox hg; have hnb26:=NB344_345.out; have hnc26:=NB345_344.out; have hcz27_0 : w25.cell? ⟨gb344,0,none⟩ = some (.string a0_0):=(blk_cell BK344.out 0).trans rfl; have hcz27_1 : w25.cell? ⟨gb344,1,none⟩ = some (.slice A0_1 l0_1.length c0_1):=(blk_cell BK344.out 1).trans rfl; have hcz27_2 : w25.cell? ⟨gb344,2,none⟩ = some (.int .u8 a0_2):=(blk_cell BK344.out 2).trans rfl; have hcz27_3 : w25.cell? ⟨gb344,3,none⟩ = some (.string a0_3):=(blk_cell BK344.out 3).trans rfl; have hcz27_4 : w25.cell? ⟨gb344,4,none⟩ = some (.slice A0_4 l0_4.length c0_4):=(blk_cell BK344.out 4).trans rfl; have hfz27_0:=blk_frozen BK344.out 0; have hfz27_1:=blk_frozen BK344.out 1; have hfz27_2:=blk_frozen BK344.out 2; have hfz27_3:=blk_frozen BK344.out 3; have hfz27_4:=blk_frozen BK344.out 4; have hcz28_0 : w25.cell? ⟨gb345,0,none⟩ = some (.string a1_0):=(blk_cell BK345.out 0).trans rfl; have hcz28_1 : w25.cell? ⟨gb345,1,none⟩ = some (.slice A1_1 l1_1.length c1_1):=(blk_cell BK345.out 1).trans rfl; have hcz28_2 : w25.cell? ⟨gb345,2,none⟩ = some (.int .u8 a1_2):=(blk_cell BK345.out 2).trans rfl; have hcz28_3 : w25.cell? ⟨gb345,3,none⟩ = some (.string a1_3):=(blk_cell BK345.out 3).trans rfl; have hcz28_4 : w25.cell? ⟨gb345,4,none⟩ = some (.slice A1_4 l1_4.length c1_4):=(blk_cell BK345.out 4).trans rfl; have hfz28_0:=blk_frozen BK345.out 0; have hfz28_1:=blk_frozen BK345.out 1; have hfz28_2:=blk_frozen BK345.out 2; have hfz28_3:=blk_frozen BK345.out 3; have hfz28_4:=blk_frozen BK345.out 4) | (go_at_call 51; (with_reducible refine (slices_Equal_string_string.calls k _ _ l0_1 _ _ l1_1 false _ ?side1 ?side2 ?side3 ?side4 A4.out).mono ?_); (case side1 => repeat (first | exact (Kd.C_below HR0_1.out HB.out) | (with_reducible refine Kd.C_alloc ?_ _) | (with_reducible refine Kd.C_drewN ?_ _) | (with_reducible refine Kd.C_drew ?_))); (case side2 => exact HC0_1.out); (case side3 => repeat (first | exact (Kd.C_below HR1_1.out HB.out) | (with_reducible refine Kd.C_alloc ?_ _) | (with_reducible refine Kd.C_drewN ?_ _) | (with_reducible refine Kd.C_drew ?_))); (case side4 => exact HC1_1.out); rintro e w' ⟨rfl,⟨nd,rfl⟩⟩))
   go_ret
   exact ⟨by first | rfl | (simp [errW_none,errW_some] <;> rfl) | (simp [*,errW_none,errW_some] <;> rfl),by repeat (first | (with_reducible first | exact HB.out | apply below_alloc | apply pw_below_drewN | apply below_drew1 | refine below_set ?_ GE344.out | refine below_set ?_ GE345.out) | exact HB.out)⟩
 ·rw [if_neg c3] at H
  have c3b0 : (a0_0.toList == a1_0.toList) = false:=beq_eq_false_iff_ne.mpr c3
  have c3b1 : (a0_0.toList != a1_0.toList) = true:=bne_iff_ne.mpr c3
  obtain rfl:=Option.some.inj H
  go_enter Tryz.func30,Tryz.ntmps30
  go_wp2_with (first | ((with_reducible refine gate_dst (N:=2) rfl ?_); refine box_event ?hg (N:=2) ?hd (cs:=#[.string a0_0,.slice A0_1 l0_1.length c0_1,.int .u8 a0_2,.string a0_3,.slice A0_4 l0_4.length c0_4]) (t:=31) ?hr ?_; (case hd => rfl); (case hg => rfl); (case hr => first | (go_simp; done) | (go_simp; rfl)); intro gb344 hg w29 hbox hb; have n0_:=Aside0.mk (below_step (by repeat (first | (with_reducible first | exact HB.out | apply below_alloc | apply pw_below_drewN | apply below_drew1) | exact HB.out)) hb); have n1_:=Aside0.mk (hbox); have n2_:=Aside0.mk ((by rw [hg]; exact (below_size (by repeat (first | (with_reducible first | exact HB.out | apply below_alloc | apply pw_below_drewN | apply below_drew1) | exact HB.out))) : w.heap.size ≤ gb344)); have n3_:=Aside0.mk ((by rw [hg]; exact (below_size (by repeat (first | (with_reducible first | exact HB.out | apply below_alloc | apply pw_below_drewN | apply below_drew1) | exact HB.out))) : w.heap.size ≤ gb344)); clear HB; have HB:=n0_; have BK344:=n1_; have GW344:=n2_; have GE344:=n3_; clear n0_ n1_ n2_ n3_; clear hb hbox hg) | ((with_reducible refine gate_dst (N:=3) rfl ?_); refine box_event ?hg (N:=3) ?hd (cs:=#[.string a1_0,.slice A1_1 l1_1.length c1_1,.int .u8 a1_2,.string a1_3,.slice A1_4 l1_4.length c1_4]) (t:=31) ?hr ?_; (case hd => rfl); (case hg => rfl); (case hr => first | (go_simp; done) | (go_simp; rfl)); intro gb345 hg w30 hbox hb; have n0_:=Aside0.mk (blk_below (g:=gb344) (o:=.cells #[.string a0_0,.slice A0_1 l0_1.length c0_1,.int .u8 a0_2,.string a0_3,.slice A0_4 l0_4.length c0_4] 31 (0,0)) (by (with_reducible repeat (first | refine blk_drewN ?_ _ | refine blk_drew ?_ | refine blk_alloc ?_ _)); exact BK344.out) hb); have n1_:=Aside0.mk (below_step (by repeat (first | (with_reducible first | exact HB.out | apply below_alloc | apply pw_below_drewN | apply below_drew1 | refine below_set ?_ GE344.out) | exact HB.out)) hb); have n2_:=Aside0.mk (hbox); have n3_:=Aside0.mk ((by rw [hg]; exact (below_size (by repeat (first | (with_reducible first | exact HB.out | apply below_alloc | apply pw_below_drewN | apply below_drew1 | refine below_set ?_ GE344.out) | exact HB.out))) : w.heap.size ≤ gb345)); have n4_:=Aside0.mk ((by rw [hg]; exact (below_size (by repeat (first | (with_reducible first | exact HB.out | apply below_alloc | apply pw_below_drewN | apply below_drew1 | refine below_set ?_ GE344.out) | exact HB.out))) : w.heap.size ≤ gb345)); have n5_:=Aside0.mk ((by rw [hg]; exact Nat.ne_of_lt (blk_lt (g:=gb344) (o:=.cells #[.string a0_0,.slice A0_1 l0_1.length c0_1,.int .u8 a0_2,.string a0_3,.slice A0_4 l0_4.length c0_4] 31 (0,0)) (by (with_reducible repeat (first | refine blk_drewN ?_ _ | refine blk_drew ?_ | refine blk_alloc ?_ _)); exact BK344.out)) : gb344 ≠ gb345)); have n6_:=Aside0.mk ((by rw [hg]; exact Nat.ne_of_gt (blk_lt (g:=gb344) (o:=.cells #[.string a0_0,.slice A0_1 l0_1.length c0_1,.int .u8 a0_2,.string a0_3,.slice A0_4 l0_4.length c0_4] 31 (0,0)) (by (with_reducible repeat (first | refine blk_drewN ?_ _ | refine blk_drew ?_ | refine blk_alloc ?_ _)); exact BK344.out)) : gb345 ≠ gb344)); clear BK344; clear HB; have BK344:=n0_; have HB:=n1_; have BK345:=n2_; have GW345:=n3_; have GE345:=n4_; have NB344_345:=n5_; have NB345_344:=n6_; clear n0_ n1_ n2_ n3_ n4_ n5_ n6_; clear hb hbox hg; have hnb31:=NB344_345.out; have hnc31:=NB345_344.out; have hcz32_0 : w30.cell? ⟨gb344,0,none⟩ = some (.string a0_0):=(blk_cell BK344.out 0).trans rfl; have hcz32_1 : w30.cell? ⟨gb344,1,none⟩ = some (.slice A0_1 l0_1.length c0_1):=(blk_cell BK344.out 1).trans rfl; have hcz32_2 : w30.cell? ⟨gb344,2,none⟩ = some (.int .u8 a0_2):=(blk_cell BK344.out 2).trans rfl; have hcz32_3 : w30.cell? ⟨gb344,3,none⟩ = some (.string a0_3):=(blk_cell BK344.out 3).trans rfl; have hcz32_4 : w30.cell? ⟨gb344,4,none⟩ = some (.slice A0_4 l0_4.length c0_4):=(blk_cell BK344.out 4).trans rfl; have hfz32_0:=blk_frozen BK344.out 0; have hfz32_1:=blk_frozen BK344.out 1; have hfz32_2:=blk_frozen BK344.out 2; have hfz32_3:=blk_frozen BK344.out 3; have hfz32_4:=blk_frozen BK344.out 4; have hcz33_0 : w30.cell? ⟨gb345,0,none⟩ = some (.string a1_0):=(blk_cell BK345.out 0).trans rfl; have hcz33_1 : w30.cell? ⟨gb345,1,none⟩ = some (.slice A1_1 l1_1.length c1_1):=(blk_cell BK345.out 1).trans rfl; have hcz33_2 : w30.cell? ⟨gb345,2,none⟩ = some (.int .u8 a1_2):=(blk_cell BK345.out 2).trans rfl; have hcz33_3 : w30.cell? ⟨gb345,3,none⟩ = some (.string a1_3):=(blk_cell BK345.out 3).trans rfl; have hcz33_4 : w30.cell? ⟨gb345,4,none⟩ = some (.slice A1_4 l1_4.length c1_4):=(blk_cell BK345.out 4).trans rfl; have hfz33_0:=blk_frozen BK345.out 0; have hfz33_1:=blk_frozen BK345.out 1; have hfz33_2:=blk_frozen BK345.out 2; have hfz33_3:=blk_frozen BK345.out 3; have hfz33_4:=blk_frozen BK345.out 4))
  go_ret
  exact ⟨by first | rfl | (simp [errW_none,errW_some] <;> rfl) | (simp [*,errW_none,errW_some] <;> rfl),by repeat (first | (with_reducible first | exact HB.out | apply below_alloc | apply pw_below_drewN | apply below_drew1 | refine below_set ?_ GE344.out | refine below_set ?_ GE345.out) | exact HB.out)⟩
end Go.Proofs.YtplbifmjnanceaaGreatDoor.PFnArchive
end
section
namespace Go.Proofs.YtplbifmjnanceaaGreatDoor
open Go.RowKit Go.Proofs.YtplbifmjnanceaaGreatDoorW.PrintWords Go.Proofs.YtplbifmjnanceaaGreatDoorW.PrintLast Go.Proofs.YtplbifmjnanceaaGreatDoorW.PrintMore
open Go.Proofs.YtplbifmjnanceaaGreatDoor.PFnArchive
set_option linter.unusedVariables false
set_option linter.unusedSimpArgs false
theorem loop_total {α : Type} (L : List α) (hL : L.length ≤ 2147483648) (g : Nat → Int → Option Bool) (F : Nat → α → Option Bool) (Q : α → Prop)
  (hg : ∀ i k,LeO (g k i) (g (k + 1) i)) (hFm : ∀ x k,LeO (F k x) (F (k + 1) x))
  (hend : g 1 (L.length : Int) = some true)
  (hstep : ∀ k (i : Nat) x,i < L.length → L[i]? = some x → g (k + 1) (i : Int) = (F k x).bind fun t => if t = true then g k ((i + 1 : Nat) : Int) else some false)
  (hF : ∀ x ∈ L,∃ k r,F k x = some r ∧ (r = true → Q x)) : ∃ k r,g k 0 = some r ∧ (r = true → ∀ x ∈ L,Q x):=by
 have main : ∀ (m i : Nat),L.length - i = m → i ≤ L.length → ∃ k r,g k (i : Int) = some r ∧ (r = true → ∀ (j : Nat) x,i ≤ j → L[j]? = some x → Q x):=by
  intro m
  induction m with
  | zero =>
   intro i h1 h2
   obtain rfl : i = L.length:=by omega
   exact ⟨1,true,hend,fun _ j x h3 h4 => by have:=get_lt h4; omega⟩
  | succ m ih =>
   intro i h1 h2
   obtain ⟨k2,r2,h3,h4⟩:=ih (i + 1) (by omega) (by omega)
   obtain ⟨x,hx⟩ : ∃ x,L[i]? = some x:=⟨L[i],List.getElem?_eq_getElem (by omega)⟩
   obtain ⟨k1,r1,h5,h6⟩:=hF x (List.mem_of_getElem? hx)
   have h7:=hstep (k1 + k2) i x (by omega) hx
   rw [at_rounds (g:=fun k => F k x) (hFm x) (Nat.le_add_right k1 k2) h5] at h7
   cases r1 with
   | false => exact ⟨_,false,h7,fun h => by cases h⟩
   | true =>
    refine ⟨_,r2,h7.trans (at_rounds (g:=fun k => g k ((i + 1 : Nat) : Int)) (hg _) (Nat.le_add_left k2 k1) h3),fun hr j y h8 h9 => ?_⟩
    rcases Nat.eq_or_lt_of_le h8 with e | e
    ·subst e
     rw [hx] at h9
     injection h9 with h9
     subst h9
     exact h6 rfl
    ·exact h4 hr j y e h9
 obtain ⟨k,r,h1,h2⟩:=main L.length 0 (by omega) (Nat.zero_le _)
 refine ⟨k,r,h1,fun hr x hx => ?_⟩
 obtain ⟨j,hj⟩:=List.getElem?_of_mem hx
 exact h2 hr j x (Nat.zero_le _) hj
theorem rd35 {xs : List S35} {i : Nat} {x : S35} (h : xs[i]? = some x) : rd_T35 xs (i : Int) = x:=by
 unfold rd_T35; rw [Int.toNat_natCast,List.getD_eq_getElem?_getD,h]; rfl
theorem rd56 {xs : List S56} {i : Nat} {x : S56} (h : xs[i]? = some x) : rd_T56 xs (i : Int) = x:=by
 unfold rd_T56; rw [Int.toNat_natCast,List.getD_eq_getElem?_getD,h]; rfl
theorem rd31 {xs : List S31} {i : Nat} {x : S31} (h : xs[i]? = some x) : rd_T31 xs (i : Int) = x:=by
 unfold rd_T31; rw [Int.toNat_natCast,List.getD_eq_getElem?_getD,h]; rfl
def FitsF (x : S35) : Prop:=x.f0.size ≤ 2147483647 ∧ x.f1.size ≤ 2147483647
def FitsS (l : List ByteArray) : Prop:=l.length ≤ 2147483647 ∧ ∀ s ∈ l,s.size ≤ 2147483647
def FitsC (l : List S56) : Prop:=l.length ≤ 2147483647 ∧ ∀ x ∈ l,x.f4.size ≤ 2147483647
def FitsR (x : S31) : Prop:=x.f0.size ≤ 2147483647 ∧ FitsS x.f1 ∧ x.f3.size ≤ 2147483647 ∧ FitsC x.f4
theorem fits9 (a b : ByteArray) : ∃ r,laws_zzFits9.f a b = some r ∧ (r = true → a.size ≤ 2147483647 ∧ b.size ≤ 2147483647):=by
 unfold laws_zzFits9.f
 split
 ·exact ⟨false,rfl,fun h => by cases h⟩
 ·split
  ·exact ⟨false,rfl,fun h => by cases h⟩
  ·exact ⟨true,rfl,fun _ => ⟨by omega,by omega⟩⟩
theorem fits8 (L : List S35) : ∃ k r,laws_zzFits8.f k L = some r ∧ (r = true → L.length ≤ 2147483647 ∧ ∀ x ∈ L,FitsF x):=by
 by_cases c : (L.length : Int) > 2147483647
 ·exact ⟨0,false,by unfold laws_zzFits8.f; rw [if_pos c],fun h => by cases h⟩
 ·obtain ⟨k,r,h1,h2⟩:=loop_total L (by omega) (fun k i => laws_zzFits8.l0 k L (L.length : Int) i) (fun k x => laws_zzFits9.f x.f0 x.f1) FitsF
   (fun i k => laws_zzFits8.mono_l k _ _ _) (fun x k => LeO.refl _) (by show laws_zzFits8.l0 1 L _ _ = _; unfold laws_zzFits8.l0; rw [if_neg (by omega)])
   (fun k i x hi hx => by
    show laws_zzFits8.l0 (k + 1) L _ _ = _
    conv => lhs; unfold laws_zzFits8.l0
    have e1 : wrap64 ((i : Int) + 1) = ((i + 1 : Nat) : Int):=by unfold wrap64; omega
    rw [if_pos (by omega),if_pos (by omega),if_pos (by omega),rd35 hx,e1])
   (fun x _ => by obtain ⟨r,h1,h2⟩:=fits9 x.f0 x.f1; exact ⟨0,r,h1,h2⟩)
  exact ⟨k,r,by unfold laws_zzFits8.f; rw [if_neg c]; exact h1,fun hr => ⟨by omega,h2 hr⟩⟩
theorem fits4 (L : List ByteArray) : ∃ k r,laws_zzFits4.f k L = some r ∧ (r = true → FitsS L):=by
 by_cases c : (L.length : Int) > 2147483647
 ·exact ⟨0,false,by unfold laws_zzFits4.f; rw [if_pos c],fun h => by cases h⟩
 ·obtain ⟨k,r,h1,h2⟩:=loop_total L (by omega) (fun k i => laws_zzFits4.l0 k L (L.length : Int) i) (fun k x => if (x.size : Int) > 2147483647 then some false else some true) (fun x => x.size ≤ 2147483647)
   (fun i k => laws_zzFits4.mono_l k _ _ _) (fun x k => LeO.refl _) (by show laws_zzFits4.l0 1 L _ _ = _; unfold laws_zzFits4.l0; rw [if_neg (by omega)])
   (fun k i x hi hx => by
    show laws_zzFits4.l0 (k + 1) L _ _ = _
    conv => lhs; unfold laws_zzFits4.l0
    have e1 : wrap64 ((i : Int) + 1) = ((i + 1 : Nat) : Int):=by unfold wrap64; omega
    rw [if_pos (by omega),if_pos (by omega),if_pos (by omega),rd_get hx,e1]
    split <;> rfl)
   (fun x _ => by
    by_cases c2 : (x.size : Int) > 2147483647
    ·exact ⟨0,false,by rw [if_pos c2],fun h => by cases h⟩
    ·exact ⟨0,true,by rw [if_neg c2],fun _ => by omega⟩)
  exact ⟨k,r,by unfold laws_zzFits4.f; rw [if_neg c]; exact h1,fun hr => ⟨by omega,h2 hr⟩⟩
theorem fits5 (L : List S56) : ∃ k r,laws_zzFits5.f k L = some r ∧ (r = true → FitsC L):=by
 by_cases c : (L.length : Int) > 2147483647
 ·exact ⟨0,false,by unfold laws_zzFits5.f; rw [if_pos c],fun h => by cases h⟩
 ·obtain ⟨k,r,h1,h2⟩:=loop_total L (by omega) (fun k i => laws_zzFits5.l0 k L (L.length : Int) i) (fun k x => laws_zzFits6.f x.f0 x.f1 x.f2 x.f3 x.f4) (fun x => x.f4.size ≤ 2147483647)
   (fun i k => laws_zzFits5.mono_l k _ _ _) (fun x k => LeO.refl _) (by show laws_zzFits5.l0 1 L _ _ = _; unfold laws_zzFits5.l0; rw [if_neg (by omega)])
   (fun k i x hi hx => by
    show laws_zzFits5.l0 (k + 1) L _ _ = _
    conv => lhs; unfold laws_zzFits5.l0
    have e1 : wrap64 ((i : Int) + 1) = ((i + 1 : Nat) : Int):=by unfold wrap64; omega
    rw [if_pos (by omega),if_pos (by omega),if_pos (by omega),rd56 hx,e1])
   (fun x _ => by
    unfold laws_zzFits6.f
    by_cases c2 : (x.f4.size : Int) > 2147483647
    ·exact ⟨0,false,by rw [if_pos c2],fun h => by cases h⟩
    ·exact ⟨0,true,by rw [if_neg c2],fun _ => by omega⟩)
  exact ⟨k,r,by unfold laws_zzFits5.f; rw [if_neg c]; exact h1,fun hr => ⟨by omega,h2 hr⟩⟩
theorem fits3 (x : S31) : ∃ k r,laws_zzFits3.f k x.f0 x.f1 x.f2 x.f3 x.f4 = some r ∧ (r = true → FitsR x):=by
 obtain ⟨k1,r1,h1,g1⟩:=fits4 x.f1
 obtain ⟨k2,r2,h2,g2⟩:=fits5 x.f4
 have h1':=at_rounds (g:=fun k => laws_zzFits4.f k x.f1) (fun k => laws_zzFits4.mono _ k) (Nat.le_add_right k1 k2) h1
 have h2':=at_rounds (g:=fun k => laws_zzFits5.f k x.f4) (fun k => laws_zzFits5.mono _ k) (Nat.le_add_left k2 k1) h2
 by_cases c0 : (x.f0.size : Int) > 2147483647
 ·exact ⟨0,false,by unfold laws_zzFits3.f; rw [if_pos c0],fun h => by cases h⟩
 ·cases r1 with
  | false => exact ⟨k1 + k2,false,by unfold laws_zzFits3.f; rw [if_neg c0,h1']; rfl,fun h => by cases h⟩
  | true =>
   by_cases c3 : (x.f3.size : Int) > 2147483647
   ·exact ⟨k1 + k2,false,by unfold laws_zzFits3.f; rw [if_neg c0,h1']; simp only [Option.bind_some,if_true]; rw [if_pos c3],fun h => by cases h⟩
   ·refine ⟨k1 + k2,r2,?_,fun hr => ⟨by omega,g1 rfl,by omega,g2 hr⟩⟩
    unfold laws_zzFits3.f
    rw [if_neg c0,h1']
    simp only [Option.bind_some,if_true]
    rw [if_neg c3,h2']
    cases r2 <;> rfl
theorem fits10 (L : List S31) : ∃ k r,laws_zzFits10.f k L = some r ∧ (r = true → L.length ≤ 2147483647 ∧ ∀ x ∈ L,FitsR x):=by
 by_cases c : (L.length : Int) > 2147483647
 ·exact ⟨0,false,by unfold laws_zzFits10.f; rw [if_pos c],fun h => by cases h⟩
 ·obtain ⟨k,r,h1,h2⟩:=loop_total L (by omega) (fun k i => laws_zzFits10.l0 k L (L.length : Int) i) (fun k x => laws_zzFits3.f k x.f0 x.f1 x.f2 x.f3 x.f4) FitsR
   (fun i k => laws_zzFits10.mono_l k _ _ _) (fun x k => laws_zzFits3.mono _ _ _ _ _ k) (by show laws_zzFits10.l0 1 L _ _ = _; unfold laws_zzFits10.l0; rw [if_neg (by omega)])
   (fun k i x hi hx => by
    show laws_zzFits10.l0 (k + 1) L _ _ = _
    conv => lhs; unfold laws_zzFits10.l0
    have e1 : wrap64 ((i : Int) + 1) = ((i + 1 : Nat) : Int):=by unfold wrap64; omega
    rw [if_pos (by omega),if_pos (by omega),if_pos (by omega),rd31 hx,e1])
   (fun x _ => fits3 x)
  exact ⟨k,r,by unfold laws_zzFits10.f; rw [if_neg c]; exact h1,fun hr => ⟨by omega,h2 hr⟩⟩
theorem fits7 (L : List S35) (R : List S31) : ∃ k r,laws_zzFits7.f k L R = some r ∧ (r = true → (L.length ≤ 2147483647 ∧ ∀ x ∈ L,FitsF x) ∧ R.length ≤ 2147483647 ∧ ∀ x ∈ R,FitsR x):=by
 obtain ⟨k1,r1,h1,g1⟩:=fits8 L
 obtain ⟨k2,r2,h2,g2⟩:=fits10 R
 have h1':=at_rounds (g:=fun k => laws_zzFits8.f k L) (fun k => laws_zzFits8.mono _ k) (Nat.le_add_right k1 k2) h1
 have h2':=at_rounds (g:=fun k => laws_zzFits10.f k R) (fun k => laws_zzFits10.mono _ k) (Nat.le_add_left k2 k1) h2
 cases r1 with
 | false => exact ⟨k1 + k2,false,by unfold laws_zzFits7.f; rw [h1']; rfl,fun h => by cases h⟩
 | true =>
  refine ⟨k1 + k2,r2,?_,fun hr => ⟨g1 rfl,g2 hr⟩⟩
  unfold laws_zzFits7.f
  rw [h1']
  simp only [Option.bind_some,if_true]
  rw [h2']
  cases r2 <;> rfl
theorem loop_true {α : Type} (L : List α) (g : Nat → Int → Option Bool) (hend : g 1 (L.length : Int) = some true)
  (hstep : ∀ k (i : Nat) x,i < L.length → L[i]? = some x → g (k + 1) (i : Int) = g k ((i + 1 : Nat) : Int)) : ∃ k,g k 0 = some true:=by
 have main : ∀ (m i : Nat),L.length - i = m → i ≤ L.length → g (m + 1) (i : Int) = some true:=by
  intro m
  induction m with
  | zero =>
   intro i h1 h2
   obtain rfl : i = L.length:=by omega
   exact hend
  | succ m ih =>
   intro i h1 h2
   exact (hstep (m + 1) i L[i] (by omega) (List.getElem?_eq_getElem (by omega))).trans (ih (i + 1) (by omega) (by omega))
 exact ⟨_,main L.length 0 (by omega) (Nat.zero_le _)⟩
theorem file_same (L : List S35) (hL : L.length ≤ 2147483647) : ∃ k,spec_File.f k L L = some true:=by
 obtain ⟨k,h⟩:=loop_true L (fun k i => spec_File.l0 k L L (L.length : Int) i) (by show spec_File.l0 1 L L _ _ = _; unfold spec_File.l0; rw [if_neg (by omega)])
   (fun k i x hi hx => by
    show spec_File.l0 (k + 1) L L _ _ = _
    conv => lhs; unfold spec_File.l0
    have e1 : wrap64 ((i : Int) + 1) = ((i + 1 : Nat) : Int):=by unfold wrap64; omega
    rw [if_pos (by omega),if_pos (by omega),if_pos (by omega),if_pos (by omega),rd35 hx,e1]
    simp)
 exact ⟨k,by unfold spec_File.f; rw [if_pos rfl]; exact h⟩
theorem strs_same (L : List ByteArray) (hL : L.length ≤ 2147483647) : ∃ k,slices_Equal_string_string.f k L L = some true:=by
 obtain ⟨k,h⟩:=loop_true L (fun k i => slices_Equal_string_string.l0 k L L (L.length : Int) i) (by show slices_Equal_string_string.l0 1 L L _ _ = _; unfold slices_Equal_string_string.l0; rw [if_neg (by omega)])
   (fun k i x hi hx => by
    show slices_Equal_string_string.l0 (k + 1) L L _ _ = _
    conv => lhs; unfold slices_Equal_string_string.l0
    have e1 : wrap64 ((i : Int) + 1) = ((i + 1 : Nat) : Int):=by unfold wrap64; omega
    rw [if_pos (by omega),if_pos (by omega),if_pos (by omega),if_pos (by omega),rd_get hx,e1,if_pos rfl])
 exact ⟨k,by unfold slices_Equal_string_string.f; rw [if_pos rfl]; exact h⟩
theorem cmds_same (L : List S56) (hL : L.length ≤ 2147483647) : ∃ k,spec_Cmd_52.f k L L = some true:=by
 obtain ⟨k,h⟩:=loop_true L (fun k i => spec_Cmd_52.l0 k L L (L.length : Int) i) (by show spec_Cmd_52.l0 1 L L _ _ = _; unfold spec_Cmd_52.l0; rw [if_neg (by omega)])
   (fun k i x hi hx => by
    show spec_Cmd_52.l0 (k + 1) L L _ _ = _
    conv => lhs; unfold spec_Cmd_52.l0
    have e1 : wrap64 ((i : Int) + 1) = ((i + 1 : Nat) : Int):=by unfold wrap64; omega
    rw [if_pos (by omega),if_pos (by omega),if_pos (by omega),if_pos (by omega),rd56 hx,e1]
    simp)
 exact ⟨k,by unfold spec_Cmd_52.f; rw [if_pos rfl]; exact h⟩
theorem rule_same (x : S31) (h1 : x.f1.length ≤ 2147483647) (h4 : x.f4.length ≤ 2147483647) : ∃ k,spec_SameRule.f k x.f0 x.f1 x.f2 x.f3 x.f4 x.f0 x.f1 x.f2 x.f3 x.f4 = some true:=by
 obtain ⟨k1,g1⟩:=strs_same x.f1 h1
 obtain ⟨k2,g2⟩:=cmds_same x.f4 h4
 have g1':=at_rounds (g:=fun k => slices_Equal_string_string.f k x.f1 x.f1) (fun k => slices_Equal_string_string.mono _ _ k) (Nat.le_add_right k1 k2) g1
 have g2':=at_rounds (g:=fun k => spec_Cmd_52.f k x.f4 x.f4) (fun k => spec_Cmd_52.mono _ _ k) (Nat.le_add_left k2 k1) g2
 refine ⟨k1 + k2,?_⟩
 unfold spec_SameRule.f
 rw [if_pos rfl,g1']
 simp only [Option.bind_some,if_true]
 rw [g2']
 rfl
end Go.Proofs.YtplbifmjnanceaaGreatDoor
end
