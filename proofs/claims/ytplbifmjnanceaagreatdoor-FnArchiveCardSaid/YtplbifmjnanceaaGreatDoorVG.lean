/- The walk through the checks that the values fit. -/
import Derived.Test.YtplbifmjnanceaaGreatDoorVD
namespace Go.Proofs.YtplbifmjnanceaaGreatDoor.PFnArchive
open Go.RowKit Go.Proofs.YtplbifmjnanceaaGreatDoorW.PrintWords Go.Proofs.YtplbifmjnanceaaGreatDoorW.PrintLast Go.Proofs.YtplbifmjnanceaaGreatDoorW.PrintMore
attribute [local go_sem] max2_int min2_int max_two min_two max_three min_three max_four min_four
set_option linter.unusedVariables false
set_option linter.unusedSimpArgs false
def laws_zzFits9.f (a0_0 : ByteArray) (a0_1 : ByteArray) : Option (Bool):=if (a0_0.size : Int) > 2147483647 then (some false) else (if (a0_1.size : Int) > 2147483647 then (some false) else (some true))
set_option maxHeartbeats 8000000 in
set_option maxRecDepth 100000 in
theorem laws_zzFits9.calls (a0_0 : ByteArray) (a0_1 : ByteArray) (r : Bool) (w : World) (h : laws_zzFits9.f a0_0 a0_1 = some r) :
  Calls Tryz.prog 31 #[.agg #[.string a0_0,.string a0_1]] w fun e w' => e = .returned (.bool r) ∧ Below w.heap.size w w':=by
 have hu35:=Tryz.underlying35
 have HB:=Aside0.mk (Below.refl w.heap.size w)
 have H : (if (a0_0.size : Int) > 2147483647 then (some false) else (if (a0_1.size : Int) > 2147483647 then (some false) else (some true))) = some r:=h
 clear h
 by_cases c2 : (a0_0.size : Int) > 2147483647
 ·rw [if_pos c2] at H
  have c2b0 : decide (2147483647 < (a0_0.size : Int)) = true:=decide_eq_true c2
  have c2b1 : decide (2147483647 < a0_0.size) = true:=decide_eq_true (by omega)
  clear c2
  obtain rfl:=Option.some.inj H
  go_enter Tryz.func31,Tryz.ntmps31
  go_wp2_with (first | ((with_reducible refine gate_dst (N:=1) rfl ?_); refine box_event ?hg (N:=1) ?hd (cs:=#[.string a0_0,.string a0_1]) (t:=35) ?hr ?_; (case hd => rfl); (case hg => rfl); (case hr => first | (go_simp; done) | (go_simp; rfl)); intro gb101 hg w3 hbox hb; have n0_:=Aside0.mk (below_step (by repeat (first | (with_reducible first | exact HB.out | apply below_alloc | apply pw_below_drewN | apply below_drew1) | exact HB.out)) hb); have n1_:=Aside0.mk (hbox); have n2_:=Aside0.mk ((by rw [hg]; exact (below_size (by repeat (first | (with_reducible first | exact HB.out | apply below_alloc | apply pw_below_drewN | apply below_drew1) | exact HB.out))) : w.heap.size ≤ gb101)); have n3_:=Aside0.mk ((by rw [hg]; exact (below_size (by repeat (first | (with_reducible first | exact HB.out | apply below_alloc | apply pw_below_drewN | apply below_drew1) | exact HB.out))) : w.heap.size ≤ gb101)); clear HB; have HB:=n0_; have BK101:=n1_; have GW101:=n2_; have GE101:=n3_; clear n0_ n1_ n2_ n3_; clear hb hbox hg; have hcz4_0 : w3.cell? ⟨gb101,0,none⟩ = some (.string a0_0):=(blk_cell BK101.out 0).trans rfl; have hcz4_1 : w3.cell? ⟨gb101,1,none⟩ = some (.string a0_1):=(blk_cell BK101.out 1).trans rfl; have hfz4_0:=blk_frozen BK101.out 0; have hfz4_1:=blk_frozen BK101.out 1))
  go_ret
  exact ⟨by first | rfl | (simp [errW_none,errW_some] <;> rfl) | (simp [*,errW_none,errW_some] <;> rfl),by repeat (first | (with_reducible first | exact HB.out | apply below_alloc | apply pw_below_drewN | apply below_drew1 | refine below_set ?_ GE101.out) | exact HB.out)⟩
 ·rw [if_neg c2] at H
  have c2b0 : decide (2147483647 < (a0_0.size : Int)) = false:=decide_eq_false c2
  have c2b1 : decide (2147483647 < a0_0.size) = false:=decide_eq_false (by omega)
  clear c2
  by_cases c5 : (a0_1.size : Int) > 2147483647
  ·rw [if_pos c5] at H
   have c5b0 : decide (2147483647 < (a0_1.size : Int)) = true:=decide_eq_true c5
   have c5b1 : decide (2147483647 < a0_1.size) = true:=decide_eq_true (by omega)
   clear c5
   obtain rfl:=Option.some.inj H
   go_enter Tryz.func31,Tryz.ntmps31
   go_wp2_with (first | ((with_reducible refine gate_dst (N:=1) rfl ?_); refine box_event ?hg (N:=1) ?hd (cs:=#[.string a0_0,.string a0_1]) (t:=35) ?hr ?_; (case hd => rfl); (case hg => rfl); (case hr => first | (go_simp; done) | (go_simp; rfl)); intro gb101 hg w6 hbox hb; have n0_:=Aside0.mk (below_step (by repeat (first | (with_reducible first | exact HB.out | apply below_alloc | apply pw_below_drewN | apply below_drew1) | exact HB.out)) hb); have n1_:=Aside0.mk (hbox); have n2_:=Aside0.mk ((by rw [hg]; exact (below_size (by repeat (first | (with_reducible first | exact HB.out | apply below_alloc | apply pw_below_drewN | apply below_drew1) | exact HB.out))) : w.heap.size ≤ gb101)); have n3_:=Aside0.mk ((by rw [hg]; exact (below_size (by repeat (first | (with_reducible first | exact HB.out | apply below_alloc | apply pw_below_drewN | apply below_drew1) | exact HB.out))) : w.heap.size ≤ gb101)); clear HB; have HB:=n0_; have BK101:=n1_; have GW101:=n2_; have GE101:=n3_; clear n0_ n1_ n2_ n3_; clear hb hbox hg; have hcz7_0 : w6.cell? ⟨gb101,0,none⟩ = some (.string a0_0):=(blk_cell BK101.out 0).trans rfl; have hcz7_1 : w6.cell? ⟨gb101,1,none⟩ = some (.string a0_1):=(blk_cell BK101.out 1).trans rfl; have hfz7_0:=blk_frozen BK101.out 0; have hfz7_1:=blk_frozen BK101.out 1))
   go_ret
   exact ⟨by first | rfl | (simp [errW_none,errW_some] <;> rfl) | (simp [*,errW_none,errW_some] <;> rfl),by repeat (first | (with_reducible first | exact HB.out | apply below_alloc | apply pw_below_drewN | apply below_drew1 | refine below_set ?_ GE101.out) | exact HB.out)⟩
  ·rw [if_neg c5] at H
   have c5b0 : decide (2147483647 < (a0_1.size : Int)) = false:=decide_eq_false c5
   have c5b1 : decide (2147483647 < a0_1.size) = false:=decide_eq_false (by omega)
   clear c5
   obtain rfl:=Option.some.inj H
   go_enter Tryz.func31,Tryz.ntmps31
   go_wp2_with (first | ((with_reducible refine gate_dst (N:=1) rfl ?_); refine box_event ?hg (N:=1) ?hd (cs:=#[.string a0_0,.string a0_1]) (t:=35) ?hr ?_; (case hd => rfl); (case hg => rfl); (case hr => first | (go_simp; done) | (go_simp; rfl)); intro gb101 hg w8 hbox hb; have n0_:=Aside0.mk (below_step (by repeat (first | (with_reducible first | exact HB.out | apply below_alloc | apply pw_below_drewN | apply below_drew1) | exact HB.out)) hb); have n1_:=Aside0.mk (hbox); have n2_:=Aside0.mk ((by rw [hg]; exact (below_size (by repeat (first | (with_reducible first | exact HB.out | apply below_alloc | apply pw_below_drewN | apply below_drew1) | exact HB.out))) : w.heap.size ≤ gb101)); have n3_:=Aside0.mk ((by rw [hg]; exact (below_size (by repeat (first | (with_reducible first | exact HB.out | apply below_alloc | apply pw_below_drewN | apply below_drew1) | exact HB.out))) : w.heap.size ≤ gb101)); clear HB; have HB:=n0_; have BK101:=n1_; have GW101:=n2_; have GE101:=n3_; clear n0_ n1_ n2_ n3_; clear hb hbox hg; have hcz9_0 : w8.cell? ⟨gb101,0,none⟩ = some (.string a0_0):=(blk_cell BK101.out 0).trans rfl; have hcz9_1 : w8.cell? ⟨gb101,1,none⟩ = some (.string a0_1):=(blk_cell BK101.out 1).trans rfl; have hfz9_0:=blk_frozen BK101.out 0; have hfz9_1:=blk_frozen BK101.out 1))
   go_ret
   exact ⟨by first | rfl | (simp [errW_none,errW_some] <;> rfl) | (simp [*,errW_none,errW_some] <;> rfl),by repeat (first | (with_reducible first | exact HB.out | apply below_alloc | apply pw_below_drewN | apply below_drew1 | refine below_set ?_ GE101.out) | exact HB.out)⟩
def laws_zzFits8.l0 : Nat → List (S35) → Int → Int → Option (Bool)
 | 0,_,_,_ => none
 | k + 1,x8,x9,x10 => if x10 < x9 then (if 0 ≤ x10 then (if x10 < (x8.length : Int) then ((laws_zzFits9.f ((rd_T35 x8 x10).f0) ((rd_T35 x8 x10).f1)).bind fun t104 => (if t104 = true then (laws_zzFits8.l0 k x8 x9 (wrap64 (x10 + 1))) else (some false))) else (none)) else (none)) else (some true)
def laws_zzFits8.f (k : Nat) (l0 : List (S35)) : Option (Bool):=if (l0.length : Int) > 2147483647 then (some false) else (laws_zzFits8.l0 k l0 (l0.length : Int) 0)
theorem laws_zzFits8.mono_l : ∀ k,(∀ y0 y1 y2,LeO (laws_zzFits8.l0 k y0 y1 y2) (laws_zzFits8.l0 (k + 1) y0 y1 y2))
 | 0 => fun _ _ _ r h => by simp [laws_zzFits8.l0] at h
 | k + 1 => by
  have ih0:=laws_zzFits8.mono_l k
  ·intro y0 y1 y2
   unfold laws_zzFits8.l0
   repeat' first
   | (with_reducible exact ih0 _ _ _)
   | (with_reducible exact LeO.refl _)
   | (with_reducible exact LeO.none _)
   | (with_reducible refine LeO.ite ?_ ?_)
   | (with_reducible refine LeO.bind ?_ (fun _ => ?_))
   | exact ih0 _ _ _
   | exact LeO.none _
   | refine LeO.ite ?_ ?_
   | refine LeO.bind ?_ (fun _ => ?_)
theorem laws_zzFits8.mono : ∀ a0 k,LeO (laws_zzFits8.f k a0) (laws_zzFits8.f (k + 1) a0):=by
 intro a0 k
 have ih0:=laws_zzFits8.mono_l k
 unfold laws_zzFits8.f
 repeat' first
   | (with_reducible exact ih0 _ _ _)
   | (with_reducible exact LeO.refl _)
   | (with_reducible exact LeO.none _)
   | (with_reducible refine LeO.ite ?_ ?_)
   | (with_reducible refine LeO.bind ?_ (fun _ => ?_))
   | exact ih0 _ _ _
   | exact LeO.none _
   | refine LeO.ite ?_ ?_
   | refine LeO.bind ?_ (fun _ => ?_)
set_option maxHeartbeats 8000000 in
set_option maxRecDepth 100000 in
theorem laws_zzFits8.calls (k : Nat) (A0 : Option Addr) (c0 : Nat) (l0 : List (S35)) (r : Bool) (w : World) (hr0 : Kd.C k35 w A0 l0.length l0) (hc0 : l0.length ≤ c0) (h : laws_zzFits8.f k l0 = some r) :
  Calls Tryz.prog 13 #[.slice A0 l0.length c0] w fun e w' => e = .returned (.bool r) ∧ Below w.heap.size w w':=by
 have hu35:=Tryz.underlying35
 have HR0:=Aside0.mk hr0
 have HC0:=Aside0.mk hc0
 clear hr0 hc0
 have HB:=Aside0.mk (Below.refl w.heap.size w)
 have H : (if (l0.length : Int) > 2147483647 then (some false) else (laws_zzFits8.l0 k l0 (l0.length : Int) 0)) = some r:=h
 clear h
 by_cases c2 : (l0.length : Int) > 2147483647
 ·rw [if_pos c2] at H
  have c2b0 : decide (2147483647 < (l0.length : Int)) = true:=decide_eq_true c2
  have c2b1 : decide (2147483647 < l0.length) = true:=decide_eq_true (by omega)
  clear c2
  obtain rfl:=Option.some.inj H
  go_enter Tryz.func13,Tryz.ntmps13
  go_wp2
  go_ret
  exact ⟨by first | rfl | (simp [errW_none,errW_some] <;> rfl) | (simp [*,errW_none,errW_some] <;> rfl),by repeat (first | (with_reducible first | exact HB.out | apply below_alloc | apply pw_below_drewN | apply below_drew1) | exact HB.out)⟩
 ·rw [if_neg c2] at H
  have c2b0 : decide (2147483647 < (l0.length : Int)) = false:=decide_eq_false c2
  have c2b1 : decide (2147483647 < l0.length) = false:=decide_eq_false (by omega)
  clear c2
  have H':=Aside0.mk H
  clear H
  go_enter Tryz.func13,Tryz.ntmps13
  go_wp2
  go_loopg [10] k (fun kq v10 w' => ∃ (x10_1 : Int),v10 = .int .i64 x10_1 ∧ Aside0 (laws_zzFits8.l0 kq l0 (l0.length : Int) x10_1 = some r) ∧ Aside0 (kq ≤ k) ∧ Aside0 (Below w.heap.size w w'))
  case atStart => exact ⟨(0),(by first | rfl | (simp; done) | (simp [*]; done)),H',⟨Nat.le_refl _⟩,⟨by repeat (first | (with_reducible first | exact HB.out | apply below_alloc | apply pw_below_drewN | apply below_drew1) | exact HB.out)⟩⟩
  case round =>
   clear H'
   try clear c1
   try clear c2
   try clear c2b0
   try clear c2b1
   try clear p2
   obtain ⟨x10_1,rfl,HA,HK1,HB⟩:=hrel
   cases gk with
   | zero => exact absurd HA.out (by simp [laws_zzFits8.l0])
   | succ k1 =>
    have H:=HA.out
    clear HA
    simp only [laws_zzFits8.l0] at H
    by_cases c3 : x10_1 < (l0.length : Int)
    ·rw [if_pos c3] at H
     have c3b0 : decide (x10_1 < (l0.length : Int)) = true:=decide_eq_true c3
     clear c3
     by_cases c4 : 0 ≤ x10_1
     ·rw [if_pos c4] at H
      have c4b0 : decide (0 ≤ x10_1) = true:=decide_eq_true c4
      clear c4
      by_cases c5 : x10_1 < (l0.length : Int)
      ·rw [if_pos c5] at H
       have c5b0 : decide (x10_1 < (l0.length : Int)) = true:=decide_eq_true c5
       clear c5
       replace H:=Option.bind_eq_some_iff.mp H
       obtain ⟨t104,A60,H⟩:=H
       replace H : (if t104 = true then (laws_zzFits8.l0 k1 l0 (l0.length : Int) (wrap64 (x10_1 + 1))) else (some false)) = some r:=H
       have A6:=Aside0.mk A60
       clear A60
       by_cases c7 : t104 = true
       ·subst c7
        have H1 : (laws_zzFits8.l0 k1 l0 (l0.length : Int) (wrap64 (x10_1 + 1))) = some r:=by rw [if_pos rfl] at H; exact H
        clear H
        have H:=H1
        clear H1
        have H':=Aside0.mk H
        clear H
        have p102 : 0 ≤ (x10_1 : Int):=of_decide_eq_true (by first | (with_reducible assumption) | assumption)
        have q102 : x10_1 < (l0.length : Int):=of_decide_eq_true (by first | (with_reducible assumption) | assumption)
        obtain ⟨ad102,e102,hx102_0,hx102_1⟩:=at_T35 HR0.out x10_1 p102 q102
        cases e102
        replace hx102_0:=(HB.out.cell (World.block_lt_of_cell? w _ hx102_0)).trans hx102_0
        replace hx102_1:=(HB.out.cell (World.block_lt_of_cell? w _ hx102_1)).trans hx102_1
        replace p102:=eq_true p102
        replace q102:=eq_true q102
        go_wp2_with (first | ((with_reducible refine gate_dst (N:=4) rfl ?_); refine box_event ?hg (N:=4) ?hd (cs:=#[.string (⟨#[]⟩ : ByteArray),.string (⟨#[]⟩ : ByteArray)]) (t:=35) ?hr ?_; (case hd => rfl); (case hg => rfl); (case hr => first | (go_simp; done) | (go_simp; rfl)); intro gb103 hg w8 hbox hb; have n0_:=Aside0.mk (below_step (by repeat (first | (with_reducible first | exact HB.out | apply below_alloc | apply pw_below_drewN | apply below_drew1) | exact HB.out)) hb); have n1_:=Aside0.mk (hbox); have n2_:=Aside0.mk ((by rw [hg]; exact (below_size (by repeat (first | (with_reducible first | exact HB.out | apply below_alloc | apply pw_below_drewN | apply below_drew1) | exact HB.out))) : w.heap.size ≤ gb103)); have n3_:=Aside0.mk ((by rw [hg]; exact (below_size (by repeat (first | (with_reducible first | exact HB.out | apply below_alloc | apply pw_below_drewN | apply below_drew1) | exact HB.out))) : w.heap.size ≤ gb103)); clear HB; have HB:=n0_; have BK103:=n1_; have GW103:=n2_; have GE103:=n3_; clear n0_ n1_ n2_ n3_; clear hb hbox hg; have hcz9_0 : w8.cell? ⟨gb103,0,none⟩ = some (.string (⟨#[]⟩ : ByteArray)):=(blk_cell BK103.out 0).trans rfl; have hcz9_1 : w8.cell? ⟨gb103,1,none⟩ = some (.string (⟨#[]⟩ : ByteArray)):=(blk_cell BK103.out 1).trans rfl; have hfz9_0:=blk_frozen BK103.out 0; have hfz9_1:=blk_frozen BK103.out 1) | ((with_reducible refine gate_callee (f:=31) rfl ?_); refine goesL_ (some 15) rfl rfl Tryz.func31 (by kernel_rfl) rfl #[.agg #[.string ((rd_T35 l0 x10_1).f0),.string ((rd_T35 l0 x10_1).f1)]] rfl (by (try simp only [List.map_toArray,List.map_cons,List.map_nil]); first | done | rfl | (simp only [List.length_drop,List.length_take]; rfl)) ?_; (with_reducible refine (laws_zzFits9.calls ((rd_T35 l0 x10_1).f0) ((rd_T35 l0 x10_1).f1) true _ A6.out).mono ?_); rintro e w10 ⟨rfl,hb⟩; refine ⟨_,rfl,?_⟩; have n0_:=Aside0.mk (blk_below (g:=gb103) (o:=.cells #[.string ((rd_T35 l0 x10_1).f0),.string ((rd_T35 l0 x10_1).f1)] 35 (0,0)) (by (with_reducible repeat (first | refine blk_drewN ?_ _ | refine blk_drew ?_ | refine blk_alloc ?_ _)); refine blk_put (cs:=#[.string ((rd_T35 l0 x10_1).f0),.string (⟨#[]⟩ : ByteArray)]) ?_ 1 _ rfl; (with_reducible repeat (first | refine blk_drewN ?_ _ | refine blk_drew ?_ | refine blk_alloc ?_ _)); refine blk_put (cs:=#[.string (⟨#[]⟩ : ByteArray),.string (⟨#[]⟩ : ByteArray)]) ?_ 0 _ rfl; (with_reducible repeat (first | refine blk_drewN ?_ _ | refine blk_drew ?_ | refine blk_alloc ?_ _)); exact BK103.out) hb); have n1_:=Aside0.mk (below_step (by repeat (first | (with_reducible first | exact HB.out | apply below_alloc | apply pw_below_drewN | apply below_drew1 | refine below_set ?_ GE103.out) | exact HB.out)) hb); clear BK103; clear HB; have BK103:=n0_; have HB:=n1_; clear n0_ n1_; (try clear hb); (try clear hb2); (try clear hk); (try clear hi)))
        go_roundg k1
        case measure => have:=HK1.out; omega
        case rel => exact ⟨(wrap64 (x10_1 + 1)),(by first | rfl | (simp; done) | (simp [*]; done)),H',⟨by have:=HK1.out; omega⟩,⟨by repeat (first | (with_reducible first | exact HB.out | apply below_alloc | apply pw_below_drewN | apply below_drew1 | refine below_set ?_ GE103.out) | exact HB.out)⟩⟩
       ·replace c7:=Bool.eq_false_iff.mpr c7
        subst c7
        have H1 : (some false) = some r:=by rw [if_neg (show ¬ (false = true) by decide)] at H; exact H
        clear H
        have H:=H1
        clear H1
        obtain rfl:=Option.some.inj H
        have p102 : 0 ≤ (x10_1 : Int):=of_decide_eq_true (by first | (with_reducible assumption) | assumption)
        have q102 : x10_1 < (l0.length : Int):=of_decide_eq_true (by first | (with_reducible assumption) | assumption)
        obtain ⟨ad102,e102,hx102_0,hx102_1⟩:=at_T35 HR0.out x10_1 p102 q102
        cases e102
        replace hx102_0:=(HB.out.cell (World.block_lt_of_cell? w _ hx102_0)).trans hx102_0
        replace hx102_1:=(HB.out.cell (World.block_lt_of_cell? w _ hx102_1)).trans hx102_1
        replace p102:=eq_true p102
        replace q102:=eq_true q102
        go_wp2_with (first | ((with_reducible refine gate_dst (N:=4) rfl ?_); refine box_event ?hg (N:=4) ?hd (cs:=#[.string (⟨#[]⟩ : ByteArray),.string (⟨#[]⟩ : ByteArray)]) (t:=35) ?hr ?_; (case hd => rfl); (case hg => rfl); (case hr => first | (go_simp; done) | (go_simp; rfl)); intro gb103 hg w11 hbox hb; have n0_:=Aside0.mk (below_step (by repeat (first | (with_reducible first | exact HB.out | apply below_alloc | apply pw_below_drewN | apply below_drew1) | exact HB.out)) hb); have n1_:=Aside0.mk (hbox); have n2_:=Aside0.mk ((by rw [hg]; exact (below_size (by repeat (first | (with_reducible first | exact HB.out | apply below_alloc | apply pw_below_drewN | apply below_drew1) | exact HB.out))) : w.heap.size ≤ gb103)); have n3_:=Aside0.mk ((by rw [hg]; exact (below_size (by repeat (first | (with_reducible first | exact HB.out | apply below_alloc | apply pw_below_drewN | apply below_drew1) | exact HB.out))) : w.heap.size ≤ gb103)); clear HB; have HB:=n0_; have BK103:=n1_; have GW103:=n2_; have GE103:=n3_; clear n0_ n1_ n2_ n3_; clear hb hbox hg; have hcz12_0 : w11.cell? ⟨gb103,0,none⟩ = some (.string (⟨#[]⟩ : ByteArray)):=(blk_cell BK103.out 0).trans rfl; have hcz12_1 : w11.cell? ⟨gb103,1,none⟩ = some (.string (⟨#[]⟩ : ByteArray)):=(blk_cell BK103.out 1).trans rfl; have hfz12_0:=blk_frozen BK103.out 0; have hfz12_1:=blk_frozen BK103.out 1) | ((with_reducible refine gate_callee (f:=31) rfl ?_); refine goesL_ (some 15) rfl rfl Tryz.func31 (by kernel_rfl) rfl #[.agg #[.string ((rd_T35 l0 x10_1).f0),.string ((rd_T35 l0 x10_1).f1)]] rfl (by (try simp only [List.map_toArray,List.map_cons,List.map_nil]); first | done | rfl | (simp only [List.length_drop,List.length_take]; rfl)) ?_; (with_reducible refine (laws_zzFits9.calls ((rd_T35 l0 x10_1).f0) ((rd_T35 l0 x10_1).f1) false _ A6.out).mono ?_); rintro e w13 ⟨rfl,hb⟩; refine ⟨_,rfl,?_⟩; have n0_:=Aside0.mk (blk_below (g:=gb103) (o:=.cells #[.string ((rd_T35 l0 x10_1).f0),.string ((rd_T35 l0 x10_1).f1)] 35 (0,0)) (by (with_reducible repeat (first | refine blk_drewN ?_ _ | refine blk_drew ?_ | refine blk_alloc ?_ _)); refine blk_put (cs:=#[.string ((rd_T35 l0 x10_1).f0),.string (⟨#[]⟩ : ByteArray)]) ?_ 1 _ rfl; (with_reducible repeat (first | refine blk_drewN ?_ _ | refine blk_drew ?_ | refine blk_alloc ?_ _)); refine blk_put (cs:=#[.string (⟨#[]⟩ : ByteArray),.string (⟨#[]⟩ : ByteArray)]) ?_ 0 _ rfl; (with_reducible repeat (first | refine blk_drewN ?_ _ | refine blk_drew ?_ | refine blk_alloc ?_ _)); exact BK103.out) hb); have n1_:=Aside0.mk (below_step (by repeat (first | (with_reducible first | exact HB.out | apply below_alloc | apply pw_below_drewN | apply below_drew1 | refine below_set ?_ GE103.out) | exact HB.out)) hb); clear BK103; clear HB; have BK103:=n0_; have HB:=n1_; clear n0_ n1_; (try clear hb); (try clear hb2); (try clear hk); (try clear hi)))
        go_ret
        exact ⟨by first | rfl | (simp [errW_none,errW_some] <;> rfl) | (simp [*,errW_none,errW_some] <;> rfl),by repeat (first | (with_reducible first | exact HB.out | apply below_alloc | apply pw_below_drewN | apply below_drew1 | refine below_set ?_ GE103.out) | exact HB.out)⟩
      ·rw [if_neg c5] at H
       exact absurd H (by simp)
     ·rw [if_neg c4] at H
      exact absurd H (by simp)
    ·rw [if_neg c3] at H
     have c3b0 : decide (x10_1 < (l0.length : Int)) = false:=decide_eq_false c3
     clear c3
     obtain rfl:=Option.some.inj H
     go_wp2
     go_ret
     exact ⟨by first | rfl | (simp [errW_none,errW_some] <;> rfl) | (simp [*,errW_none,errW_some] <;> rfl),by repeat (first | (with_reducible first | exact HB.out | apply below_alloc | apply pw_below_drewN | apply below_drew1) | exact HB.out)⟩
def laws_zzFits4.l0 : Nat → List ByteArray → Int → Int → Option (Bool)
 | 0,_,_,_ => none
 | k + 1,x8,x9,x10 => if x10 < x9 then (if 0 ≤ x10 then (if x10 < (x8.length : Int) then (if ((rdOf ByteArray.empty x8 x10).size : Int) > 2147483647 then (some false) else (laws_zzFits4.l0 k x8 x9 (wrap64 (x10 + 1)))) else (none)) else (none)) else (some true)
def laws_zzFits4.f (k : Nat) (l0 : List ByteArray) : Option (Bool):=if (l0.length : Int) > 2147483647 then (some false) else (laws_zzFits4.l0 k l0 (l0.length : Int) 0)
theorem laws_zzFits4.mono_l : ∀ k,(∀ y0 y1 y2,LeO (laws_zzFits4.l0 k y0 y1 y2) (laws_zzFits4.l0 (k + 1) y0 y1 y2))
 | 0 => fun _ _ _ r h => by simp [laws_zzFits4.l0] at h
 | k + 1 => by
  have ih0:=laws_zzFits4.mono_l k
  ·intro y0 y1 y2
   unfold laws_zzFits4.l0
   repeat' first
   | (with_reducible exact ih0 _ _ _)
   | (with_reducible exact LeO.refl _)
   | (with_reducible exact LeO.none _)
   | (with_reducible refine LeO.ite ?_ ?_)
   | (with_reducible refine LeO.bind ?_ (fun _ => ?_))
   | exact ih0 _ _ _
   | exact LeO.none _
   | refine LeO.ite ?_ ?_
   | refine LeO.bind ?_ (fun _ => ?_)
theorem laws_zzFits4.mono : ∀ a0 k,LeO (laws_zzFits4.f k a0) (laws_zzFits4.f (k + 1) a0):=by
 intro a0 k
 have ih0:=laws_zzFits4.mono_l k
 unfold laws_zzFits4.f
 repeat' first
   | (with_reducible exact ih0 _ _ _)
   | (with_reducible exact LeO.refl _)
   | (with_reducible exact LeO.none _)
   | (with_reducible refine LeO.ite ?_ ?_)
   | (with_reducible refine LeO.bind ?_ (fun _ => ?_))
   | exact ih0 _ _ _
   | exact LeO.none _
   | refine LeO.ite ?_ ?_
   | refine LeO.bind ?_ (fun _ => ?_)
set_option maxHeartbeats 8000000 in
set_option maxRecDepth 100000 in
theorem laws_zzFits4.calls (k : Nat) (A0 : Option Addr) (c0 : Nat) (l0 : List ByteArray) (r : Bool) (w : World) (hr0 : Kd.C Kd.string w A0 l0.length l0) (hc0 : l0.length ≤ c0) (h : laws_zzFits4.f k l0 = some r) :
  Calls Tryz.prog 53 #[.slice A0 l0.length c0] w fun e w' => e = .returned (.bool r) ∧ Drawn0 w w':=by
 have HR0:=Aside0.mk hr0
 have HC0:=Aside0.mk hc0
 clear hr0 hc0
 have H : (if (l0.length : Int) > 2147483647 then (some false) else (laws_zzFits4.l0 k l0 (l0.length : Int) 0)) = some r:=h
 clear h
 by_cases c2 : (l0.length : Int) > 2147483647
 ·rw [if_pos c2] at H
  have c2b0 : decide (2147483647 < (l0.length : Int)) = true:=decide_eq_true c2
  have c2b1 : decide (2147483647 < l0.length) = true:=decide_eq_true (by omega)
  clear c2
  obtain rfl:=Option.some.inj H
  go_enter Tryz.func53,Tryz.ntmps53
  go_wp2
  go_ret
  exact ⟨by first | rfl | (simp; done) | (simp [*]; done),by repeat (first | exact Drawn0.refl _ | apply Drawn0.step)⟩
 ·rw [if_neg c2] at H
  have c2b0 : decide (2147483647 < (l0.length : Int)) = false:=decide_eq_false c2
  have c2b1 : decide (2147483647 < l0.length) = false:=decide_eq_false (by omega)
  clear c2
  have H':=Aside0.mk H
  clear H
  go_enter Tryz.func53,Tryz.ntmps53
  go_wp2
  go_loopg [10] k (fun kq v10 w' => ∃ (x10_1 : Int),v10 = .int .i64 x10_1 ∧ Aside0 (laws_zzFits4.l0 kq l0 (l0.length : Int) x10_1 = some r) ∧ Aside0 (kq ≤ k) ∧ Drawn0 w w')
  case atStart => exact ⟨(0),(by first | rfl | (simp; done) | (simp [*]; done)),H',⟨Nat.le_refl _⟩,by repeat (first | exact Drawn0.refl _ | apply Drawn0.step)⟩
  case round =>
   clear H'
   try clear c2
   try clear c2b0
   try clear c2b1
   try clear p2
   obtain ⟨x10_1,rfl,HA,HK1,⟨m1,rfl⟩⟩:=hrel
   cases gk with
   | zero => exact absurd HA.out (by simp [laws_zzFits4.l0])
   | succ k1 =>
    have H:=HA.out
    clear HA
    simp only [laws_zzFits4.l0] at H
    by_cases c3 : x10_1 < (l0.length : Int)
    ·rw [if_pos c3] at H
     have c3b0 : decide (x10_1 < (l0.length : Int)) = true:=decide_eq_true c3
     clear c3
     by_cases c4 : 0 ≤ x10_1
     ·rw [if_pos c4] at H
      have c4b0 : decide (0 ≤ x10_1) = true:=decide_eq_true c4
      clear c4
      by_cases c5 : x10_1 < (l0.length : Int)
      ·rw [if_pos c5] at H
       have c5b0 : decide (x10_1 < (l0.length : Int)) = true:=decide_eq_true c5
       clear c5
       by_cases c6 : ((rdOf ByteArray.empty l0 x10_1).size : Int) > 2147483647
       ·rw [if_pos c6] at H
        have c6b0 : decide (2147483647 < ((rdOf ByteArray.empty l0 x10_1).size : Int)) = true:=decide_eq_true c6
        have c6b1 : decide (2147483647 < (rdOf ByteArray.empty l0 x10_1).size) = true:=decide_eq_true (by omega)
        clear c6
        obtain rfl:=Option.some.inj H
        have p105 : 0 ≤ (x10_1 : Int):=of_decide_eq_true (by first | (with_reducible assumption) | assumption)
        have q105 : x10_1 < (l0.length : Int):=of_decide_eq_true (by first | (with_reducible assumption) | assumption)
        obtain ⟨ad105,e105,hx105_0⟩:=Kd.at_string HR0.out x10_1 p105 q105
        cases e105
        replace p105:=eq_true p105
        replace q105:=eq_true q105
        go_wp2
        go_ret
        exact ⟨by first | rfl | (simp; done) | (simp [*]; done),by repeat (first | exact Drawn0.refl _ | apply Drawn0.step)⟩
       ·rw [if_neg c6] at H
        have c6b0 : decide (2147483647 < ((rdOf ByteArray.empty l0 x10_1).size : Int)) = false:=decide_eq_false c6
        have c6b1 : decide (2147483647 < (rdOf ByteArray.empty l0 x10_1).size) = false:=decide_eq_false (by omega)
        clear c6
        have H':=Aside0.mk H
        clear H
        have p105 : 0 ≤ (x10_1 : Int):=of_decide_eq_true (by first | (with_reducible assumption) | assumption)
        have q105 : x10_1 < (l0.length : Int):=of_decide_eq_true (by first | (with_reducible assumption) | assumption)
        obtain ⟨ad105,e105,hx105_0⟩:=Kd.at_string HR0.out x10_1 p105 q105
        cases e105
        replace p105:=eq_true p105
        replace q105:=eq_true q105
        go_wp2
        go_roundg k1
        case measure => have:=HK1.out; omega
        case rel => exact ⟨(wrap64 (x10_1 + 1)),(by first | rfl | (simp; done) | (simp [*]; done)),H',⟨by have:=HK1.out; omega⟩,by repeat (first | exact Drawn0.refl _ | apply Drawn0.step)⟩
      ·rw [if_neg c5] at H
       exact absurd H (by simp)
     ·rw [if_neg c4] at H
      exact absurd H (by simp)
    ·rw [if_neg c3] at H
     have c3b0 : decide (x10_1 < (l0.length : Int)) = false:=decide_eq_false c3
     clear c3
     obtain rfl:=Option.some.inj H
     go_wp2
     go_ret
     exact ⟨by first | rfl | (simp; done) | (simp [*]; done),by repeat (first | exact Drawn0.refl _ | apply Drawn0.step)⟩
def laws_zzFits6.f (a0_0 : Int) (a0_1 : Bool) (a0_2 : Int) (a0_3 : Int) (a0_4 : ByteArray) : Option (Bool):=if (a0_4.size : Int) > 2147483647 then (some false) else (some true)
set_option maxHeartbeats 8000000 in
set_option maxRecDepth 100000 in
theorem laws_zzFits6.calls (a0_0 : Int) (a0_1 : Bool) (a0_2 : Int) (a0_3 : Int) (a0_4 : ByteArray) (r : Bool) (w : World) (h : laws_zzFits6.f a0_0 a0_1 a0_2 a0_3 a0_4 = some r) :
  Calls Tryz.prog 70 #[.agg #[.int .u8 a0_0,.bool a0_1,.int .u8 a0_2,.int .u8 a0_3,.string a0_4]] w fun e w' => e = .returned (.bool r) ∧ Below w.heap.size w w':=by
 have hu56:=Tryz.underlying56
 have HB:=Aside0.mk (Below.refl w.heap.size w)
 have H : (if (a0_4.size : Int) > 2147483647 then (some false) else (some true)) = some r:=h
 clear h
 by_cases c2 : (a0_4.size : Int) > 2147483647
 ·rw [if_pos c2] at H
  have c2b0 : decide (2147483647 < (a0_4.size : Int)) = true:=decide_eq_true c2
  have c2b1 : decide (2147483647 < a0_4.size) = true:=decide_eq_true (by omega)
  clear c2
  obtain rfl:=Option.some.inj H
  go_enter Tryz.func70,Tryz.ntmps70
  go_wp2_with (first | ((with_reducible refine gate_dst (N:=1) rfl ?_); refine box_event ?hg (N:=1) ?hd (cs:=#[.int .u8 a0_0,.bool a0_1,.int .u8 a0_2,.int .u8 a0_3,.string a0_4]) (t:=56) ?hr ?_; (case hd => rfl); (case hg => rfl); (case hr => first | (go_simp; done) | (go_simp; rfl)); intro gb106 hg w3 hbox hb; have n0_:=Aside0.mk (below_step (by repeat (first | (with_reducible first | exact HB.out | apply below_alloc | apply pw_below_drewN | apply below_drew1) | exact HB.out)) hb); have n1_:=Aside0.mk (hbox); have n2_:=Aside0.mk ((by rw [hg]; exact (below_size (by repeat (first | (with_reducible first | exact HB.out | apply below_alloc | apply pw_below_drewN | apply below_drew1) | exact HB.out))) : w.heap.size ≤ gb106)); have n3_:=Aside0.mk ((by rw [hg]; exact (below_size (by repeat (first | (with_reducible first | exact HB.out | apply below_alloc | apply pw_below_drewN | apply below_drew1) | exact HB.out))) : w.heap.size ≤ gb106)); clear HB; have HB:=n0_; have BK106:=n1_; have GW106:=n2_; have GE106:=n3_; clear n0_ n1_ n2_ n3_; clear hb hbox hg; have hcz4_0 : w3.cell? ⟨gb106,0,none⟩ = some (.int .u8 a0_0):=(blk_cell BK106.out 0).trans rfl; have hcz4_1 : w3.cell? ⟨gb106,1,none⟩ = some (.bool a0_1):=(blk_cell BK106.out 1).trans rfl; have hcz4_2 : w3.cell? ⟨gb106,2,none⟩ = some (.int .u8 a0_2):=(blk_cell BK106.out 2).trans rfl; have hcz4_3 : w3.cell? ⟨gb106,3,none⟩ = some (.int .u8 a0_3):=(blk_cell BK106.out 3).trans rfl; have hcz4_4 : w3.cell? ⟨gb106,4,none⟩ = some (.string a0_4):=(blk_cell BK106.out 4).trans rfl; have hfz4_0:=blk_frozen BK106.out 0; have hfz4_1:=blk_frozen BK106.out 1; have hfz4_2:=blk_frozen BK106.out 2; have hfz4_3:=blk_frozen BK106.out 3; have hfz4_4:=blk_frozen BK106.out 4))
  go_ret
  exact ⟨by first | rfl | (simp [errW_none,errW_some] <;> rfl) | (simp [*,errW_none,errW_some] <;> rfl),by repeat (first | (with_reducible first | exact HB.out | apply below_alloc | apply pw_below_drewN | apply below_drew1 | refine below_set ?_ GE106.out) | exact HB.out)⟩
 ·rw [if_neg c2] at H
  have c2b0 : decide (2147483647 < (a0_4.size : Int)) = false:=decide_eq_false c2
  have c2b1 : decide (2147483647 < a0_4.size) = false:=decide_eq_false (by omega)
  clear c2
  obtain rfl:=Option.some.inj H
  go_enter Tryz.func70,Tryz.ntmps70
  go_wp2_with (first | ((with_reducible refine gate_dst (N:=1) rfl ?_); refine box_event ?hg (N:=1) ?hd (cs:=#[.int .u8 a0_0,.bool a0_1,.int .u8 a0_2,.int .u8 a0_3,.string a0_4]) (t:=56) ?hr ?_; (case hd => rfl); (case hg => rfl); (case hr => first | (go_simp; done) | (go_simp; rfl)); intro gb106 hg w5 hbox hb; have n0_:=Aside0.mk (below_step (by repeat (first | (with_reducible first | exact HB.out | apply below_alloc | apply pw_below_drewN | apply below_drew1) | exact HB.out)) hb); have n1_:=Aside0.mk (hbox); have n2_:=Aside0.mk ((by rw [hg]; exact (below_size (by repeat (first | (with_reducible first | exact HB.out | apply below_alloc | apply pw_below_drewN | apply below_drew1) | exact HB.out))) : w.heap.size ≤ gb106)); have n3_:=Aside0.mk ((by rw [hg]; exact (below_size (by repeat (first | (with_reducible first | exact HB.out | apply below_alloc | apply pw_below_drewN | apply below_drew1) | exact HB.out))) : w.heap.size ≤ gb106)); clear HB; have HB:=n0_; have BK106:=n1_; have GW106:=n2_; have GE106:=n3_; clear n0_ n1_ n2_ n3_; clear hb hbox hg; have hcz6_0 : w5.cell? ⟨gb106,0,none⟩ = some (.int .u8 a0_0):=(blk_cell BK106.out 0).trans rfl; have hcz6_1 : w5.cell? ⟨gb106,1,none⟩ = some (.bool a0_1):=(blk_cell BK106.out 1).trans rfl; have hcz6_2 : w5.cell? ⟨gb106,2,none⟩ = some (.int .u8 a0_2):=(blk_cell BK106.out 2).trans rfl; have hcz6_3 : w5.cell? ⟨gb106,3,none⟩ = some (.int .u8 a0_3):=(blk_cell BK106.out 3).trans rfl; have hcz6_4 : w5.cell? ⟨gb106,4,none⟩ = some (.string a0_4):=(blk_cell BK106.out 4).trans rfl; have hfz6_0:=blk_frozen BK106.out 0; have hfz6_1:=blk_frozen BK106.out 1; have hfz6_2:=blk_frozen BK106.out 2; have hfz6_3:=blk_frozen BK106.out 3; have hfz6_4:=blk_frozen BK106.out 4))
  go_ret
  exact ⟨by first | rfl | (simp [errW_none,errW_some] <;> rfl) | (simp [*,errW_none,errW_some] <;> rfl),by repeat (first | (with_reducible first | exact HB.out | apply below_alloc | apply pw_below_drewN | apply below_drew1 | refine below_set ?_ GE106.out) | exact HB.out)⟩
def laws_zzFits5.l0 : Nat → List (S56) → Int → Int → Option (Bool)
 | 0,_,_,_ => none
 | k + 1,x8,x9,x10 => if x10 < x9 then (if 0 ≤ x10 then (if x10 < (x8.length : Int) then ((laws_zzFits6.f ((rd_T56 x8 x10).f0) ((rd_T56 x8 x10).f1) ((rd_T56 x8 x10).f2) ((rd_T56 x8 x10).f3) ((rd_T56 x8 x10).f4)).bind fun t109 => (if t109 = true then (laws_zzFits5.l0 k x8 x9 (wrap64 (x10 + 1))) else (some false))) else (none)) else (none)) else (some true)
def laws_zzFits5.f (k : Nat) (l0 : List (S56)) : Option (Bool):=if (l0.length : Int) > 2147483647 then (some false) else (laws_zzFits5.l0 k l0 (l0.length : Int) 0)
theorem laws_zzFits5.mono_l : ∀ k,(∀ y0 y1 y2,LeO (laws_zzFits5.l0 k y0 y1 y2) (laws_zzFits5.l0 (k + 1) y0 y1 y2))
 | 0 => fun _ _ _ r h => by simp [laws_zzFits5.l0] at h
 | k + 1 => by
  have ih0:=laws_zzFits5.mono_l k
  ·intro y0 y1 y2
   unfold laws_zzFits5.l0
   repeat' first
   | (with_reducible exact ih0 _ _ _)
   | (with_reducible exact LeO.refl _)
   | (with_reducible exact LeO.none _)
   | (with_reducible refine LeO.ite ?_ ?_)
   | (with_reducible refine LeO.bind ?_ (fun _ => ?_))
   | exact ih0 _ _ _
   | exact LeO.none _
   | refine LeO.ite ?_ ?_
   | refine LeO.bind ?_ (fun _ => ?_)
theorem laws_zzFits5.mono : ∀ a0 k,LeO (laws_zzFits5.f k a0) (laws_zzFits5.f (k + 1) a0):=by
 intro a0 k
 have ih0:=laws_zzFits5.mono_l k
 unfold laws_zzFits5.f
 repeat' first
   | (with_reducible exact ih0 _ _ _)
   | (with_reducible exact LeO.refl _)
   | (with_reducible exact LeO.none _)
   | (with_reducible refine LeO.ite ?_ ?_)
   | (with_reducible refine LeO.bind ?_ (fun _ => ?_))
   | exact ih0 _ _ _
   | exact LeO.none _
   | refine LeO.ite ?_ ?_
   | refine LeO.bind ?_ (fun _ => ?_)
set_option maxHeartbeats 8000000 in
set_option maxRecDepth 100000 in
theorem laws_zzFits5.calls (k : Nat) (A0 : Option Addr) (c0 : Nat) (l0 : List (S56)) (r : Bool) (w : World) (hr0 : Kd.C k56 w A0 l0.length l0) (hc0 : l0.length ≤ c0) (h : laws_zzFits5.f k l0 = some r) :
  Calls Tryz.prog 54 #[.slice A0 l0.length c0] w fun e w' => e = .returned (.bool r) ∧ Below w.heap.size w w':=by
 have hu56:=Tryz.underlying56
 have HR0:=Aside0.mk hr0
 have HC0:=Aside0.mk hc0
 clear hr0 hc0
 have HB:=Aside0.mk (Below.refl w.heap.size w)
 have H : (if (l0.length : Int) > 2147483647 then (some false) else (laws_zzFits5.l0 k l0 (l0.length : Int) 0)) = some r:=h
 clear h
 by_cases c2 : (l0.length : Int) > 2147483647
 ·rw [if_pos c2] at H
  have c2b0 : decide (2147483647 < (l0.length : Int)) = true:=decide_eq_true c2
  have c2b1 : decide (2147483647 < l0.length) = true:=decide_eq_true (by omega)
  clear c2
  obtain rfl:=Option.some.inj H
  go_enter Tryz.func54,Tryz.ntmps54
  go_wp2
  go_ret
  exact ⟨by first | rfl | (simp [errW_none,errW_some] <;> rfl) | (simp [*,errW_none,errW_some] <;> rfl),by repeat (first | (with_reducible first | exact HB.out | apply below_alloc | apply pw_below_drewN | apply below_drew1) | exact HB.out)⟩
 ·rw [if_neg c2] at H
  have c2b0 : decide (2147483647 < (l0.length : Int)) = false:=decide_eq_false c2
  have c2b1 : decide (2147483647 < l0.length) = false:=decide_eq_false (by omega)
  clear c2
  have H':=Aside0.mk H
  clear H
  go_enter Tryz.func54,Tryz.ntmps54
  go_wp2
  go_loopg [10] k (fun kq v10 w' => ∃ (x10_1 : Int),v10 = .int .i64 x10_1 ∧ Aside0 (laws_zzFits5.l0 kq l0 (l0.length : Int) x10_1 = some r) ∧ Aside0 (kq ≤ k) ∧ Aside0 (Below w.heap.size w w'))
  case atStart => exact ⟨(0),(by first | rfl | (simp; done) | (simp [*]; done)),H',⟨Nat.le_refl _⟩,⟨by repeat (first | (with_reducible first | exact HB.out | apply below_alloc | apply pw_below_drewN | apply below_drew1) | exact HB.out)⟩⟩
  case round =>
   clear H'
   try clear c2
   try clear c2b0
   try clear c2b1
   try clear p2
   obtain ⟨x10_1,rfl,HA,HK1,HB⟩:=hrel
   cases gk with
   | zero => exact absurd HA.out (by simp [laws_zzFits5.l0])
   | succ k1 =>
    have H:=HA.out
    clear HA
    simp only [laws_zzFits5.l0] at H
    by_cases c3 : x10_1 < (l0.length : Int)
    ·rw [if_pos c3] at H
     have c3b0 : decide (x10_1 < (l0.length : Int)) = true:=decide_eq_true c3
     clear c3
     by_cases c4 : 0 ≤ x10_1
     ·rw [if_pos c4] at H
      have c4b0 : decide (0 ≤ x10_1) = true:=decide_eq_true c4
      clear c4
      by_cases c5 : x10_1 < (l0.length : Int)
      ·rw [if_pos c5] at H
       have c5b0 : decide (x10_1 < (l0.length : Int)) = true:=decide_eq_true c5
       clear c5
       replace H:=Option.bind_eq_some_iff.mp H
       obtain ⟨t109,A60,H⟩:=H
       replace H : (if t109 = true then (laws_zzFits5.l0 k1 l0 (l0.length : Int) (wrap64 (x10_1 + 1))) else (some false)) = some r:=H
       have A6:=Aside0.mk A60
       clear A60
       by_cases c7 : t109 = true
       ·subst c7
        have H1 : (laws_zzFits5.l0 k1 l0 (l0.length : Int) (wrap64 (x10_1 + 1))) = some r:=by rw [if_pos rfl] at H; exact H
        clear H
        have H:=H1
        clear H1
        have H':=Aside0.mk H
        clear H
        have p107 : 0 ≤ (x10_1 : Int):=of_decide_eq_true (by first | (with_reducible assumption) | assumption)
        have q107 : x10_1 < (l0.length : Int):=of_decide_eq_true (by first | (with_reducible assumption) | assumption)
        obtain ⟨ad107,e107,hx107_0,hx107_1,hx107_2,hx107_3,hx107_4⟩:=at_T56 HR0.out x10_1 p107 q107
        cases e107
        replace hx107_0:=(HB.out.cell (World.block_lt_of_cell? w _ hx107_0)).trans hx107_0
        replace hx107_1:=(HB.out.cell (World.block_lt_of_cell? w _ hx107_1)).trans hx107_1
        replace hx107_2:=(HB.out.cell (World.block_lt_of_cell? w _ hx107_2)).trans hx107_2
        replace hx107_3:=(HB.out.cell (World.block_lt_of_cell? w _ hx107_3)).trans hx107_3
        replace hx107_4:=(HB.out.cell (World.block_lt_of_cell? w _ hx107_4)).trans hx107_4
        replace p107:=eq_true p107
        replace q107:=eq_true q107
        go_wp2_with (first | ((with_reducible refine gate_dst (N:=4) rfl ?_); refine box_event ?hg (N:=4) ?hd (cs:=#[.int .u8 0,.bool false,.int .u8 0,.int .u8 0,.string (⟨#[]⟩ : ByteArray)]) (t:=56) ?hr ?_; (case hd => rfl); (case hg => rfl); (case hr => first | (go_simp; done) | (go_simp; rfl)); intro gb108 hg w8 hbox hb; have n0_:=Aside0.mk (below_step (by repeat (first | (with_reducible first | exact HB.out | apply below_alloc | apply pw_below_drewN | apply below_drew1) | exact HB.out)) hb); have n1_:=Aside0.mk (hbox); have n2_:=Aside0.mk ((by rw [hg]; exact (below_size (by repeat (first | (with_reducible first | exact HB.out | apply below_alloc | apply pw_below_drewN | apply below_drew1) | exact HB.out))) : w.heap.size ≤ gb108)); have n3_:=Aside0.mk ((by rw [hg]; exact (below_size (by repeat (first | (with_reducible first | exact HB.out | apply below_alloc | apply pw_below_drewN | apply below_drew1) | exact HB.out))) : w.heap.size ≤ gb108)); clear HB; have HB:=n0_; have BK108:=n1_; have GW108:=n2_; have GE108:=n3_; clear n0_ n1_ n2_ n3_; clear hb hbox hg; have hcz9_0 : w8.cell? ⟨gb108,0,none⟩ = some (.int .u8 0):=(blk_cell BK108.out 0).trans rfl; have hcz9_1 : w8.cell? ⟨gb108,1,none⟩ = some (.bool false):=(blk_cell BK108.out 1).trans rfl; have hcz9_2 : w8.cell? ⟨gb108,2,none⟩ = some (.int .u8 0):=(blk_cell BK108.out 2).trans rfl; have hcz9_3 : w8.cell? ⟨gb108,3,none⟩ = some (.int .u8 0):=(blk_cell BK108.out 3).trans rfl; have hcz9_4 : w8.cell? ⟨gb108,4,none⟩ = some (.string (⟨#[]⟩ : ByteArray)):=(blk_cell BK108.out 4).trans rfl; have hfz9_0:=blk_frozen BK108.out 0; have hfz9_1:=blk_frozen BK108.out 1; have hfz9_2:=blk_frozen BK108.out 2; have hfz9_3:=blk_frozen BK108.out 3; have hfz9_4:=blk_frozen BK108.out 4) | ((with_reducible refine gate_callee (f:=70) rfl ?_); refine goesL_ (some 15) rfl rfl Tryz.func70 (by kernel_rfl) rfl #[.agg #[.int .u8 ((rd_T56 l0 x10_1).f0),.bool ((rd_T56 l0 x10_1).f1),.int .u8 ((rd_T56 l0 x10_1).f2),.int .u8 ((rd_T56 l0 x10_1).f3),.string ((rd_T56 l0 x10_1).f4)]] rfl (by (try simp only [List.map_toArray,List.map_cons,List.map_nil]); first | done | rfl | (simp only [List.length_drop,List.length_take]; rfl)) ?_; (with_reducible refine (laws_zzFits6.calls ((rd_T56 l0 x10_1).f0) ((rd_T56 l0 x10_1).f1) ((rd_T56 l0 x10_1).f2) ((rd_T56 l0 x10_1).f3) ((rd_T56 l0 x10_1).f4) true _ A6.out).mono ?_); rintro e w10 ⟨rfl,hb⟩; refine ⟨_,rfl,?_⟩; have n0_:=Aside0.mk (blk_below (g:=gb108) (o:=.cells #[.int .u8 ((rd_T56 l0 x10_1).f0),.bool ((rd_T56 l0 x10_1).f1),.int .u8 ((rd_T56 l0 x10_1).f2),.int .u8 ((rd_T56 l0 x10_1).f3),.string ((rd_T56 l0 x10_1).f4)] 56 (0,0)) (by (with_reducible repeat (first | refine blk_drewN ?_ _ | refine blk_drew ?_ | refine blk_alloc ?_ _)); refine blk_put (cs:=#[.int .u8 ((rd_T56 l0 x10_1).f0),.bool ((rd_T56 l0 x10_1).f1),.int .u8 ((rd_T56 l0 x10_1).f2),.int .u8 ((rd_T56 l0 x10_1).f3),.string (⟨#[]⟩ : ByteArray)]) ?_ 4 _ rfl; (with_reducible repeat (first | refine blk_drewN ?_ _ | refine blk_drew ?_ | refine blk_alloc ?_ _)); refine blk_put (cs:=#[.int .u8 ((rd_T56 l0 x10_1).f0),.bool ((rd_T56 l0 x10_1).f1),.int .u8 ((rd_T56 l0 x10_1).f2),.int .u8 0,.string (⟨#[]⟩ : ByteArray)]) ?_ 3 _ rfl; (with_reducible repeat (first | refine blk_drewN ?_ _ | refine blk_drew ?_ | refine blk_alloc ?_ _)); refine blk_put (cs:=#[.int .u8 ((rd_T56 l0 x10_1).f0),.bool ((rd_T56 l0 x10_1).f1),.int .u8 0,.int .u8 0,.string (⟨#[]⟩ : ByteArray)]) ?_ 2 _ rfl; (with_reducible repeat (first | refine blk_drewN ?_ _ | refine blk_drew ?_ | refine blk_alloc ?_ _)); refine blk_put (cs:=#[.int .u8 ((rd_T56 l0 x10_1).f0),.bool false,.int .u8 0,.int .u8 0,.string (⟨#[]⟩ : ByteArray)]) ?_ 1 _ rfl; (with_reducible repeat (first | refine blk_drewN ?_ _ | refine blk_drew ?_ | refine blk_alloc ?_ _)); refine blk_put (cs:=#[.int .u8 0,.bool false,.int .u8 0,.int .u8 0,.string (⟨#[]⟩ : ByteArray)]) ?_ 0 _ rfl; (with_reducible repeat (first | refine blk_drewN ?_ _ | refine blk_drew ?_ | refine blk_alloc ?_ _)); exact BK108.out) hb); have n1_:=Aside0.mk (below_step (by repeat (first | (with_reducible first | exact HB.out | apply below_alloc | apply pw_below_drewN | apply below_drew1 | refine below_set ?_ GE108.out) | exact HB.out)) hb); clear BK108; clear HB; have BK108:=n0_; have HB:=n1_; clear n0_ n1_; (try clear hb); (try clear hb2); (try clear hk); (try clear hi)))
        go_roundg k1
        case measure => have:=HK1.out; omega
        case rel => exact ⟨(wrap64 (x10_1 + 1)),(by first | rfl | (simp; done) | (simp [*]; done)),H',⟨by have:=HK1.out; omega⟩,⟨by repeat (first | (with_reducible first | exact HB.out | apply below_alloc | apply pw_below_drewN | apply below_drew1 | refine below_set ?_ GE108.out) | exact HB.out)⟩⟩
       ·replace c7:=Bool.eq_false_iff.mpr c7
        subst c7
        have H1 : (some false) = some r:=by rw [if_neg (show ¬ (false = true) by decide)] at H; exact H
        clear H
        have H:=H1
        clear H1
        obtain rfl:=Option.some.inj H
        have p107 : 0 ≤ (x10_1 : Int):=of_decide_eq_true (by first | (with_reducible assumption) | assumption)
        have q107 : x10_1 < (l0.length : Int):=of_decide_eq_true (by first | (with_reducible assumption) | assumption)
        obtain ⟨ad107,e107,hx107_0,hx107_1,hx107_2,hx107_3,hx107_4⟩:=at_T56 HR0.out x10_1 p107 q107
        cases e107
        replace hx107_0:=(HB.out.cell (World.block_lt_of_cell? w _ hx107_0)).trans hx107_0
        replace hx107_1:=(HB.out.cell (World.block_lt_of_cell? w _ hx107_1)).trans hx107_1
        replace hx107_2:=(HB.out.cell (World.block_lt_of_cell? w _ hx107_2)).trans hx107_2
        replace hx107_3:=(HB.out.cell (World.block_lt_of_cell? w _ hx107_3)).trans hx107_3
        replace hx107_4:=(HB.out.cell (World.block_lt_of_cell? w _ hx107_4)).trans hx107_4
        replace p107:=eq_true p107
        replace q107:=eq_true q107
        go_wp2_with (first | ((with_reducible refine gate_dst (N:=4) rfl ?_); refine box_event ?hg (N:=4) ?hd (cs:=#[.int .u8 0,.bool false,.int .u8 0,.int .u8 0,.string (⟨#[]⟩ : ByteArray)]) (t:=56) ?hr ?_; (case hd => rfl); (case hg => rfl); (case hr => first | (go_simp; done) | (go_simp; rfl)); intro gb108 hg w11 hbox hb; have n0_:=Aside0.mk (below_step (by repeat (first | (with_reducible first | exact HB.out | apply below_alloc | apply pw_below_drewN | apply below_drew1) | exact HB.out)) hb); have n1_:=Aside0.mk (hbox); have n2_:=Aside0.mk ((by rw [hg]; exact (below_size (by repeat (first | (with_reducible first | exact HB.out | apply below_alloc | apply pw_below_drewN | apply below_drew1) | exact HB.out))) : w.heap.size ≤ gb108)); have n3_:=Aside0.mk ((by rw [hg]; exact (below_size (by repeat (first | (with_reducible first | exact HB.out | apply below_alloc | apply pw_below_drewN | apply below_drew1) | exact HB.out))) : w.heap.size ≤ gb108)); clear HB; have HB:=n0_; have BK108:=n1_; have GW108:=n2_; have GE108:=n3_; clear n0_ n1_ n2_ n3_; clear hb hbox hg; have hcz12_0 : w11.cell? ⟨gb108,0,none⟩ = some (.int .u8 0):=(blk_cell BK108.out 0).trans rfl; have hcz12_1 : w11.cell? ⟨gb108,1,none⟩ = some (.bool false):=(blk_cell BK108.out 1).trans rfl; have hcz12_2 : w11.cell? ⟨gb108,2,none⟩ = some (.int .u8 0):=(blk_cell BK108.out 2).trans rfl; have hcz12_3 : w11.cell? ⟨gb108,3,none⟩ = some (.int .u8 0):=(blk_cell BK108.out 3).trans rfl; have hcz12_4 : w11.cell? ⟨gb108,4,none⟩ = some (.string (⟨#[]⟩ : ByteArray)):=(blk_cell BK108.out 4).trans rfl; have hfz12_0:=blk_frozen BK108.out 0; have hfz12_1:=blk_frozen BK108.out 1; have hfz12_2:=blk_frozen BK108.out 2; have hfz12_3:=blk_frozen BK108.out 3; have hfz12_4:=blk_frozen BK108.out 4) | ((with_reducible refine gate_callee (f:=70) rfl ?_); refine goesL_ (some 15) rfl rfl Tryz.func70 (by kernel_rfl) rfl #[.agg #[.int .u8 ((rd_T56 l0 x10_1).f0),.bool ((rd_T56 l0 x10_1).f1),.int .u8 ((rd_T56 l0 x10_1).f2),.int .u8 ((rd_T56 l0 x10_1).f3),.string ((rd_T56 l0 x10_1).f4)]] rfl (by (try simp only [List.map_toArray,List.map_cons,List.map_nil]); first | done | rfl | (simp only [List.length_drop,List.length_take]; rfl)) ?_; (with_reducible refine (laws_zzFits6.calls ((rd_T56 l0 x10_1).f0) ((rd_T56 l0 x10_1).f1) ((rd_T56 l0 x10_1).f2) ((rd_T56 l0 x10_1).f3) ((rd_T56 l0 x10_1).f4) false _ A6.out).mono ?_); rintro e w13 ⟨rfl,hb⟩; refine ⟨_,rfl,?_⟩; have n0_:=Aside0.mk (blk_below (g:=gb108) (o:=.cells #[.int .u8 ((rd_T56 l0 x10_1).f0),.bool ((rd_T56 l0 x10_1).f1),.int .u8 ((rd_T56 l0 x10_1).f2),.int .u8 ((rd_T56 l0 x10_1).f3),.string ((rd_T56 l0 x10_1).f4)] 56 (0,0)) (by (with_reducible repeat (first | refine blk_drewN ?_ _ | refine blk_drew ?_ | refine blk_alloc ?_ _)); refine blk_put (cs:=#[.int .u8 ((rd_T56 l0 x10_1).f0),.bool ((rd_T56 l0 x10_1).f1),.int .u8 ((rd_T56 l0 x10_1).f2),.int .u8 ((rd_T56 l0 x10_1).f3),.string (⟨#[]⟩ : ByteArray)]) ?_ 4 _ rfl; (with_reducible repeat (first | refine blk_drewN ?_ _ | refine blk_drew ?_ | refine blk_alloc ?_ _)); refine blk_put (cs:=#[.int .u8 ((rd_T56 l0 x10_1).f0),.bool ((rd_T56 l0 x10_1).f1),.int .u8 ((rd_T56 l0 x10_1).f2),.int .u8 0,.string (⟨#[]⟩ : ByteArray)]) ?_ 3 _ rfl; (with_reducible repeat (first | refine blk_drewN ?_ _ | refine blk_drew ?_ | refine blk_alloc ?_ _)); refine blk_put (cs:=#[.int .u8 ((rd_T56 l0 x10_1).f0),.bool ((rd_T56 l0 x10_1).f1),.int .u8 0,.int .u8 0,.string (⟨#[]⟩ : ByteArray)]) ?_ 2 _ rfl; (with_reducible repeat (first | refine blk_drewN ?_ _ | refine blk_drew ?_ | refine blk_alloc ?_ _)); refine blk_put (cs:=#[.int .u8 ((rd_T56 l0 x10_1).f0),.bool false,.int .u8 0,.int .u8 0,.string (⟨#[]⟩ : ByteArray)]) ?_ 1 _ rfl; (with_reducible repeat (first | refine blk_drewN ?_ _ | refine blk_drew ?_ | refine blk_alloc ?_ _)); refine blk_put (cs:=#[.int .u8 0,.bool false,.int .u8 0,.int .u8 0,.string (⟨#[]⟩ : ByteArray)]) ?_ 0 _ rfl; (with_reducible repeat (first | refine blk_drewN ?_ _ | refine blk_drew ?_ | refine blk_alloc ?_ _)); exact BK108.out) hb); have n1_:=Aside0.mk (below_step (by repeat (first | (with_reducible first | exact HB.out | apply below_alloc | apply pw_below_drewN | apply below_drew1 | refine below_set ?_ GE108.out) | exact HB.out)) hb); clear BK108; clear HB; have BK108:=n0_; have HB:=n1_; clear n0_ n1_; (try clear hb); (try clear hb2); (try clear hk); (try clear hi)))
        go_ret
        exact ⟨by first | rfl | (simp [errW_none,errW_some] <;> rfl) | (simp [*,errW_none,errW_some] <;> rfl),by repeat (first | (with_reducible first | exact HB.out | apply below_alloc | apply pw_below_drewN | apply below_drew1 | refine below_set ?_ GE108.out) | exact HB.out)⟩
      ·rw [if_neg c5] at H
       exact absurd H (by simp)
     ·rw [if_neg c4] at H
      exact absurd H (by simp)
    ·rw [if_neg c3] at H
     have c3b0 : decide (x10_1 < (l0.length : Int)) = false:=decide_eq_false c3
     clear c3
     obtain rfl:=Option.some.inj H
     go_wp2
     go_ret
     exact ⟨by first | rfl | (simp [errW_none,errW_some] <;> rfl) | (simp [*,errW_none,errW_some] <;> rfl),by repeat (first | (with_reducible first | exact HB.out | apply below_alloc | apply pw_below_drewN | apply below_drew1) | exact HB.out)⟩
def laws_zzFits3.f (k : Nat) (a0_0 : ByteArray) (l0_1 : List ByteArray) (a0_2 : Int) (a0_3 : ByteArray) (l0_4 : List (S56)) : Option (Bool):=if (a0_0.size : Int) > 2147483647 then (some false) else ((laws_zzFits4.f k l0_1).bind fun t111 => (if t111 = true then (if (a0_3.size : Int) > 2147483647 then (some false) else ((laws_zzFits5.f k l0_4).bind fun t112 => (if t112 = true then (some true) else (some false)))) else (some false)))
theorem laws_zzFits3.mono : ∀ a0 a1 a2 a3 a4 k,LeO (laws_zzFits3.f k a0 a1 a2 a3 a4) (laws_zzFits3.f (k + 1) a0 a1 a2 a3 a4):=by
 intro a0 a1 a2 a3 a4 k
 unfold laws_zzFits3.f
 repeat' first
   | (with_reducible exact laws_zzFits4.mono _ _)
   | (with_reducible exact laws_zzFits5.mono _ _)
   | (with_reducible exact LeO.refl _)
   | (with_reducible exact LeO.none _)
   | (with_reducible refine LeO.ite ?_ ?_)
   | (with_reducible refine LeO.bind ?_ (fun _ => ?_))
   | exact laws_zzFits4.mono _ _
   | exact laws_zzFits5.mono _ _
   | exact LeO.none _
   | refine LeO.ite ?_ ?_
   | refine LeO.bind ?_ (fun _ => ?_)
set_option maxHeartbeats 8000000 in
set_option maxRecDepth 100000 in
theorem laws_zzFits3.calls (k : Nat) (a0_0 : ByteArray) (A0_1 : Option Addr) (c0_1 : Nat) (l0_1 : List ByteArray) (a0_2 : Int) (a0_3 : ByteArray) (A0_4 : Option Addr) (c0_4 : Nat) (l0_4 : List (S56)) (r : Bool) (w : World) (hr0_1 : Kd.C Kd.string w A0_1 l0_1.length l0_1) (hc0_1 : l0_1.length ≤ c0_1) (hr0_4 : Kd.C k56 w A0_4 l0_4.length l0_4) (hc0_4 : l0_4.length ≤ c0_4) (h : laws_zzFits3.f k a0_0 l0_1 a0_2 a0_3 l0_4 = some r) :
  Calls Tryz.prog 32 #[.agg #[.string a0_0,.slice A0_1 l0_1.length c0_1,.int .u8 a0_2,.string a0_3,.slice A0_4 l0_4.length c0_4]] w fun e w' => e = .returned (.bool r) ∧ Below w.heap.size w w':=by
 have hu31:=Tryz.underlying31
 have HR0_1:=Aside0.mk hr0_1
 have HC0_1:=Aside0.mk hc0_1
 clear hr0_1 hc0_1
 have HR0_4:=Aside0.mk hr0_4
 have HC0_4:=Aside0.mk hc0_4
 clear hr0_4 hc0_4
 have HB:=Aside0.mk (Below.refl w.heap.size w)
 have H : (if (a0_0.size : Int) > 2147483647 then (some false) else ((laws_zzFits4.f k l0_1).bind fun t111 => (if t111 = true then (if (a0_3.size : Int) > 2147483647 then (some false) else ((laws_zzFits5.f k l0_4).bind fun t112 => (if t112 = true then (some true) else (some false)))) else (some false)))) = some r:=h
 clear h
 by_cases c2 : (a0_0.size : Int) > 2147483647
 ·rw [if_pos c2] at H
  have c2b0 : decide (2147483647 < (a0_0.size : Int)) = true:=decide_eq_true c2
  have c2b1 : decide (2147483647 < a0_0.size) = true:=decide_eq_true (by omega)
  clear c2
  obtain rfl:=Option.some.inj H
  go_enter Tryz.func32,Tryz.ntmps32
  go_wp2_with (first | ((with_reducible refine gate_dst (N:=1) rfl ?_); refine box_event ?hg (N:=1) ?hd (cs:=#[.string a0_0,.slice A0_1 l0_1.length c0_1,.int .u8 a0_2,.string a0_3,.slice A0_4 l0_4.length c0_4]) (t:=31) ?hr ?_; (case hd => rfl); (case hg => rfl); (case hr => first | (go_simp; done) | (go_simp; rfl)); intro gb110 hg w3 hbox hb; have n0_:=Aside0.mk (below_step (by repeat (first | (with_reducible first | exact HB.out | apply below_alloc | apply pw_below_drewN | apply below_drew1) | exact HB.out)) hb); have n1_:=Aside0.mk (hbox); have n2_:=Aside0.mk ((by rw [hg]; exact (below_size (by repeat (first | (with_reducible first | exact HB.out | apply below_alloc | apply pw_below_drewN | apply below_drew1) | exact HB.out))) : w.heap.size ≤ gb110)); have n3_:=Aside0.mk ((by rw [hg]; exact (below_size (by repeat (first | (with_reducible first | exact HB.out | apply below_alloc | apply pw_below_drewN | apply below_drew1) | exact HB.out))) : w.heap.size ≤ gb110)); clear HB; have HB:=n0_; have BK110:=n1_; have GW110:=n2_; have GE110:=n3_; clear n0_ n1_ n2_ n3_; clear hb hbox hg; have hcz4_0 : w3.cell? ⟨gb110,0,none⟩ = some (.string a0_0):=(blk_cell BK110.out 0).trans rfl; have hcz4_1 : w3.cell? ⟨gb110,1,none⟩ = some (.slice A0_1 l0_1.length c0_1):=(blk_cell BK110.out 1).trans rfl; have hcz4_2 : w3.cell? ⟨gb110,2,none⟩ = some (.int .u8 a0_2):=(blk_cell BK110.out 2).trans rfl; have hcz4_3 : w3.cell? ⟨gb110,3,none⟩ = some (.string a0_3):=(blk_cell BK110.out 3).trans rfl; have hcz4_4 : w3.cell? ⟨gb110,4,none⟩ = some (.slice A0_4 l0_4.length c0_4):=(blk_cell BK110.out 4).trans rfl; have hfz4_0:=blk_frozen BK110.out 0; have hfz4_1:=blk_frozen BK110.out 1; have hfz4_2:=blk_frozen BK110.out 2; have hfz4_3:=blk_frozen BK110.out 3; have hfz4_4:=blk_frozen BK110.out 4))
  go_ret
  exact ⟨by first | rfl | (simp [errW_none,errW_some] <;> rfl) | (simp [*,errW_none,errW_some] <;> rfl),by repeat (first | (with_reducible first | exact HB.out | apply below_alloc | apply pw_below_drewN | apply below_drew1 | refine below_set ?_ GE110.out) | exact HB.out)⟩
 ·rw [if_neg c2] at H
  have c2b0 : decide (2147483647 < (a0_0.size : Int)) = false:=decide_eq_false c2
  have c2b1 : decide (2147483647 < a0_0.size) = false:=decide_eq_false (by omega)
  clear c2
  replace H:=Option.bind_eq_some_iff.mp H
  obtain ⟨t111,A50,H⟩:=H
  replace H : (if t111 = true then (if (a0_3.size : Int) > 2147483647 then (some false) else ((laws_zzFits5.f k l0_4).bind fun t112 => (if t112 = true then (some true) else (some false)))) else (some false)) = some r:=H
  have A5:=Aside0.mk A50
  clear A50
  by_cases c6 : t111 = true
  ·subst c6
   have H1 : (if (a0_3.size : Int) > 2147483647 then (some false) else ((laws_zzFits5.f k l0_4).bind fun t112 => (if t112 = true then (some true) else (some false)))) = some r:=by rw [if_pos rfl] at H; exact H
   clear H
   have H:=H1
   clear H1
   by_cases c7 : (a0_3.size : Int) > 2147483647
   ·rw [if_pos c7] at H
    have c7b0 : decide (2147483647 < (a0_3.size : Int)) = true:=decide_eq_true c7
    have c7b1 : decide (2147483647 < a0_3.size) = true:=decide_eq_true (by omega)
    clear c7
    obtain rfl:=Option.some.inj H
    go_enter Tryz.func32,Tryz.ntmps32
    go_wp2_with (first | ((with_reducible refine gate_dst (N:=1) rfl ?_); refine box_event ?hg (N:=1) ?hd (cs:=#[.string a0_0,.slice A0_1 l0_1.length c0_1,.int .u8 a0_2,.string a0_3,.slice A0_4 l0_4.length c0_4]) (t:=31) ?hr ?_; (case hd => rfl); (case hg => rfl); (case hr => first | (go_simp; done) | (go_simp; rfl)); intro gb110 hg w8 hbox hb; have n0_:=Aside0.mk (below_step (by repeat (first | (with_reducible first | exact HB.out | apply below_alloc | apply pw_below_drewN | apply below_drew1) | exact HB.out)) hb); have n1_:=Aside0.mk (hbox); have n2_:=Aside0.mk ((by rw [hg]; exact (below_size (by repeat (first | (with_reducible first | exact HB.out | apply below_alloc | apply pw_below_drewN | apply below_drew1) | exact HB.out))) : w.heap.size ≤ gb110)); have n3_:=Aside0.mk ((by rw [hg]; exact (below_size (by repeat (first | (with_reducible first | exact HB.out | apply below_alloc | apply pw_below_drewN | apply below_drew1) | exact HB.out))) : w.heap.size ≤ gb110)); clear HB; have HB:=n0_; have BK110:=n1_; have GW110:=n2_; have GE110:=n3_; clear n0_ n1_ n2_ n3_; clear hb hbox hg; have hcz9_0 : w8.cell? ⟨gb110,0,none⟩ = some (.string a0_0):=(blk_cell BK110.out 0).trans rfl; have hcz9_1 : w8.cell? ⟨gb110,1,none⟩ = some (.slice A0_1 l0_1.length c0_1):=(blk_cell BK110.out 1).trans rfl; have hcz9_2 : w8.cell? ⟨gb110,2,none⟩ = some (.int .u8 a0_2):=(blk_cell BK110.out 2).trans rfl; have hcz9_3 : w8.cell? ⟨gb110,3,none⟩ = some (.string a0_3):=(blk_cell BK110.out 3).trans rfl; have hcz9_4 : w8.cell? ⟨gb110,4,none⟩ = some (.slice A0_4 l0_4.length c0_4):=(blk_cell BK110.out 4).trans rfl; have hfz9_0:=blk_frozen BK110.out 0; have hfz9_1:=blk_frozen BK110.out 1; have hfz9_2:=blk_frozen BK110.out 2; have hfz9_3:=blk_frozen BK110.out 3; have hfz9_4:=blk_frozen BK110.out 4) | ((with_reducible refine gate_callee (f:=53) rfl ?_); refine goesL_ (some 9) rfl rfl Tryz.func53 (by kernel_rfl) rfl #[.slice A0_1 l0_1.length c0_1] rfl (by (try simp only [List.map_toArray,List.map_cons,List.map_nil]); first | done | rfl | (simp only [List.length_drop,List.length_take]; rfl)) ?_; (with_reducible refine (laws_zzFits4.calls k _ _ l0_1 true _ ?side1 ?side2 A5.out).mono ?_); (case side1 => repeat (first | exact (Kd.C_below HR0_1.out HB.out) | (with_reducible refine Kd.C_alloc ?_ _) | (with_reducible refine Kd.C_drewN ?_ _) | (with_reducible refine Kd.C_drew ?_))); (case side2 => exact HC0_1.out); rintro e w' ⟨rfl,⟨nd,rfl⟩⟩; refine ⟨_,rfl,?_⟩))
    go_ret
    exact ⟨by first | rfl | (simp [errW_none,errW_some] <;> rfl) | (simp [*,errW_none,errW_some] <;> rfl),by repeat (first | (with_reducible first | exact HB.out | apply below_alloc | apply pw_below_drewN | apply below_drew1 | refine below_set ?_ GE110.out) | exact HB.out)⟩
   ·rw [if_neg c7] at H
    have c7b0 : decide (2147483647 < (a0_3.size : Int)) = false:=decide_eq_false c7
    have c7b1 : decide (2147483647 < a0_3.size) = false:=decide_eq_false (by omega)
    clear c7
    replace H:=Option.bind_eq_some_iff.mp H
    obtain ⟨t112,A100,H⟩:=H
    replace H : (if t112 = true then (some true) else (some false)) = some r:=H
    have A10:=Aside0.mk A100
    clear A100
    by_cases c11 : t112 = true
    ·subst c11
     have H1 : (some true) = some r:=by rw [if_pos rfl] at H; exact H
     clear H
     have H:=H1
     clear H1
     obtain rfl:=Option.some.inj H
     go_enter Tryz.func32,Tryz.ntmps32
     go_wp2_with (first | ((with_reducible refine gate_dst (N:=1) rfl ?_); refine box_event ?hg (N:=1) ?hd (cs:=#[.string a0_0,.slice A0_1 l0_1.length c0_1,.int .u8 a0_2,.string a0_3,.slice A0_4 l0_4.length c0_4]) (t:=31) ?hr ?_; (case hd => rfl); (case hg => rfl); (case hr => first | (go_simp; done) | (go_simp; rfl)); intro gb110 hg w12 hbox hb; have n0_:=Aside0.mk (below_step (by repeat (first | (with_reducible first | exact HB.out | apply below_alloc | apply pw_below_drewN | apply below_drew1) | exact HB.out)) hb); have n1_:=Aside0.mk (hbox); have n2_:=Aside0.mk ((by rw [hg]; exact (below_size (by repeat (first | (with_reducible first | exact HB.out | apply below_alloc | apply pw_below_drewN | apply below_drew1) | exact HB.out))) : w.heap.size ≤ gb110)); have n3_:=Aside0.mk ((by rw [hg]; exact (below_size (by repeat (first | (with_reducible first | exact HB.out | apply below_alloc | apply pw_below_drewN | apply below_drew1) | exact HB.out))) : w.heap.size ≤ gb110)); clear HB; have HB:=n0_; have BK110:=n1_; have GW110:=n2_; have GE110:=n3_; clear n0_ n1_ n2_ n3_; clear hb hbox hg; have hcz13_0 : w12.cell? ⟨gb110,0,none⟩ = some (.string a0_0):=(blk_cell BK110.out 0).trans rfl; have hcz13_1 : w12.cell? ⟨gb110,1,none⟩ = some (.slice A0_1 l0_1.length c0_1):=(blk_cell BK110.out 1).trans rfl; have hcz13_2 : w12.cell? ⟨gb110,2,none⟩ = some (.int .u8 a0_2):=(blk_cell BK110.out 2).trans rfl; have hcz13_3 : w12.cell? ⟨gb110,3,none⟩ = some (.string a0_3):=(blk_cell BK110.out 3).trans rfl; have hcz13_4 : w12.cell? ⟨gb110,4,none⟩ = some (.slice A0_4 l0_4.length c0_4):=(blk_cell BK110.out 4).trans rfl; have hfz13_0:=blk_frozen BK110.out 0; have hfz13_1:=blk_frozen BK110.out 1; have hfz13_2:=blk_frozen BK110.out 2; have hfz13_3:=blk_frozen BK110.out 3; have hfz13_4:=blk_frozen BK110.out 4) | ((with_reducible refine gate_callee (f:=53) rfl ?_); refine goesL_ (some 9) rfl rfl Tryz.func53 (by kernel_rfl) rfl #[.slice A0_1 l0_1.length c0_1] rfl (by (try simp only [List.map_toArray,List.map_cons,List.map_nil]); first | done | rfl | (simp only [List.length_drop,List.length_take]; rfl)) ?_; (with_reducible refine (laws_zzFits4.calls k _ _ l0_1 true _ ?side1 ?side2 A5.out).mono ?_); (case side1 => repeat (first | exact (Kd.C_below HR0_1.out HB.out) | (with_reducible refine Kd.C_alloc ?_ _) | (with_reducible refine Kd.C_drewN ?_ _) | (with_reducible refine Kd.C_drew ?_))); (case side2 => exact HC0_1.out); rintro e w' ⟨rfl,⟨nd,rfl⟩⟩; refine ⟨_,rfl,?_⟩) | ((with_reducible refine gate_callee (f:=54) rfl ?_); refine goesL_ (some 17) rfl rfl Tryz.func54 (by kernel_rfl) rfl #[.slice A0_4 l0_4.length c0_4] rfl (by (try simp only [List.map_toArray,List.map_cons,List.map_nil]); first | done | rfl | (simp only [List.length_drop,List.length_take]; rfl)) ?_; (with_reducible refine (laws_zzFits5.calls k _ _ l0_4 true _ ?side1 ?side2 A10.out).mono ?_); (case side1 => repeat (first | exact (Kd.C_below HR0_4.out (by repeat (first | (with_reducible first | exact HB.out | apply below_alloc | apply pw_below_drewN | apply below_drew1 | refine below_set ?_ GE110.out) | exact HB.out))) | (with_reducible refine Kd.C_alloc ?_ _) | (with_reducible refine Kd.C_drewN ?_ _) | (with_reducible refine Kd.C_drew ?_))); (case side2 => exact HC0_4.out); rintro e w14 ⟨rfl,hb⟩; refine ⟨_,rfl,?_⟩; have n0_:=Aside0.mk (blk_below (g:=gb110) (o:=.cells #[.string a0_0,.slice A0_1 l0_1.length c0_1,.int .u8 a0_2,.string a0_3,.slice A0_4 l0_4.length c0_4] 31 (0,0)) (by (with_reducible repeat (first | refine blk_drewN ?_ _ | refine blk_drew ?_ | refine blk_alloc ?_ _)); exact BK110.out) hb); have n1_:=Aside0.mk (below_step (by repeat (first | (with_reducible first | exact HB.out | apply below_alloc | apply pw_below_drewN | apply below_drew1 | refine below_set ?_ GE110.out) | exact HB.out)) hb); clear BK110; clear HB; have BK110:=n0_; have HB:=n1_; clear n0_ n1_; (try clear hb); (try clear hb2); (try clear hk); (try clear hi)))
     go_ret
     exact ⟨by first | rfl | (simp [errW_none,errW_some] <;> rfl) | (simp [*,errW_none,errW_some] <;> rfl),by repeat (first | (with_reducible first | exact HB.out | apply below_alloc | apply pw_below_drewN | apply below_drew1 | refine below_set ?_ GE110.out) | exact HB.out)⟩
    ·replace c11:=Bool.eq_false_iff.mpr c11
     subst c11
     have H1 : (some false) = some r:=by rw [if_neg (show ¬ (false = true) by decide)] at H; exact H
     clear H
     have H:=H1
     clear H1
     obtain rfl:=Option.some.inj H
     go_enter Tryz.func32,Tryz.ntmps32
     go_wp2_with (first | ((with_reducible refine gate_dst (N:=1) rfl ?_); refine box_event ?hg (N:=1) ?hd (cs:=#[.string a0_0,.slice A0_1 l0_1.length c0_1,.int .u8 a0_2,.string a0_3,.slice A0_4 l0_4.length c0_4]) (t:=31) ?hr ?_; (case hd => rfl); (case hg => rfl); (case hr => first | (go_simp; done) | (go_simp; rfl)); intro gb110 hg w15 hbox hb; have n0_:=Aside0.mk (below_step (by repeat (first | (with_reducible first | exact HB.out | apply below_alloc | apply pw_below_drewN | apply below_drew1) | exact HB.out)) hb); have n1_:=Aside0.mk (hbox); have n2_:=Aside0.mk ((by rw [hg]; exact (below_size (by repeat (first | (with_reducible first | exact HB.out | apply below_alloc | apply pw_below_drewN | apply below_drew1) | exact HB.out))) : w.heap.size ≤ gb110)); have n3_:=Aside0.mk ((by rw [hg]; exact (below_size (by repeat (first | (with_reducible first | exact HB.out | apply below_alloc | apply pw_below_drewN | apply below_drew1) | exact HB.out))) : w.heap.size ≤ gb110)); clear HB; have HB:=n0_; have BK110:=n1_; have GW110:=n2_; have GE110:=n3_; clear n0_ n1_ n2_ n3_; clear hb hbox hg; have hcz16_0 : w15.cell? ⟨gb110,0,none⟩ = some (.string a0_0):=(blk_cell BK110.out 0).trans rfl; have hcz16_1 : w15.cell? ⟨gb110,1,none⟩ = some (.slice A0_1 l0_1.length c0_1):=(blk_cell BK110.out 1).trans rfl; have hcz16_2 : w15.cell? ⟨gb110,2,none⟩ = some (.int .u8 a0_2):=(blk_cell BK110.out 2).trans rfl; have hcz16_3 : w15.cell? ⟨gb110,3,none⟩ = some (.string a0_3):=(blk_cell BK110.out 3).trans rfl; have hcz16_4 : w15.cell? ⟨gb110,4,none⟩ = some (.slice A0_4 l0_4.length c0_4):=(blk_cell BK110.out 4).trans rfl; have hfz16_0:=blk_frozen BK110.out 0; have hfz16_1:=blk_frozen BK110.out 1; have hfz16_2:=blk_frozen BK110.out 2; have hfz16_3:=blk_frozen BK110.out 3; have hfz16_4:=blk_frozen BK110.out 4) | ((with_reducible refine gate_callee (f:=53) rfl ?_); refine goesL_ (some 9) rfl rfl Tryz.func53 (by kernel_rfl) rfl #[.slice A0_1 l0_1.length c0_1] rfl (by (try simp only [List.map_toArray,List.map_cons,List.map_nil]); first | done | rfl | (simp only [List.length_drop,List.length_take]; rfl)) ?_; (with_reducible refine (laws_zzFits4.calls k _ _ l0_1 true _ ?side1 ?side2 A5.out).mono ?_); (case side1 => repeat (first | exact (Kd.C_below HR0_1.out HB.out) | (with_reducible refine Kd.C_alloc ?_ _) | (with_reducible refine Kd.C_drewN ?_ _) | (with_reducible refine Kd.C_drew ?_))); (case side2 => exact HC0_1.out); rintro e w' ⟨rfl,⟨nd,rfl⟩⟩; refine ⟨_,rfl,?_⟩) | ((with_reducible refine gate_callee (f:=54) rfl ?_); refine goesL_ (some 17) rfl rfl Tryz.func54 (by kernel_rfl) rfl #[.slice A0_4 l0_4.length c0_4] rfl (by (try simp only [List.map_toArray,List.map_cons,List.map_nil]); first | done | rfl | (simp only [List.length_drop,List.length_take]; rfl)) ?_; (with_reducible refine (laws_zzFits5.calls k _ _ l0_4 false _ ?side1 ?side2 A10.out).mono ?_); (case side1 => repeat (first | exact (Kd.C_below HR0_4.out (by repeat (first | (with_reducible first | exact HB.out | apply below_alloc | apply pw_below_drewN | apply below_drew1 | refine below_set ?_ GE110.out) | exact HB.out))) | (with_reducible refine Kd.C_alloc ?_ _) | (with_reducible refine Kd.C_drewN ?_ _) | (with_reducible refine Kd.C_drew ?_))); (case side2 => exact HC0_4.out); rintro e w17 ⟨rfl,hb⟩; refine ⟨_,rfl,?_⟩; have n0_:=Aside0.mk (blk_below (g:=gb110) (o:=.cells #[.string a0_0,.slice A0_1 l0_1.length c0_1,.int .u8 a0_2,.string a0_3,.slice A0_4 l0_4.length c0_4] 31 (0,0)) (by (with_reducible repeat (first | refine blk_drewN ?_ _ | refine blk_drew ?_ | refine blk_alloc ?_ _)); exact BK110.out) hb); have n1_:=Aside0.mk (below_step (by repeat (first | (with_reducible first | exact HB.out | apply below_alloc | apply pw_below_drewN | apply below_drew1 | refine below_set ?_ GE110.out) | exact HB.out)) hb); clear BK110; clear HB; have BK110:=n0_; have HB:=n1_; clear n0_ n1_; (try clear hb); (try clear hb2); (try clear hk); (try clear hi)))
     go_ret
     exact ⟨by first | rfl | (simp [errW_none,errW_some] <;> rfl) | (simp [*,errW_none,errW_some] <;> rfl),by repeat (first | (with_reducible first | exact HB.out | apply below_alloc | apply pw_below_drewN | apply below_drew1 | refine below_set ?_ GE110.out) | exact HB.out)⟩
  ·replace c6:=Bool.eq_false_iff.mpr c6
   subst c6
   have H1 : (some false) = some r:=by rw [if_neg (show ¬ (false = true) by decide)] at H; exact H
   clear H
   have H:=H1
   clear H1
   obtain rfl:=Option.some.inj H
   go_enter Tryz.func32,Tryz.ntmps32
   go_wp2_with (first | ((with_reducible refine gate_dst (N:=1) rfl ?_); refine box_event ?hg (N:=1) ?hd (cs:=#[.string a0_0,.slice A0_1 l0_1.length c0_1,.int .u8 a0_2,.string a0_3,.slice A0_4 l0_4.length c0_4]) (t:=31) ?hr ?_; (case hd => rfl); (case hg => rfl); (case hr => first | (go_simp; done) | (go_simp; rfl)); intro gb110 hg w18 hbox hb; have n0_:=Aside0.mk (below_step (by repeat (first | (with_reducible first | exact HB.out | apply below_alloc | apply pw_below_drewN | apply below_drew1) | exact HB.out)) hb); have n1_:=Aside0.mk (hbox); have n2_:=Aside0.mk ((by rw [hg]; exact (below_size (by repeat (first | (with_reducible first | exact HB.out | apply below_alloc | apply pw_below_drewN | apply below_drew1) | exact HB.out))) : w.heap.size ≤ gb110)); have n3_:=Aside0.mk ((by rw [hg]; exact (below_size (by repeat (first | (with_reducible first | exact HB.out | apply below_alloc | apply pw_below_drewN | apply below_drew1) | exact HB.out))) : w.heap.size ≤ gb110)); clear HB; have HB:=n0_; have BK110:=n1_; have GW110:=n2_; have GE110:=n3_; clear n0_ n1_ n2_ n3_; clear hb hbox hg; have hcz19_0 : w18.cell? ⟨gb110,0,none⟩ = some (.string a0_0):=(blk_cell BK110.out 0).trans rfl; have hcz19_1 : w18.cell? ⟨gb110,1,none⟩ = some (.slice A0_1 l0_1.length c0_1):=(blk_cell BK110.out 1).trans rfl; have hcz19_2 : w18.cell? ⟨gb110,2,none⟩ = some (.int .u8 a0_2):=(blk_cell BK110.out 2).trans rfl; have hcz19_3 : w18.cell? ⟨gb110,3,none⟩ = some (.string a0_3):=(blk_cell BK110.out 3).trans rfl; have hcz19_4 : w18.cell? ⟨gb110,4,none⟩ = some (.slice A0_4 l0_4.length c0_4):=(blk_cell BK110.out 4).trans rfl; have hfz19_0:=blk_frozen BK110.out 0; have hfz19_1:=blk_frozen BK110.out 1; have hfz19_2:=blk_frozen BK110.out 2; have hfz19_3:=blk_frozen BK110.out 3; have hfz19_4:=blk_frozen BK110.out 4) | ((with_reducible refine gate_callee (f:=53) rfl ?_); refine goesL_ (some 9) rfl rfl Tryz.func53 (by kernel_rfl) rfl #[.slice A0_1 l0_1.length c0_1] rfl (by (try simp only [List.map_toArray,List.map_cons,List.map_nil]); first | done | rfl | (simp only [List.length_drop,List.length_take]; rfl)) ?_; (with_reducible refine (laws_zzFits4.calls k _ _ l0_1 false _ ?side1 ?side2 A5.out).mono ?_); (case side1 => repeat (first | exact (Kd.C_below HR0_1.out HB.out) | (with_reducible refine Kd.C_alloc ?_ _) | (with_reducible refine Kd.C_drewN ?_ _) | (with_reducible refine Kd.C_drew ?_))); (case side2 => exact HC0_1.out); rintro e w' ⟨rfl,⟨nd,rfl⟩⟩; refine ⟨_,rfl,?_⟩))
   go_ret
   exact ⟨by first | rfl | (simp [errW_none,errW_some] <;> rfl) | (simp [*,errW_none,errW_some] <;> rfl),by repeat (first | (with_reducible first | exact HB.out | apply below_alloc | apply pw_below_drewN | apply below_drew1 | refine below_set ?_ GE110.out) | exact HB.out)⟩
def laws_zzFits10.l0 : Nat → List (S31) → Int → Int → Option (Bool)
 | 0,_,_,_ => none
 | k + 1,x8,x9,x10 => if x10 < x9 then (if 0 ≤ x10 then (if x10 < (x8.length : Int) then ((laws_zzFits3.f k ((rd_T31 x8 x10).f0) ((rd_T31 x8 x10).f1) ((rd_T31 x8 x10).f2) ((rd_T31 x8 x10).f3) ((rd_T31 x8 x10).f4)).bind fun t115 => (if t115 = true then (laws_zzFits10.l0 k x8 x9 (wrap64 (x10 + 1))) else (some false))) else (none)) else (none)) else (some true)
def laws_zzFits10.f (k : Nat) (l0 : List (S31)) : Option (Bool):=if (l0.length : Int) > 2147483647 then (some false) else (laws_zzFits10.l0 k l0 (l0.length : Int) 0)
theorem laws_zzFits10.mono_l : ∀ k,(∀ y0 y1 y2,LeO (laws_zzFits10.l0 k y0 y1 y2) (laws_zzFits10.l0 (k + 1) y0 y1 y2))
 | 0 => fun _ _ _ r h => by simp [laws_zzFits10.l0] at h
 | k + 1 => by
  have ih0:=laws_zzFits10.mono_l k
  ·intro y0 y1 y2
   unfold laws_zzFits10.l0
   repeat' first
   | (with_reducible exact ih0 _ _ _)
   | (with_reducible exact laws_zzFits3.mono _ _ _ _ _ _)
   | (with_reducible exact LeO.refl _)
   | (with_reducible exact LeO.none _)
   | (with_reducible refine LeO.ite ?_ ?_)
   | (with_reducible refine LeO.bind ?_ (fun _ => ?_))
   | exact ih0 _ _ _
   | exact laws_zzFits3.mono _ _ _ _ _ _
   | exact LeO.none _
   | refine LeO.ite ?_ ?_
   | refine LeO.bind ?_ (fun _ => ?_)
theorem laws_zzFits10.mono : ∀ a0 k,LeO (laws_zzFits10.f k a0) (laws_zzFits10.f (k + 1) a0):=by
 intro a0 k
 have ih0:=laws_zzFits10.mono_l k
 unfold laws_zzFits10.f
 repeat' first
   | (with_reducible exact ih0 _ _ _)
   | (with_reducible exact laws_zzFits3.mono _ _ _ _ _ _)
   | (with_reducible exact LeO.refl _)
   | (with_reducible exact LeO.none _)
   | (with_reducible refine LeO.ite ?_ ?_)
   | (with_reducible refine LeO.bind ?_ (fun _ => ?_))
   | exact ih0 _ _ _
   | exact laws_zzFits3.mono _ _ _ _ _ _
   | exact LeO.none _
   | refine LeO.ite ?_ ?_
   | refine LeO.bind ?_ (fun _ => ?_)
set_option maxHeartbeats 8000000 in
set_option maxRecDepth 100000 in
theorem laws_zzFits10.calls (k : Nat) (A0 : Option Addr) (c0 : Nat) (l0 : List (S31)) (r : Bool) (w : World) (hr0 : Kd.C k31 w A0 l0.length l0) (hc0 : l0.length ≤ c0) (h : laws_zzFits10.f k l0 = some r) :
  Calls Tryz.prog 14 #[.slice A0 l0.length c0] w fun e w' => e = .returned (.bool r) ∧ Below w.heap.size w w':=by
 have hu31:=Tryz.underlying31
 have HR0:=Aside0.mk hr0
 have HC0:=Aside0.mk hc0
 clear hr0 hc0
 have HB:=Aside0.mk (Below.refl w.heap.size w)
 have H : (if (l0.length : Int) > 2147483647 then (some false) else (laws_zzFits10.l0 k l0 (l0.length : Int) 0)) = some r:=h
 clear h
 by_cases c2 : (l0.length : Int) > 2147483647
 ·rw [if_pos c2] at H
  have c2b0 : decide (2147483647 < (l0.length : Int)) = true:=decide_eq_true c2
  have c2b1 : decide (2147483647 < l0.length) = true:=decide_eq_true (by omega)
  clear c2
  obtain rfl:=Option.some.inj H
  go_enter Tryz.func14,Tryz.ntmps14
  go_wp2
  go_ret
  exact ⟨by first | rfl | (simp [errW_none,errW_some] <;> rfl) | (simp [*,errW_none,errW_some] <;> rfl),by repeat (first | (with_reducible first | exact HB.out | apply below_alloc | apply pw_below_drewN | apply below_drew1) | exact HB.out)⟩
 ·rw [if_neg c2] at H
  have c2b0 : decide (2147483647 < (l0.length : Int)) = false:=decide_eq_false c2
  have c2b1 : decide (2147483647 < l0.length) = false:=decide_eq_false (by omega)
  clear c2
  have H':=Aside0.mk H
  clear H
  go_enter Tryz.func14,Tryz.ntmps14
  go_wp2
  go_loopg [10] k (fun kq v10 w' => ∃ (x10_1 : Int),v10 = .int .i64 x10_1 ∧ Aside0 (laws_zzFits10.l0 kq l0 (l0.length : Int) x10_1 = some r) ∧ Aside0 (kq ≤ k) ∧ Aside0 (Below w.heap.size w w'))
  case atStart => exact ⟨(0),(by first | rfl | (simp; done) | (simp [*]; done)),H',⟨Nat.le_refl _⟩,⟨by repeat (first | (with_reducible first | exact HB.out | apply below_alloc | apply pw_below_drewN | apply below_drew1) | exact HB.out)⟩⟩
  case round =>
   clear H'
   try clear c1
   try clear c2
   try clear c2b0
   try clear c2b1
   try clear p2
   obtain ⟨x10_1,rfl,HA,HK1,HB⟩:=hrel
   cases gk with
   | zero => exact absurd HA.out (by simp [laws_zzFits10.l0])
   | succ k1 =>
    have H:=HA.out
    clear HA
    simp only [laws_zzFits10.l0] at H
    by_cases c3 : x10_1 < (l0.length : Int)
    ·rw [if_pos c3] at H
     have c3b0 : decide (x10_1 < (l0.length : Int)) = true:=decide_eq_true c3
     clear c3
     by_cases c4 : 0 ≤ x10_1
     ·rw [if_pos c4] at H
      have c4b0 : decide (0 ≤ x10_1) = true:=decide_eq_true c4
      clear c4
      by_cases c5 : x10_1 < (l0.length : Int)
      ·rw [if_pos c5] at H
       have c5b0 : decide (x10_1 < (l0.length : Int)) = true:=decide_eq_true c5
       clear c5
       replace H:=Option.bind_eq_some_iff.mp H
       obtain ⟨t115,A60,H⟩:=H
       replace H : (if t115 = true then (laws_zzFits10.l0 k1 l0 (l0.length : Int) (wrap64 (x10_1 + 1))) else (some false)) = some r:=H
       have A6:=Aside0.mk A60
       clear A60
       by_cases c7 : t115 = true
       ·subst c7
        have H1 : (laws_zzFits10.l0 k1 l0 (l0.length : Int) (wrap64 (x10_1 + 1))) = some r:=by rw [if_pos rfl] at H; exact H
        clear H
        have H:=H1
        clear H1
        have H':=Aside0.mk H
        clear H
        have p113 : 0 ≤ (x10_1 : Int):=of_decide_eq_true (by first | (with_reducible assumption) | assumption)
        have q113 : x10_1 < (l0.length : Int):=of_decide_eq_true (by first | (with_reducible assumption) | assumption)
        obtain ⟨ad113,A113_1,c113_1,A113_4,c113_4,e113,hx113_0,hx113_1,hx113_2,hx113_3,hx113_4,hl113_1,hi113_1,hl113_4,hi113_4⟩:=at_T31 HR0.out x10_1 p113 q113
        cases e113
        replace hx113_0:=(HB.out.cell (World.block_lt_of_cell? w _ hx113_0)).trans hx113_0
        replace hx113_1:=(HB.out.cell (World.block_lt_of_cell? w _ hx113_1)).trans hx113_1
        replace hx113_2:=(HB.out.cell (World.block_lt_of_cell? w _ hx113_2)).trans hx113_2
        replace hx113_3:=(HB.out.cell (World.block_lt_of_cell? w _ hx113_3)).trans hx113_3
        replace hx113_4:=(HB.out.cell (World.block_lt_of_cell? w _ hx113_4)).trans hx113_4
        have HR113_1:=Aside0.mk hi113_1
        have HC113_1:=Aside0.mk hl113_1
        clear hi113_1 hl113_1
        have HR113_4:=Aside0.mk hi113_4
        have HC113_4:=Aside0.mk hl113_4
        clear hi113_4 hl113_4
        replace p113:=eq_true p113
        replace q113:=eq_true q113
        go_wp2_with (first | ((with_reducible refine gate_dst (N:=4) rfl ?_); refine box_event ?hg (N:=4) ?hd (cs:=#[.string (⟨#[]⟩ : ByteArray),.slice none 0 0,.int .u8 0,.string (⟨#[]⟩ : ByteArray),.slice none 0 0]) (t:=31) ?hr ?_; (case hd => rfl); (case hg => rfl); (case hr => first | (go_simp; done) | (go_simp; rfl)); intro gb114 hg w8 hbox hb; have n0_:=Aside0.mk (below_step (by repeat (first | (with_reducible first | exact HB.out | apply below_alloc | apply pw_below_drewN | apply below_drew1) | exact HB.out)) hb); have n1_:=Aside0.mk (hbox); have n2_:=Aside0.mk ((by rw [hg]; exact (below_size (by repeat (first | (with_reducible first | exact HB.out | apply below_alloc | apply pw_below_drewN | apply below_drew1) | exact HB.out))) : w.heap.size ≤ gb114)); have n3_:=Aside0.mk ((by rw [hg]; exact (below_size (by repeat (first | (with_reducible first | exact HB.out | apply below_alloc | apply pw_below_drewN | apply below_drew1) | exact HB.out))) : w.heap.size ≤ gb114)); clear HB; have HB:=n0_; have BK114:=n1_; have GW114:=n2_; have GE114:=n3_; clear n0_ n1_ n2_ n3_; clear hb hbox hg; have hcz9_0 : w8.cell? ⟨gb114,0,none⟩ = some (.string (⟨#[]⟩ : ByteArray)):=(blk_cell BK114.out 0).trans rfl; have hcz9_1 : w8.cell? ⟨gb114,1,none⟩ = some (.slice none 0 0):=(blk_cell BK114.out 1).trans rfl; have hcz9_2 : w8.cell? ⟨gb114,2,none⟩ = some (.int .u8 0):=(blk_cell BK114.out 2).trans rfl; have hcz9_3 : w8.cell? ⟨gb114,3,none⟩ = some (.string (⟨#[]⟩ : ByteArray)):=(blk_cell BK114.out 3).trans rfl; have hcz9_4 : w8.cell? ⟨gb114,4,none⟩ = some (.slice none 0 0):=(blk_cell BK114.out 4).trans rfl; have hfz9_0:=blk_frozen BK114.out 0; have hfz9_1:=blk_frozen BK114.out 1; have hfz9_2:=blk_frozen BK114.out 2; have hfz9_3:=blk_frozen BK114.out 3; have hfz9_4:=blk_frozen BK114.out 4) | ((with_reducible refine gate_callee (f:=32) rfl ?_); refine goesL_ (some 15) rfl rfl Tryz.func32 (by kernel_rfl) rfl #[.agg #[.string ((rd_T31 l0 x10_1).f0),.slice A113_1 ((rd_T31 l0 x10_1).f1).length c113_1,.int .u8 ((rd_T31 l0 x10_1).f2),.string ((rd_T31 l0 x10_1).f3),.slice A113_4 ((rd_T31 l0 x10_1).f4).length c113_4]] rfl (by (try simp only [List.map_toArray,List.map_cons,List.map_nil]); first | done | rfl | (simp only [List.length_drop,List.length_take]; rfl)) ?_; (with_reducible refine (laws_zzFits3.calls k1 ((rd_T31 l0 x10_1).f0) _ _ ((rd_T31 l0 x10_1).f1) ((rd_T31 l0 x10_1).f2) ((rd_T31 l0 x10_1).f3) _ _ ((rd_T31 l0 x10_1).f4) true _ ?side1 ?side2 ?side3 ?side4 A6.out).mono ?_); (case side1 => exact Kd.C_below HR113_1.out (by repeat (first | (with_reducible first | exact HB.out | apply below_alloc | apply pw_below_drewN | apply below_drew1 | refine below_set ?_ GE114.out) | exact HB.out))); (case side2 => exact HC113_1.out); (case side3 => exact Kd.C_below HR113_4.out (by repeat (first | (with_reducible first | exact HB.out | apply below_alloc | apply pw_below_drewN | apply below_drew1 | refine below_set ?_ GE114.out) | exact HB.out))); (case side4 => exact HC113_4.out); rintro e w10 ⟨rfl,hb⟩; refine ⟨_,rfl,?_⟩; have n0_:=Aside0.mk (blk_below (g:=gb114) (o:=.cells #[.string ((rd_T31 l0 x10_1).f0),.slice A113_1 ((rd_T31 l0 x10_1).f1).length c113_1,.int .u8 ((rd_T31 l0 x10_1).f2),.string ((rd_T31 l0 x10_1).f3),.slice A113_4 ((rd_T31 l0 x10_1).f4).length c113_4] 31 (0,0)) (by (with_reducible repeat (first | refine blk_drewN ?_ _ | refine blk_drew ?_ | refine blk_alloc ?_ _)); refine blk_put (cs:=#[.string ((rd_T31 l0 x10_1).f0),.slice A113_1 ((rd_T31 l0 x10_1).f1).length c113_1,.int .u8 ((rd_T31 l0 x10_1).f2),.string ((rd_T31 l0 x10_1).f3),.slice none 0 0]) ?_ 4 _ rfl; (with_reducible repeat (first | refine blk_drewN ?_ _ | refine blk_drew ?_ | refine blk_alloc ?_ _)); refine blk_put (cs:=#[.string ((rd_T31 l0 x10_1).f0),.slice A113_1 ((rd_T31 l0 x10_1).f1).length c113_1,.int .u8 ((rd_T31 l0 x10_1).f2),.string (⟨#[]⟩ : ByteArray),.slice none 0 0]) ?_ 3 _ rfl; (with_reducible repeat (first | refine blk_drewN ?_ _ | refine blk_drew ?_ | refine blk_alloc ?_ _)); refine blk_put (cs:=#[.string ((rd_T31 l0 x10_1).f0),.slice A113_1 ((rd_T31 l0 x10_1).f1).length c113_1,.int .u8 0,.string (⟨#[]⟩ : ByteArray),.slice none 0 0]) ?_ 2 _ rfl; (with_reducible repeat (first | refine blk_drewN ?_ _ | refine blk_drew ?_ | refine blk_alloc ?_ _)); refine blk_put (cs:=#[.string ((rd_T31 l0 x10_1).f0),.slice none 0 0,.int .u8 0,.string (⟨#[]⟩ : ByteArray),.slice none 0 0]) ?_ 1 _ rfl; (with_reducible repeat (first | refine blk_drewN ?_ _ | refine blk_drew ?_ | refine blk_alloc ?_ _)); refine blk_put (cs:=#[.string (⟨#[]⟩ : ByteArray),.slice none 0 0,.int .u8 0,.string (⟨#[]⟩ : ByteArray),.slice none 0 0]) ?_ 0 _ rfl; (with_reducible repeat (first | refine blk_drewN ?_ _ | refine blk_drew ?_ | refine blk_alloc ?_ _)); exact BK114.out) hb); have n1_:=Aside0.mk (below_step (by repeat (first | (with_reducible first | exact HB.out | apply below_alloc | apply pw_below_drewN | apply below_drew1 | refine below_set ?_ GE114.out) | exact HB.out)) hb); clear BK114; clear HB; have BK114:=n0_; have HB:=n1_; clear n0_ n1_; (try clear hb); (try clear hb2); (try clear hk); (try clear hi)))
        go_roundg k1
        case measure => have:=HK1.out; omega
        case rel => exact ⟨(wrap64 (x10_1 + 1)),(by first | rfl | (simp; done) | (simp [*]; done)),H',⟨by have:=HK1.out; omega⟩,⟨by repeat (first | (with_reducible first | exact HB.out | apply below_alloc | apply pw_below_drewN | apply below_drew1 | refine below_set ?_ GE114.out) | exact HB.out)⟩⟩
       ·replace c7:=Bool.eq_false_iff.mpr c7
        subst c7
        have H1 : (some false) = some r:=by rw [if_neg (show ¬ (false = true) by decide)] at H; exact H
        clear H
        have H:=H1
        clear H1
        obtain rfl:=Option.some.inj H
        have p113 : 0 ≤ (x10_1 : Int):=of_decide_eq_true (by first | (with_reducible assumption) | assumption)
        have q113 : x10_1 < (l0.length : Int):=of_decide_eq_true (by first | (with_reducible assumption) | assumption)
        obtain ⟨ad113,A113_1,c113_1,A113_4,c113_4,e113,hx113_0,hx113_1,hx113_2,hx113_3,hx113_4,hl113_1,hi113_1,hl113_4,hi113_4⟩:=at_T31 HR0.out x10_1 p113 q113
        cases e113
        replace hx113_0:=(HB.out.cell (World.block_lt_of_cell? w _ hx113_0)).trans hx113_0
        replace hx113_1:=(HB.out.cell (World.block_lt_of_cell? w _ hx113_1)).trans hx113_1
        replace hx113_2:=(HB.out.cell (World.block_lt_of_cell? w _ hx113_2)).trans hx113_2
        replace hx113_3:=(HB.out.cell (World.block_lt_of_cell? w _ hx113_3)).trans hx113_3
        replace hx113_4:=(HB.out.cell (World.block_lt_of_cell? w _ hx113_4)).trans hx113_4
        have HR113_1:=Aside0.mk hi113_1
        have HC113_1:=Aside0.mk hl113_1
        clear hi113_1 hl113_1
        have HR113_4:=Aside0.mk hi113_4
        have HC113_4:=Aside0.mk hl113_4
        clear hi113_4 hl113_4
        replace p113:=eq_true p113
        replace q113:=eq_true q113
        go_wp2_with (first | ((with_reducible refine gate_dst (N:=4) rfl ?_); refine box_event ?hg (N:=4) ?hd (cs:=#[.string (⟨#[]⟩ : ByteArray),.slice none 0 0,.int .u8 0,.string (⟨#[]⟩ : ByteArray),.slice none 0 0]) (t:=31) ?hr ?_; (case hd => rfl); (case hg => rfl); (case hr => first | (go_simp; done) | (go_simp; rfl)); intro gb114 hg w11 hbox hb; have n0_:=Aside0.mk (below_step (by repeat (first | (with_reducible first | exact HB.out | apply below_alloc | apply pw_below_drewN | apply below_drew1) | exact HB.out)) hb); have n1_:=Aside0.mk (hbox); have n2_:=Aside0.mk ((by rw [hg]; exact (below_size (by repeat (first | (with_reducible first | exact HB.out | apply below_alloc | apply pw_below_drewN | apply below_drew1) | exact HB.out))) : w.heap.size ≤ gb114)); have n3_:=Aside0.mk ((by rw [hg]; exact (below_size (by repeat (first | (with_reducible first | exact HB.out | apply below_alloc | apply pw_below_drewN | apply below_drew1) | exact HB.out))) : w.heap.size ≤ gb114)); clear HB; have HB:=n0_; have BK114:=n1_; have GW114:=n2_; have GE114:=n3_; clear n0_ n1_ n2_ n3_; clear hb hbox hg; have hcz12_0 : w11.cell? ⟨gb114,0,none⟩ = some (.string (⟨#[]⟩ : ByteArray)):=(blk_cell BK114.out 0).trans rfl; have hcz12_1 : w11.cell? ⟨gb114,1,none⟩ = some (.slice none 0 0):=(blk_cell BK114.out 1).trans rfl; have hcz12_2 : w11.cell? ⟨gb114,2,none⟩ = some (.int .u8 0):=(blk_cell BK114.out 2).trans rfl; have hcz12_3 : w11.cell? ⟨gb114,3,none⟩ = some (.string (⟨#[]⟩ : ByteArray)):=(blk_cell BK114.out 3).trans rfl; have hcz12_4 : w11.cell? ⟨gb114,4,none⟩ = some (.slice none 0 0):=(blk_cell BK114.out 4).trans rfl; have hfz12_0:=blk_frozen BK114.out 0; have hfz12_1:=blk_frozen BK114.out 1; have hfz12_2:=blk_frozen BK114.out 2; have hfz12_3:=blk_frozen BK114.out 3; have hfz12_4:=blk_frozen BK114.out 4) | ((with_reducible refine gate_callee (f:=32) rfl ?_); refine goesL_ (some 15) rfl rfl Tryz.func32 (by kernel_rfl) rfl #[.agg #[.string ((rd_T31 l0 x10_1).f0),.slice A113_1 ((rd_T31 l0 x10_1).f1).length c113_1,.int .u8 ((rd_T31 l0 x10_1).f2),.string ((rd_T31 l0 x10_1).f3),.slice A113_4 ((rd_T31 l0 x10_1).f4).length c113_4]] rfl (by (try simp only [List.map_toArray,List.map_cons,List.map_nil]); first | done | rfl | (simp only [List.length_drop,List.length_take]; rfl)) ?_; (with_reducible refine (laws_zzFits3.calls k1 ((rd_T31 l0 x10_1).f0) _ _ ((rd_T31 l0 x10_1).f1) ((rd_T31 l0 x10_1).f2) ((rd_T31 l0 x10_1).f3) _ _ ((rd_T31 l0 x10_1).f4) false _ ?side1 ?side2 ?side3 ?side4 A6.out).mono ?_); (case side1 => exact Kd.C_below HR113_1.out (by repeat (first | (with_reducible first | exact HB.out | apply below_alloc | apply pw_below_drewN | apply below_drew1 | refine below_set ?_ GE114.out) | exact HB.out))); (case side2 => exact HC113_1.out); (case side3 => exact Kd.C_below HR113_4.out (by repeat (first | (with_reducible first | exact HB.out | apply below_alloc | apply pw_below_drewN | apply below_drew1 | refine below_set ?_ GE114.out) | exact HB.out))); (case side4 => exact HC113_4.out); rintro e w13 ⟨rfl,hb⟩; refine ⟨_,rfl,?_⟩; have n0_:=Aside0.mk (blk_below (g:=gb114) (o:=.cells #[.string ((rd_T31 l0 x10_1).f0),.slice A113_1 ((rd_T31 l0 x10_1).f1).length c113_1,.int .u8 ((rd_T31 l0 x10_1).f2),.string ((rd_T31 l0 x10_1).f3),.slice A113_4 ((rd_T31 l0 x10_1).f4).length c113_4] 31 (0,0)) (by (with_reducible repeat (first | refine blk_drewN ?_ _ | refine blk_drew ?_ | refine blk_alloc ?_ _)); refine blk_put (cs:=#[.string ((rd_T31 l0 x10_1).f0),.slice A113_1 ((rd_T31 l0 x10_1).f1).length c113_1,.int .u8 ((rd_T31 l0 x10_1).f2),.string ((rd_T31 l0 x10_1).f3),.slice none 0 0]) ?_ 4 _ rfl; (with_reducible repeat (first | refine blk_drewN ?_ _ | refine blk_drew ?_ | refine blk_alloc ?_ _)); refine blk_put (cs:=#[.string ((rd_T31 l0 x10_1).f0),.slice A113_1 ((rd_T31 l0 x10_1).f1).length c113_1,.int .u8 ((rd_T31 l0 x10_1).f2),.string (⟨#[]⟩ : ByteArray),.slice none 0 0]) ?_ 3 _ rfl; (with_reducible repeat (first | refine blk_drewN ?_ _ | refine blk_drew ?_ | refine blk_alloc ?_ _)); refine blk_put (cs:=#[.string ((rd_T31 l0 x10_1).f0),.slice A113_1 ((rd_T31 l0 x10_1).f1).length c113_1,.int .u8 0,.string (⟨#[]⟩ : ByteArray),.slice none 0 0]) ?_ 2 _ rfl; (with_reducible repeat (first | refine blk_drewN ?_ _ | refine blk_drew ?_ | refine blk_alloc ?_ _)); refine blk_put (cs:=#[.string ((rd_T31 l0 x10_1).f0),.slice none 0 0,.int .u8 0,.string (⟨#[]⟩ : ByteArray),.slice none 0 0]) ?_ 1 _ rfl; (with_reducible repeat (first | refine blk_drewN ?_ _ | refine blk_drew ?_ | refine blk_alloc ?_ _)); refine blk_put (cs:=#[.string (⟨#[]⟩ : ByteArray),.slice none 0 0,.int .u8 0,.string (⟨#[]⟩ : ByteArray),.slice none 0 0]) ?_ 0 _ rfl; (with_reducible repeat (first | refine blk_drewN ?_ _ | refine blk_drew ?_ | refine blk_alloc ?_ _)); exact BK114.out) hb); have n1_:=Aside0.mk (below_step (by repeat (first | (with_reducible first | exact HB.out | apply below_alloc | apply pw_below_drewN | apply below_drew1 | refine below_set ?_ GE114.out) | exact HB.out)) hb); clear BK114; clear HB; have BK114:=n0_; have HB:=n1_; clear n0_ n1_; (try clear hb); (try clear hb2); (try clear hk); (try clear hi)))
        go_ret
        exact ⟨by first | rfl | (simp [errW_none,errW_some] <;> rfl) | (simp [*,errW_none,errW_some] <;> rfl),by repeat (first | (with_reducible first | exact HB.out | apply below_alloc | apply pw_below_drewN | apply below_drew1 | refine below_set ?_ GE114.out) | exact HB.out)⟩
      ·rw [if_neg c5] at H
       exact absurd H (by simp)
     ·rw [if_neg c4] at H
      exact absurd H (by simp)
    ·rw [if_neg c3] at H
     have c3b0 : decide (x10_1 < (l0.length : Int)) = false:=decide_eq_false c3
     clear c3
     obtain rfl:=Option.some.inj H
     go_wp2
     go_ret
     exact ⟨by first | rfl | (simp [errW_none,errW_some] <;> rfl) | (simp [*,errW_none,errW_some] <;> rfl),by repeat (first | (with_reducible first | exact HB.out | apply below_alloc | apply pw_below_drewN | apply below_drew1) | exact HB.out)⟩
def laws_zzFits7.f (k : Nat) (l0_0 : List (S35)) (l0_1 : List (S31)) : Option (Bool):=(laws_zzFits8.f k l0_0).bind fun t117 => (if t117 = true then ((laws_zzFits10.f k l0_1).bind fun t118 => (if t118 = true then (some true) else (some false))) else (some false))
theorem laws_zzFits7.mono : ∀ a0 a1 k,LeO (laws_zzFits7.f k a0 a1) (laws_zzFits7.f (k + 1) a0 a1):=by
 intro a0 a1 k
 unfold laws_zzFits7.f
 repeat' first
   | (with_reducible exact laws_zzFits10.mono _ _)
   | (with_reducible exact laws_zzFits8.mono _ _)
   | (with_reducible exact LeO.refl _)
   | (with_reducible exact LeO.none _)
   | (with_reducible refine LeO.ite ?_ ?_)
   | (with_reducible refine LeO.bind ?_ (fun _ => ?_))
   | exact laws_zzFits10.mono _ _
   | exact laws_zzFits8.mono _ _
   | exact LeO.none _
   | refine LeO.ite ?_ ?_
   | refine LeO.bind ?_ (fun _ => ?_)
set_option maxHeartbeats 8000000 in
set_option maxRecDepth 100000 in
theorem laws_zzFits7.calls (k : Nat) (A0_0 : Option Addr) (c0_0 : Nat) (l0_0 : List (S35)) (A0_1 : Option Addr) (c0_1 : Nat) (l0_1 : List (S31)) (r : Bool) (w : World) (hr0_0 : Kd.C k35 w A0_0 l0_0.length l0_0) (hc0_0 : l0_0.length ≤ c0_0) (hr0_1 : Kd.C k31 w A0_1 l0_1.length l0_1) (hc0_1 : l0_1.length ≤ c0_1) (h : laws_zzFits7.f k l0_0 l0_1 = some r) :
  Calls Tryz.prog 4 #[.agg #[.slice A0_0 l0_0.length c0_0,.slice A0_1 l0_1.length c0_1]] w fun e w' => e = .returned (.bool r) ∧ Below w.heap.size w w':=by
 have hu25:=Tryz.underlying25
 have HR0_0:=Aside0.mk hr0_0
 have HC0_0:=Aside0.mk hc0_0
 clear hr0_0 hc0_0
 have HR0_1:=Aside0.mk hr0_1
 have HC0_1:=Aside0.mk hc0_1
 clear hr0_1 hc0_1
 have HB:=Aside0.mk (Below.refl w.heap.size w)
 have H : ((laws_zzFits8.f k l0_0).bind fun t117 => (if t117 = true then ((laws_zzFits10.f k l0_1).bind fun t118 => (if t118 = true then (some true) else (some false))) else (some false))) = some r:=h
 clear h
 replace H:=Option.bind_eq_some_iff.mp H
 obtain ⟨t117,A20,H⟩:=H
 replace H : (if t117 = true then ((laws_zzFits10.f k l0_1).bind fun t118 => (if t118 = true then (some true) else (some false))) else (some false)) = some r:=H
 have A2:=Aside0.mk A20
 clear A20
 by_cases c3 : t117 = true
 ·subst c3
  have H1 : ((laws_zzFits10.f k l0_1).bind fun t118 => (if t118 = true then (some true) else (some false))) = some r:=by rw [if_pos rfl] at H; exact H
  clear H
  have H:=H1
  clear H1
  replace H:=Option.bind_eq_some_iff.mp H
  obtain ⟨t118,A40,H⟩:=H
  replace H : (if t118 = true then (some true) else (some false)) = some r:=H
  have A4:=Aside0.mk A40
  clear A40
  by_cases c5 : t118 = true
  ·subst c5
   have H1 : (some true) = some r:=by rw [if_pos rfl] at H; exact H
   clear H
   have H:=H1
   clear H1
   obtain rfl:=Option.some.inj H
   go_enter Tryz.func4,Tryz.ntmps4
   go_wp2_with (first | ((with_reducible refine gate_dst (N:=1) rfl ?_); refine box_event ?hg (N:=1) ?hd (cs:=#[.slice A0_0 l0_0.length c0_0,.slice A0_1 l0_1.length c0_1]) (t:=25) ?hr ?_; (case hd => rfl); (case hg => rfl); (case hr => first | (go_simp; done) | (go_simp; rfl)); intro gb116 hg w6 hbox hb; have n0_:=Aside0.mk (below_step (by repeat (first | (with_reducible first | exact HB.out | apply below_alloc | apply pw_below_drewN | apply below_drew1) | exact HB.out)) hb); have n1_:=Aside0.mk (hbox); have n2_:=Aside0.mk ((by rw [hg]; exact (below_size (by repeat (first | (with_reducible first | exact HB.out | apply below_alloc | apply pw_below_drewN | apply below_drew1) | exact HB.out))) : w.heap.size ≤ gb116)); have n3_:=Aside0.mk ((by rw [hg]; exact (below_size (by repeat (first | (with_reducible first | exact HB.out | apply below_alloc | apply pw_below_drewN | apply below_drew1) | exact HB.out))) : w.heap.size ≤ gb116)); clear HB; have HB:=n0_; have BK116:=n1_; have GW116:=n2_; have GE116:=n3_; clear n0_ n1_ n2_ n3_; clear hb hbox hg; have hcz7_0 : w6.cell? ⟨gb116,0,none⟩ = some (.slice A0_0 l0_0.length c0_0):=(blk_cell BK116.out 0).trans rfl; have hcz7_1 : w6.cell? ⟨gb116,1,none⟩ = some (.slice A0_1 l0_1.length c0_1):=(blk_cell BK116.out 1).trans rfl; have hfz7_0:=blk_frozen BK116.out 0; have hfz7_1:=blk_frozen BK116.out 1) | ((with_reducible refine gate_callee (f:=13) rfl ?_); refine goesL_ (some 5) rfl rfl Tryz.func13 (by kernel_rfl) rfl #[.slice A0_0 l0_0.length c0_0] rfl (by (try simp only [List.map_toArray,List.map_cons,List.map_nil]); first | done | rfl | (simp only [List.length_drop,List.length_take]; rfl)) ?_; (with_reducible refine (laws_zzFits8.calls k _ _ l0_0 true _ ?side1 ?side2 A2.out).mono ?_); (case side1 => repeat (first | exact (Kd.C_below HR0_0.out HB.out) | (with_reducible refine Kd.C_alloc ?_ _) | (with_reducible refine Kd.C_drewN ?_ _) | (with_reducible refine Kd.C_drew ?_))); (case side2 => exact HC0_0.out); rintro e w8 ⟨rfl,hb⟩; refine ⟨_,rfl,?_⟩; have n0_:=Aside0.mk (blk_below (g:=gb116) (o:=.cells #[.slice A0_0 l0_0.length c0_0,.slice A0_1 l0_1.length c0_1] 25 (0,0)) (by (with_reducible repeat (first | refine blk_drewN ?_ _ | refine blk_drew ?_ | refine blk_alloc ?_ _)); exact BK116.out) hb); have n1_:=Aside0.mk (below_step (by repeat (first | (with_reducible first | exact HB.out | apply below_alloc | apply pw_below_drewN | apply below_drew1 | refine below_set ?_ GE116.out) | exact HB.out)) hb); clear BK116; clear HB; have BK116:=n0_; have HB:=n1_; clear n0_ n1_; (try clear hb); (try clear hb2); (try clear hk); (try clear hi); have hcz9_0 : w8.cell? ⟨gb116,0,none⟩ = some (.slice A0_0 l0_0.length c0_0):=(blk_cell BK116.out 0).trans rfl; have hcz9_1 : w8.cell? ⟨gb116,1,none⟩ = some (.slice A0_1 l0_1.length c0_1):=(blk_cell BK116.out 1).trans rfl; have hfz9_0:=blk_frozen BK116.out 0; have hfz9_1:=blk_frozen BK116.out 1) | ((with_reducible refine gate_callee (f:=14) rfl ?_); refine goesL_ (some 9) rfl rfl Tryz.func14 (by kernel_rfl) rfl #[.slice A0_1 l0_1.length c0_1] rfl (by (try simp only [List.map_toArray,List.map_cons,List.map_nil]); first | done | rfl | (simp only [List.length_drop,List.length_take]; rfl)) ?_; (with_reducible refine (laws_zzFits10.calls k _ _ l0_1 true _ ?side1 ?side2 A4.out).mono ?_); (case side1 => repeat (first | exact (Kd.C_below HR0_1.out HB.out) | (with_reducible refine Kd.C_alloc ?_ _) | (with_reducible refine Kd.C_drewN ?_ _) | (with_reducible refine Kd.C_drew ?_))); (case side2 => exact HC0_1.out); rintro e w10 ⟨rfl,hb⟩; refine ⟨_,rfl,?_⟩; have n0_:=Aside0.mk (blk_below (g:=gb116) (o:=.cells #[.slice A0_0 l0_0.length c0_0,.slice A0_1 l0_1.length c0_1] 25 (0,0)) (by (with_reducible repeat (first | refine blk_drewN ?_ _ | refine blk_drew ?_ | refine blk_alloc ?_ _)); exact BK116.out) hb); have n1_:=Aside0.mk (below_step (by repeat (first | (with_reducible first | exact HB.out | apply below_alloc | apply pw_below_drewN | apply below_drew1 | refine below_set ?_ GE116.out) | exact HB.out)) hb); clear BK116; clear HB; have BK116:=n0_; have HB:=n1_; clear n0_ n1_; (try clear hb); (try clear hb2); (try clear hk); (try clear hi)))
   go_ret
   exact ⟨by first | rfl | (simp [errW_none,errW_some] <;> rfl) | (simp [*,errW_none,errW_some] <;> rfl),by repeat (first | (with_reducible first | exact HB.out | apply below_alloc | apply pw_below_drewN | apply below_drew1 | refine below_set ?_ GE116.out) | exact HB.out)⟩
  ·replace c5:=Bool.eq_false_iff.mpr c5
   subst c5
   have H1 : (some false) = some r:=by rw [if_neg (show ¬ (false = true) by decide)] at H; exact H
   clear H
   have H:=H1
   clear H1
   obtain rfl:=Option.some.inj H
   go_enter Tryz.func4,Tryz.ntmps4
   go_wp2_with (first | ((with_reducible refine gate_dst (N:=1) rfl ?_); refine box_event ?hg (N:=1) ?hd (cs:=#[.slice A0_0 l0_0.length c0_0,.slice A0_1 l0_1.length c0_1]) (t:=25) ?hr ?_; (case hd => rfl); (case hg => rfl); (case hr => first | (go_simp; done) | (go_simp; rfl)); intro gb116 hg w11 hbox hb; have n0_:=Aside0.mk (below_step (by repeat (first | (with_reducible first | exact HB.out | apply below_alloc | apply pw_below_drewN | apply below_drew1) | exact HB.out)) hb); have n1_:=Aside0.mk (hbox); have n2_:=Aside0.mk ((by rw [hg]; exact (below_size (by repeat (first | (with_reducible first | exact HB.out | apply below_alloc | apply pw_below_drewN | apply below_drew1) | exact HB.out))) : w.heap.size ≤ gb116)); have n3_:=Aside0.mk ((by rw [hg]; exact (below_size (by repeat (first | (with_reducible first | exact HB.out | apply below_alloc | apply pw_below_drewN | apply below_drew1) | exact HB.out))) : w.heap.size ≤ gb116)); clear HB; have HB:=n0_; have BK116:=n1_; have GW116:=n2_; have GE116:=n3_; clear n0_ n1_ n2_ n3_; clear hb hbox hg; have hcz12_0 : w11.cell? ⟨gb116,0,none⟩ = some (.slice A0_0 l0_0.length c0_0):=(blk_cell BK116.out 0).trans rfl; have hcz12_1 : w11.cell? ⟨gb116,1,none⟩ = some (.slice A0_1 l0_1.length c0_1):=(blk_cell BK116.out 1).trans rfl; have hfz12_0:=blk_frozen BK116.out 0; have hfz12_1:=blk_frozen BK116.out 1) | ((with_reducible refine gate_callee (f:=13) rfl ?_); refine goesL_ (some 5) rfl rfl Tryz.func13 (by kernel_rfl) rfl #[.slice A0_0 l0_0.length c0_0] rfl (by (try simp only [List.map_toArray,List.map_cons,List.map_nil]); first | done | rfl | (simp only [List.length_drop,List.length_take]; rfl)) ?_; (with_reducible refine (laws_zzFits8.calls k _ _ l0_0 true _ ?side1 ?side2 A2.out).mono ?_); (case side1 => repeat (first | exact (Kd.C_below HR0_0.out HB.out) | (with_reducible refine Kd.C_alloc ?_ _) | (with_reducible refine Kd.C_drewN ?_ _) | (with_reducible refine Kd.C_drew ?_))); (case side2 => exact HC0_0.out); rintro e w13 ⟨rfl,hb⟩; refine ⟨_,rfl,?_⟩; have n0_:=Aside0.mk (blk_below (g:=gb116) (o:=.cells #[.slice A0_0 l0_0.length c0_0,.slice A0_1 l0_1.length c0_1] 25 (0,0)) (by (with_reducible repeat (first | refine blk_drewN ?_ _ | refine blk_drew ?_ | refine blk_alloc ?_ _)); exact BK116.out) hb); have n1_:=Aside0.mk (below_step (by repeat (first | (with_reducible first | exact HB.out | apply below_alloc | apply pw_below_drewN | apply below_drew1 | refine below_set ?_ GE116.out) | exact HB.out)) hb); clear BK116; clear HB; have BK116:=n0_; have HB:=n1_; clear n0_ n1_; (try clear hb); (try clear hb2); (try clear hk); (try clear hi); have hcz14_0 : w13.cell? ⟨gb116,0,none⟩ = some (.slice A0_0 l0_0.length c0_0):=(blk_cell BK116.out 0).trans rfl; have hcz14_1 : w13.cell? ⟨gb116,1,none⟩ = some (.slice A0_1 l0_1.length c0_1):=(blk_cell BK116.out 1).trans rfl; have hfz14_0:=blk_frozen BK116.out 0; have hfz14_1:=blk_frozen BK116.out 1) | ((with_reducible refine gate_callee (f:=14) rfl ?_); refine goesL_ (some 9) rfl rfl Tryz.func14 (by kernel_rfl) rfl #[.slice A0_1 l0_1.length c0_1] rfl (by (try simp only [List.map_toArray,List.map_cons,List.map_nil]); first | done | rfl | (simp only [List.length_drop,List.length_take]; rfl)) ?_; (with_reducible refine (laws_zzFits10.calls k _ _ l0_1 false _ ?side1 ?side2 A4.out).mono ?_); (case side1 => repeat (first | exact (Kd.C_below HR0_1.out HB.out) | (with_reducible refine Kd.C_alloc ?_ _) | (with_reducible refine Kd.C_drewN ?_ _) | (with_reducible refine Kd.C_drew ?_))); (case side2 => exact HC0_1.out); rintro e w15 ⟨rfl,hb⟩; refine ⟨_,rfl,?_⟩; have n0_:=Aside0.mk (blk_below (g:=gb116) (o:=.cells #[.slice A0_0 l0_0.length c0_0,.slice A0_1 l0_1.length c0_1] 25 (0,0)) (by (with_reducible repeat (first | refine blk_drewN ?_ _ | refine blk_drew ?_ | refine blk_alloc ?_ _)); exact BK116.out) hb); have n1_:=Aside0.mk (below_step (by repeat (first | (with_reducible first | exact HB.out | apply below_alloc | apply pw_below_drewN | apply below_drew1 | refine below_set ?_ GE116.out) | exact HB.out)) hb); clear BK116; clear HB; have BK116:=n0_; have HB:=n1_; clear n0_ n1_; (try clear hb); (try clear hb2); (try clear hk); (try clear hi)))
   go_ret
   exact ⟨by first | rfl | (simp [errW_none,errW_some] <;> rfl) | (simp [*,errW_none,errW_some] <;> rfl),by repeat (first | (with_reducible first | exact HB.out | apply below_alloc | apply pw_below_drewN | apply below_drew1 | refine below_set ?_ GE116.out) | exact HB.out)⟩
 ·replace c3:=Bool.eq_false_iff.mpr c3
  subst c3
  have H1 : (some false) = some r:=by rw [if_neg (show ¬ (false = true) by decide)] at H; exact H
  clear H
  have H:=H1
  clear H1
  obtain rfl:=Option.some.inj H
  go_enter Tryz.func4,Tryz.ntmps4
  go_wp2_with (first | ((with_reducible refine gate_dst (N:=1) rfl ?_); refine box_event ?hg (N:=1) ?hd (cs:=#[.slice A0_0 l0_0.length c0_0,.slice A0_1 l0_1.length c0_1]) (t:=25) ?hr ?_; (case hd => rfl); (case hg => rfl); (case hr => first | (go_simp; done) | (go_simp; rfl)); intro gb116 hg w16 hbox hb; have n0_:=Aside0.mk (below_step (by repeat (first | (with_reducible first | exact HB.out | apply below_alloc | apply pw_below_drewN | apply below_drew1) | exact HB.out)) hb); have n1_:=Aside0.mk (hbox); have n2_:=Aside0.mk ((by rw [hg]; exact (below_size (by repeat (first | (with_reducible first | exact HB.out | apply below_alloc | apply pw_below_drewN | apply below_drew1) | exact HB.out))) : w.heap.size ≤ gb116)); have n3_:=Aside0.mk ((by rw [hg]; exact (below_size (by repeat (first | (with_reducible first | exact HB.out | apply below_alloc | apply pw_below_drewN | apply below_drew1) | exact HB.out))) : w.heap.size ≤ gb116)); clear HB; have HB:=n0_; have BK116:=n1_; have GW116:=n2_; have GE116:=n3_; clear n0_ n1_ n2_ n3_; clear hb hbox hg; have hcz17_0 : w16.cell? ⟨gb116,0,none⟩ = some (.slice A0_0 l0_0.length c0_0):=(blk_cell BK116.out 0).trans rfl; have hcz17_1 : w16.cell? ⟨gb116,1,none⟩ = some (.slice A0_1 l0_1.length c0_1):=(blk_cell BK116.out 1).trans rfl; have hfz17_0:=blk_frozen BK116.out 0; have hfz17_1:=blk_frozen BK116.out 1) | ((with_reducible refine gate_callee (f:=13) rfl ?_); refine goesL_ (some 5) rfl rfl Tryz.func13 (by kernel_rfl) rfl #[.slice A0_0 l0_0.length c0_0] rfl (by (try simp only [List.map_toArray,List.map_cons,List.map_nil]); first | done | rfl | (simp only [List.length_drop,List.length_take]; rfl)) ?_; (with_reducible refine (laws_zzFits8.calls k _ _ l0_0 false _ ?side1 ?side2 A2.out).mono ?_); (case side1 => repeat (first | exact (Kd.C_below HR0_0.out HB.out) | (with_reducible refine Kd.C_alloc ?_ _) | (with_reducible refine Kd.C_drewN ?_ _) | (with_reducible refine Kd.C_drew ?_))); (case side2 => exact HC0_0.out); rintro e w18 ⟨rfl,hb⟩; refine ⟨_,rfl,?_⟩; have n0_:=Aside0.mk (blk_below (g:=gb116) (o:=.cells #[.slice A0_0 l0_0.length c0_0,.slice A0_1 l0_1.length c0_1] 25 (0,0)) (by (with_reducible repeat (first | refine blk_drewN ?_ _ | refine blk_drew ?_ | refine blk_alloc ?_ _)); exact BK116.out) hb); have n1_:=Aside0.mk (below_step (by repeat (first | (with_reducible first | exact HB.out | apply below_alloc | apply pw_below_drewN | apply below_drew1 | refine below_set ?_ GE116.out) | exact HB.out)) hb); clear BK116; clear HB; have BK116:=n0_; have HB:=n1_; clear n0_ n1_; (try clear hb); (try clear hb2); (try clear hk); (try clear hi)))
  go_ret
  exact ⟨by first | rfl | (simp [errW_none,errW_some] <;> rfl) | (simp [*,errW_none,errW_some] <;> rfl),by repeat (first | (with_reducible first | exact HB.out | apply below_alloc | apply pw_below_drewN | apply below_drew1 | refine below_set ?_ GE116.out) | exact HB.out)⟩
end Go.Proofs.YtplbifmjnanceaaGreatDoor.PFnArchive
