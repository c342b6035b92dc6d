-- PRINTED BY print.sh 35421559b90ae4d0a3588c463048766b98c2df88dd9212a6774a882060cdf62d: not written by this session
import Derived.Test.YtplbifmjnanceaaDoorPAppliedx0
import Derived.Test.YtplbifmjnanceaaDoorPAppliedx1
namespace Go.Proofs.YtplbifmjnanceaaDoor.PApplied
open Go.RowKit Go.Proofs.YtplbifmjnanceaaDoorW.PrintWords Go.Proofs.YtplbifmjnanceaaDoorW.PrintLast Go.Proofs.YtplbifmjnanceaaDoorW.PrintMore
attribute [local go_sem] max2_int min2_int max_two min_two max_three min_three max_four min_four   -- for this text's walks alone
set_option linter.unusedVariables false
set_option linter.unusedSimpArgs false

/-! ### spec_Applied: function 9 -/
mutual
def spec_Applied.l0 : Nat → List ByteArray → ByteArray → Int → Int → List (S48) → Int → Int → Option (ByteArray × Bool)
  | 0, _, _, _, _, _, _, _ => none
  | k + 1, x6, x7, x8, x9, x16, x17, x18 => if x18 < x17 then (if 0 ≤ x18 then (if x18 < (x16.length : Int) then (if ((rd_T48 x16 x18).f0) < x8 then (spec_Applied.j1 k x6 x7 x8 x9 x16 x17 x18 true ((rd_T48 x16 x18).f0) ((rd_T48 x16 x18).f1) ((rd_T48 x16 x18).f2)) else (spec_Applied.j1 k x6 x7 x8 x9 x16 x17 x18 (decide (((rd_T48 x16 x18).f0) > (x6.length : Int))) ((rd_T48 x16 x18).f0) ((rd_T48 x16 x18).f1) ((rd_T48 x16 x18).f2))) else (none)) else (none)) else (spec_Applied.l3 k x6 x7 x8)
def spec_Applied.j1 : Nat → List ByteArray → ByteArray → Int → Int → List (S48) → Int → Int → Bool → Int → Int → List ByteArray → Option (ByteArray × Bool)
  | 0, _, _, _, _, _, _, _, _, _, _, _ => none
  | k + 1, x6, x7, x8, x9, x16, x17, x18, x32, x112000, x112001, x112002 => if x32 = true then (some ((⟨#[]⟩ : ByteArray), false)) else (spec_Applied.l1 k x6 x7 x8 x9 x16 x17 x18 x112000 x112001 x112002)
def spec_Applied.l1 : Nat → List ByteArray → ByteArray → Int → Int → List (S48) → Int → Int → Int → Int → List ByteArray → Option (ByteArray × Bool)
  | 0, _, _, _, _, _, _, _, _, _, _ => none
  | k + 1, x6, x7, x8, x9, x16, x17, x18, x112000, x112001, x112002 => if x8 < x112000 then (if 0 ≤ x8 then (if x8 < (x6.length : Int) then (if x7.size + (rdOf ByteArray.empty x6 x8).size ≤ 9223372036854775807 then (spec_Applied.l1 k x6 (x7 ++ (rdOf ByteArray.empty x6 x8)) (wrap64 (x8 + 1)) (wrap64 (x9 + 1)) x16 x17 x18 x112000 x112001 x112002) else (none)) else (none)) else (none)) else (if x9 = x112001 then (spec_Applied.l2 k x6 x7 x8 x9 x16 x17 x18 x112002 (x112002.length : Int) 0) else (some ((⟨#[]⟩ : ByteArray), false)))
def spec_Applied.l2 : Nat → List ByteArray → ByteArray → Int → Int → List (S48) → Int → Int → List ByteArray → Int → Int → Option (ByteArray × Bool)
  | 0, _, _, _, _, _, _, _, _, _, _ => none
  | k + 1, x6, x7, x8, x9, x16, x17, x18, x52, x53, x54 => if x54 < x53 then (if 0 ≤ x54 then (if x54 < (x52.length : Int) then (if 0 < ((rdOf ByteArray.empty x52 x54).size : Int) then (if (bt (rdOf ByteArray.empty x52 x54) 0) = 43 then (if (bt (rdOf ByteArray.empty x52 x54) 0) = 45 then (spec_Applied.l2 k x6 x7 x8 x9 x16 x17 x18 x52 x53 (wrap64 (x54 + 1))) else (if 1 ≤ ((rdOf ByteArray.empty x52 x54).size : Int) then (if x7.size + ((rdOf ByteArray.empty x52 x54).extract 1 (rdOf ByteArray.empty x52 x54).size).size ≤ 9223372036854775807 then (spec_Applied.l2 k x6 (x7 ++ ((rdOf ByteArray.empty x52 x54).extract 1 (rdOf ByteArray.empty x52 x54).size)) x8 (wrap64 (x9 + 1)) x16 x17 x18 x52 x53 (wrap64 (x54 + 1))) else (none)) else (none))) else (if x8 = (x6.length : Int) then (spec_Applied.j4 k x6 x7 x8 x9 (rdOf ByteArray.empty x52 x54) x16 x17 x18 x52 x53 x54 true) else (if 0 ≤ x8 then (if x8 < (x6.length : Int) then (if 1 ≤ ((rdOf ByteArray.empty x52 x54).size : Int) then (spec_Applied.j4 k x6 x7 x8 x9 (rdOf ByteArray.empty x52 x54) x16 x17 x18 x52 x53 x54 ((rdOf ByteArray.empty x6 x8).toList != ((rdOf ByteArray.empty x52 x54).extract 1 (rdOf ByteArray.empty x52 x54).size).toList)) else (none)) else (none)) else (none)))) else (none)) else (none)) else (none)) else (spec_Applied.l0 k x6 x7 x8 x9 x16 x17 (wrap64 (x18 + 1)))
def spec_Applied.j4 : Nat → List ByteArray → ByteArray → Int → Int → ByteArray → List (S48) → Int → Int → List ByteArray → Int → Int → Bool → Option (ByteArray × Bool)
  | 0, _, _, _, _, _, _, _, _, _, _, _, _ => none
  | k + 1, x6, x7, x8, x9, x13, x16, x17, x18, x52, x53, x54, x73 => if x73 = true then (some ((⟨#[]⟩ : ByteArray), false)) else (if 0 < (x13.size : Int) then (if (bt x13 0) = 45 then (spec_Applied.l2 k x6 x7 (wrap64 (x8 + 1)) x9 x16 x17 x18 x52 x53 (wrap64 (x54 + 1))) else (if 1 ≤ (x13.size : Int) then (if x7.size + (x13.extract 1 x13.size).size ≤ 9223372036854775807 then (spec_Applied.l2 k x6 (x7 ++ (x13.extract 1 x13.size)) (wrap64 (x8 + 1)) (wrap64 (x9 + 1)) x16 x17 x18 x52 x53 (wrap64 (x54 + 1))) else (none)) else (none))) else (none))
def spec_Applied.l3 : Nat → List ByteArray → ByteArray → Int → Option (ByteArray × Bool)
  | 0, _, _, _ => none
  | k + 1, x6, x7, x8 => if x8 < (x6.length : Int) then (if 0 ≤ x8 then (if x7.size + (rdOf ByteArray.empty x6 x8).size ≤ 9223372036854775807 then (spec_Applied.l3 k x6 (x7 ++ (rdOf ByteArray.empty x6 x8)) (wrap64 (x8 + 1))) else (none)) else (none)) else (some (x7, true))
end
def spec_Applied.f (k : Nat) (a0 : ByteArray) (l1 : List (S48)) : Option (ByteArray × Bool) := (spec_Rows.f k a0).bind fun t107 => (spec_Applied.l0 k t107 (⟨#[]⟩ : ByteArray) 0 0 l1 (l1.length : Int) 0)
theorem spec_Applied.mono_l : ∀ k, (∀ y0 y1 y2 y3 y4 y5 y6, LeO (spec_Applied.l0 k y0 y1 y2 y3 y4 y5 y6) (spec_Applied.l0 (k + 1) y0 y1 y2 y3 y4 y5 y6)) ∧ (∀ y0 y1 y2 y3 y4 y5 y6 y7 y8 y9 y10, LeO (spec_Applied.j1 k y0 y1 y2 y3 y4 y5 y6 y7 y8 y9 y10) (spec_Applied.j1 (k + 1) y0 y1 y2 y3 y4 y5 y6 y7 y8 y9 y10)) ∧ (∀ y0 y1 y2 y3 y4 y5 y6 y7 y8 y9, LeO (spec_Applied.l1 k y0 y1 y2 y3 y4 y5 y6 y7 y8 y9) (spec_Applied.l1 (k + 1) y0 y1 y2 y3 y4 y5 y6 y7 y8 y9)) ∧ (∀ y0 y1 y2 y3 y4 y5 y6 y7 y8 y9, LeO (spec_Applied.l2 k y0 y1 y2 y3 y4 y5 y6 y7 y8 y9) (spec_Applied.l2 (k + 1) y0 y1 y2 y3 y4 y5 y6 y7 y8 y9)) ∧ (∀ y0 y1 y2 y3 y4 y5 y6 y7 y8 y9 y10 y11, LeO (spec_Applied.j4 k y0 y1 y2 y3 y4 y5 y6 y7 y8 y9 y10 y11) (spec_Applied.j4 (k + 1) y0 y1 y2 y3 y4 y5 y6 y7 y8 y9 y10 y11)) ∧ (∀ y0 y1 y2, LeO (spec_Applied.l3 k y0 y1 y2) (spec_Applied.l3 (k + 1) y0 y1 y2))
  | 0 => ⟨fun _ _ _ _ _ _ _ r h => by simp [spec_Applied.l0] at h, fun _ _ _ _ _ _ _ _ _ _ _ r h => by simp [spec_Applied.j1] at h, fun _ _ _ _ _ _ _ _ _ _ r h => by simp [spec_Applied.l1] at h, fun _ _ _ _ _ _ _ _ _ _ r h => by simp [spec_Applied.l2] at h, fun _ _ _ _ _ _ _ _ _ _ _ _ r h => by simp [spec_Applied.j4] at h, fun _ _ _ r h => by simp [spec_Applied.l3] at h⟩
  | k + 1 => by
    obtain ⟨ih0, ih1, ih2, ih3, ih4, ih5⟩ := spec_Applied.mono_l k
    refine ⟨?_, ?_, ?_, ?_, ?_, ?_⟩
    · intro y0 y1 y2 y3 y4 y5 y6
      unfold spec_Applied.l0
      repeat' first
      | (with_reducible exact ih0 _ _ _ _ _ _ _)
      | (with_reducible exact ih1 _ _ _ _ _ _ _ _ _ _ _)
      | (with_reducible exact ih2 _ _ _ _ _ _ _ _ _ _)
      | (with_reducible exact ih3 _ _ _ _ _ _ _ _ _ _)
      | (with_reducible exact ih4 _ _ _ _ _ _ _ _ _ _ _ _)
      | (with_reducible exact ih5 _ _ _)
      | (with_reducible exact spec_Rows.mono _ _)
      | (with_reducible exact LeO.refl _)
      | (with_reducible exact LeO.none _)
      | (with_reducible refine LeO.ite ?_ ?_)
      | (with_reducible refine LeO.bind ?_ (fun _ => ?_))
      | exact ih0 _ _ _ _ _ _ _
      | exact ih1 _ _ _ _ _ _ _ _ _ _ _
      | exact ih2 _ _ _ _ _ _ _ _ _ _
      | exact ih3 _ _ _ _ _ _ _ _ _ _
      | exact ih4 _ _ _ _ _ _ _ _ _ _ _ _
      | exact ih5 _ _ _
      | exact spec_Rows.mono _ _
      | exact LeO.none _
      | refine LeO.ite ?_ ?_
      | refine LeO.bind ?_ (fun _ => ?_)
    · intro y0 y1 y2 y3 y4 y5 y6 y7 y8 y9 y10
      unfold spec_Applied.j1
      repeat' first
      | (with_reducible exact ih0 _ _ _ _ _ _ _)
      | (with_reducible exact ih1 _ _ _ _ _ _ _ _ _ _ _)
      | (with_reducible exact ih2 _ _ _ _ _ _ _ _ _ _)
      | (with_reducible exact ih3 _ _ _ _ _ _ _ _ _ _)
      | (with_reducible exact ih4 _ _ _ _ _ _ _ _ _ _ _ _)
      | (with_reducible exact ih5 _ _ _)
      | (with_reducible exact spec_Rows.mono _ _)
      | (with_reducible exact LeO.refl _)
      | (with_reducible exact LeO.none _)
      | (with_reducible refine LeO.ite ?_ ?_)
      | (with_reducible refine LeO.bind ?_ (fun _ => ?_))
      | exact ih0 _ _ _ _ _ _ _
      | exact ih1 _ _ _ _ _ _ _ _ _ _ _
      | exact ih2 _ _ _ _ _ _ _ _ _ _
      | exact ih3 _ _ _ _ _ _ _ _ _ _
      | exact ih4 _ _ _ _ _ _ _ _ _ _ _ _
      | exact ih5 _ _ _
      | exact spec_Rows.mono _ _
      | exact LeO.none _
      | refine LeO.ite ?_ ?_
      | refine LeO.bind ?_ (fun _ => ?_)
    · intro y0 y1 y2 y3 y4 y5 y6 y7 y8 y9
      unfold spec_Applied.l1
      repeat' first
      | (with_reducible exact ih0 _ _ _ _ _ _ _)
      | (with_reducible exact ih1 _ _ _ _ _ _ _ _ _ _ _)
      | (with_reducible exact ih2 _ _ _ _ _ _ _ _ _ _)
      | (with_reducible exact ih3 _ _ _ _ _ _ _ _ _ _)
      | (with_reducible exact ih4 _ _ _ _ _ _ _ _ _ _ _ _)
      | (with_reducible exact ih5 _ _ _)
      | (with_reducible exact spec_Rows.mono _ _)
      | (with_reducible exact LeO.refl _)
      | (with_reducible exact LeO.none _)
      | (with_reducible refine LeO.ite ?_ ?_)
      | (with_reducible refine LeO.bind ?_ (fun _ => ?_))
      | exact ih0 _ _ _ _ _ _ _
      | exact ih1 _ _ _ _ _ _ _ _ _ _ _
      | exact ih2 _ _ _ _ _ _ _ _ _ _
      | exact ih3 _ _ _ _ _ _ _ _ _ _
      | exact ih4 _ _ _ _ _ _ _ _ _ _ _ _
      | exact ih5 _ _ _
      | exact spec_Rows.mono _ _
      | exact LeO.none _
      | refine LeO.ite ?_ ?_
      | refine LeO.bind ?_ (fun _ => ?_)
    · intro y0 y1 y2 y3 y4 y5 y6 y7 y8 y9
      unfold spec_Applied.l2
      repeat' first
      | (with_reducible exact ih0 _ _ _ _ _ _ _)
      | (with_reducible exact ih1 _ _ _ _ _ _ _ _ _ _ _)
      | (with_reducible exact ih2 _ _ _ _ _ _ _ _ _ _)
      | (with_reducible exact ih3 _ _ _ _ _ _ _ _ _ _)
      | (with_reducible exact ih4 _ _ _ _ _ _ _ _ _ _ _ _)
      | (with_reducible exact ih5 _ _ _)
      | (with_reducible exact spec_Rows.mono _ _)
      | (with_reducible exact LeO.refl _)
      | (with_reducible exact LeO.none _)
      | (with_reducible refine LeO.ite ?_ ?_)
      | (with_reducible refine LeO.bind ?_ (fun _ => ?_))
      | exact ih0 _ _ _ _ _ _ _
      | exact ih1 _ _ _ _ _ _ _ _ _ _ _
      | exact ih2 _ _ _ _ _ _ _ _ _ _
      | exact ih3 _ _ _ _ _ _ _ _ _ _
      | exact ih4 _ _ _ _ _ _ _ _ _ _ _ _
      | exact ih5 _ _ _
      | exact spec_Rows.mono _ _
      | exact LeO.none _
      | refine LeO.ite ?_ ?_
      | refine LeO.bind ?_ (fun _ => ?_)
    · intro y0 y1 y2 y3 y4 y5 y6 y7 y8 y9 y10 y11
      unfold spec_Applied.j4
      repeat' first
      | (with_reducible exact ih0 _ _ _ _ _ _ _)
      | (with_reducible exact ih1 _ _ _ _ _ _ _ _ _ _ _)
      | (with_reducible exact ih2 _ _ _ _ _ _ _ _ _ _)
      | (with_reducible exact ih3 _ _ _ _ _ _ _ _ _ _)
      | (with_reducible exact ih4 _ _ _ _ _ _ _ _ _ _ _ _)
      | (with_reducible exact ih5 _ _ _)
      | (with_reducible exact spec_Rows.mono _ _)
      | (with_reducible exact LeO.refl _)
      | (with_reducible exact LeO.none _)
      | (with_reducible refine LeO.ite ?_ ?_)
      | (with_reducible refine LeO.bind ?_ (fun _ => ?_))
      | exact ih0 _ _ _ _ _ _ _
      | exact ih1 _ _ _ _ _ _ _ _ _ _ _
      | exact ih2 _ _ _ _ _ _ _ _ _ _
      | exact ih3 _ _ _ _ _ _ _ _ _ _
      | exact ih4 _ _ _ _ _ _ _ _ _ _ _ _
      | exact ih5 _ _ _
      | exact spec_Rows.mono _ _
      | exact LeO.none _
      | refine LeO.ite ?_ ?_
      | refine LeO.bind ?_ (fun _ => ?_)
    · intro y0 y1 y2
      unfold spec_Applied.l3
      repeat' first
      | (with_reducible exact ih0 _ _ _ _ _ _ _)
      | (with_reducible exact ih1 _ _ _ _ _ _ _ _ _ _ _)
      | (with_reducible exact ih2 _ _ _ _ _ _ _ _ _ _)
      | (with_reducible exact ih3 _ _ _ _ _ _ _ _ _ _)
      | (with_reducible exact ih4 _ _ _ _ _ _ _ _ _ _ _ _)
      | (with_reducible exact ih5 _ _ _)
      | (with_reducible exact spec_Rows.mono _ _)
      | (with_reducible exact LeO.refl _)
      | (with_reducible exact LeO.none _)
      | (with_reducible refine LeO.ite ?_ ?_)
      | (with_reducible refine LeO.bind ?_ (fun _ => ?_))
      | exact ih0 _ _ _ _ _ _ _
      | exact ih1 _ _ _ _ _ _ _ _ _ _ _
      | exact ih2 _ _ _ _ _ _ _ _ _ _
      | exact ih3 _ _ _ _ _ _ _ _ _ _
      | exact ih4 _ _ _ _ _ _ _ _ _ _ _ _
      | exact ih5 _ _ _
      | exact spec_Rows.mono _ _
      | exact LeO.none _
      | refine LeO.ite ?_ ?_
      | refine LeO.bind ?_ (fun _ => ?_)
theorem spec_Applied.mono : ∀ a0 a1 k, LeO (spec_Applied.f k a0 a1) (spec_Applied.f (k + 1) a0 a1) := by
  intro a0 a1 k
  obtain ⟨ih0, ih1, ih2, ih3, ih4, ih5⟩ := spec_Applied.mono_l k
  unfold spec_Applied.f
  repeat' first
      | (with_reducible exact ih0 _ _ _ _ _ _ _)
      | (with_reducible exact ih1 _ _ _ _ _ _ _ _ _ _ _)
      | (with_reducible exact ih2 _ _ _ _ _ _ _ _ _ _)
      | (with_reducible exact ih3 _ _ _ _ _ _ _ _ _ _)
      | (with_reducible exact ih4 _ _ _ _ _ _ _ _ _ _ _ _)
      | (with_reducible exact ih5 _ _ _)
      | (with_reducible exact spec_Rows.mono _ _)
      | (with_reducible exact LeO.refl _)
      | (with_reducible exact LeO.none _)
      | (with_reducible refine LeO.ite ?_ ?_)
      | (with_reducible refine LeO.bind ?_ (fun _ => ?_))
      | exact ih0 _ _ _ _ _ _ _
      | exact ih1 _ _ _ _ _ _ _ _ _ _ _
      | exact ih2 _ _ _ _ _ _ _ _ _ _
      | exact ih3 _ _ _ _ _ _ _ _ _ _
      | exact ih4 _ _ _ _ _ _ _ _ _ _ _ _
      | exact ih5 _ _ _
      | exact spec_Rows.mono _ _
      | exact LeO.none _
      | refine LeO.ite ?_ ?_
      | refine LeO.bind ?_ (fun _ => ?_)
set_option maxHeartbeats 8000000 in
set_option maxRecDepth 100000 in
theorem spec_Applied.calls (k : Nat) (a0 : ByteArray) (A1 : Option Addr) (c1 : Nat) (l1 : List (S48)) (r1 : ByteArray) (r2 : Bool) (w : World) (hr1 : Kd.C k48 w A1 l1.length l1) (hc1 : l1.length ≤ c1) (h : spec_Applied.f k a0 l1 = some (r1, r2)) :
    Calls Tryd.prog 9 #[.string a0, .slice A1 l1.length c1] w fun e w' => e = .returned (.tuple #[.string r1, .bool r2]) ∧ Below w.heap.size w w' := by
  have hu48 := Tryd.underlying48
  have HR1 := Aside0.mk hr1
  have HC1 := Aside0.mk hc1
  clear hr1 hc1
  have HB := Aside0.mk (Below.refl w.heap.size w)
  have H : ((spec_Rows.f k a0).bind fun t107 => (spec_Applied.l0 k t107 (⟨#[]⟩ : ByteArray) 0 0 l1 (l1.length : Int) 0)) = some (r1, r2) := h
  clear h
  replace H := Option.bind_eq_some_iff.mp H
  obtain ⟨t107, A30, H⟩ := H
  replace H : (spec_Applied.l0 k t107 (⟨#[]⟩ : ByteArray) 0 0 l1 (l1.length : Int) 0) = some (r1, r2) := H
  have A3 := Aside0.mk A30
  clear A30
  have H' := Aside0.mk H
  clear H
  go_enter Tryd.func9, Tryd.ntmps9
  go_wp2_with (first | (go_at_call 13; (with_reducible refine (spec_Rows.calls k a0 t107 _ A3.out).mono ?_); rintro e w4 ⟨v108, rfl, ho0, hb⟩; have n0_ := Aside0.mk (Kd.R_lower ho0 (below_size (by repeat (first | (with_reducible first | exact HB.out | apply below_alloc | apply pw_below_drewN | apply below_drew1) | exact HB.out)))); have n1_ := Aside0.mk (below_step (by repeat (first | (with_reducible first | exact HB.out | apply below_alloc | apply pw_below_drewN | apply below_drew1) | exact HB.out)) hb); clear HB; have HO109 := n0_; have HB := n1_; clear n0_ n1_; (try clear hb); (try clear hb2); (try clear hk); (try clear hi); (try clear ho0)))
  repeat (go_quiet (first | (go_at_call 13; (with_reducible refine (spec_Rows.calls k a0 t107 _ A3.out).mono ?_); rintro e w4 ⟨v108, rfl, ho0, hb⟩; have n0_ := Aside0.mk (Kd.R_lower ho0 (below_size (by repeat (first | (with_reducible first | exact HB.out | apply below_alloc | apply pw_below_drewN | apply below_drew1) | exact HB.out)))); have n1_ := Aside0.mk (below_step (by repeat (first | (with_reducible first | exact HB.out | apply below_alloc | apply pw_below_drewN | apply below_drew1) | exact HB.out)) hb); clear HB; have HO109 := n0_; have HB := n1_; clear n0_ n1_; (try clear hb); (try clear hb2); (try clear hk); (try clear hi); (try clear ho0))); try go_wp2_with (first | (go_at_call 13; (with_reducible refine (spec_Rows.calls k a0 t107 _ A3.out).mono ?_); rintro e w4 ⟨v108, rfl, ho0, hb⟩; have n0_ := Aside0.mk (Kd.R_lower ho0 (below_size (by repeat (first | (with_reducible first | exact HB.out | apply below_alloc | apply pw_below_drewN | apply below_drew1) | exact HB.out)))); have n1_ := Aside0.mk (below_step (by repeat (first | (with_reducible first | exact HB.out | apply below_alloc | apply pw_below_drewN | apply below_drew1) | exact HB.out)) hb); clear HB; have HO109 := n0_; have HB := n1_; clear n0_ n1_; (try clear hb); (try clear hb2); (try clear hk); (try clear hi); (try clear ho0))))
  go_loopg [7, 8, 9, 18] k (fun kq v7 v8 v9 v18 w' => ∃ (x7_1 : ByteArray) (x8_1 : Int) (x9_1 : Int) (x18_1 : Int), v7 = .string x7_1 ∧ v8 = .int .i64 x8_1 ∧ v9 = .int .i64 x9_1 ∧ v18 = .int .i64 x18_1 ∧ Aside0 (spec_Applied.l0 kq t107 x7_1 x8_1 x9_1 l1 (l1.length : Int) x18_1 = some (r1, r2)) ∧ Aside0 (kq ≤ k) ∧ Aside0 (Kd.R Kd.string 9 w' w.heap.size (fun _ => True) v108 t107) ∧ Aside0 (Below w.heap.size w w'))
  case atStart => exact ⟨((⟨#[]⟩ : ByteArray)), (0), (0), (0), (by first | rfl | (simp; done) | (simp [*]; done)), (by first | rfl | (simp; done) | (simp [*]; done)), (by first | rfl | (simp; done) | (simp [*]; done)), (by first | rfl | (simp; done) | (simp [*]; done)), H', ⟨Nat.le_refl _⟩, ⟨by (with_reducible repeat (first | apply Kd.R_alloc | apply Kd.R_drewN | apply Kd.R_drew)); exact HO109.out⟩, ⟨by repeat (first | (with_reducible first | exact HB.out | apply below_alloc | apply pw_below_drewN | apply below_drew1) | exact HB.out)⟩⟩
  case round =>
    clear H'
    try clear c1
    try clear p2
    obtain ⟨x7_1, x8_1, x9_1, x18_1, rfl, rfl, rfl, rfl, HA, HK1, HO_6, HB⟩ := hrel
    cases gk with
    | zero => exact absurd HA.out (by simp [spec_Applied.l0])
    | succ k1 =>
      have H := HA.out
      clear HA
      simp only [spec_Applied.l0] at H
      by_cases c5 : x18_1 < (l1.length : Int)
      · rw [if_pos c5] at H
        have c5b0 : decide (x18_1 < (l1.length : Int)) = true := decide_eq_true c5
        clear c5
        by_cases c6 : 0 ≤ x18_1
        · rw [if_pos c6] at H
          have c6b0 : decide (0 ≤ x18_1) = true := decide_eq_true c6
          clear c6
          by_cases c7 : x18_1 < (l1.length : Int)
          · rw [if_pos c7] at H
            have c7b0 : decide (x18_1 < (l1.length : Int)) = true := decide_eq_true c7
            clear c7
            have HC8 := Aside0.mk H
            clear H
            have p110 : 0 ≤ (x18_1 : Int) := of_decide_eq_true (by first | (with_reducible assumption) | assumption)
            have q110 : x18_1 < (l1.length : Int) := of_decide_eq_true (by first | (with_reducible assumption) | assumption)
            obtain ⟨ad110, A110_2, c110_2, e110, hx110_0, hx110_1, hx110_2, hl110_2, hi110_2⟩ := at_T48 HR1.out x18_1 p110 q110
            cases e110
            replace hx110_0 := (HB.out.cell (World.block_lt_of_cell? w _ hx110_0)).trans hx110_0
            replace hx110_1 := (HB.out.cell (World.block_lt_of_cell? w _ hx110_1)).trans hx110_1
            replace hx110_2 := (HB.out.cell (World.block_lt_of_cell? w _ hx110_2)).trans hx110_2
            have HR110_2 := Aside0.mk hi110_2
            have HC110_2 := Aside0.mk hl110_2
            clear hi110_2 hl110_2
            replace p110 := eq_true p110
            replace q110 := eq_true q110
            go_upto_region 6 with (first | ((with_reducible refine gate_dst (N := 11) rfl ?_); (try (refine gate_guard (by rfl) ?_; dsimp only)); refine box_event ?hg (N := 11) ?hd (cs := #[.int .i64 0, .int .i64 0, .slice none 0 0]) (t := 48) ?hr ?_; (case hd => rfl); (case hg => rfl); (case hr => first | (go_simp; done) | (go_simp; rfl)); intro gb111 hg w9 hbox hb; have n0_ := Aside0.mk (Kd.R_below (by (with_reducible repeat (first | apply Kd.R_alloc | apply Kd.R_drewN | apply Kd.R_drew)); exact HO_6.out) hb); have n1_ := Aside0.mk (below_step (by repeat (first | (with_reducible first | exact HB.out | apply below_alloc | apply pw_below_drewN | apply below_drew1) | exact HB.out)) hb); have n2_ := Aside0.mk (hbox); have n3_ := Aside0.mk ((by rw [hg]; exact (below_size (by repeat (first | (with_reducible first | exact HB.out | apply below_alloc | apply pw_below_drewN | apply below_drew1) | exact HB.out))) : w.heap.size ≤ gb111)); have n4_ := Aside0.mk ((by rw [hg]; exact (below_size (by repeat (first | (with_reducible first | exact HB.out | apply below_alloc | apply pw_below_drewN | apply below_drew1) | exact HB.out))) : w.heap.size ≤ gb111)); clear HO_6; clear HB; have HO_6 := n0_; have HB := n1_; have BK111 := n2_; have GW111 := n3_; have GE111 := n4_; clear n0_ n1_ n2_ n3_ n4_; clear hb hbox hg; have hcz10_0 : w9.cell? ⟨gb111, 0, none⟩ = some (.int .i64 0) := (blk_cell BK111.out 0).trans rfl; have hcz10_1 : w9.cell? ⟨gb111, 1, none⟩ = some (.int .i64 0) := (blk_cell BK111.out 1).trans rfl; have hcz10_2 : w9.cell? ⟨gb111, 2, none⟩ = some (.slice none 0 0) := (blk_cell BK111.out 2).trans rfl; have hfz10_0 := blk_frozen BK111.out 0; have hfz10_1 := blk_frozen BK111.out 1; have hfz10_2 := blk_frozen BK111.out 2))
            repeat (go_quiet (first | ((with_reducible refine gate_dst (N := 11) rfl ?_); (try (refine gate_guard (by rfl) ?_; dsimp only)); refine box_event ?hg (N := 11) ?hd (cs := #[.int .i64 0, .int .i64 0, .slice none 0 0]) (t := 48) ?hr ?_; (case hd => rfl); (case hg => rfl); (case hr => first | (go_simp; done) | (go_simp; rfl)); intro gb111 hg w9 hbox hb; have n0_ := Aside0.mk (Kd.R_below (by (with_reducible repeat (first | apply Kd.R_alloc | apply Kd.R_drewN | apply Kd.R_drew)); exact HO_6.out) hb); have n1_ := Aside0.mk (below_step (by repeat (first | (with_reducible first | exact HB.out | apply below_alloc | apply pw_below_drewN | apply below_drew1) | exact HB.out)) hb); have n2_ := Aside0.mk (hbox); have n3_ := Aside0.mk ((by rw [hg]; exact (below_size (by repeat (first | (with_reducible first | exact HB.out | apply below_alloc | apply pw_below_drewN | apply below_drew1) | exact HB.out))) : w.heap.size ≤ gb111)); have n4_ := Aside0.mk ((by rw [hg]; exact (below_size (by repeat (first | (with_reducible first | exact HB.out | apply below_alloc | apply pw_below_drewN | apply below_drew1) | exact HB.out))) : w.heap.size ≤ gb111)); clear HO_6; clear HB; have HO_6 := n0_; have HB := n1_; have BK111 := n2_; have GW111 := n3_; have GE111 := n4_; clear n0_ n1_ n2_ n3_ n4_; clear hb hbox hg; have hcz10_0 : w9.cell? ⟨gb111, 0, none⟩ = some (.int .i64 0) := (blk_cell BK111.out 0).trans rfl; have hcz10_1 : w9.cell? ⟨gb111, 1, none⟩ = some (.int .i64 0) := (blk_cell BK111.out 1).trans rfl; have hcz10_2 : w9.cell? ⟨gb111, 2, none⟩ = some (.slice none 0 0) := (blk_cell BK111.out 2).trans rfl; have hfz10_0 := blk_frozen BK111.out 0; have hfz10_1 := blk_frozen BK111.out 1; have hfz10_2 := blk_frozen BK111.out 2)); go_upto_region 6 with (first | ((with_reducible refine gate_dst (N := 11) rfl ?_); (try (refine gate_guard (by rfl) ?_; dsimp only)); refine box_event ?hg (N := 11) ?hd (cs := #[.int .i64 0, .int .i64 0, .slice none 0 0]) (t := 48) ?hr ?_; (case hd => rfl); (case hg => rfl); (case hr => first | (go_simp; done) | (go_simp; rfl)); intro gb111 hg w9 hbox hb; have n0_ := Aside0.mk (Kd.R_below (by (with_reducible repeat (first | apply Kd.R_alloc | apply Kd.R_drewN | apply Kd.R_drew)); exact HO_6.out) hb); have n1_ := Aside0.mk (below_step (by repeat (first | (with_reducible first | exact HB.out | apply below_alloc | apply pw_below_drewN | apply below_drew1) | exact HB.out)) hb); have n2_ := Aside0.mk (hbox); have n3_ := Aside0.mk ((by rw [hg]; exact (below_size (by repeat (first | (with_reducible first | exact HB.out | apply below_alloc | apply pw_below_drewN | apply below_drew1) | exact HB.out))) : w.heap.size ≤ gb111)); have n4_ := Aside0.mk ((by rw [hg]; exact (below_size (by repeat (first | (with_reducible first | exact HB.out | apply below_alloc | apply pw_below_drewN | apply below_drew1) | exact HB.out))) : w.heap.size ≤ gb111)); clear HO_6; clear HB; have HO_6 := n0_; have HB := n1_; have BK111 := n2_; have GW111 := n3_; have GE111 := n4_; clear n0_ n1_ n2_ n3_ n4_; clear hb hbox hg; have hcz10_0 : w9.cell? ⟨gb111, 0, none⟩ = some (.int .i64 0) := (blk_cell BK111.out 0).trans rfl; have hcz10_1 : w9.cell? ⟨gb111, 1, none⟩ = some (.int .i64 0) := (blk_cell BK111.out 1).trans rfl; have hcz10_2 : w9.cell? ⟨gb111, 2, none⟩ = some (.slice none 0 0) := (blk_cell BK111.out 2).trans rfl; have hfz10_0 := blk_frozen BK111.out 0; have hfz10_1 := blk_frozen BK111.out 1; have hfz10_2 := blk_frozen BK111.out 2)))
            (try simp only [Act.put, List.setIfInBounds_toArray, List.set_cons_zero, List.set_cons_succ])
            go_cut [32] (fun v32 wc => ∃ (kq : Nat) (x32_7 : Bool), v32 = .bool x32_7 ∧ Aside0 (spec_Applied.j1 kq t107 x7_1 x8_1 x9_1 l1 (l1.length : Int) x18_1 x32_7 ((rd_T48 l1 x18_1).f0) ((rd_T48 l1 x18_1).f1) ((rd_T48 l1 x18_1).f2) = some (r1, r2)) ∧ Aside0 (kq ≤ k1) ∧ Aside0 (Kd.R Kd.string 9 wc w.heap.size (fun _ => True) v108 t107) ∧ Aside0 (wc.heap[gb111]? = some (.cells #[.int .i64 ((rd_T48 l1 x18_1).f0), .int .i64 ((rd_T48 l1 x18_1).f1), (.slice A110_2 ((rd_T48 l1 x18_1).f2).length c110_2)] 48 (0, 0))) ∧ Aside0 (Below w.heap.size w wc))
            case first =>
              have H := HC8.out
              clear HC8
              by_cases c11 : ((rd_T48 l1 x18_1).f0) < x8_1
              · rw [if_pos c11] at H
                have c11b0 : decide (((rd_T48 l1 x18_1).f0) < x8_1) = true := decide_eq_true c11
                clear c11
                (first | rw [c11b0] | (simp only [i64_w, i32_w]; rw [c11b0]) | skip)
                have H' := Aside0.mk H
                clear H
                have hcz12_0 : w9.cell? ⟨gb111, 0, none⟩ = some (.int .i64 0) := (blk_cell BK111.out 0).trans rfl
                have hcz12_1 : w9.cell? ⟨gb111, 1, none⟩ = some (.int .i64 0) := (blk_cell BK111.out 1).trans rfl
                have hcz12_2 : w9.cell? ⟨gb111, 2, none⟩ = some (.slice none 0 0) := (blk_cell BK111.out 2).trans rfl
                have hfz12_0 := blk_frozen BK111.out 0
                have hfz12_1 := blk_frozen BK111.out 1
                have hfz12_2 := blk_frozen BK111.out 2
                go_wp2
                repeat (go_quiet (fail); try go_wp2)
                go_meet
                case rel => exact ⟨_, (true), (by first | rfl | (simp; done) | (simp [*]; done)), H', ⟨by have := HK1.out; first | omega | exact Nat.le_refl _⟩, ⟨by (with_reducible repeat (first | apply Kd.R_alloc | apply Kd.R_drewN | apply Kd.R_drew)); exact Kd.R_mono (Kd.R_far (p := ⟨gb111, 2, none⟩) (Kd.R_far (p := ⟨gb111, 1, none⟩) (Kd.R_far (p := ⟨gb111, 0, none⟩) (Kd.R_types HO_6.out BK111.out (by decide)) (fun _ hk => hk.2) (.int .i64 ((rd_T48 l1 x18_1).f0))) (fun _ hk => hk.2) (.int .i64 ((rd_T48 l1 x18_1).f1))) (fun _ hk => hk.2) (.slice A110_2 ((rd_T48 l1 x18_1).f2).length c110_2)) (fun _ hk => trivial)⟩, ⟨by (with_reducible repeat (first | refine blk_drewN ?_ _ | refine blk_drew ?_ | refine blk_alloc ?_ _)); refine blk_put (cs := #[.int .i64 ((rd_T48 l1 x18_1).f0), .int .i64 ((rd_T48 l1 x18_1).f1), .slice none 0 0]) ?_ 2 _ rfl; (with_reducible repeat (first | refine blk_drewN ?_ _ | refine blk_drew ?_ | refine blk_alloc ?_ _)); refine blk_put (cs := #[.int .i64 ((rd_T48 l1 x18_1).f0), .int .i64 0, .slice none 0 0]) ?_ 1 _ rfl; (with_reducible repeat (first | refine blk_drewN ?_ _ | refine blk_drew ?_ | refine blk_alloc ?_ _)); refine blk_put (cs := #[.int .i64 0, .int .i64 0, .slice none 0 0]) ?_ 0 _ rfl; (with_reducible repeat (first | refine blk_drewN ?_ _ | refine blk_drew ?_ | refine blk_alloc ?_ _)); exact BK111.out⟩, ⟨by repeat (first | (with_reducible first | exact HB.out | apply below_alloc | apply pw_below_drewN | apply below_drew1 | refine below_set ?_ GE111.out) | exact HB.out)⟩⟩
              · rw [if_neg c11] at H
                have c11b0 : decide (((rd_T48 l1 x18_1).f0) < x8_1) = false := decide_eq_false c11
                clear c11
                (first | rw [c11b0] | (simp only [i64_w, i32_w]; rw [c11b0]) | skip)
                have H' := Aside0.mk H
                clear H
                have hcz13_0 : w9.cell? ⟨gb111, 0, none⟩ = some (.int .i64 0) := (blk_cell BK111.out 0).trans rfl
                have hcz13_1 : w9.cell? ⟨gb111, 1, none⟩ = some (.int .i64 0) := (blk_cell BK111.out 1).trans rfl
                have hcz13_2 : w9.cell? ⟨gb111, 2, none⟩ = some (.slice none 0 0) := (blk_cell BK111.out 2).trans rfl
                have hfz13_0 := blk_frozen BK111.out 0
                have hfz13_1 := blk_frozen BK111.out 1
                have hfz13_2 := blk_frozen BK111.out 2
                obtain ⟨Ao14, co14, eo14⟩ := Kd.R_slice HO_6.out
                subst eo14
                go_wp2
                repeat (go_quiet (fail); try go_wp2)
                go_meet
                case rel => exact ⟨_, (decide (((rd_T48 l1 x18_1).f0) > (t107.length : Int))), (by first | rfl | (simp; done) | (simp [*]; done)), H', ⟨by have := HK1.out; first | omega | exact Nat.le_refl _⟩, ⟨by (with_reducible repeat (first | apply Kd.R_alloc | apply Kd.R_drewN | apply Kd.R_drew)); exact Kd.R_mono (Kd.R_far (p := ⟨gb111, 2, none⟩) (Kd.R_far (p := ⟨gb111, 1, none⟩) (Kd.R_far (p := ⟨gb111, 0, none⟩) (Kd.R_types HO_6.out BK111.out (by decide)) (fun _ hk => hk.2) (.int .i64 ((rd_T48 l1 x18_1).f0))) (fun _ hk => hk.2) (.int .i64 ((rd_T48 l1 x18_1).f1))) (fun _ hk => hk.2) (.slice A110_2 ((rd_T48 l1 x18_1).f2).length c110_2)) (fun _ hk => trivial)⟩, ⟨by (with_reducible repeat (first | refine blk_drewN ?_ _ | refine blk_drew ?_ | refine blk_alloc ?_ _)); refine blk_put (cs := #[.int .i64 ((rd_T48 l1 x18_1).f0), .int .i64 ((rd_T48 l1 x18_1).f1), .slice none 0 0]) ?_ 2 _ rfl; (with_reducible repeat (first | refine blk_drewN ?_ _ | refine blk_drew ?_ | refine blk_alloc ?_ _)); refine blk_put (cs := #[.int .i64 ((rd_T48 l1 x18_1).f0), .int .i64 0, .slice none 0 0]) ?_ 1 _ rfl; (with_reducible repeat (first | refine blk_drewN ?_ _ | refine blk_drew ?_ | refine blk_alloc ?_ _)); refine blk_put (cs := #[.int .i64 0, .int .i64 0, .slice none 0 0]) ?_ 0 _ rfl; (with_reducible repeat (first | refine blk_drewN ?_ _ | refine blk_drew ?_ | refine blk_alloc ?_ _)); exact BK111.out⟩, ⟨by repeat (first | (with_reducible first | exact HB.out | apply below_alloc | apply pw_below_drewN | apply below_drew1 | refine below_set ?_ GE111.out) | exact HB.out)⟩⟩
            case rest =>
              clear HC8
              try clear c1
              try clear p1
              try clear q1
              try clear hx1
              try clear p2
              try clear c5
              try clear c5b0
              try clear c6
              try clear c6b0
              try clear c7
              try clear c7b0
              try clear c9
              try clear c11
              try clear c11b0
              try clear p11
              try clear q11
              try clear hx11
              try clear hcz10_0
              try clear hcz10_1
              try clear hcz10_2
              try clear hcz12_0
              try clear hcz12_1
              try clear hcz12_2
              try clear hcz13_0
              try clear hcz13_1
              try clear hcz13_2
              try clear hfz10_0
              try clear hfz10_1
              try clear hfz10_2
              try clear hfz12_0
              try clear hfz12_1
              try clear hfz12_2
              try clear hfz13_0
              try clear hfz13_1
              try clear hfz13_2
              try clear hx110_0
              try clear hx110_1
              try clear hx110_2
              try clear p110
              try clear p2
              try clear q110
              obtain ⟨kq, x32_7, rfl, HA, HJ7, HO_6, BK111, HB⟩ := hcut
              cases kq with
              | zero => exact absurd HA.out (by simp [spec_Applied.j1])
              | succ kj7 =>
                have H := HA.out
                clear HA
                simp only [spec_Applied.j1] at H
                by_cases c15 : x32_7 = true
                · subst c15
                  have H1 : (some ((⟨#[]⟩ : ByteArray), false)) = some (r1, r2) := by rw [if_pos rfl] at H; exact H
                  clear H
                  have H := H1
                  clear H1
                  simp only [Option.some.injEq, Prod.mk.injEq] at H
                  obtain ⟨rfl, rfl⟩ := H
                  go_wp2
                  repeat (go_quiet (fail); try go_wp2)
                  go_ret2
                  exact ⟨by first | rfl | (simp [errW_none, errW_some] <;> rfl) | (simp [*, errW_none, errW_some] <;> rfl), by repeat (first | (with_reducible first | exact HB.out | apply below_alloc | apply pw_below_drewN | apply below_drew1 | refine below_set ?_ GE111.out) | exact HB.out)⟩
                · replace c15 := Bool.eq_false_iff.mpr c15
                  subst c15
                  have H1 : (spec_Applied.l1 kj7 t107 x7_1 x8_1 x9_1 l1 (l1.length : Int) x18_1 ((rd_T48 l1 x18_1).f0) ((rd_T48 l1 x18_1).f1) ((rd_T48 l1 x18_1).f2)) = some (r1, r2) := by rw [if_neg (show ¬ (false = true) by decide)] at H; exact H
                  clear H
                  have H := H1
                  clear H1
                  have H' := Aside0.mk H
                  clear H
                  go_wp2
                  repeat (go_quiet (fail); try go_wp2)
                  go_loopg [7, 8, 9] kj7 (fun kq v7 v8 v9 w' => ∃ (x7_3 : ByteArray) (x8_3 : Int) (x9_3 : Int), v7 = .string x7_3 ∧ v8 = .int .i64 x8_3 ∧ v9 = .int .i64 x9_3 ∧ Aside0 (spec_Applied.l1 kq t107 x7_3 x8_3 x9_3 l1 (l1.length : Int) x18_1 ((rd_T48 l1 x18_1).f0) ((rd_T48 l1 x18_1).f1) ((rd_T48 l1 x18_1).f2) = some (r1, r2)) ∧ Aside0 (kq ≤ kj7) ∧ Aside0 (Kd.R Kd.string 9 w' w.heap.size (fun _ => True) v108 t107) ∧ Aside0 (w'.heap[gb111]? = some (.cells #[.int .i64 ((rd_T48 l1 x18_1).f0), .int .i64 ((rd_T48 l1 x18_1).f1), (.slice A110_2 ((rd_T48 l1 x18_1).f2).length c110_2)] 48 (0, 0))) ∧ Aside0 (Below w.heap.size w w'))
                  case atStart => exact ⟨(x7_1), (x8_1), (x9_1), (by first | rfl | (simp; done) | (simp [*]; done)), (by first | rfl | (simp; done) | (simp [*]; done)), (by first | rfl | (simp; done) | (simp [*]; done)), H', ⟨Nat.le_refl _⟩, ⟨by (with_reducible repeat (first | apply Kd.R_alloc | apply Kd.R_drewN | apply Kd.R_drew)); exact HO_6.out⟩, ⟨by (with_reducible repeat (first | refine blk_drewN ?_ _ | refine blk_drew ?_ | refine blk_alloc ?_ _)); exact BK111.out⟩, ⟨by repeat (first | (with_reducible first | exact HB.out | apply below_alloc | apply pw_below_drewN | apply below_drew1 | refine below_set ?_ GE111.out) | exact HB.out)⟩⟩
                  case round =>
                    clear H'
                    try clear c1
                    try clear p1
                    try clear q1
                    try clear hx1
                    try clear p2
                    try clear c5
                    try clear c5b0
                    try clear c6
                    try clear c6b0
                    try clear c7
                    try clear c7b0
                    try clear c9
                    try clear c11
                    try clear c11b0
                    try clear p11
                    try clear q11
                    try clear hx11
                    try clear c15
                    try clear hcz10_0
                    try clear hcz10_1
                    try clear hcz10_2
                    try clear hcz12_0
                    try clear hcz12_1
                    try clear hcz12_2
                    try clear hcz13_0
                    try clear hcz13_1
                    try clear hcz13_2
                    try clear hfz10_0
                    try clear hfz10_1
                    try clear hfz10_2
                    try clear hfz12_0
                    try clear hfz12_1
                    try clear hfz12_2
                    try clear hfz13_0
                    try clear hfz13_1
                    try clear hfz13_2
                    try clear hx110_0
                    try clear hx110_1
                    try clear hx110_2
                    try clear p1
                    try clear p11
                    try clear p110
                    try clear p2
                    try clear q1
                    try clear q11
                    try clear q110
                    obtain ⟨x7_3, x8_3, x9_3, rfl, rfl, rfl, HA, HK3, HO_6, BK111, HB⟩ := hrel
                    cases gk with
                    | zero => exact absurd HA.out (by simp [spec_Applied.l1])
                    | succ k3 =>
                      have H := HA.out
                      clear HA
                      simp only [spec_Applied.l1] at H
                      by_cases c16 : x8_3 < ((rd_T48 l1 x18_1).f0)
                      · rw [if_pos c16] at H
                        have c16b0 : decide (x8_3 < ((rd_T48 l1 x18_1).f0)) = true := decide_eq_true c16
                        clear c16
                        by_cases c17 : 0 ≤ x8_3
                        · rw [if_pos c17] at H
                          have c17b0 : decide (0 ≤ x8_3) = true := decide_eq_true c17
                          clear c17
                          by_cases c18 : x8_3 < (t107.length : Int)
                          · rw [if_pos c18] at H
                            have c18b0 : decide (x8_3 < (t107.length : Int)) = true := decide_eq_true c18
                            clear c18
                            by_cases c19 : x7_3.size + (rdOf ByteArray.empty t107 x8_3).size ≤ 9223372036854775807
                            · rw [if_pos c19] at H
                              have c19b0 := eq_true c19
                              have c19b1 : decide (x7_3.size + (rdOf ByteArray.empty t107 x8_3).size ≤ 9223372036854775807) = true := decide_eq_true c19
                              try have c19b2 : (9223372036854775807 < x7_3.size + (rdOf ByteArray.empty t107 x8_3).size) = False := eq_false (Nat.not_lt.2 c19)
                              have H' := Aside0.mk H
                              clear H
                              have hcz20_0 : wr.cell? ⟨gb111, 0, none⟩ = some (.int .i64 ((rd_T48 l1 x18_1).f0)) := (blk_cell BK111.out 0).trans rfl
                              have hcz20_1 : wr.cell? ⟨gb111, 1, none⟩ = some (.int .i64 ((rd_T48 l1 x18_1).f1)) := (blk_cell BK111.out 1).trans rfl
                              have hcz20_2 : wr.cell? ⟨gb111, 2, none⟩ = some (.slice A110_2 ((rd_T48 l1 x18_1).f2).length c110_2) := (blk_cell BK111.out 2).trans rfl
                              have hfz20_0 := blk_frozen BK111.out 0
                              have hfz20_1 := blk_frozen BK111.out 1
                              have hfz20_2 := blk_frozen BK111.out 2
                              obtain ⟨Ao21, co21, eo21⟩ := Kd.R_slice HO_6.out
                              subst eo21
                              have p112 : 0 ≤ (x8_3 : Int) := of_decide_eq_true (by first | (with_reducible assumption) | assumption)
                              have q112 : x8_3 < (t107.length : Int) := of_decide_eq_true (by first | (with_reducible assumption) | assumption)
                              obtain ⟨ad112, e112, hx112_0⟩ := Kd.at_string (Kd.R_reads' HO_6.out).2.2 x8_3 p112 q112
                              cases e112
                              replace p112 := eq_true p112
                              replace q112 := eq_true q112
                              go_wp2
                              repeat (go_quiet (fail); try go_wp2)
                              go_roundg k3
                              case measure => have := HK1.out; have := HJ7.out; have := HK3.out; omega
                              case rel => exact ⟨(x7_3 ++ (rdOf ByteArray.empty t107 x8_3)), (wrap64 (x8_3 + 1)), (wrap64 (x9_3 + 1)), (by first | rfl | (simp; done) | (simp [*]; done)), (by first | rfl | (simp; done) | (simp [*]; done)), (by first | rfl | (simp; done) | (simp [*]; done)), H', ⟨by have := HK1.out; have := HJ7.out; have := HK3.out; omega⟩, ⟨by (with_reducible repeat (first | apply Kd.R_alloc | apply Kd.R_drewN | apply Kd.R_drew)); exact HO_6.out⟩, ⟨by (with_reducible repeat (first | refine blk_drewN ?_ _ | refine blk_drew ?_ | refine blk_alloc ?_ _)); exact BK111.out⟩, ⟨by repeat (first | (with_reducible first | exact HB.out | apply below_alloc | apply pw_below_drewN | apply below_drew1 | refine below_set ?_ GE111.out) | exact HB.out)⟩⟩
                            · rw [if_neg c19] at H
                              exact absurd H (by simp)
                          · rw [if_neg c18] at H
                            exact absurd H (by simp)
                        · rw [if_neg c17] at H
                          exact absurd H (by simp)
                      · rw [if_neg c16] at H
                        have c16b0 : decide (x8_3 < ((rd_T48 l1 x18_1).f0)) = false := decide_eq_false c16
                        clear c16
                        by_cases c22 : x9_3 = ((rd_T48 l1 x18_1).f1)
                        · rw [if_pos c22] at H
                          have c22b0 : (x9_3 == ((rd_T48 l1 x18_1).f1)) = true := beq_iff_eq.mpr c22
                          have c22b1 : (x9_3 != ((rd_T48 l1 x18_1).f1)) = false := bne_eq_false_iff_eq.mpr c22
                          clear c22
                          have H' := Aside0.mk H
                          clear H
                          have hcz23_0 : wr.cell? ⟨gb111, 0, none⟩ = some (.int .i64 ((rd_T48 l1 x18_1).f0)) := (blk_cell BK111.out 0).trans rfl
                          have hcz23_1 : wr.cell? ⟨gb111, 1, none⟩ = some (.int .i64 ((rd_T48 l1 x18_1).f1)) := (blk_cell BK111.out 1).trans rfl
                          have hcz23_2 : wr.cell? ⟨gb111, 2, none⟩ = some (.slice A110_2 ((rd_T48 l1 x18_1).f2).length c110_2) := (blk_cell BK111.out 2).trans rfl
                          have hfz23_0 := blk_frozen BK111.out 0
                          have hfz23_1 := blk_frozen BK111.out 1
                          have hfz23_2 := blk_frozen BK111.out 2
                          go_wp2
                          repeat (go_quiet (fail); try go_wp2)
                          go_loopg [7, 8, 9, 54] k3 (fun kq v7 v8 v9 v54 w' => ∃ (x7_4 : ByteArray) (x8_4 : Int) (x9_4 : Int) (x54_4 : Int), v7 = .string x7_4 ∧ v8 = .int .i64 x8_4 ∧ v9 = .int .i64 x9_4 ∧ v54 = .int .i64 x54_4 ∧ Aside0 (spec_Applied.l2 kq t107 x7_4 x8_4 x9_4 l1 (l1.length : Int) x18_1 ((rd_T48 l1 x18_1).f2) (((rd_T48 l1 x18_1).f2).length : Int) x54_4 = some (r1, r2)) ∧ Aside0 (kq ≤ k3) ∧ Aside0 (Kd.R Kd.string 9 w' w.heap.size (fun _ => True) v108 t107) ∧ Aside0 (w'.heap[gb111]? = some (.cells #[.int .i64 ((rd_T48 l1 x18_1).f0), .int .i64 ((rd_T48 l1 x18_1).f1), (.slice A110_2 ((rd_T48 l1 x18_1).f2).length c110_2)] 48 (0, 0))) ∧ Aside0 (Below w.heap.size w w'))
                          case atStart => exact ⟨(x7_3), (x8_3), (x9_3), (0), (by first | rfl | (simp; done) | (simp [*]; done)), (by first | rfl | (simp; done) | (simp [*]; done)), (by first | rfl | (simp; done) | (simp [*]; done)), (by first | rfl | (simp; done) | (simp [*]; done)), H', ⟨Nat.le_refl _⟩, ⟨by (with_reducible repeat (first | apply Kd.R_alloc | apply Kd.R_drewN | apply Kd.R_drew)); exact HO_6.out⟩, ⟨by (with_reducible repeat (first | refine blk_drewN ?_ _ | refine blk_drew ?_ | refine blk_alloc ?_ _)); exact BK111.out⟩, ⟨by repeat (first | (with_reducible first | exact HB.out | apply below_alloc | apply pw_below_drewN | apply below_drew1 | refine below_set ?_ GE111.out) | exact HB.out)⟩⟩
                          case round =>
                            clear H'
                            try clear c1
                            try clear p1
                            try clear q1
                            try clear hx1
                            try clear c2
                            try clear p2
                            try clear c5
                            try clear c5b0
                            try clear c6
                            try clear c6b0
                            try clear p6
                            try clear c7
                            try clear c7b0
                            try clear c9
                            try clear c11
                            try clear c11b0
                            try clear p11
                            try clear q11
                            try clear hx11
                            try clear c15
                            try clear c16
                            try clear c16b0
                            try clear c17
                            try clear c17b0
                            try clear c18
                            try clear c18b0
                            try clear c19
                            try clear c19b0
                            try clear c19b1
                            try clear c19b2
                            try clear c22
                            try clear c22b0
                            try clear c22b1
                            try clear hcz10_0
                            try clear hcz10_1
                            try clear hcz10_2
                            try clear hcz12_0
                            try clear hcz12_1
                            try clear hcz12_2
                            try clear hcz13_0
                            try clear hcz13_1
                            try clear hcz13_2
                            try clear hcz20_0
                            try clear hcz20_1
                            try clear hcz20_2
                            try clear hcz23_0
                            try clear hcz23_1
                            try clear hcz23_2
                            try clear hfz10_0
                            try clear hfz10_1
                            try clear hfz10_2
                            try clear hfz12_0
                            try clear hfz12_1
                            try clear hfz12_2
                            try clear hfz13_0
                            try clear hfz13_1
                            try clear hfz13_2
                            try clear hfz20_0
                            try clear hfz20_1
                            try clear hfz20_2
                            try clear hfz23_0
                            try clear hfz23_1
                            try clear hfz23_2
                            try clear hx110_0
                            try clear hx110_1
                            try clear hx110_2
                            try clear hx112_0
                            try clear p1
                            try clear p11
                            try clear p110
                            try clear p112
                            try clear p2
                            try clear q1
                            try clear q11
                            try clear q110
                            try clear q112
                            obtain ⟨x7_4, x8_4, x9_4, x54_4, rfl, rfl, rfl, rfl, HA, HK4, HO_6, BK111, HB⟩ := hrel
                            cases gk with
                            | zero => exact absurd HA.out (by simp [spec_Applied.l2])
                            | succ k4 =>
                              have H := HA.out
                              clear HA
                              simp only [spec_Applied.l2] at H
                              by_cases c24 : x54_4 < (((rd_T48 l1 x18_1).f2).length : Int)
                              · rw [if_pos c24] at H
                                have c24b0 : decide (x54_4 < (((rd_T48 l1 x18_1).f2).length : Int)) = true := decide_eq_true c24
                                clear c24
                                by_cases c25 : 0 ≤ x54_4
                                · rw [if_pos c25] at H
                                  have c25b0 : decide (0 ≤ x54_4) = true := decide_eq_true c25
                                  clear c25
                                  by_cases c26 : x54_4 < (((rd_T48 l1 x18_1).f2).length : Int)
                                  · rw [if_pos c26] at H
                                    have c26b0 : decide (x54_4 < (((rd_T48 l1 x18_1).f2).length : Int)) = true := decide_eq_true c26
                                    clear c26
                                    by_cases c27 : 0 < ((rdOf ByteArray.empty ((rd_T48 l1 x18_1).f2) x54_4).size : Int)
                                    · rw [if_pos c27] at H
                                      have c27b0 : decide (0 < ((rdOf ByteArray.empty ((rd_T48 l1 x18_1).f2) x54_4).size : Int)) = true := decide_eq_true c27
                                      have c27b1 : decide (0 < (rdOf ByteArray.empty ((rd_T48 l1 x18_1).f2) x54_4).size) = true := decide_eq_true (by omega)
                                      clear c27
                                      by_cases c29 : (bt (rdOf ByteArray.empty ((rd_T48 l1 x18_1).f2) x54_4) 0) = 43
                                      · rw [if_pos c29] at H
                                        have c29b0 : ((bt (rdOf ByteArray.empty ((rd_T48 l1 x18_1).f2) x54_4) 0) == 43) = true := beq_iff_eq.mpr c29
                                        have c29b1 : ((bt (rdOf ByteArray.empty ((rd_T48 l1 x18_1).f2) x54_4) 0) != 43) = false := bne_eq_false_iff_eq.mpr c29
                                        clear c29
                                        by_cases c31 : (bt (rdOf ByteArray.empty ((rd_T48 l1 x18_1).f2) x54_4) 0) = 45
                                        · rw [if_pos c31] at H
                                          have c31b0 : ((bt (rdOf ByteArray.empty ((rd_T48 l1 x18_1).f2) x54_4) 0) == 45) = true := beq_iff_eq.mpr c31
                                          have c31b1 : ((bt (rdOf ByteArray.empty ((rd_T48 l1 x18_1).f2) x54_4) 0) != 45) = false := bne_eq_false_iff_eq.mpr c31
                                          clear c31
                                          have H' := Aside0.mk H
                                          clear H
                                          have p113 : 0 ≤ (x54_4 : Int) := of_decide_eq_true (by first | (with_reducible assumption) | assumption)
                                          have q113 : x54_4 < (((rd_T48 l1 x18_1).f2).length : Int) := of_decide_eq_true (by first | (with_reducible assumption) | assumption)
                                          obtain ⟨ad113, e113, hx113_0⟩ := Kd.at_string HR110_2.out x54_4 p113 q113
                                          cases e113
                                          replace hx113_0 := (HB.out.cell (World.block_lt_of_cell? w _ hx113_0)).trans hx113_0
                                          replace p113 := eq_true p113
                                          replace q113 := eq_true q113
                                          have p28 : 0 ≤ (0 : Int) := (by omega)
                                          have q28 : 0 < (rdOf ByteArray.empty ((rd_T48 l1 x18_1).f2) x54_4).size := (by have : (0 : Int) < ((rdOf ByteArray.empty ((rd_T48 l1 x18_1).f2) x54_4).size : Int) := of_decide_eq_true (by first | (with_reducible assumption) | assumption); omega)
                                          have hx28 : ∀ h : 0 < (rdOf ByteArray.empty ((rd_T48 l1 x18_1).f2) x54_4).size, (((rdOf ByteArray.empty ((rd_T48 l1 x18_1).f2) x54_4)[0]'h).toNat : Int) = bt (rdOf ByteArray.empty ((rd_T48 l1 x18_1).f2) x54_4) 0 := bt_at (rdOf ByteArray.empty ((rd_T48 l1 x18_1).f2) x54_4) 0
                                          clear p28
                                          have qi28 : (0 < ((rdOf ByteArray.empty ((rd_T48 l1 x18_1).f2) x54_4).size : Int)) = True := eq_true (of_decide_eq_true (by first | (with_reducible assumption) | assumption))
                                          replace q28 := eq_true q28
                                          have p30 : 0 ≤ (0 : Int) := (by omega)
                                          have q30 : 0 < (rdOf ByteArray.empty ((rd_T48 l1 x18_1).f2) x54_4).size := (by have : (0 : Int) < ((rdOf ByteArray.empty ((rd_T48 l1 x18_1).f2) x54_4).size : Int) := of_decide_eq_true (by first | (with_reducible assumption) | assumption); omega)
                                          have hx30 : ∀ h : 0 < (rdOf ByteArray.empty ((rd_T48 l1 x18_1).f2) x54_4).size, (((rdOf ByteArray.empty ((rd_T48 l1 x18_1).f2) x54_4)[0]'h).toNat : Int) = bt (rdOf ByteArray.empty ((rd_T48 l1 x18_1).f2) x54_4) 0 := bt_at (rdOf ByteArray.empty ((rd_T48 l1 x18_1).f2) x54_4) 0
                                          clear p30
                                          have qi30 : (0 < ((rdOf ByteArray.empty ((rd_T48 l1 x18_1).f2) x54_4).size : Int)) = True := eq_true (of_decide_eq_true (by first | (with_reducible assumption) | assumption))
                                          replace q30 := eq_true q30
                                          go_wp2
                                          repeat (go_quiet (fail); try go_wp2)
                                          go_roundg k4
                                          case measure => have := HK1.out; have := HJ7.out; have := HK3.out; have := HK4.out; omega
                                          case rel => exact ⟨(x7_4), (x8_4), (x9_4), (wrap64 (x54_4 + 1)), (by first | rfl | (simp; done) | (simp [*]; done)), (by first | rfl | (simp; done) | (simp [*]; done)), (by first | rfl | (simp; done) | (simp [*]; done)), (by first | rfl | (simp; done) | (simp [*]; done)), H', ⟨by have := HK1.out; have := HJ7.out; have := HK3.out; have := HK4.out; omega⟩, ⟨by (with_reducible repeat (first | apply Kd.R_alloc | apply Kd.R_drewN | apply Kd.R_drew)); exact HO_6.out⟩, ⟨by (with_reducible repeat (first | refine blk_drewN ?_ _ | refine blk_drew ?_ | refine blk_alloc ?_ _)); exact BK111.out⟩, ⟨by repeat (first | (with_reducible first | exact HB.out | apply below_alloc | apply pw_below_drewN | apply below_drew1 | refine below_set ?_ GE111.out) | exact HB.out)⟩⟩
                                        · rw [if_neg c31] at H
                                          have c31b0 : ((bt (rdOf ByteArray.empty ((rd_T48 l1 x18_1).f2) x54_4) 0) == 45) = false := beq_eq_false_iff_ne.mpr c31
                                          have c31b1 : ((bt (rdOf ByteArray.empty ((rd_T48 l1 x18_1).f2) x54_4) 0) != 45) = true := bne_iff_ne.mpr c31
                                          by_cases c32 : 1 ≤ ((rdOf ByteArray.empty ((rd_T48 l1 x18_1).f2) x54_4).size : Int)
                                          · rw [if_pos c32] at H
                                            have c32b0 := eq_true c32
                                            have c32b1 : decide (1 ≤ ((rdOf ByteArray.empty ((rd_T48 l1 x18_1).f2) x54_4).size : Int)) = true := decide_eq_true c32
                                            clear c32
                                            by_cases c33 : x7_4.size + ((rdOf ByteArray.empty ((rd_T48 l1 x18_1).f2) x54_4).extract 1 (rdOf ByteArray.empty ((rd_T48 l1 x18_1).f2) x54_4).size).size ≤ 9223372036854775807
                                            · rw [if_pos c33] at H
                                              have c33b0 := eq_true c33
                                              have c33b1 : decide (x7_4.size + ((rdOf ByteArray.empty ((rd_T48 l1 x18_1).f2) x54_4).extract 1 (rdOf ByteArray.empty ((rd_T48 l1 x18_1).f2) x54_4).size).size ≤ 9223372036854775807) = true := decide_eq_true c33
                                              try have c33b2 : (9223372036854775807 < x7_4.size + ((rdOf ByteArray.empty ((rd_T48 l1 x18_1).f2) x54_4).extract 1 (rdOf ByteArray.empty ((rd_T48 l1 x18_1).f2) x54_4).size).size) = False := eq_false (Nat.not_lt.2 c33)
                                              have H' := Aside0.mk H
                                              clear H
                                              have p113 : 0 ≤ (x54_4 : Int) := of_decide_eq_true (by first | (with_reducible assumption) | assumption)
                                              have q113 : x54_4 < (((rd_T48 l1 x18_1).f2).length : Int) := of_decide_eq_true (by first | (with_reducible assumption) | assumption)
                                              obtain ⟨ad113, e113, hx113_0⟩ := Kd.at_string HR110_2.out x54_4 p113 q113
                                              cases e113
                                              replace hx113_0 := (HB.out.cell (World.block_lt_of_cell? w _ hx113_0)).trans hx113_0
                                              replace p113 := eq_true p113
                                              replace q113 := eq_true q113
                                              have p28 : 0 ≤ (0 : Int) := (by omega)
                                              have q28 : 0 < (rdOf ByteArray.empty ((rd_T48 l1 x18_1).f2) x54_4).size := (by have : (0 : Int) < ((rdOf ByteArray.empty ((rd_T48 l1 x18_1).f2) x54_4).size : Int) := of_decide_eq_true (by first | (with_reducible assumption) | assumption); omega)
                                              have hx28 : ∀ h : 0 < (rdOf ByteArray.empty ((rd_T48 l1 x18_1).f2) x54_4).size, (((rdOf ByteArray.empty ((rd_T48 l1 x18_1).f2) x54_4)[0]'h).toNat : Int) = bt (rdOf ByteArray.empty ((rd_T48 l1 x18_1).f2) x54_4) 0 := bt_at (rdOf ByteArray.empty ((rd_T48 l1 x18_1).f2) x54_4) 0
                                              clear p28
                                              have qi28 : (0 < ((rdOf ByteArray.empty ((rd_T48 l1 x18_1).f2) x54_4).size : Int)) = True := eq_true (of_decide_eq_true (by first | (with_reducible assumption) | assumption))
                                              replace q28 := eq_true q28
                                              have p30 : 0 ≤ (0 : Int) := (by omega)
                                              have q30 : 0 < (rdOf ByteArray.empty ((rd_T48 l1 x18_1).f2) x54_4).size := (by have : (0 : Int) < ((rdOf ByteArray.empty ((rd_T48 l1 x18_1).f2) x54_4).size : Int) := of_decide_eq_true (by first | (with_reducible assumption) | assumption); omega)
                                              have hx30 : ∀ h : 0 < (rdOf ByteArray.empty ((rd_T48 l1 x18_1).f2) x54_4).size, (((rdOf ByteArray.empty ((rd_T48 l1 x18_1).f2) x54_4)[0]'h).toNat : Int) = bt (rdOf ByteArray.empty ((rd_T48 l1 x18_1).f2) x54_4) 0 := bt_at (rdOf ByteArray.empty ((rd_T48 l1 x18_1).f2) x54_4) 0
                                              clear p30
                                              have qi30 : (0 < ((rdOf ByteArray.empty ((rd_T48 l1 x18_1).f2) x54_4).size : Int)) = True := eq_true (of_decide_eq_true (by first | (with_reducible assumption) | assumption))
                                              replace q30 := eq_true q30
                                              go_wp2
                                              repeat (go_quiet (fail); try go_wp2)
                                              go_roundg k4
                                              case measure => have := HK1.out; have := HJ7.out; have := HK3.out; have := HK4.out; omega
                                              case rel => exact ⟨(x7_4 ++ ((rdOf ByteArray.empty ((rd_T48 l1 x18_1).f2) x54_4).extract 1 (rdOf ByteArray.empty ((rd_T48 l1 x18_1).f2) x54_4).size)), (x8_4), (wrap64 (x9_4 + 1)), (wrap64 (x54_4 + 1)), (by first | rfl | (simp; done) | (simp [*]; done)), (by first | rfl | (simp; done) | (simp [*]; done)), (by first | rfl | (simp; done) | (simp [*]; done)), (by first | rfl | (simp; done) | (simp [*]; done)), H', ⟨by have := HK1.out; have := HJ7.out; have := HK3.out; have := HK4.out; omega⟩, ⟨by (with_reducible repeat (first | apply Kd.R_alloc | apply Kd.R_drewN | apply Kd.R_drew)); exact HO_6.out⟩, ⟨by (with_reducible repeat (first | refine blk_drewN ?_ _ | refine blk_drew ?_ | refine blk_alloc ?_ _)); exact BK111.out⟩, ⟨by repeat (first | (with_reducible first | exact HB.out | apply below_alloc | apply pw_below_drewN | apply below_drew1 | refine below_set ?_ GE111.out) | exact HB.out)⟩⟩
                                            · rw [if_neg c33] at H
                                              exact absurd H (by simp)
                                          · rw [if_neg c32] at H
                                            exact absurd H (by simp)
                                      · rw [if_neg c29] at H
                                        have c29b0 : ((bt (rdOf ByteArray.empty ((rd_T48 l1 x18_1).f2) x54_4) 0) == 43) = false := beq_eq_false_iff_ne.mpr c29
                                        have c29b1 : ((bt (rdOf ByteArray.empty ((rd_T48 l1 x18_1).f2) x54_4) 0) != 43) = true := bne_iff_ne.mpr c29
                                        have HC34 := Aside0.mk H
                                        clear H
                                        have p113 : 0 ≤ (x54_4 : Int) := of_decide_eq_true (by first | (with_reducible assumption) | assumption)
                                        have q113 : x54_4 < (((rd_T48 l1 x18_1).f2).length : Int) := of_decide_eq_true (by first | (with_reducible assumption) | assumption)
                                        obtain ⟨ad113, e113, hx113_0⟩ := Kd.at_string HR110_2.out x54_4 p113 q113
                                        cases e113
                                        replace hx113_0 := (HB.out.cell (World.block_lt_of_cell? w _ hx113_0)).trans hx113_0
                                        replace p113 := eq_true p113
                                        replace q113 := eq_true q113
                                        have p28 : 0 ≤ (0 : Int) := (by omega)
                                        have q28 : 0 < (rdOf ByteArray.empty ((rd_T48 l1 x18_1).f2) x54_4).size := (by have : (0 : Int) < ((rdOf ByteArray.empty ((rd_T48 l1 x18_1).f2) x54_4).size : Int) := of_decide_eq_true (by first | (with_reducible assumption) | assumption); omega)
                                        have hx28 : ∀ h : 0 < (rdOf ByteArray.empty ((rd_T48 l1 x18_1).f2) x54_4).size, (((rdOf ByteArray.empty ((rd_T48 l1 x18_1).f2) x54_4)[0]'h).toNat : Int) = bt (rdOf ByteArray.empty ((rd_T48 l1 x18_1).f2) x54_4) 0 := bt_at (rdOf ByteArray.empty ((rd_T48 l1 x18_1).f2) x54_4) 0
                                        clear p28
                                        have qi28 : (0 < ((rdOf ByteArray.empty ((rd_T48 l1 x18_1).f2) x54_4).size : Int)) = True := eq_true (of_decide_eq_true (by first | (with_reducible assumption) | assumption))
                                        replace q28 := eq_true q28
                                        go_upto_region 18 with (fail)
                                        repeat (go_quiet (fail); go_upto_region 18 with (fail))
                                        go_cut [73] (fun v73 wc => ∃ (kq : Nat) (x73_33 : Bool), v73 = .bool x73_33 ∧ Aside0 (spec_Applied.j4 kq t107 x7_4 x8_4 x9_4 (rdOf ByteArray.empty ((rd_T48 l1 x18_1).f2) x54_4) l1 (l1.length : Int) x18_1 ((rd_T48 l1 x18_1).f2) (((rd_T48 l1 x18_1).f2).length : Int) x54_4 x73_33 = some (r1, r2)) ∧ Aside0 (kq ≤ k4) ∧ Aside0 (Kd.R Kd.string 9 wc w.heap.size (fun _ => True) v108 t107) ∧ Aside0 (wc.heap[gb111]? = some (.cells #[.int .i64 ((rd_T48 l1 x18_1).f0), .int .i64 ((rd_T48 l1 x18_1).f1), (.slice (some ad113) ((rd_T48 l1 x18_1).f2).length c110_2)] 48 (0, 0))) ∧ Aside0 (Below w.heap.size w wc))
                                        case first =>
                                          have H := HC34.out
                                          clear HC34
                                          by_cases c35 : x8_4 = (t107.length : Int)
                                          · rw [if_pos c35] at H
                                            have c35b0 : (x8_4 == (t107.length : Int)) = true := beq_iff_eq.mpr c35
                                            have c35b1 : (x8_4 != (t107.length : Int)) = false := bne_eq_false_iff_eq.mpr c35
                                            clear c35
                                            (first | rw [c35b0] | (simp only [i64_w, i32_w]; rw [c35b0]) | skip)
                                            have H' := Aside0.mk H
                                            clear H
                                            obtain ⟨Ao36, co36, eo36⟩ := Kd.R_slice HO_6.out
                                            subst eo36
                                            go_wp2
                                            repeat (go_quiet (fail); try go_wp2)
                                            go_meet
                                            case rel => exact ⟨_, (true), (by first | rfl | (simp; done) | (simp [*]; done)), H', ⟨by have := HK1.out; have := HJ7.out; have := HK3.out; have := HK4.out; first | omega | exact Nat.le_refl _⟩, ⟨by (with_reducible repeat (first | apply Kd.R_alloc | apply Kd.R_drewN | apply Kd.R_drew)); exact HO_6.out⟩, ⟨by (with_reducible repeat (first | refine blk_drewN ?_ _ | refine blk_drew ?_ | refine blk_alloc ?_ _)); exact BK111.out⟩, ⟨by repeat (first | (with_reducible first | exact HB.out | apply below_alloc | apply pw_below_drewN | apply below_drew1 | refine below_set ?_ GE111.out) | exact HB.out)⟩⟩
                                          · rw [if_neg c35] at H
                                            have c35b0 : (x8_4 == (t107.length : Int)) = false := beq_eq_false_iff_ne.mpr c35
                                            have c35b1 : (x8_4 != (t107.length : Int)) = true := bne_iff_ne.mpr c35
                                            (first | rw [c35b0] | (simp only [i64_w, i32_w]; rw [c35b0]) | skip)
                                            by_cases c37 : 0 ≤ x8_4
                                            · rw [if_pos c37] at H
                                              have c37b0 : decide (0 ≤ x8_4) = true := decide_eq_true c37
                                              clear c37
                                              by_cases c38 : x8_4 < (t107.length : Int)
                                              · rw [if_pos c38] at H
                                                have c38b0 : decide (x8_4 < (t107.length : Int)) = true := decide_eq_true c38
                                                clear c38
                                                by_cases c39 : 1 ≤ ((rdOf ByteArray.empty ((rd_T48 l1 x18_1).f2) x54_4).size : Int)
                                                · rw [if_pos c39] at H
                                                  have c39b0 := eq_true c39
                                                  have c39b1 : decide (1 ≤ ((rdOf ByteArray.empty ((rd_T48 l1 x18_1).f2) x54_4).size : Int)) = true := decide_eq_true c39
                                                  clear c39
                                                  have H' := Aside0.mk H
                                                  clear H
                                                  obtain ⟨Ao40, co40, eo40⟩ := Kd.R_slice HO_6.out
                                                  subst eo40
                                                  have p114 : 0 ≤ (x8_4 : Int) := of_decide_eq_true (by first | (with_reducible assumption) | assumption)
                                                  have q114 : x8_4 < (t107.length : Int) := of_decide_eq_true (by first | (with_reducible assumption) | assumption)
                                                  obtain ⟨ad114, e114, hx114_0⟩ := Kd.at_string (Kd.R_reads' HO_6.out).2.2 x8_4 p114 q114
                                                  cases e114
                                                  replace p114 := eq_true p114
                                                  replace q114 := eq_true q114
                                                  go_wp2
                                                  repeat (go_quiet (fail); try go_wp2)
                                                  go_meet
                                                  case rel => exact ⟨_, (((rdOf ByteArray.empty t107 x8_4).toList != ((rdOf ByteArray.empty ((rd_T48 l1 x18_1).f2) x54_4).extract 1 (rdOf ByteArray.empty ((rd_T48 l1 x18_1).f2) x54_4).size).toList)), (by first | rfl | (simp; done) | (simp [*]; done)), H', ⟨by have := HK1.out; have := HJ7.out; have := HK3.out; have := HK4.out; first | omega | exact Nat.le_refl _⟩, ⟨by (with_reducible repeat (first | apply Kd.R_alloc | apply Kd.R_drewN | apply Kd.R_drew)); exact HO_6.out⟩, ⟨by (with_reducible repeat (first | refine blk_drewN ?_ _ | refine blk_drew ?_ | refine blk_alloc ?_ _)); exact BK111.out⟩, ⟨by repeat (first | (with_reducible first | exact HB.out | apply below_alloc | apply pw_below_drewN | apply below_drew1 | refine below_set ?_ GE111.out) | exact HB.out)⟩⟩
                                                · rw [if_neg c39] at H
                                                  exact absurd H (by simp)
                                              · rw [if_neg c38] at H
                                                exact absurd H (by simp)
                                            · rw [if_neg c37] at H
                                              exact absurd H (by simp)
                                        case rest =>
                                          clear HC34
                                          try clear c1
                                          try clear p1
                                          try clear q1
                                          try clear hx1
                                          try clear c2
                                          try clear p2
                                          try clear q2
                                          try clear hx2
                                          try clear qi2
                                          try clear c3
                                          try clear p3
                                          try clear q3
                                          try clear hx3
                                          try clear qi3
                                          try clear c5
                                          try clear c5b0
                                          try clear c6
                                          try clear c6b0
                                          try clear p6
                                          try clear c7
                                          try clear c7b0
                                          try clear c9
                                          try clear c11
                                          try clear c11b0
                                          try clear p11
                                          try clear q11
                                          try clear hx11
                                          try clear c15
                                          try clear c16
                                          try clear c16b0
                                          try clear c17
                                          try clear c17b0
                                          try clear c18
                                          try clear c18b0
                                          try clear c19
                                          try clear c19b0
                                          try clear c19b1
                                          try clear c19b2
                                          try clear c22
                                          try clear c22b0
                                          try clear c22b1
                                          try clear c24
                                          try clear c24b0
                                          try clear c25
                                          try clear c25b0
                                          try clear c26
                                          try clear c26b0
                                          try clear c27
                                          try clear c27b0
                                          try clear c27b1
                                          try clear p28
                                          try clear q28
                                          try clear hx28
                                          try clear qi28
                                          try clear c29
                                          try clear c29b0
                                          try clear c29b1
                                          try clear p30
                                          try clear q30
                                          try clear hx30
                                          try clear qi30
                                          try clear c31
                                          try clear c31b0
                                          try clear c31b1
                                          try clear c32
                                          try clear c32b0
                                          try clear c32b1
                                          try clear c33
                                          try clear c33b0
                                          try clear c33b1
                                          try clear c33b2
                                          try clear c35
                                          try clear c35b0
                                          try clear c35b1
                                          try clear c37
                                          try clear c37b0
                                          try clear c38
                                          try clear c38b0
                                          try clear c39
                                          try clear c39b0
                                          try clear c39b1
                                          try clear hcz10_0
                                          try clear hcz10_1
                                          try clear hcz10_2
                                          try clear hcz12_0
                                          try clear hcz12_1
                                          try clear hcz12_2
                                          try clear hcz13_0
                                          try clear hcz13_1
                                          try clear hcz13_2
                                          try clear hcz20_0
                                          try clear hcz20_1
                                          try clear hcz20_2
                                          try clear hcz23_0
                                          try clear hcz23_1
                                          try clear hcz23_2
                                          try clear hfz10_0
                                          try clear hfz10_1
                                          try clear hfz10_2
                                          try clear hfz12_0
                                          try clear hfz12_1
                                          try clear hfz12_2
                                          try clear hfz13_0
                                          try clear hfz13_1
                                          try clear hfz13_2
                                          try clear hfz20_0
                                          try clear hfz20_1
                                          try clear hfz20_2
                                          try clear hfz23_0
                                          try clear hfz23_1
                                          try clear hfz23_2
                                          try clear hx110_0
                                          try clear hx110_1
                                          try clear hx110_2
                                          try clear hx112_0
                                          try clear hx113_0
                                          try clear hx114_0
                                          try clear p1
                                          try clear p11
                                          try clear p110
                                          try clear p112
                                          try clear p113
                                          try clear p114
                                          try clear p2
                                          try clear p28
                                          try clear p30
                                          try clear p6
                                          try clear q1
                                          try clear q11
                                          try clear q110
                                          try clear q112
                                          try clear q113
                                          try clear q114
                                          try clear q28
                                          try clear q30
                                          obtain ⟨kq, x73_33, rfl, HA, HJ33, HO_6, BK111, HB⟩ := hcut
                                          cases kq with
                                          | zero => exact absurd HA.out (by simp [spec_Applied.j4])
                                          | succ kj33 =>
                                            have H := HA.out
                                            clear HA
                                            simp only [spec_Applied.j4] at H
                                            by_cases c41 : x73_33 = true
                                            · subst c41
                                              have H1 : (some ((⟨#[]⟩ : ByteArray), false)) = some (r1, r2) := by rw [if_pos rfl] at H; exact H
                                              clear H
                                              have H := H1
                                              clear H1
                                              simp only [Option.some.injEq, Prod.mk.injEq] at H
                                              obtain ⟨rfl, rfl⟩ := H
                                              go_wp2
                                              repeat (go_quiet (fail); try go_wp2)
                                              go_ret2
                                              exact ⟨by first | rfl | (simp [errW_none, errW_some] <;> rfl) | (simp [*, errW_none, errW_some] <;> rfl), by repeat (first | (with_reducible first | exact HB.out | apply below_alloc | apply pw_below_drewN | apply below_drew1 | refine below_set ?_ GE111.out) | exact HB.out)⟩
                                            · replace c41 := Bool.eq_false_iff.mpr c41
                                              subst c41
                                              have H1 : (if 0 < ((rdOf ByteArray.empty ((rd_T48 l1 x18_1).f2) x54_4).size : Int) then (if (bt (rdOf ByteArray.empty ((rd_T48 l1 x18_1).f2) x54_4) 0) = 45 then (spec_Applied.l2 kj33 t107 x7_4 (wrap64 (x8_4 + 1)) x9_4 l1 (l1.length : Int) x18_1 ((rd_T48 l1 x18_1).f2) (((rd_T48 l1 x18_1).f2).length : Int) (wrap64 (x54_4 + 1))) else (if 1 ≤ ((rdOf ByteArray.empty ((rd_T48 l1 x18_1).f2) x54_4).size : Int) then (if x7_4.size + ((rdOf ByteArray.empty ((rd_T48 l1 x18_1).f2) x54_4).extract 1 (rdOf ByteArray.empty ((rd_T48 l1 x18_1).f2) x54_4).size).size ≤ 9223372036854775807 then (spec_Applied.l2 kj33 t107 (x7_4 ++ ((rdOf ByteArray.empty ((rd_T48 l1 x18_1).f2) x54_4).extract 1 (rdOf ByteArray.empty ((rd_T48 l1 x18_1).f2) x54_4).size)) (wrap64 (x8_4 + 1)) (wrap64 (x9_4 + 1)) l1 (l1.length : Int) x18_1 ((rd_T48 l1 x18_1).f2) (((rd_T48 l1 x18_1).f2).length : Int) (wrap64 (x54_4 + 1))) else (none)) else (none))) else (none)) = some (r1, r2) := by rw [if_neg (show ¬ (false = true) by decide)] at H; exact H
                                              clear H
                                              have H := H1
                                              clear H1
                                              by_cases c42 : 0 < ((rdOf ByteArray.empty ((rd_T48 l1 x18_1).f2) x54_4).size : Int)
                                              · rw [if_pos c42] at H
                                                have c42b0 : decide (0 < ((rdOf ByteArray.empty ((rd_T48 l1 x18_1).f2) x54_4).size : Int)) = true := decide_eq_true c42
                                                have c42b1 : decide (0 < (rdOf ByteArray.empty ((rd_T48 l1 x18_1).f2) x54_4).size) = true := decide_eq_true (by omega)
                                                clear c42
                                                by_cases c44 : (bt (rdOf ByteArray.empty ((rd_T48 l1 x18_1).f2) x54_4) 0) = 45
                                                · rw [if_pos c44] at H
                                                  have c44b0 : ((bt (rdOf ByteArray.empty ((rd_T48 l1 x18_1).f2) x54_4) 0) == 45) = true := beq_iff_eq.mpr c44
                                                  have c44b1 : ((bt (rdOf ByteArray.empty ((rd_T48 l1 x18_1).f2) x54_4) 0) != 45) = false := bne_eq_false_iff_eq.mpr c44
                                                  clear c44
                                                  have H' := Aside0.mk H
                                                  clear H
                                                  have p43 : 0 ≤ (0 : Int) := (by omega)
                                                  have q43 : 0 < (rdOf ByteArray.empty ((rd_T48 l1 x18_1).f2) x54_4).size := (by have : (0 : Int) < ((rdOf ByteArray.empty ((rd_T48 l1 x18_1).f2) x54_4).size : Int) := of_decide_eq_true (by first | (with_reducible assumption) | assumption); omega)
                                                  have hx43 : ∀ h : 0 < (rdOf ByteArray.empty ((rd_T48 l1 x18_1).f2) x54_4).size, (((rdOf ByteArray.empty ((rd_T48 l1 x18_1).f2) x54_4)[0]'h).toNat : Int) = bt (rdOf ByteArray.empty ((rd_T48 l1 x18_1).f2) x54_4) 0 := bt_at (rdOf ByteArray.empty ((rd_T48 l1 x18_1).f2) x54_4) 0
                                                  clear p43
                                                  have qi43 : (0 < ((rdOf ByteArray.empty ((rd_T48 l1 x18_1).f2) x54_4).size : Int)) = True := eq_true (of_decide_eq_true (by first | (with_reducible assumption) | assumption))
                                                  replace q43 := eq_true q43
                                                  go_wp2
                                                  repeat (go_quiet (fail); try go_wp2)
                                                  go_roundg kj33
                                                  case measure => have := HK1.out; have := HJ7.out; have := HK3.out; have := HK4.out; have := HJ33.out; omega
                                                  case rel => exact ⟨(x7_4), (wrap64 (x8_4 + 1)), (x9_4), (wrap64 (x54_4 + 1)), (by first | rfl | (simp; done) | (simp [*]; done)), (by first | rfl | (simp; done) | (simp [*]; done)), (by first | rfl | (simp; done) | (simp [*]; done)), (by first | rfl | (simp; done) | (simp [*]; done)), H', ⟨by have := HK1.out; have := HJ7.out; have := HK3.out; have := HK4.out; have := HJ33.out; omega⟩, ⟨by (with_reducible repeat (first | apply Kd.R_alloc | apply Kd.R_drewN | apply Kd.R_drew)); exact HO_6.out⟩, ⟨by (with_reducible repeat (first | refine blk_drewN ?_ _ | refine blk_drew ?_ | refine blk_alloc ?_ _)); exact BK111.out⟩, ⟨by repeat (first | (with_reducible first | exact HB.out | apply below_alloc | apply pw_below_drewN | apply below_drew1 | refine below_set ?_ GE111.out) | exact HB.out)⟩⟩
                                                · rw [if_neg c44] at H
                                                  have c44b0 : ((bt (rdOf ByteArray.empty ((rd_T48 l1 x18_1).f2) x54_4) 0) == 45) = false := beq_eq_false_iff_ne.mpr c44
                                                  have c44b1 : ((bt (rdOf ByteArray.empty ((rd_T48 l1 x18_1).f2) x54_4) 0) != 45) = true := bne_iff_ne.mpr c44
                                                  by_cases c45 : 1 ≤ ((rdOf ByteArray.empty ((rd_T48 l1 x18_1).f2) x54_4).size : Int)
                                                  · rw [if_pos c45] at H
                                                    have c45b0 := eq_true c45
                                                    have c45b1 : decide (1 ≤ ((rdOf ByteArray.empty ((rd_T48 l1 x18_1).f2) x54_4).size : Int)) = true := decide_eq_true c45
                                                    clear c45
                                                    by_cases c46 : x7_4.size + ((rdOf ByteArray.empty ((rd_T48 l1 x18_1).f2) x54_4).extract 1 (rdOf ByteArray.empty ((rd_T48 l1 x18_1).f2) x54_4).size).size ≤ 9223372036854775807
                                                    · rw [if_pos c46] at H
                                                      have c46b0 := eq_true c46
                                                      have c46b1 : decide (x7_4.size + ((rdOf ByteArray.empty ((rd_T48 l1 x18_1).f2) x54_4).extract 1 (rdOf ByteArray.empty ((rd_T48 l1 x18_1).f2) x54_4).size).size ≤ 9223372036854775807) = true := decide_eq_true c46
                                                      try have c46b2 : (9223372036854775807 < x7_4.size + ((rdOf ByteArray.empty ((rd_T48 l1 x18_1).f2) x54_4).extract 1 (rdOf ByteArray.empty ((rd_T48 l1 x18_1).f2) x54_4).size).size) = False := eq_false (Nat.not_lt.2 c46)
                                                      have H' := Aside0.mk H
                                                      clear H
                                                      have p43 : 0 ≤ (0 : Int) := (by omega)
                                                      have q43 : 0 < (rdOf ByteArray.empty ((rd_T48 l1 x18_1).f2) x54_4).size := (by have : (0 : Int) < ((rdOf ByteArray.empty ((rd_T48 l1 x18_1).f2) x54_4).size : Int) := of_decide_eq_true (by first | (with_reducible assumption) | assumption); omega)
                                                      have hx43 : ∀ h : 0 < (rdOf ByteArray.empty ((rd_T48 l1 x18_1).f2) x54_4).size, (((rdOf ByteArray.empty ((rd_T48 l1 x18_1).f2) x54_4)[0]'h).toNat : Int) = bt (rdOf ByteArray.empty ((rd_T48 l1 x18_1).f2) x54_4) 0 := bt_at (rdOf ByteArray.empty ((rd_T48 l1 x18_1).f2) x54_4) 0
                                                      clear p43
                                                      have qi43 : (0 < ((rdOf ByteArray.empty ((rd_T48 l1 x18_1).f2) x54_4).size : Int)) = True := eq_true (of_decide_eq_true (by first | (with_reducible assumption) | assumption))
                                                      replace q43 := eq_true q43
                                                      go_wp2
                                                      repeat (go_quiet (fail); try go_wp2)
                                                      go_roundg kj33
                                                      case measure => have := HK1.out; have := HJ7.out; have := HK3.out; have := HK4.out; have := HJ33.out; omega
                                                      case rel => exact ⟨(x7_4 ++ ((rdOf ByteArray.empty ((rd_T48 l1 x18_1).f2) x54_4).extract 1 (rdOf ByteArray.empty ((rd_T48 l1 x18_1).f2) x54_4).size)), (wrap64 (x8_4 + 1)), (wrap64 (x9_4 + 1)), (wrap64 (x54_4 + 1)), (by first | rfl | (simp; done) | (simp [*]; done)), (by first | rfl | (simp; done) | (simp [*]; done)), (by first | rfl | (simp; done) | (simp [*]; done)), (by first | rfl | (simp; done) | (simp [*]; done)), H', ⟨by have := HK1.out; have := HJ7.out; have := HK3.out; have := HK4.out; have := HJ33.out; omega⟩, ⟨by (with_reducible repeat (first | apply Kd.R_alloc | apply Kd.R_drewN | apply Kd.R_drew)); exact HO_6.out⟩, ⟨by (with_reducible repeat (first | refine blk_drewN ?_ _ | refine blk_drew ?_ | refine blk_alloc ?_ _)); exact BK111.out⟩, ⟨by repeat (first | (with_reducible first | exact HB.out | apply below_alloc | apply pw_below_drewN | apply below_drew1 | refine below_set ?_ GE111.out) | exact HB.out)⟩⟩
                                                    · rw [if_neg c46] at H
                                                      exact absurd H (by simp)
                                                  · rw [if_neg c45] at H
                                                    exact absurd H (by simp)
                                              · rw [if_neg c42] at H
                                                exact absurd H (by simp)
                                    · rw [if_neg c27] at H
                                      exact absurd H (by simp)
                                  · rw [if_neg c26] at H
                                    exact absurd H (by simp)
                                · rw [if_neg c25] at H
                                  exact absurd H (by simp)
                              · rw [if_neg c24] at H
                                have c24b0 : decide (x54_4 < (((rd_T48 l1 x18_1).f2).length : Int)) = false := decide_eq_false c24
                                clear c24
                                have H' := Aside0.mk H
                                clear H
                                go_wp2
                                repeat (go_quiet (fail); try go_wp2)
                                go_roundg k4
                                case measure => have := HK1.out; have := HJ7.out; have := HK3.out; have := HK4.out; omega
                                case rel => exact ⟨(x7_4), (x8_4), (x9_4), (wrap64 (x18_1 + 1)), (by first | rfl | (simp; done) | (simp [*]; done)), (by first | rfl | (simp; done) | (simp [*]; done)), (by first | rfl | (simp; done) | (simp [*]; done)), (by first | rfl | (simp; done) | (simp [*]; done)), H', ⟨by have := HK1.out; have := HJ7.out; have := HK3.out; have := HK4.out; omega⟩, ⟨by (with_reducible repeat (first | apply Kd.R_alloc | apply Kd.R_drewN | apply Kd.R_drew)); exact HO_6.out⟩, ⟨by repeat (first | (with_reducible first | exact HB.out | apply below_alloc | apply pw_below_drewN | apply below_drew1 | refine below_set ?_ GE111.out) | exact HB.out)⟩⟩
                        · rw [if_neg c22] at H
                          have c22b0 : (x9_3 == ((rd_T48 l1 x18_1).f1)) = false := beq_eq_false_iff_ne.mpr c22
                          have c22b1 : (x9_3 != ((rd_T48 l1 x18_1).f1)) = true := bne_iff_ne.mpr c22
                          simp only [Option.some.injEq, Prod.mk.injEq] at H
                          obtain ⟨rfl, rfl⟩ := H
                          have hcz47_0 : wr.cell? ⟨gb111, 0, none⟩ = some (.int .i64 ((rd_T48 l1 x18_1).f0)) := (blk_cell BK111.out 0).trans rfl
                          have hcz47_1 : wr.cell? ⟨gb111, 1, none⟩ = some (.int .i64 ((rd_T48 l1 x18_1).f1)) := (blk_cell BK111.out 1).trans rfl
                          have hcz47_2 : wr.cell? ⟨gb111, 2, none⟩ = some (.slice A110_2 ((rd_T48 l1 x18_1).f2).length c110_2) := (blk_cell BK111.out 2).trans rfl
                          have hfz47_0 := blk_frozen BK111.out 0
                          have hfz47_1 := blk_frozen BK111.out 1
                          have hfz47_2 := blk_frozen BK111.out 2
                          go_wp2
                          repeat (go_quiet (fail); try go_wp2)
                          go_ret2
                          exact ⟨by first | rfl | (simp [errW_none, errW_some] <;> rfl) | (simp [*, errW_none, errW_some] <;> rfl), by repeat (first | (with_reducible first | exact HB.out | apply below_alloc | apply pw_below_drewN | apply below_drew1 | refine below_set ?_ GE111.out) | exact HB.out)⟩
          · rw [if_neg c7] at H
            exact absurd H (by simp)
        · rw [if_neg c6] at H
          exact absurd H (by simp)
      · rw [if_neg c5] at H
        have c5b0 : decide (x18_1 < (l1.length : Int)) = false := decide_eq_false c5
        clear c5
        have H' := Aside0.mk H
        clear H
        go_wp2
        repeat (go_quiet (fail); try go_wp2)
        go_loopg [7, 8] k1 (fun kq v7 v8 w' => ∃ (x7_2 : ByteArray) (x8_2 : Int), v7 = .string x7_2 ∧ v8 = .int .i64 x8_2 ∧ Aside0 (spec_Applied.l3 kq t107 x7_2 x8_2 = some (r1, r2)) ∧ Aside0 (kq ≤ k1) ∧ Aside0 (Kd.R Kd.string 9 w' w.heap.size (fun _ => True) v108 t107) ∧ Aside0 (Below w.heap.size w w'))
        case atStart => exact ⟨(x7_1), (x8_1), (by first | rfl | (simp; done) | (simp [*]; done)), (by first | rfl | (simp; done) | (simp [*]; done)), H', ⟨Nat.le_refl _⟩, ⟨by (with_reducible repeat (first | apply Kd.R_alloc | apply Kd.R_drewN | apply Kd.R_drew)); exact HO_6.out⟩, ⟨by repeat (first | (with_reducible first | exact HB.out | apply below_alloc | apply pw_below_drewN | apply below_drew1) | exact HB.out)⟩⟩
        case round =>
          clear H'
          try clear c1
          try clear p1
          try clear q1
          try clear hx1
          try clear c2
          try clear p2
          try clear q2
          try clear hx2
          try clear qi2
          try clear c3
          try clear p3
          try clear q3
          try clear hx3
          try clear qi3
          try clear c4
          try clear p4
          try clear q4
          try clear hx4
          try clear qi4
          try clear c5
          try clear c5b0
          try clear c6
          try clear c6b0
          try clear p6
          try clear c7
          try clear c7b0
          try clear c9
          try clear c11
          try clear c11b0
          try clear p11
          try clear q11
          try clear hx11
          try clear c15
          try clear c16
          try clear c16b0
          try clear c17
          try clear c17b0
          try clear c18
          try clear c18b0
          try clear c19
          try clear c19b0
          try clear c19b1
          try clear c19b2
          try clear c22
          try clear c22b0
          try clear c22b1
          try clear c24
          try clear c24b0
          try clear c25
          try clear c25b0
          try clear c26
          try clear c26b0
          try clear c27
          try clear c27b0
          try clear c27b1
          try clear p28
          try clear q28
          try clear hx28
          try clear qi28
          try clear c29
          try clear c29b0
          try clear c29b1
          try clear p30
          try clear q30
          try clear hx30
          try clear qi30
          try clear c31
          try clear c31b0
          try clear c31b1
          try clear c32
          try clear c32b0
          try clear c32b1
          try clear c33
          try clear c33b0
          try clear c33b1
          try clear c33b2
          try clear c35
          try clear c35b0
          try clear c35b1
          try clear c37
          try clear c37b0
          try clear c38
          try clear c38b0
          try clear c39
          try clear c39b0
          try clear c39b1
          try clear c41
          try clear c42
          try clear c42b0
          try clear c42b1
          try clear p43
          try clear q43
          try clear hx43
          try clear qi43
          try clear c44
          try clear c44b0
          try clear c44b1
          try clear c45
          try clear c45b0
          try clear c45b1
          try clear c46
          try clear c46b0
          try clear c46b1
          try clear c46b2
          try clear hcz10_0
          try clear hcz10_1
          try clear hcz10_2
          try clear hcz12_0
          try clear hcz12_1
          try clear hcz12_2
          try clear hcz13_0
          try clear hcz13_1
          try clear hcz13_2
          try clear hcz20_0
          try clear hcz20_1
          try clear hcz20_2
          try clear hcz23_0
          try clear hcz23_1
          try clear hcz23_2
          try clear hcz47_0
          try clear hcz47_1
          try clear hcz47_2
          try clear hfz10_0
          try clear hfz10_1
          try clear hfz10_2
          try clear hfz12_0
          try clear hfz12_1
          try clear hfz12_2
          try clear hfz13_0
          try clear hfz13_1
          try clear hfz13_2
          try clear hfz20_0
          try clear hfz20_1
          try clear hfz20_2
          try clear hfz23_0
          try clear hfz23_1
          try clear hfz23_2
          try clear hfz47_0
          try clear hfz47_1
          try clear hfz47_2
          try clear hx110_0
          try clear hx110_1
          try clear hx110_2
          try clear hx112_0
          try clear hx113_0
          try clear hx114_0
          try clear p1
          try clear p11
          try clear p110
          try clear p112
          try clear p113
          try clear p114
          try clear p2
          try clear p28
          try clear p3
          try clear p30
          try clear p43
          try clear p6
          try clear q1
          try clear q11
          try clear q110
          try clear q112
          try clear q113
          try clear q114
          try clear q2
          try clear q28
          try clear q3
          try clear q30
          try clear q43
          obtain ⟨x7_2, x8_2, rfl, rfl, HA, HK2, HO_6, HB⟩ := hrel
          cases gk with
          | zero => exact absurd HA.out (by simp [spec_Applied.l3])
          | succ k2 =>
            have H := HA.out
            clear HA
            simp only [spec_Applied.l3] at H
            by_cases c48 : x8_2 < (t107.length : Int)
            · rw [if_pos c48] at H
              have c48b0 : decide (x8_2 < (t107.length : Int)) = true := decide_eq_true c48
              clear c48
              by_cases c49 : 0 ≤ x8_2
              · rw [if_pos c49] at H
                have c49b0 : decide (0 ≤ x8_2) = true := decide_eq_true c49
                clear c49
                by_cases c50 : x7_2.size + (rdOf ByteArray.empty t107 x8_2).size ≤ 9223372036854775807
                · rw [if_pos c50] at H
                  have c50b0 := eq_true c50
                  have c50b1 : decide (x7_2.size + (rdOf ByteArray.empty t107 x8_2).size ≤ 9223372036854775807) = true := decide_eq_true c50
                  try have c50b2 : (9223372036854775807 < x7_2.size + (rdOf ByteArray.empty t107 x8_2).size) = False := eq_false (Nat.not_lt.2 c50)
                  have H' := Aside0.mk H
                  clear H
                  obtain ⟨Ao51, co51, eo51⟩ := Kd.R_slice HO_6.out
                  subst eo51
                  have p115 : 0 ≤ (x8_2 : Int) := of_decide_eq_true (by first | (with_reducible assumption) | assumption)
                  have q115 : x8_2 < (t107.length : Int) := of_decide_eq_true (by first | (with_reducible assumption) | assumption)
                  obtain ⟨ad115, e115, hx115_0⟩ := Kd.at_string (Kd.R_reads' HO_6.out).2.2 x8_2 p115 q115
                  cases e115
                  replace p115 := eq_true p115
                  replace q115 := eq_true q115
                  go_wp2
                  repeat (go_quiet (fail); try go_wp2)
                  go_roundg k2
                  case measure => have := HK1.out; have := HK2.out; omega
                  case rel => exact ⟨(x7_2 ++ (rdOf ByteArray.empty t107 x8_2)), (wrap64 (x8_2 + 1)), (by first | rfl | (simp; done) | (simp [*]; done)), (by first | rfl | (simp; done) | (simp [*]; done)), H', ⟨by have := HK1.out; have := HK2.out; omega⟩, ⟨by (with_reducible repeat (first | apply Kd.R_alloc | apply Kd.R_drewN | apply Kd.R_drew)); exact HO_6.out⟩, ⟨by repeat (first | (with_reducible first | exact HB.out | apply below_alloc | apply pw_below_drewN | apply below_drew1) | exact HB.out)⟩⟩
                · rw [if_neg c50] at H
                  exact absurd H (by simp)
              · rw [if_neg c49] at H
                exact absurd H (by simp)
            · rw [if_neg c48] at H
              have c48b0 : decide (x8_2 < (t107.length : Int)) = false := decide_eq_false c48
              clear c48
              simp only [Option.some.injEq, Prod.mk.injEq] at H
              obtain ⟨rfl, rfl⟩ := H
              obtain ⟨Ao52, co52, eo52⟩ := Kd.R_slice HO_6.out
              subst eo52
              go_wp2
              repeat (go_quiet (fail); try go_wp2)
              go_ret2
              exact ⟨by first | rfl | (simp [errW_none, errW_some] <;> rfl) | (simp [*, errW_none, errW_some] <;> rfl), by repeat (first | (with_reducible first | exact HB.out | apply below_alloc | apply pw_below_drewN | apply below_drew1) | exact HB.out)⟩

end Go.Proofs.YtplbifmjnanceaaDoor.PApplied
