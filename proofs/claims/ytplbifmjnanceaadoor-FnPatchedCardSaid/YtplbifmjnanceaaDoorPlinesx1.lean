-- PRINTED BY print.sh 35421559b90ae4d0a3588c463048766b98c2df88dd9212a6774a882060cdf62d: not written by this session
import Derived.Test.YtplbifmjnanceaaDoorPlinesx0
namespace Go.Proofs.YtplbifmjnanceaaDoor.Plines
open Go.RowKit Go.Proofs.YtplbifmjnanceaaDoorW.PrintWords Go.Proofs.YtplbifmjnanceaaDoorW.PrintLast Go.Proofs.YtplbifmjnanceaaDoorW.PrintMore
attribute [local go_sem] max2_int min2_int max_two min_two max_three min_three max_four min_four   -- for this text's walks alone
set_option linter.unusedVariables false
set_option linter.unusedSimpArgs false

/-! ### diff_zzLines: function 26 -/
def diff_zzLines.l0 : Nat → ByteArray → List ByteArray → Int → Int → Option (List ByteArray)
  | 0, _, _, _, _ => none
  | k + 1, x0, x3, x4, x5 => if x5 < (x0.size : Int) then (if 0 ≤ x5 then (if (bt x0 x5) = 10 then (if 0 ≤ x4 then (if x4 ≤ (wrap64 (x5 + 1)) then (if (wrap64 (x5 + 1)) ≤ (x0.size : Int) then (if x3.length < 8796093022208 then (diff_zzLines.l0 k x0 (x3 ++ [x0.extract (x4 : Int).toNat ((wrap64 (x5 + 1)) : Int).toNat]) (wrap64 (x5 + 1)) (wrap64 (x5 + 1))) else (none)) else (none)) else (none)) else (none)) else (diff_zzLines.l0 k x0 x3 x4 (wrap64 (x5 + 1)))) else (none)) else (if 0 ≤ x4 then (if x4 ≤ (x0.size : Int) then (if x3.length < 8796093022208 then (some (x3 ++ [x0.extract (x4 : Int).toNat x0.size])) else (none)) else (none)) else (none))
def diff_zzLines.f (k : Nat) (a0 : ByteArray) : Option (List ByteArray) := diff_zzLines.l0 k a0 ([] : List ByteArray) 0 0
theorem diff_zzLines.mono_l : ∀ k, (∀ y0 y1 y2 y3, LeO (diff_zzLines.l0 k y0 y1 y2 y3) (diff_zzLines.l0 (k + 1) y0 y1 y2 y3))
  | 0 => fun _ _ _ _ r h => by simp [diff_zzLines.l0] at h
  | k + 1 => by
    have ih0 := diff_zzLines.mono_l k
    · intro y0 y1 y2 y3
      unfold diff_zzLines.l0
      repeat' first
      | (with_reducible exact ih0 _ _ _ _)
      | (with_reducible exact LeO.refl _)
      | (with_reducible exact LeO.none _)
      | (with_reducible refine LeO.ite ?_ ?_)
      | (with_reducible refine LeO.bind ?_ (fun _ => ?_))
      | exact ih0 _ _ _ _
      | exact LeO.none _
      | refine LeO.ite ?_ ?_
      | refine LeO.bind ?_ (fun _ => ?_)
theorem diff_zzLines.mono : ∀ a0 k, LeO (diff_zzLines.f k a0) (diff_zzLines.f (k + 1) a0) := by
  intro a0 k
  have ih0 := diff_zzLines.mono_l k
  unfold diff_zzLines.f
  repeat' first
      | (with_reducible exact ih0 _ _ _ _)
      | (with_reducible exact LeO.refl _)
      | (with_reducible exact LeO.none _)
      | (with_reducible refine LeO.ite ?_ ?_)
      | (with_reducible refine LeO.bind ?_ (fun _ => ?_))
      | exact ih0 _ _ _ _
      | exact LeO.none _
      | refine LeO.ite ?_ ?_
      | refine LeO.bind ?_ (fun _ => ?_)
set_option maxHeartbeats 8000000 in
set_option maxRecDepth 100000 in
theorem diff_zzLines.calls (k : Nat) (a0 : ByteArray) (r : List ByteArray) (w : World) (h : diff_zzLines.f k a0 = some r) :
    Calls Tryd.prog 26 #[.string a0] w fun e w' => ∃ v0_ : Value, e = .returned (v0_) ∧ Kd.R Kd.string 9 w' w.heap.size (fun _ => True) v0_ r ∧ Below w.heap.size w w' := by
  have HB := Aside0.mk (Below.refl w.heap.size w)
  have H : (diff_zzLines.l0 k a0 ([] : List ByteArray) 0 0) = some r := h
  clear h
  have H' := Aside0.mk H
  clear H
  go_enter Tryd.func26, Tryd.ntmps26
  go_wp2
  go_loopg [3, 4, 5] k (fun kq v3 v4 v5 w' => ∃ (x3_1 : List ByteArray) (x4_1 : Int) (x5_1 : Int), v4 = .int .i64 x4_1 ∧ v5 = .int .i64 x5_1 ∧ Aside0 (diff_zzLines.l0 kq a0 x3_1 x4_1 x5_1 = some r) ∧ Aside0 (kq ≤ k) ∧ Aside0 (Kd.R Kd.string 9 w' w.heap.size (fun _ => True) v3 x3_1) ∧ Aside0 (Below w.heap.size w w'))
  case atStart => exact ⟨(([] : List ByteArray)), (0), (0), (by first | rfl | (simp; done) | (simp [*]; done)), (by first | rfl | (simp; done) | (simp [*]; done)), H', ⟨Nat.le_refl _⟩, ⟨by first | exact Kd.R_nil _ _ _ _ _ | exact Kd.N_nil _ _ _ _ _ | exact Kd.V_nil _ _ _ _ _ | exact Kd.Q_nil _ _ _ _ _ | exact Kd.S_nil _ _ _ _ _⟩, ⟨by repeat (first | (with_reducible first | exact HB.out | apply below_alloc | apply pw_below_drewN | apply below_drew1) | exact HB.out)⟩⟩
  case round =>
    clear H'
    obtain ⟨x3_1, x4_1, x5_1, rfl, rfl, HA, HK1, HO_3, HB⟩ := hrel
    cases gk with
    | zero => exact absurd HA.out (by simp [diff_zzLines.l0])
    | succ k1 =>
      have H := HA.out
      clear HA
      simp only [diff_zzLines.l0] at H
      by_cases c2 : x5_1 < (a0.size : Int)
      · rw [if_pos c2] at H
        have c2b0 : decide (x5_1 < (a0.size : Int)) = true := decide_eq_true c2
        clear c2
        by_cases c3 : 0 ≤ x5_1
        · rw [if_pos c3] at H
          have c3b0 : decide (0 ≤ x5_1) = true := decide_eq_true c3
          clear c3
          by_cases c5 : (bt a0 x5_1) = 10
          · rw [if_pos c5] at H
            have c5b0 : ((bt a0 x5_1) == 10) = true := beq_iff_eq.mpr c5
            have c5b1 : ((bt a0 x5_1) != 10) = false := bne_eq_false_iff_eq.mpr c5
            clear c5
            by_cases c6 : 0 ≤ x4_1
            · rw [if_pos c6] at H
              have c6b0 := eq_true c6
              have c6b1 : decide (0 ≤ x4_1) = true := decide_eq_true c6
              clear c6
              by_cases c7 : x4_1 ≤ (wrap64 (x5_1 + 1))
              · rw [if_pos c7] at H
                have c7b0 := eq_true c7
                have c7b1 : decide (x4_1 ≤ (wrap64 (x5_1 + 1))) = true := decide_eq_true c7
                by_cases c8 : (wrap64 (x5_1 + 1)) ≤ (a0.size : Int)
                · rw [if_pos c8] at H
                  have c8b0 := eq_true c8
                  have c8b1 : decide ((wrap64 (x5_1 + 1)) ≤ (a0.size : Int)) = true := decide_eq_true c8
                  by_cases c9 : x3_1.length < 8796093022208
                  · rw [if_pos c9] at H
                    have LMc9 := Aside0.mk c9
                    clear c9
                    obtain ⟨y101, hy101⟩ : ∃ y_ : List ByteArray, y_ = (x3_1 ++ [a0.extract (x4_1 : Int).toNat ((wrap64 (x5_1 + 1)) : Int).toNat]) := ⟨_, rfl⟩
                    replace H : (diff_zzLines.l0 k1 a0 y101 (wrap64 (x5_1 + 1)) (wrap64 (x5_1 + 1))) = some r := by first | (rw [hy101]; with_reducible exact H) | (have H2_ := (Option.bind_some _ _).symm.trans H; rw [hy101]; with_reducible exact H2_) | (have H2_ := (Option.bind_some _ _).symm.trans H; with_reducible exact H2_) | with_reducible exact H | (rw [hy101]; exact H) | exact H
                    have Ny101 := Aside0.mk hy101
                    clear hy101
                    have H' := Aside0.mk H
                    clear H
                    have p4 : 0 ≤ (x5_1 : Int) := of_decide_eq_true (by first | (with_reducible assumption) | assumption)
                    have q4 : x5_1 < (a0.size : Int) := of_decide_eq_true (by first | (with_reducible assumption) | assumption)
                    have hx4 := bt_at a0 x5_1
                    replace p4 := eq_true p4
                    replace q4 := eq_true q4
                    go_wp2_with (first | ((with_reducible refine gate_builtin (b := .append) (xs := #[.tmp 16, .tmp 22]) rfl ?_); at_builtin; refine Kd.R_append Kd.string (w0 := w) w.heap.size rfl (.tmp 16) (.tmp 22) 22 9 (.string ⟨#[]⟩) 16 rfl Tryd.underlying22 info9 rfl (by decide) (by omega) u3 x3_1 (a0.extract (x4_1 : Int).toNat ((wrap64 (x5_1 + 1)) : Int).toNat) [.string (a0.extract (x4_1 : Int).toNat ((wrap64 (x5_1 + 1)) : Int).toNat)] (fun _ => True) (fun _ => False) rfl rfl ?aP (fun _ hk => hk.elim) ?aF ?aO ?aB ?aS ?aL ?_; (case aP => exact rfl); (case aB => exact (by repeat (first | (with_reducible first | exact HB.out | apply below_alloc | apply pw_below_drewN | apply below_drew1) | exact HB.out))); (case aF => exact (fun _ _ => trivial)); (case aO => exact (by (with_reducible repeat (first | apply Kd.R_alloc | apply Kd.R_drewN | apply Kd.R_drew)); exact HO_3.out)); (case aS => exact (below_size (by repeat (first | (with_reducible first | exact HB.out | apply below_alloc | apply pw_below_drewN | apply below_drew1) | exact HB.out)))); (case aL => have := LMc9.out; omega); intro v102 w10 ho hb hg hat; rw [← Ny101.out] at ho; have n0_ := Aside0.mk (hb); have n1_ := Aside0.mk (ho); clear HB; clear HO_3; have HB := n0_; have HO103 := n1_; clear n0_ n1_; clear ho hb hg hat))
                    go_roundg k1
                    case measure => have := HK1.out; omega
                    case rel => exact ⟨(y101), (wrap64 (x5_1 + 1)), (wrap64 (x5_1 + 1)), (by first | rfl | (simp; done) | (simp [*]; done)), (by first | rfl | (simp; done) | (simp [*]; done)), H', ⟨by have := HK1.out; omega⟩, ⟨by (with_reducible repeat (first | apply Kd.R_alloc | apply Kd.R_drewN | apply Kd.R_drew)); exact HO103.out⟩, ⟨by repeat (first | (with_reducible first | exact HB.out | apply below_alloc | apply pw_below_drewN | apply below_drew1) | exact HB.out)⟩⟩
                  · rw [if_neg c9] at H
                    exact absurd H (by simp)
                · rw [if_neg c8] at H
                  exact absurd H (by simp)
              · rw [if_neg c7] at H
                exact absurd H (by simp)
            · rw [if_neg c6] at H
              exact absurd H (by simp)
          · rw [if_neg c5] at H
            have c5b0 : ((bt a0 x5_1) == 10) = false := beq_eq_false_iff_ne.mpr c5
            have c5b1 : ((bt a0 x5_1) != 10) = true := bne_iff_ne.mpr c5
            have H' := Aside0.mk H
            clear H
            have p4 : 0 ≤ (x5_1 : Int) := of_decide_eq_true (by first | (with_reducible assumption) | assumption)
            have q4 : x5_1 < (a0.size : Int) := of_decide_eq_true (by first | (with_reducible assumption) | assumption)
            have hx4 := bt_at a0 x5_1
            replace p4 := eq_true p4
            replace q4 := eq_true q4
            go_wp2
            go_roundg k1
            case measure => have := HK1.out; omega
            case rel => exact ⟨(x3_1), (x4_1), (wrap64 (x5_1 + 1)), (by first | rfl | (simp; done) | (simp [*]; done)), (by first | rfl | (simp; done) | (simp [*]; done)), H', ⟨by have := HK1.out; omega⟩, ⟨by (with_reducible repeat (first | apply Kd.R_alloc | apply Kd.R_drewN | apply Kd.R_drew)); exact HO_3.out⟩, ⟨by repeat (first | (with_reducible first | exact HB.out | apply below_alloc | apply pw_below_drewN | apply below_drew1) | exact HB.out)⟩⟩
        · rw [if_neg c3] at H
          exact absurd H (by simp)
      · rw [if_neg c2] at H
        have c2b0 : decide (x5_1 < (a0.size : Int)) = false := decide_eq_false c2
        clear c2
        by_cases c11 : 0 ≤ x4_1
        · rw [if_pos c11] at H
          have c11b0 := eq_true c11
          have c11b1 : decide (0 ≤ x4_1) = true := decide_eq_true c11
          clear c11
          by_cases c12 : x4_1 ≤ (a0.size : Int)
          · rw [if_pos c12] at H
            have c12b0 := eq_true c12
            have c12b1 : decide (x4_1 ≤ (a0.size : Int)) = true := decide_eq_true c12
            clear c12
            by_cases c13 : x3_1.length < 8796093022208
            · rw [if_pos c13] at H
              have LMc13 := Aside0.mk c13
              clear c13
              obtain ⟨y104, hy104⟩ : ∃ y_ : List ByteArray, y_ = (x3_1 ++ [a0.extract (x4_1 : Int).toNat a0.size]) := ⟨_, rfl⟩
              replace H : (some y104) = some r := by first | (rw [hy104]; with_reducible exact H) | (have H2_ := (Option.bind_some _ _).symm.trans H; rw [hy104]; with_reducible exact H2_) | (have H2_ := (Option.bind_some _ _).symm.trans H; with_reducible exact H2_) | with_reducible exact H | (rw [hy104]; exact H) | exact H
              have Ny104 := Aside0.mk hy104
              clear hy104
              obtain rfl := Option.some.inj H
              go_wp2_with (first | ((with_reducible refine gate_builtin (b := .append) (xs := #[.tmp 26, .tmp 30]) rfl ?_); at_builtin; refine Kd.R_append Kd.string (w0 := w) w.heap.size rfl (.tmp 26) (.tmp 30) 22 9 (.string ⟨#[]⟩) 16 rfl Tryd.underlying22 info9 rfl (by decide) (by omega) u3 x3_1 (a0.extract (x4_1 : Int).toNat a0.size) [.string (a0.extract (x4_1 : Int).toNat a0.size)] (fun _ => True) (fun _ => False) rfl rfl ?aP (fun _ hk => hk.elim) ?aF ?aO ?aB ?aS ?aL ?_; (case aP => exact rfl); (case aB => exact (by repeat (first | (with_reducible first | exact HB.out | apply below_alloc | apply pw_below_drewN | apply below_drew1) | exact HB.out))); (case aF => exact (fun _ _ => trivial)); (case aO => exact (by (with_reducible repeat (first | apply Kd.R_alloc | apply Kd.R_drewN | apply Kd.R_drew)); exact HO_3.out)); (case aS => exact (below_size (by repeat (first | (with_reducible first | exact HB.out | apply below_alloc | apply pw_below_drewN | apply below_drew1) | exact HB.out)))); (case aL => have := LMc13.out; omega); intro v105 w14 ho hb hg hat; rw [← Ny104.out] at ho; have n0_ := Aside0.mk (hb); have n1_ := Aside0.mk (ho); clear HB; clear HO_3; have HB := n0_; have HO106 := n1_; clear n0_ n1_; clear ho hb hg hat))
              go_ret
              exact ⟨_, by first | rfl | (simp [errW_none, errW_some] <;> rfl) | (simp [*, errW_none, errW_some] <;> rfl), by (with_reducible repeat (first | apply Kd.R_alloc | apply Kd.R_drewN | apply Kd.R_drew)); exact HO106.out, by repeat (first | (with_reducible first | exact HB.out | apply below_alloc | apply pw_below_drewN | apply below_drew1) | exact HB.out)⟩
            · rw [if_neg c13] at H
              exact absurd H (by simp)
          · rw [if_neg c12] at H
            exact absurd H (by simp)
        · rw [if_neg c11] at H
          exact absurd H (by simp)

/-! ### diff_lines: function 18 -/
def diff_lines.f (k : Nat) (l0 : List Int) : Option (List ByteArray) := (diff_zzLines.f k (strOfNums l0)).bind fun t107 => (if 0 ≤ (wrap64 ((t107.length : Int) - 1)) then (if (wrap64 ((t107.length : Int) - 1)) < (t107.length : Int) then (if (rdOf ByteArray.empty t107 (wrap64 ((t107.length : Int) - 1))).toList = ([] : List UInt8) then (if (wrap64 ((t107.length : Int) - 1)) ≤ (t107.length : Int) then (some (t107.take ((wrap64 ((t107.length : Int) - 1)) : Int).toNat)) else (none)) else (if (rdOf ByteArray.empty t107 (wrap64 ((t107.length : Int) - 1))).size + 29 ≤ 9223372036854775807 then (some (t107.set ((wrap64 ((t107.length : Int) - 1)) : Int).toNat ((rdOf ByteArray.empty t107 (wrap64 ((t107.length : Int) - 1))) ++ (⟨#[10, 92, 32, 78, 111, 32, 110, 101, 119, 108, 105, 110, 101, 32, 97, 116, 32, 101, 110, 100, 32, 111, 102, 32, 102, 105, 108, 101, 10]⟩ : ByteArray)))) else (none))) else (none)) else (none))
theorem diff_lines.mono : ∀ a0 k, LeO (diff_lines.f k a0) (diff_lines.f (k + 1) a0) := by
  intro a0 k
  unfold diff_lines.f
  repeat' first
      | (with_reducible exact diff_zzLines.mono _ _)
      | (with_reducible exact LeO.refl _)
      | (with_reducible exact LeO.none _)
      | (with_reducible refine LeO.ite ?_ ?_)
      | (with_reducible refine LeO.bind ?_ (fun _ => ?_))
      | exact diff_zzLines.mono _ _
      | exact LeO.none _
      | refine LeO.ite ?_ ?_
      | refine LeO.bind ?_ (fun _ => ?_)
set_option maxHeartbeats 8000000 in
set_option maxRecDepth 100000 in
theorem diff_lines.calls (k : Nat) (A0 : Option Addr) (c0 : Nat) (l0 : List Int) (r : List ByteArray) (w : World) (hr0 : Kd.C (Kd.int .u8) w A0 l0.length l0) (hc0 : l0.length ≤ c0) (h : diff_lines.f k l0 = some r) :
    Calls Tryd.prog 18 #[.slice A0 l0.length c0] w fun e w' => ∃ v0_ : Value, e = .returned (v0_) ∧ Kd.R Kd.string 9 w' w.heap.size (fun _ => True) v0_ r ∧ Below w.heap.size w w' := by
  have HR0 := Aside0.mk hr0
  have HC0 := Aside0.mk hc0
  clear hr0 hc0
  have HB := Aside0.mk (Below.refl w.heap.size w)
  have H : ((diff_zzLines.f k (strOfNums l0)).bind fun t107 => (if 0 ≤ (wrap64 ((t107.length : Int) - 1)) then (if (wrap64 ((t107.length : Int) - 1)) < (t107.length : Int) then (if (rdOf ByteArray.empty t107 (wrap64 ((t107.length : Int) - 1))).toList = ([] : List UInt8) then (if (wrap64 ((t107.length : Int) - 1)) ≤ (t107.length : Int) then (some (t107.take ((wrap64 ((t107.length : Int) - 1)) : Int).toNat)) else (none)) else (if (rdOf ByteArray.empty t107 (wrap64 ((t107.length : Int) - 1))).size + 29 ≤ 9223372036854775807 then (some (t107.set ((wrap64 ((t107.length : Int) - 1)) : Int).toNat ((rdOf ByteArray.empty t107 (wrap64 ((t107.length : Int) - 1))) ++ (⟨#[10, 92, 32, 78, 111, 32, 110, 101, 119, 108, 105, 110, 101, 32, 97, 116, 32, 101, 110, 100, 32, 111, 102, 32, 102, 105, 108, 101, 10]⟩ : ByteArray)))) else (none))) else (none)) else (none))) = some r := h
  clear h
  replace H := Option.bind_eq_some_iff.mp H
  obtain ⟨t107, A20, H⟩ := H
  replace H : (if 0 ≤ (wrap64 ((t107.length : Int) - 1)) then (if (wrap64 ((t107.length : Int) - 1)) < (t107.length : Int) then (if (rdOf ByteArray.empty t107 (wrap64 ((t107.length : Int) - 1))).toList = ([] : List UInt8) then (if (wrap64 ((t107.length : Int) - 1)) ≤ (t107.length : Int) then (some (t107.take ((wrap64 ((t107.length : Int) - 1)) : Int).toNat)) else (none)) else (if (rdOf ByteArray.empty t107 (wrap64 ((t107.length : Int) - 1))).size + 29 ≤ 9223372036854775807 then (some (t107.set ((wrap64 ((t107.length : Int) - 1)) : Int).toNat ((rdOf ByteArray.empty t107 (wrap64 ((t107.length : Int) - 1))) ++ (⟨#[10, 92, 32, 78, 111, 32, 110, 101, 119, 108, 105, 110, 101, 32, 97, 116, 32, 101, 110, 100, 32, 111, 102, 32, 102, 105, 108, 101, 10]⟩ : ByteArray)))) else (none))) else (none)) else (none)) = some r := H
  have A2 := Aside0.mk A20
  clear A20
  obtain ⟨ji3, hji3⟩ : ∃ j_ : Int, (wrap64 ((t107.length : Int) - 1)) = j_ := ⟨_, rfl⟩
  replace H : (if 0 ≤ (ji3) then (if (ji3) < (t107.length : Int) then (if (rdOf ByteArray.empty t107 (ji3)).toList = ([] : List UInt8) then (if (ji3) ≤ (t107.length : Int) then (some (t107.take ((ji3) : Int).toNat)) else (none)) else (if (rdOf ByteArray.empty t107 (ji3)).size + 29 ≤ 9223372036854775807 then (some (t107.set ((ji3) : Int).toNat ((rdOf ByteArray.empty t107 (ji3)) ++ (⟨#[10, 92, 32, 78, 111, 32, 110, 101, 119, 108, 105, 110, 101, 32, 97, 116, 32, 101, 110, 100, 32, 111, 102, 32, 102, 105, 108, 101, 10]⟩ : ByteArray)))) else (none))) else (none)) else (none)) = some r := by first | (rw [hji3] at H; exact H) | (simp only [hji3] at H ⊢; exact H)
  (try rw [hji3] at A2)
  have hji3w : (IntKind.i64.wrap ((t107.length : Int) - 1)) = ji3 := (i64_w _).trans hji3
  by_cases c4 : 0 ≤ (ji3)
  · rw [if_pos c4] at H
    have c4b0 : decide (0 ≤ (ji3)) = true := decide_eq_true c4
    clear c4
    by_cases c5 : (ji3) < (t107.length : Int)
    · rw [if_pos c5] at H
      have c5b0 : decide ((ji3) < (t107.length : Int)) = true := decide_eq_true c5
      clear c5
      by_cases c6 : (rdOf ByteArray.empty t107 (ji3)).toList = ([] : List UInt8)
      · rw [if_pos c6] at H
        have c6b0 : ((rdOf ByteArray.empty t107 (ji3)).toList == ([] : List UInt8)) = true := beq_iff_eq.mpr c6
        have c6b1 : ((rdOf ByteArray.empty t107 (ji3)).toList != ([] : List UInt8)) = false := bne_eq_false_iff_eq.mpr c6
        clear c6
        by_cases c7 : (ji3) ≤ (t107.length : Int)
        · rw [if_pos c7] at H
          have c7b0 := eq_true c7
          have c7b1 : decide ((ji3) ≤ (t107.length : Int)) = true := decide_eq_true c7
          clear c7
          obtain ⟨y111, hy111⟩ : ∃ y_ : List ByteArray, y_ = (t107.take ((ji3) : Int).toNat) := ⟨_, rfl⟩
          replace H : (some y111) = some r := by first | (rw [hy111]; with_reducible exact H) | (have H2_ := (Option.bind_some _ _).symm.trans H; rw [hy111]; with_reducible exact H2_) | (have H2_ := (Option.bind_some _ _).symm.trans H; with_reducible exact H2_) | with_reducible exact H | (rw [hy111]; exact H) | exact H
          have Ny111 := Aside0.mk hy111
          clear hy111
          obtain rfl := Option.some.inj H
          have hcv8 := Kd.C_string (P := Tryd.prog) (A := A0) (c := c0) Tryd.underlying41 Tryd.underlying5 Tryd.underlying9 HR0.out
          go_enter Tryd.func18, Tryd.ntmps18
          go_wp2_with (first | ((with_reducible refine gate_callee (f := 26) rfl ?_); refine goesL_ (some 6) rfl rfl Tryd.func26 (by kernel_rfl) rfl #[.string (strOfNums l0)] rfl (by (try simp only [List.map_toArray, List.map_cons, List.map_nil]); first | done | rfl | (simp only [List.length_drop, List.length_take]; rfl)) ?_; (with_reducible refine (diff_zzLines.calls k (strOfNums l0) t107 _ A2.out).mono ?_); rintro e w9 ⟨v108, rfl, ho0, hb⟩; refine ⟨_, rfl, ?_⟩; have n0_ := Aside0.mk (Kd.R_lower ho0 (below_size (by repeat (first | (with_reducible first | exact HB.out | apply below_alloc | apply pw_below_drewN | apply below_drew1) | exact HB.out)))); have n1_ := Aside0.mk (below_step (by repeat (first | (with_reducible first | exact HB.out | apply below_alloc | apply pw_below_drewN | apply below_drew1) | exact HB.out)) hb); clear HB; have HO109 := n0_; have HB := n1_; clear n0_ n1_; (try clear hb); (try clear hb2); (try clear hk); (try clear hi); (try clear ho0); obtain ⟨Ao10, co10, eo10⟩ := Kd.R_slice HO109.out; subst eo10; have p110 : 0 ≤ ((ji3) : Int) := of_decide_eq_true (by first | (with_reducible assumption) | assumption); have q110 : (ji3) < (t107.length : Int) := of_decide_eq_true (by first | (with_reducible assumption) | assumption); obtain ⟨ad110, e110, hx110_0⟩ := Kd.at_string (Kd.R_reads' HO109.out).2.2 (ji3) p110 q110; cases e110; replace p110 := eq_true p110; replace q110 := eq_true q110; have q11 : ((ji3) : Int) ≤ ((t107.length : Int) : Int) := of_decide_eq_true (by first | (with_reducible assumption) | assumption); obtain ⟨i011, hi011, _, hsz11, _⟩ := info_parts info9; have hcut11 := cut_to (P := Tryd.prog) 22 9 .i64 Tryd.underlying22 hi011 (some ad110) t107.length co10 (ji3) (of_decide_eq_true (by first | (with_reducible assumption) | assumption)) q11 (Kd.R_reads' HO109.out).2.1; have hr11 := Kd.R_take (m := ((ji3) : Int).toNat) HO109.out (by omega); have hy11 : y111.length = ((ji3) : Int).toNat := (by rw [Ny111.out, List.length_take]; omega); rw [← Ny111.out] at hr11; rw [← hy11] at hr11 hcut11; clear hy11 hi011 hsz11 HO109; have HO113 := Aside0.mk hr11; clear hr11; replace q11 := eq_true q11))
          go_ret
          exact ⟨_, by first | rfl | (simp [errW_none, errW_some] <;> rfl) | (simp only [← hji3]; first | rfl | (simp [errW_none, errW_some] <;> rfl)) | (simp [*, errW_none, errW_some] <;> rfl), by (with_reducible repeat (first | apply Kd.R_alloc | apply Kd.R_drewN | apply Kd.R_drew)); exact HO113.out, by repeat (first | (with_reducible first | exact HB.out | apply below_alloc | apply pw_below_drewN | apply below_drew1) | exact HB.out)⟩
        · rw [if_neg c7] at H
          exact absurd H (by simp)
      · rw [if_neg c6] at H
        have c6b0 : ((rdOf ByteArray.empty t107 (ji3)).toList == ([] : List UInt8)) = false := beq_eq_false_iff_ne.mpr c6
        have c6b1 : ((rdOf ByteArray.empty t107 (ji3)).toList != ([] : List UInt8)) = true := bne_iff_ne.mpr c6
        by_cases c12 : (rdOf ByteArray.empty t107 (ji3)).size + 29 ≤ 9223372036854775807
        · rw [if_pos c12] at H
          have c12b0 := eq_true c12
          have c12b1 : decide ((rdOf ByteArray.empty t107 (ji3)).size + 29 ≤ 9223372036854775807) = true := decide_eq_true c12
          try have c12b2 : (9223372036854775807 < (rdOf ByteArray.empty t107 (ji3)).size + 29) = False := eq_false (Nat.not_lt.2 c12)
          obtain ⟨y115, hy115⟩ : ∃ y_ : List ByteArray, y_ = (t107.set ((ji3) : Int).toNat ((rdOf ByteArray.empty t107 (ji3)) ++ (⟨#[10, 92, 32, 78, 111, 32, 110, 101, 119, 108, 105, 110, 101, 32, 97, 116, 32, 101, 110, 100, 32, 111, 102, 32, 102, 105, 108, 101, 10]⟩ : ByteArray))) := ⟨_, rfl⟩
          replace H : (some y115) = some r := by first | (rw [hy115]; with_reducible exact H) | (have H2_ := (Option.bind_some _ _).symm.trans H; rw [hy115]; with_reducible exact H2_) | (have H2_ := (Option.bind_some _ _).symm.trans H; with_reducible exact H2_) | with_reducible exact H | (rw [hy115]; exact H) | exact H
          have Ny115 := Aside0.mk hy115
          clear hy115
          obtain rfl := Option.some.inj H
          have hcv14 := Kd.C_string (P := Tryd.prog) (A := A0) (c := c0) Tryd.underlying41 Tryd.underlying5 Tryd.underlying9 HR0.out
          go_enter Tryd.func18, Tryd.ntmps18
          go_wp2_with (first | ((with_reducible refine gate_callee (f := 26) rfl ?_); refine goesL_ (some 6) rfl rfl Tryd.func26 (by kernel_rfl) rfl #[.string (strOfNums l0)] rfl (by (try simp only [List.map_toArray, List.map_cons, List.map_nil]); first | done | rfl | (simp only [List.length_drop, List.length_take]; rfl)) ?_; (with_reducible refine (diff_zzLines.calls k (strOfNums l0) t107 _ A2.out).mono ?_); rintro e w15 ⟨v108, rfl, ho0, hb⟩; refine ⟨_, rfl, ?_⟩; have n0_ := Aside0.mk (Kd.R_lower ho0 (below_size (by repeat (first | (with_reducible first | exact HB.out | apply below_alloc | apply pw_below_drewN | apply below_drew1) | exact HB.out)))); have n1_ := Aside0.mk (below_step (by repeat (first | (with_reducible first | exact HB.out | apply below_alloc | apply pw_below_drewN | apply below_drew1) | exact HB.out)) hb); clear HB; have HO109 := n0_; have HB := n1_; clear n0_ n1_; (try clear hb); (try clear hb2); (try clear hk); (try clear hi); (try clear ho0); obtain ⟨Ao16, co16, eo16⟩ := Kd.R_slice HO109.out; subst eo16; have p110 : 0 ≤ ((ji3) : Int) := of_decide_eq_true (by first | (with_reducible assumption) | assumption); have q110 : (ji3) < (t107.length : Int) := of_decide_eq_true (by first | (with_reducible assumption) | assumption); obtain ⟨ad110, e110, hx110_0⟩ := Kd.at_string (Kd.R_reads' HO109.out).2.2 (ji3) p110 q110; cases e110; replace p110 := eq_true p110; replace q110 := eq_true q110; have p114 : 0 ≤ ((ji3) : Int) := of_decide_eq_true (by first | (with_reducible assumption) | assumption); have q114 : (ji3) < (t107.length : Int) := of_decide_eq_true (by first | (with_reducible assumption) | assumption); obtain ⟨ad114, e114, hx114_0⟩ := Kd.at_string (Kd.R_reads' HO109.out).2.2 (ji3) p114 q114; obtain rfl : ad110 = ad114 := (by injection e114); replace p114 := eq_true p114; replace q114 := eq_true q114; have p13 : 0 ≤ ((ji3) : Int) := of_decide_eq_true (by first | (with_reducible assumption) | assumption); have q13 : ((ji3) : Int) < ((t107.length : Int) : Int) := of_decide_eq_true (by first | (with_reducible assumption) | assumption); obtain ⟨go13, co13, eo13, gb13, gl13, cl13, HG13⟩ := Kd.R_form HO109.out (by omega); (first | cases eo13 | (injection eo13 with ea_ en_ ec_; (first | subst ea_ | (injection ea_ with ea_; subst ea_)); subst ec_; clear en_)); have GB13 := Aside0.mk gb13; have GG13 := Aside0.mk HG13; clear gb13 gl13 HG13; (first | simp only [add_plain] at hx110_0 | skip); (first | simp only [add_plain] at hx114_0 | skip); obtain ⟨hx13_0, hf13_0⟩ := Kd.R_celln (⟨#[]⟩ : ByteArray) HO109.out ((ji3) : Int) p13 q13; replace p13 := eq_true p13; replace q13 := eq_true q13; obtain ⟨hy17_, hz17_⟩ := Kd.R_celln (⟨#[]⟩ : ByteArray) HO109.out ((ji3) : Int) (of_decide_eq_true (by first | (with_reducible assumption) | assumption)) (of_decide_eq_true (by first | (with_reducible assumption) | assumption)); have HP17 := Kd.R_putg HO109.out ((ji3) : Int) ((rdOf ByteArray.empty t107 (ji3)) ++ (⟨#[10, 92, 32, 78, 111, 32, 110, 101, 119, 108, 105, 110, 101, 32, 97, 116, 32, 101, 110, 100, 32, 111, 102, 32, 102, 105, 108, 101, 10]⟩ : ByteArray))) | ((with_reducible refine gate_store (t := 9) (p := 26) rfl ?_); refine store_event (t := 9) (p := 26) (v := ?vo_w18) (w1 := (w15.setCell ⟨go13, ((ji3) : Int).toNat, none⟩ (.string ((rdOf ByteArray.empty t107 (ji3)) ++ (⟨#[10, 92, 32, 78, 111, 32, 110, 101, 119, 108, 105, 110, 101, 32, 97, 116, 32, 101, 110, 100, 32, 111, 102, 32, 102, 105, 108, 101, 10]⟩ : ByteArray))))) ?hg ?ho ?hn ?hr ?_; (case ho => rfl); (case hg => rfl); (case hn => rfl); (case hr => first | (go_simp; done) | (go_simp; rfl)); intro w18 hw; have hg : w15.grownBy w18 (some go13) := (by rw [hw]; exact HP17.2); have hp_ : Kd.R Kd.string 9 w18 w.heap.size (fun _ => True) (.slice (some ⟨go13, 0, none⟩) t107.length co16) y115 := (by rw [hw, Ny115.out]; exact HP17.1); clear HP17; have n0_ := Aside0.mk (hp_); have n1_ := Aside0.mk ((by rw [hw]; exact below_set (HB.out) GB13.out : Below w.heap.size w w18)); clear HO109; clear HB; have HO109 := n0_; have HB := n1_; clear n0_ n1_; clear hg hw hp_))
          go_ret
          exact ⟨_, by first | rfl | (simp [errW_none, errW_some] <;> rfl) | (simp only [← hji3]; first | rfl | (simp [errW_none, errW_some] <;> rfl)) | (simp [*, errW_none, errW_some] <;> rfl), by (with_reducible repeat (first | apply Kd.R_alloc | apply Kd.R_drewN | apply Kd.R_drew)); exact HO109.out, by repeat (first | (with_reducible first | exact HB.out | apply below_alloc | apply pw_below_drewN | apply below_drew1) | exact HB.out)⟩
        · rw [if_neg c12] at H
          exact absurd H (by simp)
    · rw [if_neg c5] at H
      exact absurd H (by simp)
  · rw [if_neg c4] at H
    exact absurd H (by simp)

end Go.Proofs.YtplbifmjnanceaaDoor.Plines
