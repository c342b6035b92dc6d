-- PRINTED BY print.sh 35421559b90ae4d0a3588c463048766b98c2df88dd9212a6774a882060cdf62d: not written by this session
import Derived.Test.YtplbifmjnanceaaDoorPnumberx0
namespace Go.Proofs.YtplbifmjnanceaaDoor.Pnumber
open Go.RowKit Go.Proofs.YtplbifmjnanceaaDoorW.PrintWords Go.Proofs.YtplbifmjnanceaaDoorW.PrintLast Go.Proofs.YtplbifmjnanceaaDoorW.PrintMore
attribute [local go_sem] max2_int min2_int max_two min_two max_three min_three max_four min_four   -- for this text's walks alone
set_option linter.unusedVariables false
set_option linter.unusedSimpArgs false

/-! ### spec_number: function 23 -/
def spec_number.l0 : Nat → ByteArray → Int → Int → Option (Int × ByteArray)
  | 0, _, _, _ => none
  | k + 1, x0, x4, x5 => if x5 < (x0.size : Int) then (if x5 < 9 then (if 0 ≤ x5 then (if (bt x0 x5) ≥ 48 then (if (bt x0 x5) ≤ 57 then (spec_number.l0 k x0 (wrap64 ((wrap64 (10 * x4)) + (((bt x0 x5) - 48) % 256))) (wrap64 (x5 + 1))) else (if x5 = 0 then (some ((-1), x0)) else (if x5 > 1 then (if 0 < (x0.size : Int) then (if (bt x0 0) = 48 then (some ((-1), x0)) else (if x5 ≤ (x0.size : Int) then (some (x4, x0.extract (x5 : Int).toNat x0.size)) else (none))) else (none)) else (if x5 ≤ (x0.size : Int) then (some (x4, x0.extract (x5 : Int).toNat x0.size)) else (none))))) else (if x5 = 0 then (some ((-1), x0)) else (if x5 > 1 then (if 0 < (x0.size : Int) then (if (bt x0 0) = 48 then (some ((-1), x0)) else (if x5 ≤ (x0.size : Int) then (some (x4, x0.extract (x5 : Int).toNat x0.size)) else (none))) else (none)) else (if x5 ≤ (x0.size : Int) then (some (x4, x0.extract (x5 : Int).toNat x0.size)) else (none))))) else (none)) else (if x5 = 0 then (some ((-1), x0)) else (if x5 > 1 then (if 0 < (x0.size : Int) then (if (bt x0 0) = 48 then (some ((-1), x0)) else (if 0 ≤ x5 then (if x5 ≤ (x0.size : Int) then (some (x4, x0.extract (x5 : Int).toNat x0.size)) else (none)) else (none))) else (none)) else (if 0 ≤ x5 then (if x5 ≤ (x0.size : Int) then (some (x4, x0.extract (x5 : Int).toNat x0.size)) else (none)) else (none))))) else (if x5 = 0 then (some ((-1), x0)) else (if x5 > 1 then (if 0 < (x0.size : Int) then (if (bt x0 0) = 48 then (some ((-1), x0)) else (if 0 ≤ x5 then (if x5 ≤ (x0.size : Int) then (some (x4, x0.extract (x5 : Int).toNat x0.size)) else (none)) else (none))) else (none)) else (if 0 ≤ x5 then (if x5 ≤ (x0.size : Int) then (some (x4, x0.extract (x5 : Int).toNat x0.size)) else (none)) else (none))))
def spec_number.f (k : Nat) (a0 : ByteArray) : Option (Int × ByteArray) := spec_number.l0 k a0 0 0
theorem spec_number.mono_l : ∀ k, (∀ y0 y1 y2, LeO (spec_number.l0 k y0 y1 y2) (spec_number.l0 (k + 1) y0 y1 y2))
  | 0 => fun _ _ _ r h => by simp [spec_number.l0] at h
  | k + 1 => by
    have ih0 := spec_number.mono_l k
    · intro y0 y1 y2
      unfold spec_number.l0
      repeat' first
      | (with_reducible exact ih0 _ _ _)
      | (with_reducible exact LeO.refl _)
      | (with_reducible exact LeO.none _)
      | (with_reducible refine LeO.ite ?_ ?_)
      | (with_reducible refine LeO.bind ?_ (fun _ => ?_))
      | exact ih0 _ _ _
      | exact LeO.none _
      | refine LeO.ite ?_ ?_
      | refine LeO.bind ?_ (fun _ => ?_)
theorem spec_number.mono : ∀ a0 k, LeO (spec_number.f k a0) (spec_number.f (k + 1) a0) := by
  intro a0 k
  have ih0 := spec_number.mono_l k
  unfold spec_number.f
  repeat' first
      | (with_reducible exact ih0 _ _ _)
      | (with_reducible exact LeO.refl _)
      | (with_reducible exact LeO.none _)
      | (with_reducible refine LeO.ite ?_ ?_)
      | (with_reducible refine LeO.bind ?_ (fun _ => ?_))
      | exact ih0 _ _ _
      | exact LeO.none _
      | refine LeO.ite ?_ ?_
      | refine LeO.bind ?_ (fun _ => ?_)
set_option maxHeartbeats 8000000 in
set_option maxRecDepth 100000 in
theorem spec_number.calls (k : Nat) (a0 : ByteArray) (r1 : Int) (r2 : ByteArray) (w : World) (h : spec_number.f k a0 = some (r1, r2)) :
    Calls Tryd.prog 23 #[.string a0] w fun e w' => e = .returned (.tuple #[.int .i64 r1, .string r2]) ∧ Drawn0 w w' := by
  have H : (spec_number.l0 k a0 0 0) = some (r1, r2) := h
  clear h
  have H' := Aside0.mk H
  clear H
  go_enter Tryd.func23, Tryd.ntmps23
  go_wp2
  repeat (go_quiet (fail); try go_wp2)
  go_loopg [4, 5] k (fun kq v4 v5 w' => ∃ (x4_1 : Int) (x5_1 : Int), v4 = .int .i64 x4_1 ∧ v5 = .int .i64 x5_1 ∧ Aside0 (spec_number.l0 kq a0 x4_1 x5_1 = some (r1, r2)) ∧ Aside0 (kq ≤ k) ∧ Drawn0 w w')
  case atStart => exact ⟨(0), (0), (by first | rfl | (simp; done) | (simp [*]; done)), (by first | rfl | (simp; done) | (simp [*]; done)), H', ⟨Nat.le_refl _⟩, by repeat (first | exact Drawn0.refl _ | apply Drawn0.step)⟩
  case round =>
    clear H'
    obtain ⟨x4_1, x5_1, rfl, rfl, HA, HK1, ⟨m1, rfl⟩⟩ := hrel
    cases gk with
    | zero => exact absurd HA.out (by simp [spec_number.l0])
    | succ k1 =>
      have H := HA.out
      clear HA
      simp only [spec_number.l0] at H
      by_cases c2 : x5_1 < (a0.size : Int)
      · rw [if_pos c2] at H
        have c2b0 : decide (x5_1 < (a0.size : Int)) = true := decide_eq_true c2
        clear c2
        by_cases c3 : x5_1 < 9
        · rw [if_pos c3] at H
          have c3b0 : decide (x5_1 < 9) = true := decide_eq_true c3
          clear c3
          by_cases c4 : 0 ≤ x5_1
          · rw [if_pos c4] at H
            have c4b0 : decide (0 ≤ x5_1) = true := decide_eq_true c4
            clear c4
            by_cases c6 : (bt a0 x5_1) ≥ 48
            · rw [if_pos c6] at H
              have c6b0 : decide (48 ≤ (bt a0 x5_1)) = true := decide_eq_true c6
              clear c6
              by_cases c8 : (bt a0 x5_1) ≤ 57
              · rw [if_pos c8] at H
                have c8b0 : decide ((bt a0 x5_1) ≤ 57) = true := decide_eq_true c8
                clear c8
                have H' := Aside0.mk H
                clear H
                have p5 : 0 ≤ (x5_1 : Int) := of_decide_eq_true (by first | (with_reducible assumption) | assumption)
                have q5 : x5_1 < (a0.size : Int) := of_decide_eq_true (by first | (with_reducible assumption) | assumption)
                have hx5 := bt_at a0 x5_1
                replace p5 := eq_true p5
                replace q5 := eq_true q5
                have p7 : 0 ≤ (x5_1 : Int) := of_decide_eq_true (by first | (with_reducible assumption) | assumption)
                have q7 : x5_1 < (a0.size : Int) := of_decide_eq_true (by first | (with_reducible assumption) | assumption)
                have hx7 := bt_at a0 x5_1
                replace p7 := eq_true p7
                replace q7 := eq_true q7
                have p9 : 0 ≤ (x5_1 : Int) := of_decide_eq_true (by first | (with_reducible assumption) | assumption)
                have q9 : x5_1 < (a0.size : Int) := of_decide_eq_true (by first | (with_reducible assumption) | assumption)
                have hx9 := bt_at a0 x5_1
                replace p9 := eq_true p9
                replace q9 := eq_true q9
                go_wp2
                repeat (go_quiet (fail); try go_wp2)
                go_roundg k1
                case measure => have := HK1.out; omega
                case rel => exact ⟨(wrap64 ((wrap64 (10 * x4_1)) + (((bt a0 x5_1) - 48) % 256))), (wrap64 (x5_1 + 1)), (by first | rfl | (simp; done) | (simp [*]; done)), (by first | rfl | (simp; done) | (simp [*]; done)), H', ⟨by have := HK1.out; omega⟩, by repeat (first | exact Drawn0.refl _ | apply Drawn0.step)⟩
              · rw [if_neg c8] at H
                have c8b0 : decide ((bt a0 x5_1) ≤ 57) = false := decide_eq_false c8
                clear c8
                by_cases c10 : x5_1 = 0
                · rw [if_pos c10] at H
                  have c10b0 : (x5_1 == 0) = true := beq_iff_eq.mpr c10
                  have c10b1 : (x5_1 != 0) = false := bne_eq_false_iff_eq.mpr c10
                  clear c10
                  simp only [Option.some.injEq, Prod.mk.injEq] at H
                  obtain ⟨rfl, rfl⟩ := H
                  have p5 : 0 ≤ (x5_1 : Int) := of_decide_eq_true (by first | (with_reducible assumption) | assumption)
                  have q5 : x5_1 < (a0.size : Int) := of_decide_eq_true (by first | (with_reducible assumption) | assumption)
                  have hx5 := bt_at a0 x5_1
                  replace p5 := eq_true p5
                  replace q5 := eq_true q5
                  have p7 : 0 ≤ (x5_1 : Int) := of_decide_eq_true (by first | (with_reducible assumption) | assumption)
                  have q7 : x5_1 < (a0.size : Int) := of_decide_eq_true (by first | (with_reducible assumption) | assumption)
                  have hx7 := bt_at a0 x5_1
                  replace p7 := eq_true p7
                  replace q7 := eq_true q7
                  go_wp2
                  repeat (go_quiet (fail); try go_wp2)
                  go_ret2
                  exact ⟨by first | rfl | (simp; done) | (simp [*]; done), by repeat (first | exact Drawn0.refl _ | apply Drawn0.step)⟩
                · rw [if_neg c10] at H
                  have c10b0 : (x5_1 == 0) = false := beq_eq_false_iff_ne.mpr c10
                  have c10b1 : (x5_1 != 0) = true := bne_iff_ne.mpr c10
                  by_cases c11 : x5_1 > 1
                  · rw [if_pos c11] at H
                    have c11b0 : decide (1 < x5_1) = true := decide_eq_true c11
                    clear c11
                    by_cases c12 : 0 < (a0.size : Int)
                    · rw [if_pos c12] at H
                      have c12b0 : decide (0 < (a0.size : Int)) = true := decide_eq_true c12
                      have c12b1 : decide (0 < a0.size) = true := decide_eq_true (by omega)
                      clear c12
                      by_cases c14 : (bt a0 0) = 48
                      · rw [if_pos c14] at H
                        have c14b0 : ((bt a0 0) == 48) = true := beq_iff_eq.mpr c14
                        have c14b1 : ((bt a0 0) != 48) = false := bne_eq_false_iff_eq.mpr c14
                        clear c14
                        simp only [Option.some.injEq, Prod.mk.injEq] at H
                        obtain ⟨rfl, rfl⟩ := H
                        have p5 : 0 ≤ (x5_1 : Int) := of_decide_eq_true (by first | (with_reducible assumption) | assumption)
                        have q5 : x5_1 < (a0.size : Int) := of_decide_eq_true (by first | (with_reducible assumption) | assumption)
                        have hx5 := bt_at a0 x5_1
                        replace p5 := eq_true p5
                        replace q5 := eq_true q5
                        have p7 : 0 ≤ (x5_1 : Int) := of_decide_eq_true (by first | (with_reducible assumption) | assumption)
                        have q7 : x5_1 < (a0.size : Int) := of_decide_eq_true (by first | (with_reducible assumption) | assumption)
                        have hx7 := bt_at a0 x5_1
                        replace p7 := eq_true p7
                        replace q7 := eq_true q7
                        have p13 : 0 ≤ (0 : Int) := (by omega)
                        have q13 : 0 < a0.size := (by have : (0 : Int) < (a0.size : Int) := of_decide_eq_true (by first | (with_reducible assumption) | assumption); omega)
                        have hx13 : ∀ h : 0 < a0.size, ((a0[0]'h).toNat : Int) = bt a0 0 := bt_at a0 0
                        clear p13
                        have qi13 : (0 < (a0.size : Int)) = True := eq_true (of_decide_eq_true (by first | (with_reducible assumption) | assumption))
                        replace q13 := eq_true q13
                        go_wp2
                        repeat (go_quiet (fail); try go_wp2)
                        go_ret2
                        exact ⟨by first | rfl | (simp; done) | (simp [*]; done), by repeat (first | exact Drawn0.refl _ | apply Drawn0.step)⟩
                      · rw [if_neg c14] at H
                        have c14b0 : ((bt a0 0) == 48) = false := beq_eq_false_iff_ne.mpr c14
                        have c14b1 : ((bt a0 0) != 48) = true := bne_iff_ne.mpr c14
                        have c15b0 := eq_true (of_decide_eq_true (by first | (with_reducible assumption) | assumption) : 0 ≤ x5_1)
                        by_cases c16 : x5_1 ≤ (a0.size : Int)
                        · rw [if_pos c16] at H
                          have c16b0 := eq_true c16
                          have c16b1 : decide (x5_1 ≤ (a0.size : Int)) = true := decide_eq_true c16
                          clear c16
                          simp only [Option.some.injEq, Prod.mk.injEq] at H
                          obtain ⟨rfl, rfl⟩ := H
                          have p5 : 0 ≤ (x5_1 : Int) := of_decide_eq_true (by first | (with_reducible assumption) | assumption)
                          have q5 : x5_1 < (a0.size : Int) := of_decide_eq_true (by first | (with_reducible assumption) | assumption)
                          have hx5 := bt_at a0 x5_1
                          replace p5 := eq_true p5
                          replace q5 := eq_true q5
                          have p7 : 0 ≤ (x5_1 : Int) := of_decide_eq_true (by first | (with_reducible assumption) | assumption)
                          have q7 : x5_1 < (a0.size : Int) := of_decide_eq_true (by first | (with_reducible assumption) | assumption)
                          have hx7 := bt_at a0 x5_1
                          replace p7 := eq_true p7
                          replace q7 := eq_true q7
                          have p13 : 0 ≤ (0 : Int) := (by omega)
                          have q13 : 0 < a0.size := (by have : (0 : Int) < (a0.size : Int) := of_decide_eq_true (by first | (with_reducible assumption) | assumption); omega)
                          have hx13 : ∀ h : 0 < a0.size, ((a0[0]'h).toNat : Int) = bt a0 0 := bt_at a0 0
                          clear p13
                          have qi13 : (0 < (a0.size : Int)) = True := eq_true (of_decide_eq_true (by first | (with_reducible assumption) | assumption))
                          replace q13 := eq_true q13
                          go_wp2
                          repeat (go_quiet (fail); try go_wp2)
                          go_ret2
                          exact ⟨by first | rfl | (simp; done) | (simp [*]; done), by repeat (first | exact Drawn0.refl _ | apply Drawn0.step)⟩
                        · rw [if_neg c16] at H
                          exact absurd H (by simp)
                    · rw [if_neg c12] at H
                      exact absurd H (by simp)
                  · rw [if_neg c11] at H
                    have c11b0 : decide (1 < x5_1) = false := decide_eq_false c11
                    clear c11
                    have c17b0 := eq_true (of_decide_eq_true (by first | (with_reducible assumption) | assumption) : 0 ≤ x5_1)
                    by_cases c18 : x5_1 ≤ (a0.size : Int)
                    · rw [if_pos c18] at H
                      have c18b0 := eq_true c18
                      have c18b1 : decide (x5_1 ≤ (a0.size : Int)) = true := decide_eq_true c18
                      clear c18
                      simp only [Option.some.injEq, Prod.mk.injEq] at H
                      obtain ⟨rfl, rfl⟩ := H
                      have p5 : 0 ≤ (x5_1 : Int) := of_decide_eq_true (by first | (with_reducible assumption) | assumption)
                      have q5 : x5_1 < (a0.size : Int) := of_decide_eq_true (by first | (with_reducible assumption) | assumption)
                      have hx5 := bt_at a0 x5_1
                      replace p5 := eq_true p5
                      replace q5 := eq_true q5
                      have p7 : 0 ≤ (x5_1 : Int) := of_decide_eq_true (by first | (with_reducible assumption) | assumption)
                      have q7 : x5_1 < (a0.size : Int) := of_decide_eq_true (by first | (with_reducible assumption) | assumption)
                      have hx7 := bt_at a0 x5_1
                      replace p7 := eq_true p7
                      replace q7 := eq_true q7
                      go_wp2
                      repeat (go_quiet (fail); try go_wp2)
                      go_ret2
                      exact ⟨by first | rfl | (simp; done) | (simp [*]; done), by repeat (first | exact Drawn0.refl _ | apply Drawn0.step)⟩
                    · rw [if_neg c18] at H
                      exact absurd H (by simp)
            · rw [if_neg c6] at H
              have c6b0 : decide (48 ≤ (bt a0 x5_1)) = false := decide_eq_false c6
              clear c6
              by_cases c19 : x5_1 = 0
              · rw [if_pos c19] at H
                have c19b0 : (x5_1 == 0) = true := beq_iff_eq.mpr c19
                have c19b1 : (x5_1 != 0) = false := bne_eq_false_iff_eq.mpr c19
                clear c19
                simp only [Option.some.injEq, Prod.mk.injEq] at H
                obtain ⟨rfl, rfl⟩ := H
                have p5 : 0 ≤ (x5_1 : Int) := of_decide_eq_true (by first | (with_reducible assumption) | assumption)
                have q5 : x5_1 < (a0.size : Int) := of_decide_eq_true (by first | (with_reducible assumption) | assumption)
                have hx5 := bt_at a0 x5_1
                replace p5 := eq_true p5
                replace q5 := eq_true q5
                go_wp2
                repeat (go_quiet (fail); try go_wp2)
                go_ret2
                exact ⟨by first | rfl | (simp; done) | (simp [*]; done), by repeat (first | exact Drawn0.refl _ | apply Drawn0.step)⟩
              · rw [if_neg c19] at H
                have c19b0 : (x5_1 == 0) = false := beq_eq_false_iff_ne.mpr c19
                have c19b1 : (x5_1 != 0) = true := bne_iff_ne.mpr c19
                by_cases c20 : x5_1 > 1
                · rw [if_pos c20] at H
                  have c20b0 : decide (1 < x5_1) = true := decide_eq_true c20
                  clear c20
                  by_cases c21 : 0 < (a0.size : Int)
                  · rw [if_pos c21] at H
                    have c21b0 : decide (0 < (a0.size : Int)) = true := decide_eq_true c21
                    have c21b1 : decide (0 < a0.size) = true := decide_eq_true (by omega)
                    clear c21
                    by_cases c23 : (bt a0 0) = 48
                    · rw [if_pos c23] at H
                      have c23b0 : ((bt a0 0) == 48) = true := beq_iff_eq.mpr c23
                      have c23b1 : ((bt a0 0) != 48) = false := bne_eq_false_iff_eq.mpr c23
                      clear c23
                      simp only [Option.some.injEq, Prod.mk.injEq] at H
                      obtain ⟨rfl, rfl⟩ := H
                      have p5 : 0 ≤ (x5_1 : Int) := of_decide_eq_true (by first | (with_reducible assumption) | assumption)
                      have q5 : x5_1 < (a0.size : Int) := of_decide_eq_true (by first | (with_reducible assumption) | assumption)
                      have hx5 := bt_at a0 x5_1
                      replace p5 := eq_true p5
                      replace q5 := eq_true q5
                      have p22 : 0 ≤ (0 : Int) := (by omega)
                      have q22 : 0 < a0.size := (by have : (0 : Int) < (a0.size : Int) := of_decide_eq_true (by first | (with_reducible assumption) | assumption); omega)
                      have hx22 : ∀ h : 0 < a0.size, ((a0[0]'h).toNat : Int) = bt a0 0 := bt_at a0 0
                      clear p22
                      have qi22 : (0 < (a0.size : Int)) = True := eq_true (of_decide_eq_true (by first | (with_reducible assumption) | assumption))
                      replace q22 := eq_true q22
                      go_wp2
                      repeat (go_quiet (fail); try go_wp2)
                      go_ret2
                      exact ⟨by first | rfl | (simp; done) | (simp [*]; done), by repeat (first | exact Drawn0.refl _ | apply Drawn0.step)⟩
                    · rw [if_neg c23] at H
                      have c23b0 : ((bt a0 0) == 48) = false := beq_eq_false_iff_ne.mpr c23
                      have c23b1 : ((bt a0 0) != 48) = true := bne_iff_ne.mpr c23
                      have c24b0 := eq_true (of_decide_eq_true (by first | (with_reducible assumption) | assumption) : 0 ≤ x5_1)
                      by_cases c25 : x5_1 ≤ (a0.size : Int)
                      · rw [if_pos c25] at H
                        have c25b0 := eq_true c25
                        have c25b1 : decide (x5_1 ≤ (a0.size : Int)) = true := decide_eq_true c25
                        clear c25
                        simp only [Option.some.injEq, Prod.mk.injEq] at H
                        obtain ⟨rfl, rfl⟩ := H
                        have p5 : 0 ≤ (x5_1 : Int) := of_decide_eq_true (by first | (with_reducible assumption) | assumption)
                        have q5 : x5_1 < (a0.size : Int) := of_decide_eq_true (by first | (with_reducible assumption) | assumption)
                        have hx5 := bt_at a0 x5_1
                        replace p5 := eq_true p5
                        replace q5 := eq_true q5
                        have p22 : 0 ≤ (0 : Int) := (by omega)
                        have q22 : 0 < a0.size := (by have : (0 : Int) < (a0.size : Int) := of_decide_eq_true (by first | (with_reducible assumption) | assumption); omega)
                        have hx22 : ∀ h : 0 < a0.size, ((a0[0]'h).toNat : Int) = bt a0 0 := bt_at a0 0
                        clear p22
                        have qi22 : (0 < (a0.size : Int)) = True := eq_true (of_decide_eq_true (by first | (with_reducible assumption) | assumption))
                        replace q22 := eq_true q22
                        go_wp2
                        repeat (go_quiet (fail); try go_wp2)
                        go_ret2
                        exact ⟨by first | rfl | (simp; done) | (simp [*]; done), by repeat (first | exact Drawn0.refl _ | apply Drawn0.step)⟩
                      · rw [if_neg c25] at H
                        exact absurd H (by simp)
                  · rw [if_neg c21] at H
                    exact absurd H (by simp)
                · rw [if_neg c20] at H
                  have c20b0 : decide (1 < x5_1) = false := decide_eq_false c20
                  clear c20
                  have c26b0 := eq_true (of_decide_eq_true (by first | (with_reducible assumption) | assumption) : 0 ≤ x5_1)
                  by_cases c27 : x5_1 ≤ (a0.size : Int)
                  · rw [if_pos c27] at H
                    have c27b0 := eq_true c27
                    have c27b1 : decide (x5_1 ≤ (a0.size : Int)) = true := decide_eq_true c27
                    clear c27
                    simp only [Option.some.injEq, Prod.mk.injEq] at H
                    obtain ⟨rfl, rfl⟩ := H
                    have p5 : 0 ≤ (x5_1 : Int) := of_decide_eq_true (by first | (with_reducible assumption) | assumption)
                    have q5 : x5_1 < (a0.size : Int) := of_decide_eq_true (by first | (with_reducible assumption) | assumption)
                    have hx5 := bt_at a0 x5_1
                    replace p5 := eq_true p5
                    replace q5 := eq_true q5
                    go_wp2
                    repeat (go_quiet (fail); try go_wp2)
                    go_ret2
                    exact ⟨by first | rfl | (simp; done) | (simp [*]; done), by repeat (first | exact Drawn0.refl _ | apply Drawn0.step)⟩
                  · rw [if_neg c27] at H
                    exact absurd H (by simp)
          · rw [if_neg c4] at H
            exact absurd H (by simp)
        · rw [if_neg c3] at H
          have c3b0 : decide (x5_1 < 9) = false := decide_eq_false c3
          clear c3
          by_cases c28 : x5_1 = 0
          · rw [if_pos c28] at H
            have c28b0 : (x5_1 == 0) = true := beq_iff_eq.mpr c28
            have c28b1 : (x5_1 != 0) = false := bne_eq_false_iff_eq.mpr c28
            clear c28
            simp only [Option.some.injEq, Prod.mk.injEq] at H
            obtain ⟨rfl, rfl⟩ := H
            go_wp2
            repeat (go_quiet (fail); try go_wp2)
            go_ret2
            exact ⟨by first | rfl | (simp; done) | (simp [*]; done), by repeat (first | exact Drawn0.refl _ | apply Drawn0.step)⟩
          · rw [if_neg c28] at H
            have c28b0 : (x5_1 == 0) = false := beq_eq_false_iff_ne.mpr c28
            have c28b1 : (x5_1 != 0) = true := bne_iff_ne.mpr c28
            by_cases c29 : x5_1 > 1
            · rw [if_pos c29] at H
              have c29b0 : decide (1 < x5_1) = true := decide_eq_true c29
              clear c29
              by_cases c30 : 0 < (a0.size : Int)
              · rw [if_pos c30] at H
                have c30b0 : decide (0 < (a0.size : Int)) = true := decide_eq_true c30
                have c30b1 : decide (0 < a0.size) = true := decide_eq_true (by omega)
                clear c30
                by_cases c32 : (bt a0 0) = 48
                · rw [if_pos c32] at H
                  have c32b0 : ((bt a0 0) == 48) = true := beq_iff_eq.mpr c32
                  have c32b1 : ((bt a0 0) != 48) = false := bne_eq_false_iff_eq.mpr c32
                  clear c32
                  simp only [Option.some.injEq, Prod.mk.injEq] at H
                  obtain ⟨rfl, rfl⟩ := H
                  have p31 : 0 ≤ (0 : Int) := (by omega)
                  have q31 : 0 < a0.size := (by have : (0 : Int) < (a0.size : Int) := of_decide_eq_true (by first | (with_reducible assumption) | assumption); omega)
                  have hx31 : ∀ h : 0 < a0.size, ((a0[0]'h).toNat : Int) = bt a0 0 := bt_at a0 0
                  clear p31
                  have qi31 : (0 < (a0.size : Int)) = True := eq_true (of_decide_eq_true (by first | (with_reducible assumption) | assumption))
                  replace q31 := eq_true q31
                  go_wp2
                  repeat (go_quiet (fail); try go_wp2)
                  go_ret2
                  exact ⟨by first | rfl | (simp; done) | (simp [*]; done), by repeat (first | exact Drawn0.refl _ | apply Drawn0.step)⟩
                · rw [if_neg c32] at H
                  have c32b0 : ((bt a0 0) == 48) = false := beq_eq_false_iff_ne.mpr c32
                  have c32b1 : ((bt a0 0) != 48) = true := bne_iff_ne.mpr c32
                  by_cases c33 : 0 ≤ x5_1
                  · rw [if_pos c33] at H
                    have c33b0 := eq_true c33
                    have c33b1 : decide (0 ≤ x5_1) = true := decide_eq_true c33
                    clear c33
                    by_cases c34 : x5_1 ≤ (a0.size : Int)
                    · rw [if_pos c34] at H
                      have c34b0 := eq_true c34
                      have c34b1 : decide (x5_1 ≤ (a0.size : Int)) = true := decide_eq_true c34
                      clear c34
                      simp only [Option.some.injEq, Prod.mk.injEq] at H
                      obtain ⟨rfl, rfl⟩ := H
                      have p31 : 0 ≤ (0 : Int) := (by omega)
                      have q31 : 0 < a0.size := (by have : (0 : Int) < (a0.size : Int) := of_decide_eq_true (by first | (with_reducible assumption) | assumption); omega)
                      have hx31 : ∀ h : 0 < a0.size, ((a0[0]'h).toNat : Int) = bt a0 0 := bt_at a0 0
                      clear p31
                      have qi31 : (0 < (a0.size : Int)) = True := eq_true (of_decide_eq_true (by first | (with_reducible assumption) | assumption))
                      replace q31 := eq_true q31
                      go_wp2
                      repeat (go_quiet (fail); try go_wp2)
                      go_ret2
                      exact ⟨by first | rfl | (simp; done) | (simp [*]; done), by repeat (first | exact Drawn0.refl _ | apply Drawn0.step)⟩
                    · rw [if_neg c34] at H
                      exact absurd H (by simp)
                  · rw [if_neg c33] at H
                    exact absurd H (by simp)
              · rw [if_neg c30] at H
                exact absurd H (by simp)
            · rw [if_neg c29] at H
              have c29b0 : decide (1 < x5_1) = false := decide_eq_false c29
              clear c29
              by_cases c35 : 0 ≤ x5_1
              · rw [if_pos c35] at H
                have c35b0 := eq_true c35
                have c35b1 : decide (0 ≤ x5_1) = true := decide_eq_true c35
                clear c35
                by_cases c36 : x5_1 ≤ (a0.size : Int)
                · rw [if_pos c36] at H
                  have c36b0 := eq_true c36
                  have c36b1 : decide (x5_1 ≤ (a0.size : Int)) = true := decide_eq_true c36
                  clear c36
                  simp only [Option.some.injEq, Prod.mk.injEq] at H
                  obtain ⟨rfl, rfl⟩ := H
                  go_wp2
                  repeat (go_quiet (fail); try go_wp2)
                  go_ret2
                  exact ⟨by first | rfl | (simp; done) | (simp [*]; done), by repeat (first | exact Drawn0.refl _ | apply Drawn0.step)⟩
                · rw [if_neg c36] at H
                  exact absurd H (by simp)
              · rw [if_neg c35] at H
                exact absurd H (by simp)
      · rw [if_neg c2] at H
        have c2b0 : decide (x5_1 < (a0.size : Int)) = false := decide_eq_false c2
        clear c2
        by_cases c37 : x5_1 = 0
        · rw [if_pos c37] at H
          have c37b0 : (x5_1 == 0) = true := beq_iff_eq.mpr c37
          have c37b1 : (x5_1 != 0) = false := bne_eq_false_iff_eq.mpr c37
          clear c37
          simp only [Option.some.injEq, Prod.mk.injEq] at H
          obtain ⟨rfl, rfl⟩ := H
          go_wp2
          repeat (go_quiet (fail); try go_wp2)
          go_ret2
          exact ⟨by first | rfl | (simp; done) | (simp [*]; done), by repeat (first | exact Drawn0.refl _ | apply Drawn0.step)⟩
        · rw [if_neg c37] at H
          have c37b0 : (x5_1 == 0) = false := beq_eq_false_iff_ne.mpr c37
          have c37b1 : (x5_1 != 0) = true := bne_iff_ne.mpr c37
          by_cases c38 : x5_1 > 1
          · rw [if_pos c38] at H
            have c38b0 : decide (1 < x5_1) = true := decide_eq_true c38
            clear c38
            by_cases c39 : 0 < (a0.size : Int)
            · rw [if_pos c39] at H
              have c39b0 : decide (0 < (a0.size : Int)) = true := decide_eq_true c39
              have c39b1 : decide (0 < a0.size) = true := decide_eq_true (by omega)
              clear c39
              by_cases c41 : (bt a0 0) = 48
              · rw [if_pos c41] at H
                have c41b0 : ((bt a0 0) == 48) = true := beq_iff_eq.mpr c41
                have c41b1 : ((bt a0 0) != 48) = false := bne_eq_false_iff_eq.mpr c41
                clear c41
                simp only [Option.some.injEq, Prod.mk.injEq] at H
                obtain ⟨rfl, rfl⟩ := H
                have p40 : 0 ≤ (0 : Int) := (by omega)
                have q40 : 0 < a0.size := (by have : (0 : Int) < (a0.size : Int) := of_decide_eq_true (by first | (with_reducible assumption) | assumption); omega)
                have hx40 : ∀ h : 0 < a0.size, ((a0[0]'h).toNat : Int) = bt a0 0 := bt_at a0 0
                clear p40
                have qi40 : (0 < (a0.size : Int)) = True := eq_true (of_decide_eq_true (by first | (with_reducible assumption) | assumption))
                replace q40 := eq_true q40
                go_wp2
                repeat (go_quiet (fail); try go_wp2)
                go_ret2
                exact ⟨by first | rfl | (simp; done) | (simp [*]; done), by repeat (first | exact Drawn0.refl _ | apply Drawn0.step)⟩
              · rw [if_neg c41] at H
                have c41b0 : ((bt a0 0) == 48) = false := beq_eq_false_iff_ne.mpr c41
                have c41b1 : ((bt a0 0) != 48) = true := bne_iff_ne.mpr c41
                by_cases c42 : 0 ≤ x5_1
                · rw [if_pos c42] at H
                  have c42b0 := eq_true c42
                  have c42b1 : decide (0 ≤ x5_1) = true := decide_eq_true c42
                  clear c42
                  by_cases c43 : x5_1 ≤ (a0.size : Int)
                  · rw [if_pos c43] at H
                    have c43b0 := eq_true c43
                    have c43b1 : decide (x5_1 ≤ (a0.size : Int)) = true := decide_eq_true c43
                    clear c43
                    simp only [Option.some.injEq, Prod.mk.injEq] at H
                    obtain ⟨rfl, rfl⟩ := H
                    have p40 : 0 ≤ (0 : Int) := (by omega)
                    have q40 : 0 < a0.size := (by have : (0 : Int) < (a0.size : Int) := of_decide_eq_true (by first | (with_reducible assumption) | assumption); omega)
                    have hx40 : ∀ h : 0 < a0.size, ((a0[0]'h).toNat : Int) = bt a0 0 := bt_at a0 0
                    clear p40
                    have qi40 : (0 < (a0.size : Int)) = True := eq_true (of_decide_eq_true (by first | (with_reducible assumption) | assumption))
                    replace q40 := eq_true q40
                    go_wp2
                    repeat (go_quiet (fail); try go_wp2)
                    go_ret2
                    exact ⟨by first | rfl | (simp; done) | (simp [*]; done), by repeat (first | exact Drawn0.refl _ | apply Drawn0.step)⟩
                  · rw [if_neg c43] at H
                    exact absurd H (by simp)
                · rw [if_neg c42] at H
                  exact absurd H (by simp)
            · rw [if_neg c39] at H
              exact absurd H (by simp)
          · rw [if_neg c38] at H
            have c38b0 : decide (1 < x5_1) = false := decide_eq_false c38
            clear c38
            by_cases c44 : 0 ≤ x5_1
            · rw [if_pos c44] at H
              have c44b0 := eq_true c44
              have c44b1 : decide (0 ≤ x5_1) = true := decide_eq_true c44
              clear c44
              by_cases c45 : x5_1 ≤ (a0.size : Int)
              · rw [if_pos c45] at H
                have c45b0 := eq_true c45
                have c45b1 : decide (x5_1 ≤ (a0.size : Int)) = true := decide_eq_true c45
                clear c45
                simp only [Option.some.injEq, Prod.mk.injEq] at H
                obtain ⟨rfl, rfl⟩ := H
                go_wp2
                repeat (go_quiet (fail); try go_wp2)
                go_ret2
                exact ⟨by first | rfl | (simp; done) | (simp [*]; done), by repeat (first | exact Drawn0.refl _ | apply Drawn0.step)⟩
              · rw [if_neg c45] at H
                exact absurd H (by simp)
            · rw [if_neg c44] at H
              exact absurd H (by simp)

end Go.Proofs.YtplbifmjnanceaaDoor.Pnumber
