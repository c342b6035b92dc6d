/- diff.tgs; plain hunks; the memory of diff.Diff. -/
import Derived.Test.YtplbifmjnanceaaDoorQa
import Derived.Test.YtplbifmjnanceaaDoorShelf
import Derived.RegionTactic
import Derived.BigRegion
import Derived.StillTailTactics
import Derived.Lib.BufferOld
import Derived.Deep.Cut
import Derived.Deep.LoopGhost
import Derived.Test.YtplbifmjnanceaaDoorWMore
import Derived.Lib.AppendIntMem
namespace Go.Proofs.YtplbifmjnanceaaDoor
open Go.Shelf Go.Lib Go.Sort
open Go.RowKit Go.Proofs.YtplbifmjnanceaaDoorW.PrintWords Go.Proofs.YtplbifmjnanceaaDoorW.PrintLast Go.Proofs.YtplbifmjnanceaaDoorW.PrintMore
set_option linter.unusedVariables false
set_option linter.unusedSimpArgs false

set_option maxHeartbeats 1000000 in
set_option maxRecDepth 100000 in
theorem clos_calls (W : World) (gT gJ gI : Nat) (g cap n : Nat) (ad : Addr) (capJ : Nat) (k i : Nat) (hk : k < n) (hi : i < n) (a b : Int) (hc : n ≤ 9223372036854775807)
    (cT : W.cell? ⟨gT, 0, none⟩ = some (.slice (some ⟨g, 0, none⟩) n cap)) (cJ : W.cell? ⟨gJ, 0, none⟩ = some (.slice (some ad) n capJ)) (cI : W.cell? ⟨gI, 0, none⟩ = some (.int .i64 i))
    (ck : W.cell? ⟨g, k, none⟩ = some (.int .i64 a)) (ci : W.cell? (ad.add i) = some (.int .i64 b)) :
    Calls Tryd.prog 30 #[.int .i64 k, .pointer (some ⟨gT, 0, none⟩), .pointer (some ⟨gJ, 0, none⟩), .pointer (some ⟨gI, 0, none⟩)] W fun e w' => e = .returned (.bool (decide (b ≤ a))) ∧ ∃ q, w' = W.drewN q := by
  have p1 : (0 : Int) ≤ (k : Int) := by omega
  have p2 : (k : Int) < (n : Int) := by omega
  have p3 : (0 : Int) ≤ (i : Int) := by omega
  have p4 : (i : Int) < (n : Int) := by omega
  go_enter Tryd.func30, Tryd.ntmps30
  go_wp2
  go_quiet (fail)
  go_wp2
  go_ret
  exact ⟨rfl, _, rfl⟩


/-- a rising test is false below a place and true from it on -/
theorem countP_split (p : Nat → Bool) : ∀ n, (∀ a b, a ≤ b → b < n → p a = true → p b = true) → (List.range n).countP (fun i => !p i) ≤ n ∧ ∀ a, a < n → (p a = true ↔ (List.range n).countP (fun i => !p i) ≤ a)
  | 0, _ => ⟨by simp, fun a h => by omega⟩
  | n + 1, hm => by
    obtain ⟨h1, h2⟩ := countP_split p n (fun a b hab hb h => hm a b hab (by omega) h)
    rw [List.range_succ, List.countP_append, List.countP_singleton]
    cases e : p n with
    | true =>
      simp only [Bool.not_true, Bool.false_eq_true, if_false, Nat.add_zero]
      refine ⟨by omega, fun a ha => ?_⟩
      by_cases c : a = n
      · subst c; simp [e, h1]
      · exact h2 a (by omega)
    | false =>
      simp only [Bool.not_false, if_true]
      have hall : ∀ a, a < n → p a = false := by
        intro a ha
        cases q : p a with
        | false => rfl
        | true => exact absurd (hm a n (by omega) (by omega) q) (by simp [e])
      have hc : (List.range n).countP (fun i => !p i) = n := by
        rcases Nat.lt_or_ge ((List.range n).countP (fun i => !p i)) n with c | c
        · have := (h2 _ c).2 (Nat.le_refl _)
          rw [hall _ c] at this; cases this
        · omega
      rw [hc]
      refine ⟨Nat.le_refl _, fun a ha => ?_⟩
      by_cases c : a = n
      · subst c; simp [e]
      · simp [hall a (by omega)]; omega

theorem search_calls (W : World) (gT gJ gI : Nat) (g cap n : Nat) (ad : Addr) (capJ : Nat) (i b : Nat) (lT : List Nat) (hi : i < n) (hn : n ≤ 4294967296)
    (cT : W.cell? ⟨gT, 0, none⟩ = some (.slice (some ⟨g, 0, none⟩) n cap)) (cJ : W.cell? ⟨gJ, 0, none⟩ = some (.slice (some ad) n capJ)) (cI : W.cell? ⟨gI, 0, none⟩ = some (.int .i64 i))
    (ck : ∀ k, k < n → W.cell? ⟨g, k, none⟩ = some (.int .i64 (lT.getD k 0 : Nat))) (ci : W.cell? (ad.add i) = some (.int .i64 b))
    (lt1 : gT < W.heap.size) (lt2 : gJ < W.heap.size) (lt3 : gI < W.heap.size) (lt4 : g < W.heap.size) (lt5 : (ad.add i).block < W.heap.size)
    (up : ∀ a b, a ≤ b → b < n → lT.getD a 0 ≤ lT.getD b 0) :
    Calls Tryd.prog 29 #[.int .i64 n, .func (.func 30) #[] #[.pointer (some ⟨gT, 0, none⟩), .pointer (some ⟨gJ, 0, none⟩), .pointer (some ⟨gI, 0, none⟩)]] W fun e w' => ∃ k : Nat, e = .returned (.int .i64 k) ∧ (k ≤ n ∧ (∀ a, a < k → a < n → lT.getD a 0 < b) ∧ ∀ a, k ≤ a → a < n → b ≤ lT.getD a 0) ∧ Below W.heap.size W w' := by
  have eg : ∀ args w, (callFunc 30 args).run Tryd.prog w = .ok (.enter 30 args) w := enters_of Tryd.func30 (by kernel_rfl) rfl
  have hS := Any.sort_Search Tryd.search 30 #[.pointer (some ⟨gT, 0, none⟩), .pointer (some ⟨gJ, 0, none⟩), .pointer (some ⟨gI, 0, none⟩)] n (fun k => decide ((b : Int) ≤ (lT.getD k 0 : Nat))) W eg (by omega)
    (fun m os k hk => (clos_calls _ gT gJ gI g cap n ad capJ k i hk hi (lT.getD k 0 : Nat) b (by omega) (cell_grown lt1 cT m os) (cell_grown lt2 cJ m os) (cell_grown lt3 cI m os) (cell_grown lt4 (ck k hk) m os) (cell_grown lt5 ci m os)).mono
      fun _ _ ⟨he, q, hq⟩ => ⟨he, q, #[], by rw [hq, grow_empty]⟩)
    (fun a c hab hb h => by have := up a c hab hb; simp only [decide_eq_true_eq] at h ⊢; omega)
  change Calls Tryd.prog 29 _ _ _ at hS
  obtain ⟨h1, h2⟩ := countP_split (fun k => decide ((b : Int) ≤ (lT.getD k 0 : Nat))) n (fun a c hab hb h => by have := up a c hab hb; simp only [decide_eq_true_eq] at h ⊢; omega)
  refine hS.mono fun e w' ⟨he, q, os, hw⟩ => ⟨_, he, ⟨h1, fun a ha han => ?_, fun a ha han => ?_⟩, by rw [hw]; exact below_grown_sl _ _ _ _ (Nat.le_refl _)⟩
  · have := (not_congr (h2 a han)).2 (by omega)
    simp only [decide_eq_true_eq] at this; omega
  · have := (h2 a han).2 ha
    simp only [decide_eq_true_eq] at this; omega

end Go.Proofs.YtplbifmjnanceaaDoor

namespace Go.Proofs.YtplbifmjnanceaaDoor
open Go.RowKit Go.Proofs.YtplbifmjnanceaaDoorW.PrintWords Go.Proofs.YtplbifmjnanceaaDoorW.PrintLast Go.Proofs.YtplbifmjnanceaaDoorW.PrintMore
set_option linter.unusedVariables false
set_option linter.unusedSimpArgs false

def strs (l : List ByteArray) : List (List UInt8) := l.map fun s => s.data.toList

theorem strs_getD (x : List ByteArray) (k : Nat) (h : k < x.length) : ∃ h2 : k < (strs x).length, (strs x)[k] = (x.getD k ByteArray.empty).data.toList := by
  refine ⟨by simpa [strs] using h, ?_⟩
  simp [strs, List.getD_eq_getElem?_getD, List.getElem?_eq_getElem h]
theorem strs_len (x : List ByteArray) : (strs x).length = x.length := by simp [strs]
theorem getD_mem (x : List ByteArray) (k : Nat) (h : k < x.length) : x.getD k ByteArray.empty ∈ x := by
  rw [List.getD_eq_getElem?_getD, List.getElem?_eq_getElem h]; exact List.getElem_mem h

/-- a text's cell -/
theorem str_cell {w : World} {A : Option Addr} {x : List ByteArray} (h : Kd.C Kd.string w A x.length x) (k : Nat) (hk : k < x.length) : ∃ ad, A = some ad ∧ w.cell? (ad.add k) = some (.string (x.getD k ByteArray.empty)) := by
  obtain ⟨ad, e, hc⟩ := Kd.at_string h (k : Int) (by omega) (by omega)
  exact ⟨ad, e, by simpa [rdOf] using hc⟩

theorem F1_put (x : List ByteArray) (k : Nat) (h : k < x.length) (s : List UInt8) (hc : -2 < Tg.F1 (strs x) k (x.getD k ByteArray.empty).data.toList) :
    Tg.F1 (strs x) (k + 1) s = if (x.getD k ByteArray.empty).data.toList = s then Tg.F1 (strs x) k (x.getD k ByteArray.empty).data.toList - 1 else Tg.F1 (strs x) k s := by
  obtain ⟨h2, e⟩ := strs_getD x k h
  rw [Tg.F1_step _ _ h2, e]
  by_cases e2 : (x.getD k ByteArray.empty).data.toList = s
  · subst e2; rw [if_pos ⟨rfl, hc⟩, if_pos rfl]
  · rw [if_neg (fun q => e2 q.1), if_neg e2]
theorem F1_skip (x : List ByteArray) (k : Nat) (h : k < x.length) (s : List UInt8) (hc : ¬ -2 < Tg.F1 (strs x) k (x.getD k ByteArray.empty).data.toList) :
    Tg.F1 (strs x) (k + 1) s = Tg.F1 (strs x) k s := by
  obtain ⟨h2, e⟩ := strs_getD x k h
  rw [Tg.F1_step _ _ h2, e]
  by_cases e2 : (x.getD k ByteArray.empty).data.toList = s
  · subst e2; rw [if_neg (fun q => hc q.2)]
  · rw [if_neg (fun q => e2 q.1)]
theorem F1_bound (x : List (List UInt8)) (k : Nat) (s : List UInt8) : -10 ≤ Tg.F1 x k s ∧ Tg.F1 x k s ≤ 0 := ⟨Tg.cnt_ge _ _ _, Tg.cnt_nonpos _ _ _⟩

theorem F2_put (x y : List ByteArray) (k : Nat) (h : k < y.length) (s : List UInt8) (hc : -8 < Tg.F2 (strs x) (strs y) k (y.getD k ByteArray.empty).data.toList) :
    Tg.F2 (strs x) (strs y) (k + 1) s = if (y.getD k ByteArray.empty).data.toList = s then Tg.F2 (strs x) (strs y) k (y.getD k ByteArray.empty).data.toList - 4 else Tg.F2 (strs x) (strs y) k s := by
  obtain ⟨h2, e⟩ := strs_getD y k h
  rw [Tg.F2_step _ _ _ h2, e]
  by_cases e2 : (y.getD k ByteArray.empty).data.toList = s
  · subst e2; rw [if_pos ⟨rfl, hc⟩, if_pos rfl]
  · rw [if_neg (fun q => e2 q.1), if_neg e2]
theorem F2_skip (x y : List ByteArray) (k : Nat) (h : k < y.length) (s : List UInt8) (hc : ¬ -8 < Tg.F2 (strs x) (strs y) k (y.getD k ByteArray.empty).data.toList) :
    Tg.F2 (strs x) (strs y) (k + 1) s = Tg.F2 (strs x) (strs y) k s := by
  obtain ⟨h2, e⟩ := strs_getD y k h
  rw [Tg.F2_step _ _ _ h2, e]
  by_cases e2 : (y.getD k ByteArray.empty).data.toList = s
  · subst e2; rw [if_neg (fun q => hc q.2)]
  · rw [if_neg (fun q => e2 q.1)]
theorem F2_bound (x y : List (List UInt8)) (k : Nat) (s : List UInt8) : -10 ≤ Tg.F2 x y k s ∧ Tg.F2 x y k s ≤ 0 := ⟨Tg.cnt_ge _ _ _, Tg.cnt_nonpos _ _ _⟩
theorem F12' (x y : List ByteArray) (s : List UInt8) : Tg.F2 (strs x) (strs y) 0 s = Tg.F1 (strs x) x.length s := by
  rw [← strs_len x]; exact (Tg.F12 _ _ _).symm
theorem F2_in (x y : List (List UInt8)) (k : Nat) (s : List UInt8) (h : s ∈ x) : Tg.F2 x y k s ≠ 0 := by
  have := Tg.cnt_neg x (y.take k) s h
  unfold Tg.F2; omega
theorem F2_last' (x y : List ByteArray) (s : List UInt8) : Tg.F2 (strs x) (strs y) y.length s = Tg.cnt (strs x) (strs y) s := by
  rw [← strs_len y]; exact Tg.F2_last _ _ _

set_option maxHeartbeats 1000000 in
set_option maxRecDepth 100000 in
theorem tgs_calls (w : World) (X Y : Option Addr) (cx cy : Nat) (x y : List ByteArray) (hx : Kd.C Kd.string w X x.length x) (hy : Kd.C Kd.string w Y y.length y) (hcx : x.length ≤ cx) (hcy : y.length ≤ cy)
    (lx : x.length ≤ 4294967296) (ly : y.length ≤ 4294967296) (sx : ∀ s ∈ x, s.size ≤ maxLen) (sy : ∀ s ∈ y, s.size ≤ maxLen) :
    Calls Tryd.prog 20 #[.slice X x.length cx, .slice Y y.length cy] w fun e w' => ∃ v : Value, e = .returned v ∧ ∃ seq, Tg.Good (strs x) (strs y) seq ∧ PairsAt w' w.heap.size v seq ∧ Below w.heap.size w w' := by
  have hmm := @run_makeMap Tryd.prog
  have HX := Aside0.mk hx
  have HY := Aside0.mk hy
  have SX := Aside0.mk sx
  have SY := Aside0.mk sy
  clear hx hy sx sy
  go_enter Tryd.func20, Tryd.ntmps20
  go_upto_block 0 with (fail)
  go_cut [] (fun wc => MapIs Tryd.prog wc w.heap.size x.length (Tg.F1 (strs x) x.length) (fun _ => False) ∧ Below w.heap.size w wc)
  case first =>
    go_wp2
    go_loopw [37] (fun i wr => ∃ k : Nat, k ≤ x.length ∧ i = .int .i64 k ∧ MapIs Tryd.prog wr w.heap.size k (Tg.F1 (strs x) k) (fun _ => False) ∧ Below w.heap.size w wr)
      (fun i _ => x.length - (intOf i).toNat)
    case atStart => exact ⟨0, Nat.zero_le _, rfl, (MapIs.made w).imp (Nat.le_refl _) (fun s => Tg.F1_zero _ s) (fun _ h => h.elim), (Below.refl _ _).alloc (Nat.le_refl _) _⟩
    case round =>
      obtain ⟨k, hk, rfl, hM, hB⟩ := hrel
      by_cases hlt : k < x.length
      · obtain ⟨ad, rfl, hcell⟩ := str_cell (Kd.C_below HX.out hB) k hlt
        have hs := SX.out _ (getD_mem x k hlt)
        obtain ⟨b1, b2⟩ := F1_bound (strs x) k (x.getD k ByteArray.empty).data.toList
        have FP := F1_put x k hlt
        have FS := F1_skip x k hlt
        generalize hse : x.getD k ByteArray.empty = s at *
        clear hse
        generalize hce : Tg.F1 (strs x) k s.data.toList = c at *
        have HM := Aside0.mk hM
        have HB := Aside0.mk hB
        have HS := Aside0.mk hs
        have HC := Aside0.mk hce
        have HFP := Aside0.mk FP
        have HFS := Aside0.mk FS
        clear hM hB hs hce FP FS
        by_cases hc : -2 < c
        · go_wp2_with (first | (at_lookup; refine wp_look rfl _ _ rfl w.heap.size k _ _ rfl HM.out s HS.out rfl ?_; rw [HC.out]) | (at_mapUpdate; refine wp_put rfl _ _ _ rfl w.heap.size k _ _ rfl HM.out (by unfold maxLen; omega) s HS.out rfl (c - 1) (WalkArith.wf_i64 (by omega)) rfl ?_; intro w1 hm1 hg1))
          go_roundw
          case rel => exact ⟨k + 1, by omega, by go_num, hm1.imp (Nat.le_refl _) (fun t => HFP.out t hc) (fun _ h => h.elim), HB.out.grown hg1 HB.out.size (fun j hj => by cases hj; exact Nat.le_refl _)⟩
          case measure => simp [intOf]; omega
        · go_wp2_with (first | (at_lookup; refine wp_look rfl _ _ rfl w.heap.size k _ _ rfl HM.out s HS.out rfl ?_; rw [HC.out]) )
          go_roundw
          case rel => exact ⟨k + 1, by omega, by go_num, HM.out.imp (Nat.le_succ _) (fun t => HFS.out t hc) (fun _ h => h.elim), HB.out⟩
          case measure => simp [intOf]; omega
      · have : k = x.length := by omega
        subst this
        go_wp2
        go_meet
        case rel => exact ⟨hM, hB⟩
  case rest =>
    clear hmm
    obtain ⟨hM0, hB0⟩ := hcut
    have HM0 := Aside0.mk hM0
    have HB0 := Aside0.mk hB0
    clear hM0 hB0
    go_upto_block 2 with (fail)
    go_cut [] (fun wc2 => MapIs Tryd.prog wc2 w.heap.size (x.length + y.length) (Tg.cnt (strs x) (strs y)) (fun s => s ∈ strs x) ∧ Below w.heap.size w wc2)
    case first =>
      go_wp2
      go_loopw [53] (fun i wr => ∃ k : Nat, k ≤ y.length ∧ i = .int .i64 k ∧ MapIs Tryd.prog wr w.heap.size (x.length + k) (Tg.F2 (strs x) (strs y) k) (fun _ => False) ∧ Below w.heap.size w wr)
        (fun i _ => y.length - (intOf i).toNat)
      case atStart => exact ⟨0, Nat.zero_le _, rfl, HM0.out.imp (Nat.le_refl _) (fun s => F12' x y s) (fun _ h => h.elim), HB0.out⟩
      case round =>
        obtain ⟨k, hk, rfl, hM, hB⟩ := hrel
        by_cases hlt : k < y.length
        · obtain ⟨ad, rfl, hcell⟩ := str_cell (Kd.C_below HY.out hB) k hlt
          have hs := SY.out _ (getD_mem y k hlt)
          obtain ⟨b1, b2⟩ := F2_bound (strs x) (strs y) k (y.getD k ByteArray.empty).data.toList
          have FP := F2_put x y k hlt
          have FS := F2_skip x y k hlt
          generalize hse : y.getD k ByteArray.empty = s at *
          clear hse
          generalize hce : Tg.F2 (strs x) (strs y) k s.data.toList = c at *
          have HM := Aside0.mk hM
          have HB := Aside0.mk hB
          have HS := Aside0.mk hs
          have HC := Aside0.mk hce
          have HFP := Aside0.mk FP
          have HFS := Aside0.mk FS
          clear hM hB hs hce FP FS
          by_cases hc : -8 < c
          · go_wp2_with (first | (at_lookup; refine wp_look rfl _ _ rfl w.heap.size (x.length + k) _ _ rfl HM.out s HS.out rfl ?_; rw [HC.out]) | (at_mapUpdate; refine wp_put rfl _ _ _ rfl w.heap.size (x.length + k) _ _ rfl HM.out (by unfold maxLen; omega) s HS.out rfl (c - 4) (WalkArith.wf_i64 (by omega)) rfl ?_; intro w1 hm1 hg1))
            go_roundw
            case rel => exact ⟨k + 1, by omega, by go_num, hm1.imp (by omega) (fun t => HFP.out t hc) (fun _ h => h.elim), HB.out.grown hg1 HB.out.size (fun j hj => by cases hj; exact Nat.le_refl _)⟩
            case measure => simp [intOf]; omega
          · go_wp2_with (first | (at_lookup; refine wp_look rfl _ _ rfl w.heap.size (x.length + k) _ _ rfl HM.out s HS.out rfl ?_; rw [HC.out]) )
            go_roundw
            case rel => exact ⟨k + 1, by omega, by go_num, HM.out.imp (by omega) (fun t => HFS.out t hc) (fun _ h => h.elim), HB.out⟩
            case measure => simp [intOf]; omega
        · have : k = y.length := by omega
          subst this
          go_wp2
          go_meet
          case rel => exact ⟨hM.imp (Nat.le_refl _) (fun s => (F2_last' x y s).symm) (fun s h => Or.inr (F2_in _ _ _ _ h)), hB⟩
    case rest =>
      obtain ⟨hM1, hB1⟩ := hcut
      have HM1 := Aside0.mk hM1
      have HB1 := Aside0.mk hB1
      clear hM1 hB1 HM0 HB0
      go_upto_block 4 with (fail)
      go_cut [13] (fun s13 wc3 => ∃ (yi : List Nat) (f : List UInt8 → Int), Tg.R3 (strs x) (strs y) y.length yi f ∧ MapIs Tryd.prog wc3 w.heap.size (x.length + y.length + y.length) f (fun s => s ∈ strs x) ∧ Kd.R (Kd.int .i64) 3 wc3 (w.heap.size + 1) (fun k => k ≠ w.heap.size) s13 (ints yi) ∧ Below w.heap.size w wc3)
      case first =>
        go_wp2
        go_loopw [13, 69] (fun s13 i wr => ∃ (k : Nat) (yi : List Nat) (f : List UInt8 → Int), k ≤ y.length ∧ i = .int .i64 k ∧ Tg.R3 (strs x) (strs y) k yi f ∧ MapIs Tryd.prog wr w.heap.size (x.length + y.length + k) f (fun s => s ∈ strs x) ∧ Kd.R (Kd.int .i64) 3 wr (w.heap.size + 1) (fun k => k ≠ w.heap.size) s13 (ints yi) ∧ Below w.heap.size w wr ∧ yi.length ≤ k)
          (fun _ i _ => y.length - (intOf i).toNat)
        case atStart => exact ⟨0, [], _, Nat.zero_le _, rfl, Tg.R3.start _ _ _ (fun _ => rfl), HM1.out, Kd.R_nil _ _ _ _ _, HB1.out, Nat.le_refl _⟩
        case round =>
          obtain ⟨k, yi, f, hk, rfl, hR, hM, hO, hB, hl⟩ := hrel
          have hsz := hM.lt
          by_cases hlt : k < y.length
          · obtain ⟨ad, rfl, hcell⟩ := str_cell (Kd.C_below HY.out hB) k hlt
            have hs := SY.out _ (getD_mem y k hlt)
            obtain ⟨h2, e2⟩ := strs_getD y k hlt
            have RT := @Tg.R3.take _ _ _ _ _ _ f (fun t => if (y.getD k ByteArray.empty).data.toList = t then (yi.length : Int) else f t) hR h2
            have RS := hR.skip h2
            rw [e2] at RT RS
            generalize hse : y.getD k ByteArray.empty = s at *
            clear hse
            have HM := Aside0.mk hM
            have HB := Aside0.mk hB
            have HS := Aside0.mk hs
            have HO := Aside0.mk hO
            have HRT := Aside0.mk RT
            have HRS := Aside0.mk RS
            clear hM hB hs RT RS hO hR e2 h2
            generalize hce : f s.data.toList = c at *
            have HC := Aside0.mk hce
            clear hce
            by_cases hc : c = -5
            · subst hc
              obtain ⟨A13, c13, rfl⟩ := Kd.R_slice HO.out
              go_wp2_with (first | (at_lookup; refine wp_look rfl _ _ rfl w.heap.size (x.length + y.length + k) _ _ rfl HM.out s HS.out rfl ?_; rw [HC.out]) | (at_mapUpdate; refine wp_put rfl _ _ _ rfl w.heap.size (x.length + y.length + k) _ _ rfl HM.out (by unfold maxLen; omega) s HS.out rfl _ (WalkArith.wf_i64 (by simp [ints]; omega)) rfl ?_; intro w1 hm1 hg1) | (at_builtin; refine Kd.R_append (Kd.int .i64) (w0 := w1) (w.heap.size + 1) rfl (.tmp 82) (.tmp 84) 82 3 (.int .i64 0) 8 rfl Tryd.underlying82 infoInt rfl (by decide) (by omega) _ (ints yi) (k : Int) [.int .i64 (k : Int)] (fun j => j ≠ w.heap.size) (fun _ => False) rfl rfl rfl (fun _ h => h.elim) ?aF ?aO ?aB ?aS ?aL ?_; (case aF => intro j hj; have := hm1.lt; omega); (case aO => exact Kd.R_grown HO.out hg1 (fun j hj e => hj (by injection e))); (case aB => exact Below.refl _ _); (case aS => exact hm1.lt); (case aL => simp [ints]; omega); intro v1 w2 ho hb hg hat))
              go_roundw
              case rel => exact ⟨k + 1, yi ++ [k], _, by omega, by go_num, HRT.out rfl (fun _ => rfl), (hm1.kept hg (fun e => HO.out.1 _ e.symm rfl)).imp (by omega) (fun t => by simp [ints]) (fun _ h => Or.inl (Or.inl h)), by rw [ints_snoc]; exact ho, (HB.out.grown hg1 HB.out.size (fun j hj => by cases hj; exact Nat.le_refl _)).trans (hb.mono (by omega)), by simp; omega⟩
              case measure => simp [intOf]; omega
            · have hc' : (c == -5) = false := by simpa using hc
              go_wp2_with (first | (at_lookup; refine wp_look rfl _ _ rfl w.heap.size (x.length + y.length + k) _ _ rfl HM.out s HS.out rfl ?_; rw [HC.out]) )
              go_roundw
              case rel => exact ⟨k + 1, yi, f, by omega, by go_num, HRS.out hc, HM.out.mono (by omega), HO.out, HB.out, by omega⟩
              case measure => simp [intOf]; omega
          · have : k = y.length := by omega
            subst this
            go_wp2
            go_meet
            case rel => exact ⟨yi, f, hR, hM, hO, hB⟩
      case rest =>
        obtain ⟨yi, f, hR3, hM, hO, hB⟩ := hcut
        have HR3 := Aside0.mk hR3
        have HM := Aside0.mk hM
        have HO := Aside0.mk hO
        have HB := Aside0.mk hB
        clear hR3 hM hO hB HM1 HB1
        go_upto_block 6 with (fail)
        go_cut [12, 14] (fun s12 s14 wc4 => ∃ (xi inv : List Nat), Tg.R4 (strs x) (strs y) yi x.length xi inv ∧ xi.length ≤ x.length ∧ IntsAt wc4 (w.heap.size + 1) s12 xi ∧ IntsAt wc4 (w.heap.size + 1) u13 yi ∧ IntsAt wc4 (w.heap.size + 1) s14 inv ∧ NeRow s12 u13 ∧ NeRow s14 u13 ∧ NeRow s12 s14 ∧ Below w.heap.size w wc4)
        case first =>
          go_wp2
          go_loopw [12, 14, 89] (fun s12 s14 i wr => ∃ (k : Nat) (xi inv : List Nat), k ≤ x.length ∧ i = .int .i64 k ∧ Tg.R4 (strs x) (strs y) yi k xi inv ∧ MapIs Tryd.prog wr w.heap.size (x.length + y.length + y.length) f (fun s => s ∈ strs x) ∧ IntsAt wr (w.heap.size + 1) s12 xi ∧ IntsAt wr (w.heap.size + 1) u13 yi ∧ IntsAt wr (w.heap.size + 1) s14 inv ∧ NeRow s12 u13 ∧ NeRow s14 u13 ∧ NeRow s12 s14 ∧ Below w.heap.size w wr ∧ xi.length ≤ k ∧ inv.length ≤ k)
            (fun _ _ i _ => x.length - (intOf i).toNat)
          case atStart => exact ⟨0, [], [], Nat.zero_le _, rfl, Tg.R4.start _ _ _, HM.out, IntsAt.nil _ _, IntsAt.of HO.out, IntsAt.nil _ _, NeRow.nil _, NeRow.nil _, NeRow.nil _, HB.out, Nat.le_refl _, Nat.le_refl _⟩
          case round =>
            obtain ⟨k, xi, inv, hk, rfl, hR, hM2, hX, hY, hI, n1, n2, n3, hB2, l1, l2⟩ := hrel
            have hsz := hM2.lt
            by_cases hlt : k < x.length
            · obtain ⟨ad, rfl, hcell⟩ := str_cell (Kd.C_below HX.out hB2) k hlt
              have hs := SX.out _ (getD_mem x k hlt)
              obtain ⟨h2, e2⟩ := strs_getD x k hlt
              have hmem : (x.getD k ByteArray.empty).data.toList ∈ strs x := e2 ▸ List.getElem_mem h2
              have RT := fun (f : List UInt8 → Int) h3 => @Tg.R4.take _ _ (strs x) (strs y) yi f h3 k xi inv hR h2
              have RS := fun (f : List UInt8 → Int) h3 => @Tg.R4.skip _ _ (strs x) (strs y) yi f h3 k xi inv hR h2
              rw [e2] at RT RS
              generalize hse : x.getD k ByteArray.empty = s at *
              clear hse
              have hb := HR3.out.val s.data.toList
              have HM2 := Aside0.mk hM2
              have HB2 := Aside0.mk hB2
              have HS := Aside0.mk hs
              have HI := Aside0.mk hI
              have HX2 := Aside0.mk hX
              have HY2 := Aside0.mk hY
              have h3' : Tg.R3 (strs x) (strs y) (strs y).length yi f := by rw [strs_len]; exact HR3.out
              have HRT := Aside0.mk (RT f h3')
              have HRS := Aside0.mk (RS f h3')
              clear h3'
              have HMem := Aside0.mk hmem
              have N1 := Aside0.mk n1
              have N2 := Aside0.mk n2
              have N3 := Aside0.mk n3
              clear hM2 hB2 hs RT RS hI hX hY hR e2 h2 hmem n1 n2 n3 hb
              generalize hce : f s.data.toList = c at *
              have HC := Aside0.mk hce
              clear hce
              by_cases hc : 0 ≤ c
              · obtain ⟨j, rfl⟩ := Int.eq_ofNat_of_zero_le hc
                clear hc
                obtain ⟨A12, c12, rfl⟩ := Kd.R_slice HX2.out
                obtain ⟨A14, c14, rfl⟩ := Kd.R_slice HI.out
                go_wp2_with (first | (at_lookup; refine wp_look_ok rfl _ _ rfl w.heap.size (x.length + y.length + y.length) _ _ rfl HM2.out s HS.out rfl HMem.out ?_; rw [HC.out]) | (at_builtin; refine Kd.R_append (Kd.int .i64) (w0 := wr) (w.heap.size + 1) rfl (.tmp 105) (.tmp 107) 82 3 (.int .i64 0) 8 rfl Tryd.underlying82 infoInt rfl (by decide) (by omega) _ (ints xi) (k : Int) [.int .i64 (k : Int)] (fun _ => True) (fun _ => False) rfl rfl rfl (fun _ h => h.elim) (fun _ _ => trivial) HX2.out (Below.refl _ _) (by omega) ?aL ?_; (case aL => simp [ints]; omega); intro v1 w1 ho1 hb1 hg1 hat1) | (at_builtin; refine Kd.R_append (Kd.int .i64) (w0 := w1) (w.heap.size + 1) rfl (.tmp 109) (.tmp 111) 82 3 (.int .i64 0) 8 rfl Tryd.underlying82 infoInt rfl (by decide) (by omega) _ (ints inv) (j : Int) [.int .i64 (j : Int)] (fun _ => True) (fun _ => False) rfl rfl rfl (fun _ h => h.elim) (fun _ _ => trivial) (HI.out.kept hg1 (NeRow.row (NeRow.symm' N3.out))) (Below.refl _ _) ?aS ?aL ?_; (case aS => have := hb1.size; omega); (case aL => simp [ints]; omega); intro v2 w2 ho2 hb2 hg2 hat2))
                go_roundw
                case rel =>
                  have X1 : IntsAt w1 (w.heap.size + 1) v1 (xi ++ [k]) := by unfold IntsAt; rw [ints_snoc]; exact ho1
                  have I2 : IntsAt w2 (w.heap.size + 1) v2 (inv ++ [j]) := by unfold IntsAt; rw [ints_snoc]; exact ho2
                  have nA := ne_appended N3.out HI.out hat1
                  have nB := NeRow.symm' (ne_appended (NeRow.symm' nA) X1 hat2)
                  have Y1 := HY2.out.kept hg1 (NeRow.row (NeRow.symm' N1.out))
                  have B1 := HB2.out.grown hg1 HB2.out.size (fun j hj => by have := HX2.out.ge j hj; omega)
                  exact ⟨k + 1, xi ++ [k], inv ++ [j], by omega, by go_num, HRT.out j rfl, (HM2.out.kept hg1 (HX2.out.ne_of_base (by omega))).kept hg2 (HI.out.ne_of_base (by omega)), X1.kept hg2 (NeRow.row nA), Y1.kept hg2 (NeRow.row (NeRow.symm' N2.out)), I2, ne_appended N1.out HY2.out hat1, ne_appended N2.out Y1 hat2, nB, B1.grown hg2 B1.size (fun j hj => by have := HI.out.ge j hj; omega), by simp; omega, by simp; omega⟩
                case measure => simp [intOf]; omega
              · go_wp2_with (first | (at_lookup; refine wp_look_ok rfl _ _ rfl w.heap.size (x.length + y.length + y.length) _ _ rfl HM2.out s HS.out rfl HMem.out ?_; rw [HC.out]))
                go_roundw
                case rel => exact ⟨k + 1, xi, inv, by omega, by go_num, HRS.out (by omega), HM2.out, HX2.out, HY2.out, HI.out, N1.out, N2.out, N3.out, HB2.out, by omega, by omega⟩
                case measure => simp [intOf]; omega
            · have : k = x.length := by omega
              subst this
              go_wp2
              go_meet
              case rel => exact ⟨xi, inv, hR, l1, hX, hY, hI, n1, n2, n3, hB2⟩
        case rest =>
          obtain ⟨xi, inv, hR4, hxl, hX, hY, hI, n1, n2, n3, hB4⟩ := hcut
          obtain ⟨W4, rfl⟩ : ∃ z : World, z = wc := ⟨_, rfl⟩
          clear HM HO HB
          obtain ⟨A12, c12, rfl, _, CX0⟩ := hX.reads
          obtain ⟨A13, c13, rfl, _, CY0⟩ := hY.reads
          obtain ⟨A14, c14, e14, _, CI0⟩ := hI.reads
          rw [hR4.len] at e14
          subst e14
          have hJ0 : ∀ p, p < xi.length → inv.getD p 0 < yi.length := by
            intro p hp
            have l1 : p < inv.length := by rw [hR4.len]; exact hp
            have e1 : inv[p]? = some (inv.getD p 0) := by simp [List.getD_eq_getElem?_getD, List.getElem?_eq_getElem l1]
            obtain ⟨i', e2, _⟩ := hR4.at' p _ _ (List.getElem?_eq_getElem hp) e1
            exact (List.getElem?_eq_some_iff.1 e2).1
          have hyx : yi.length ≤ xi.length := Tg.anchors_le (f := f) (by rw [strs_len]; exact HR3.out) (by rw [strs_len]; exact hR4)
          have HJ0 := Aside0.mk hJ0
          clear hJ0
          have CX := Aside0.mk CX0
          have CY := Aside0.mk CY0
          have CI := Aside0.mk CI0
          have HR4 := Aside0.mk hR4
          have HB4 := Aside0.mk hB4
          have hl4 := hR4.len
          have HL4 := Aside0.mk hl4
          clear CX0 CY0 CI0 hR4 hB4 hX hY hI n1 n2 n3 hl4
          go_upto_block 8 with (first | (at_make; refine Kd.R_make (Kd.int .i64) (W4.heap.size + 1) 3 rfl rfl 82 (.tmp 117) (.tmp 117) rfl _ rfl rfl Tryd.underlying82 (.int .i64 0) 8 infoInt rfl (by decide) (by decide) 0 (ok := fun _ => True) (okp := fun _ => False) rfl (fun _ h => h.elim) trivial (by omega) ?aL (Below.refl _ _) (by simp) ?_; (case aL => simp; omega); intro v1 w1 ho1 hb1 hg1 hat1; obtain ⟨hT0, At, ct, et⟩ := zeros_at ho1; subst et; have HA1 := Aside0.mk hat1; have HT0 := Aside0.mk hT0; have HG1 := Aside0.mk hg1; clear ho1 hb1 hg1 hT0 hat1) | (at_make; refine Kd.R_make (Kd.int .i64) (W4.heap.size + 1) 3 rfl rfl 82 (.tmp 119) (.tmp 119) rfl _ rfl rfl Tryd.underlying82 (.int .i64 0) 8 infoInt rfl (by decide) (by decide) 0 (ok := fun _ => True) (okp := fun _ => False) rfl (fun _ h => h.elim) trivial (by omega) ?aL (Below.refl _ _) ?aS ?_; (case aS => have := HG1.out.size; simp at this ⊢; omega); (case aL => simp; omega); intro v2 w2 ho2 hb2 hg2 hat2; obtain ⟨hL0, Al, cl, el⟩ := zeros_at ho2; subst el; have bT := blk_grown (blk_new w1 (.cells #[.slice At xi.length ct] 82)) hg2 (by simp); have cT := blk_cell bT 0; simp at cT; have HL0 := Aside0.mk hL0; have HG2 := Aside0.mk hg2; have BT := Aside0.mk bT; have HA2 := Aside0.mk hat2; clear bT ho2 hb2 hg2 hL0 hat2))
          have hst : St W4 w1.heap.size (.slice A14 xi.length c14) (.slice At xi.length ct) (.slice Al xi.length cl) xi.length (List.replicate xi.length 0) (List.replicate xi.length 0) w2 := by
            have g1 := HG1.out
            have g2 := HG2.out
            have bJ := blk_grown (blk_new W4 (.cells #[.slice A14 xi.length c14] 82)) g1 (by simp)
            have hs1 := g1.size
            simp at hs1
            have e1 : Below W4.heap.size W4 w1 := (below_alloc (Below.refl _ _) _).grown g1 (by simp) (fun k hk => by cases hk)
            refine ⟨blk_grown (blk_alloc bJ _) g2 (by simp), BT.out, (HT0.out.below (below_alloc (Below.refl _ _) _)).kept g2 (fun _ _ e => by cases e), HL0.out, ?_, by simp, by simp, ?_⟩
            · intro k hk hk2
              obtain ⟨b, e, hb⟩ := HA2.out
              rw [hk2] at e; cases e
              have := HT0.out.lt k hk
              simp at hb; omega
            · exact (below_alloc e1 _).grown g2 (by simp; omega) (fun k hk => by cases hk)
          have HST := Aside0.mk hst
          have hgT : W4.heap.size < w1.heap.size := by have := HG1.out.size; simp at this; omega
          generalize w1.heap.size = gT at *
          clear HT0 HL0 HG1 HG2 BT HA1 HA2 hst cT
          go_cut [] (fun w5 => St W4 gT (.slice A14 xi.length c14) (.slice At xi.length ct) (.slice Al xi.length cl) xi.length (List.replicate xi.length (xi.length + 1)) (List.replicate xi.length 0) w5)
          case first =>
            go_wp2
            go_loopw [123] (fun i wr => ∃ k : Nat, k ≤ xi.length ∧ i = .int .i64 k ∧ St W4 gT (.slice A14 xi.length c14) (.slice At xi.length ct) (.slice Al xi.length cl) xi.length (List.replicate k (xi.length + 1) ++ List.replicate (xi.length - k) 0) (List.replicate xi.length 0) wr)
              (fun i _ => xi.length - (intOf i).toNat)
            case atStart => exact ⟨0, Nat.zero_le _, rfl, HST.out⟩
            case round =>
              obtain ⟨k, hk, rfl, hst⟩ := hrel
              by_cases hlt : k < xi.length
              · obtain ⟨g, cap, e, hg, hc, hf, hs⟩ := hst.storeT k hlt
                injection e with eA _ ec
                subst eA ec
                have cT := hst.cellT
                have hs2 := hs (xi.length + 1)
                rw [fill_step _ _ hlt] at hs2
                have HS2 := Aside0.mk hs2
                have hN : ((xi.length + 1 : Nat) : Int) = (xi.length : Int) + 1 := by omega
                have HN := Aside0.mk hN
                clear hs hs2 hst hN
                go_wp2
                go_roundw
                case rel => exact ⟨k + 1, by omega, by go_num, by have := HS2.out; rw [HN.out] at this; exact this⟩
                case measure => simp [intOf]; omega
              · have : k = xi.length := by omega
                subst this
                go_wp2
                go_meet
                case rel => simpa using hst
          case rest =>
            clear HST
            have HST := Aside0.mk hcut
            have cT := hcut.cellT
            clear hcut
            go_upto_block 10 with (fail)
            go_cut [] (fun w6 => ∃ lT lL, Tg.R5 inv xi.length xi.length lT lL ∧ St W4 gT (.slice A14 xi.length c14) (.slice At xi.length ct) (.slice Al xi.length cl) xi.length lT lL w6)
            case first =>
              go_wp2
              go_loopw [133] (fun i wr => ∃ (k : Nat) (lT lL : List Nat), k ≤ xi.length ∧ i = .int .i64 k ∧ Tg.R5 inv xi.length k lT lL ∧ St W4 gT (.slice A14 xi.length c14) (.slice At xi.length ct) (.slice Al xi.length cl) xi.length lT lL wr)
                (fun i _ => xi.length - (intOf i).toNat)
              case atStart => exact ⟨0, _, _, Nat.zero_le _, rfl, Tg.R5.start _ _, HST.out⟩
              case round =>
                obtain ⟨k, lT, lL, hk, rfl, hR5, hst⟩ := hrel
                by_cases hlt : k < xi.length
                · obtain ⟨gt, capt, e, hgt, _⟩ := hst.storeT k hlt
                  injection e with eA _ ec
                  subst eA ec
                  obtain ⟨gl, capl, e, hgl, _⟩ := hst.storeL k hlt
                  injection e with eA _ ec
                  subst eA ec
                  have hCI := Kd.C_below CI.out hst.bel
                  obtain ⟨ad, rfl, hci⟩ := ints_cell hCI k (by rw [HL4.out]; exact hlt)
                  have hJk := HJ0.out k hlt
                  have hst1 := hst.alloc (.cells #[.int .i64 k] 3)
                  have cI : (wr.alloc (.cells #[.int .i64 k] 3)).cell? ⟨wr.heap.size, 0, none⟩ = some (.int .i64 k) := (blk_cell (blk_new wr (.cells #[.int .i64 k] 3)) 0).trans rfl
                  have hcells := fun m hm => (hst1.cellsT m hm).1
                  have hblt := World.block_lt_of_cell? _ _ hci
                  have HS := fun W5 (e : W5 = wr.alloc (.cells #[.int .i64 k] 3)) => search_calls W5 gT W4.heap.size wr.heap.size gt ct xi.length ad c14 k (inv.getD k 0) lT hlt (by omega) (by rw [e]; exact hst1.cellT) (by rw [e]; exact hst1.cellJ) (by rw [e]; exact cI) (by rw [e]; exact hcells) (by rw [e]; exact pw_cell_below (below_alloc (Below.refl _ _) _) hci)
                    (by rw [e]; exact blk_lt hst1.bT) (by rw [e]; exact blk_lt hst1.bJ) (by rw [e]; simp) (by rw [e]; simp; omega) (by rw [e]; simp; omega) hR5.up
                  have HS1 := Aside0.mk (HS _ rfl)
                  have HST1 := Aside0.mk hst1
                  have HR5 := Aside0.mk hR5
                  have HCI := Aside0.mk (pw_cell_below (below_alloc (Below.refl _ wr) (.cells #[.int .i64 k] 3)) hci)
                  clear hcells HS hst1 hR5 hst hCI hci cT
                  go_upto_region 45 with (go_at_call 29; refine HS1.out.mono ?_; rintro e w2 ⟨m, rfl, hm, hB2⟩)
                  obtain ⟨hm1, hm2, hm3⟩ := hm
                  obtain ⟨hmn, hR5'⟩ := HR5.out.step hlt m (by omega) hm2 hm3 hm1
                  have hst2 := HST1.out.below hB2
                  have cT2 := hst2.cellT
                  have cJ2 := hst2.cellJ
                  have cI2 := pw_cell_below hB2 cI
                  have ci2 := pw_cell_below hB2 HCI.out
                  obtain ⟨ct2, ft2, hs2⟩ := hst2.cellsT m hmn
                  have HR5' := Aside0.mk hR5'
                  have HS2 := Aside0.mk (hs2 (inv.getD k 0))
                  have p1 : (0 : Int) ≤ (k : Int) := by omega
                  have p2 : (k : Int) < (xi.length : Int) := by omega
                  have p3 : (0 : Int) ≤ (m : Int) := by omega
                  have p4 : (m : Int) < (xi.length : Int) := by omega
                  clear hm1 hm2 hm3 hR5' hs2 hst2 hB2 cI HS1 HST1 HR5 HCI
                  generalize inv.getD k 0 = jk at *
                  generalize lT.getD m 0 = tm at *
                  go_region
                  have cI3 := (World.cell?_of_block (w := w2) (w' := w2.setCell ⟨gt, m, none⟩ (.int .i64 jk)) (a := ⟨wr.heap.size, 0, none⟩) (Below.heap_setCell w2 ⟨gt, m, none⟩ (.int .i64 jk) wr.heap.size (by simp; omega))).trans cI2
                  have hst3 := HS2.out.below (below_drew1 (Below.refl _ _))
                  generalize w2.setCell ⟨gt, m, none⟩ (.int .i64 jk) = w3 at *
                  obtain ⟨ct3, ft3, hs3⟩ := hst3.cellsL k hlt
                  have HS3 := Aside0.mk (hs3 (m + 1))
                  have hN : ((m + 1 : Nat) : Int) = (m : Int) + 1 := by omega
                  have HN := Aside0.mk hN
                  clear hs3 hst3 cT2 cJ2 cI2 ci2 ct2 ft2 HS2 hN
                  go_wp2
                  go_roundw
                  case rel => exact ⟨k + 1, _, _, by omega, by go_num, HR5'.out, by have := HS3.out; rw [HN.out] at this; exact this⟩
                  case measure => simp [intOf]; omega
                · have : k = xi.length := by omega
                  subst this
                  go_wp2
                  go_meet
                  case rel => exact ⟨lT, lL, hR5, hst⟩
            case rest =>
              obtain ⟨lT, lL, hR5, hst⟩ := hcut
              have hlL := hst.lenL
              have HR5 := Aside0.mk hR5
              clear HST cT hR5
              have HST := Aside0.mk hst
              have HlL := Aside0.mk hlL
              obtain ⟨w6, rfl⟩ : ∃ z : World, z = wc := ⟨_, rfl⟩
              clear hst hlL
              go_upto_block 12 with (fail)
              go_cut [28] (fun s28 w7 => ∃ K : Nat, s28 = .int .i64 K ∧ Tg.R6 lL xi.length K ∧ w7 = w6)
              case first =>
                go_wp2
                go_loop [28, 154] (fun s28 i => ∃ (k K : Nat), k ≤ xi.length ∧ i = .int .i64 k ∧ s28 = .int .i64 K ∧ Tg.R6 lL k K)
                  (fun _ i => xi.length - (intOf i).toNat)
                case atStart => exact ⟨0, 0, Nat.zero_le _, rfl, rfl, Tg.R6.start _⟩
                case round =>
                  obtain ⟨k, K, hk, rfl, rfl, hR⟩ := hrel
                  by_cases hlt : k < xi.length
                  · obtain ⟨ad2, eAd, hc⟩ := ints_cell HST.out.readL k (by rw [HlL.out]; exact hlt)
                    subst eAd
                    have hst7 := hR.step
                    have HR := Aside0.mk hst7
                    clear hR hst7
                    generalize lL.getD k 0 = v at *
                    by_cases hv : K < v
                    · rw [if_pos hv] at HR
                      go_wp2
                      go_round
                      case rel => exact ⟨k + 1, v, by omega, by go_num, rfl, HR.out⟩
                      case measure => simp [intOf]; omega
                    · rw [if_neg hv] at HR
                      go_wp2
                      go_round
                      case rel => exact ⟨k + 1, K, by omega, by go_num, rfl, HR.out⟩
                      case measure => simp [intOf]; omega
                  · have : k = xi.length := by omega
                    subst this
                    go_wp2
                    go_meet
                    case rel => exact ⟨K, rfl, hR, rfl⟩
              case rest =>
                obtain ⟨K, rfl, hR6, rfl⟩ := hcut
                have hKn : K ≤ xi.length := by
                  rcases hR6.one with e | ⟨p, hp, e⟩
                  · omega
                  · have := (HR5.out.run p hp).2.1
                    omega
                have HR6 := Aside0.mk hR6
                clear hR6
                go_upto_region 56 with (at_make; refine Kd.R_make kP (W4.heap.size + 1) 68 rfl rfl 69 (.tmp 164) (.tmp 164) rfl (2 + (K : Int)) rfl rfl Tryd.underlying69 (.agg #[.int .i64 0, .int .i64 0]) 16 infoPair rfl (by decide) (by decide) ((0 : Int), (0 : Int)) (ok := fun _ => True) (okp := fun _ => False) ⟨[.int .i64 0], [.int .i64 0], rfl, rfl, rfl⟩ (fun _ h => h.elim) trivial (by omega) ?aL (Below.refl _ _) ?aS ?_; (case aS => exact HST.out.lt); (case aL => omega); intro v8 w8 ho8 hb8 hg8 hat8; rw [show (2 + (K : Int)) = ((K + 2 : Nat) : Int) by omega] at ho8; obtain ⟨hS0, A8, c8, e8⟩ := PairsAt.zeros ho8; subst e8; have HS0 := Aside0.mk hS0; have HG8 := Aside0.mk hg8; clear ho8 hb8 hg8 hat8 hS0)
                have g8 := HG8.out
                have e8 : Below wc.heap.size wc w8 := (Below.refl _ _).grown g8 (Nat.le_refl _) (fun k hk => by cases hk)
                have hst8' := HST.out.below e8
                have hst8 : St8 W4 (.slice A14 xi.length c14) (.slice Al xi.length cl) lL (.slice A8 (K + 2) c8) (List.replicate (K + 2) (0, 0)) w8 := ⟨hst8'.bJ, hst8'.l, HS0.out, hst8'.bel⟩
                obtain ⟨g, cap, e, hg, ⟨za, zb, ca, cb⟩, fa, fb, hs⟩ := hst8.store (1 + K) (by simp; omega)
                injection e with eA eN ec
                clear eN
                subst eA ec
                have HS := Aside0.mk (hs x.length y.length)
                clear HG8 HS0 g8 e8 hst8' hst8 hs HST
                go_upto_block 14 with (fail)
                have hy0 : ∀ p, p < xi.length → yi.getD (inv.getD p 0) 0 ≤ (strs y).length := by
                  intro p hp
                  have l1 := HJ0.out p hp
                  have := HR3.out.lt _ (List.getElem_mem l1)
                  rw [strs_len, List.getD_eq_getElem?_getD (l := yi), List.getElem?_eq_getElem l1, Option.getD_some]
                  omega
                have h7 := Tg.R7.start (x := strs x) (y := strs y) (xi := xi) (yi := yi) (J := inv) (seq := (List.replicate (K + 2) ((0 : Nat), (0 : Nat))).set (1 + K) (x.length, y.length)) HR6.out (by rw [strs_len, strs_len, List.getElem?_set, if_pos (by omega), if_pos (by simp; omega)]) (by simp) hy0
                have H7 := Aside0.mk h7
                clear ca cb fa fb h7 hy0 HR6
                go_cut [28, 33] (fun _ _ w9 => ∃ (k : Nat) (seq : List (Nat × Nat)), Tg.R7 (strs x) (strs y) xi yi inv lL xi.length K 0 k seq ∧ St8 W4 (.slice A14 xi.length c14) (.slice Al xi.length cl) lL (.slice (some ⟨g, 0, none⟩) (K + 2) c8) seq w9)
                case first =>
                  go_wp2
                  go_loopw [28, 33] (fun s28 s33 wr => ∃ (i k : Nat) (seq : List (Nat × Nat)), i ≤ xi.length ∧ s33 = .int .i64 ((i : Int) - 1) ∧ s28 = .int .i64 k ∧ Tg.R7 (strs x) (strs y) xi yi inv lL xi.length K i k seq ∧ St8 W4 (.slice A14 xi.length c14) (.slice Al xi.length cl) lL (.slice (some ⟨g, 0, none⟩) (K + 2) c8) seq wr)
                    (fun _ s33 _ => (intOf s33 + 1).toNat)
                  case atStart => exact ⟨xi.length, K, _, Nat.le_refl _, rfl, rfl, H7.out, HS.out⟩
                  case round =>
                    obtain ⟨i, k, seq, hi, rfl, rfl, hR7, hst⟩ := hrel
                    by_cases hz : i = 0
                    · subst hz
                      go_wp2
                      go_meet
                      case rel => exact ⟨k, seq, hR7, hst⟩
                    · obtain ⟨j, rfl⟩ : ∃ j, i = j + 1 := ⟨i - 1, by omega⟩
                      have ej : ((j + 1 : Nat) : Int) - 1 = (j : Int) := by omega
                      rw [ej]
                      clear ej hz
                      have hj : j < xi.length := by omega
                      obtain ⟨aL, eL, cL⟩ := ints_cell hst.readL j (by rw [HlL.out]; exact hj)
                      obtain ⟨aJ, eJ, cJ⟩ := ints_cell (Kd.C_below CI.out hst.bel) j (by rw [HL4.out]; exact hj)
                      obtain ⟨aX, eX, cX⟩ := ints_cell (Kd.C_below CX.out hst.bel) j hj
                      obtain ⟨aY, eY, cY⟩ := ints_cell (Kd.C_below CY.out hst.bel) (inv.getD j 0) (HJ0.out j hj)
                      subst eL eJ eX eY
                      have bJ := hst.cellJ
                      have hjn : inv.getD j 0 < xi.length := by have := HJ0.out j hj; omega
                      have hjy : inv.getD j 0 < yi.length := HJ0.out j hj
                      have hT := Tg.R7.take HR5.out HR3.out.up HJ0.out hR7 hj
                      have hS := Tg.R7.skip hR7
                      have hlen := hR7.len
                      have hle := hR7.le
                      have HT := Aside0.mk hT
                      have HSk := Aside0.mk hS
                      have HST := Aside0.mk hst
                      have HLen := Aside0.mk hlen
                      clear hT hS hst hlen hR7
                      generalize lL.getD j 0 = li at *
                      generalize yi.getD (inv.getD j 0) 0 = yv at *
                      generalize inv.getD j 0 = jv at *
                      generalize xi.getD j 0 = xv at *
                      by_cases hlk : li = k
                      · subst hlk
                        obtain ⟨hk1, hR7'⟩ := HT.out rfl
                        obtain ⟨g', cap', e, hg, ⟨za, zb, ca, cb⟩, fa, fb, hs⟩ := HST.out.store li (by rw [HLen.out]; omega)
                        injection e with eA eN ec
                        injection eA with eA
                        injection eA with eA
                        subst eA
                        have HR7' := Aside0.mk hR7'
                        have HS' := Aside0.mk (hs xv yv)
                        have q1 : (0 : Int) ≤ (j : Int) := by omega
                        have q2 : (j : Int) < (xi.length : Int) := by omega
                        have q3 : (0 : Int) ≤ (jv : Int) := by omega
                        have q4 : (jv : Int) < (xi.length : Int) := by omega
                        have q5 : (jv : Int) < (yi.length : Int) := by omega
                        have q6 : (0 : Int) ≤ (li : Int) := by omega
                        have q7 : (li : Int) < ((K + 2 : Nat) : Int) := by omega
                        clear eN ec hR7' hs HST HT HSk HLen
                        go_upto_region 62 with (fail)
                        go_region
                        go_wp2
                        go_roundw
                        case rel => exact ⟨j, li - 1, _, by omega, rfl, by rw [show (li : Int) - 1 = ((li - 1 : Nat) : Int) by omega], HR7'.out, HS'.out.below (below_drew1 (Below.refl _ _))⟩
                        case measure => simp [intOf]
                      · have hb : ((li : Int) == (k : Int)) = false := by simp; omega
                        clear HT
                        go_wp2
                        go_roundw
                        case rel => exact ⟨j, k, seq, by omega, rfl, rfl, HSk.out hlk, HST.out⟩
                        case measure => simp [intOf]
                case rest =>
                  obtain ⟨k, seq, hR7, hst⟩ := hcut
                  have hd := Tg.R7.done (f := f) (by rw [strs_len]; exact HR3.out) (by rw [strs_len]; exact HR4.out) HJ0.out rfl hR7
                  have hlen := hR7.len
                  obtain ⟨g', cap', e, hg, ⟨za, zb, ca, cb⟩, fa, fb, hs⟩ := hst.store 0 (by omega)
                  injection e with eA eN ec
                  injection eA with eA
                  injection eA with eA
                  subst eA
                  have hs0 := hs 0 0
                  simp only [Nat.zero_mul, Nat.zero_add] at ca cb fa fb hs0
                  have HS0 := Aside0.mk hs0
                  have HD := Aside0.mk hd
                  have HLen := Aside0.mk hlen
                  clear eN ec hs hst hd hlen hs0 H7 HS hR7
                  go_wp2
                  go_ret
                  refine ⟨_, rfl, seq.set 0 (0, 0), HD.out.2, ?_, ?_⟩
                  · exact Kd.R_lower HS0.out.p (by have := HB4.out.size; omega)
                  · exact HB4.out.trans (HS0.out.bel.mono HB4.out.size)
end Go.Proofs.YtplbifmjnanceaaDoor

namespace Go.Proofs.YtplbifmjnanceaaDoor.Dp
variable {α : Type}

/-- the lines from i to j -/
def seg (l : List α) (i j : Nat) : List α := (l.drop i).take (j - i)
theorem seg_self (l : List α) (i : Nat) : seg l i i = [] := by simp [seg]
theorem seg_len (l : List α) (i j : Nat) (h : j ≤ l.length) : (seg l i j).length = j - i := by simp [seg]; omega
theorem seg_append (l : List α) {i j k : Nat} (h1 : i ≤ j) (h2 : j ≤ k) : seg l i j ++ seg l j k = seg l i k := by
  unfold seg
  have e : k - i = (j - i) + (k - j) := by omega
  have e2 : j = i + (j - i) := by omega
  rw [e, List.take_add, List.drop_drop, ← e2]
theorem seg_succ (l : List α) {i j : Nat} (h1 : i ≤ j) (h2 : j < l.length) : seg l i (j + 1) = seg l i j ++ [l[j]] := by
  rw [← seg_append l h1 (Nat.le_succ j)]
  congr 1
  unfold seg
  rw [show j + 1 - j = 1 by omega, List.drop_eq_getElem_cons h2]; rfl
theorem seg_cons (l : List α) {i j : Nat} (h1 : i < j) (h2 : j ≤ l.length) : seg l i j = l[i]'(by omega) :: seg l (i + 1) j := by
  rw [← seg_append l (Nat.le_succ i) h1, seg_succ l (Nat.le_refl i) (by omega), seg_self]; rfl
theorem seg_back {x y : List α} {i j m n : Nat} (h1 : i < m) (h2 : j < n) (h3 : m ≤ x.length) (h4 : n ≤ y.length) (he : x[i]? = y[j]?) (h : seg x (i + 1) m = seg y (j + 1) n) : seg x i m = seg y j n := by
  rw [seg_cons x h1 h3, seg_cons y h2 h4, h]
  rw [List.getElem?_eq_getElem (by omega), List.getElem?_eq_getElem (by omega)] at he
  injection he with he
  rw [he]
theorem seg_fore {x y : List α} {i j m n : Nat} (h1 : m ≤ i) (h2 : n ≤ j) (h3 : i < x.length) (h4 : j < y.length) (he : x[i]? = y[j]?) (h : seg x m i = seg y n j) : seg x m (i + 1) = seg y n (j + 1) := by
  rw [seg_succ x h1 h3, seg_succ y h2 h4, h]
  rw [List.getElem?_eq_getElem h3, List.getElem?_eq_getElem h4] at he
  injection he with he
  rw [he]
theorem seg_split {x y : List α} {i j i' j' m n : Nat} (h1 : i ≤ i') (h2 : i' ≤ m) (h3 : j ≤ j') (h4 : j' ≤ n) (h5 : m ≤ x.length) (h6 : n ≤ y.length) (h7 : i' + j = j' + i) (h : seg x i m = seg y j n) : seg x i i' = seg y j j' ∧ seg x i' m = seg y j' n := by
  rw [← seg_append x h1 h2, ← seg_append y h3 h4] at h
  exact List.append_inj h (by rw [seg_len _ _ _ (by omega), seg_len _ _ _ (by omega)]; omega)
theorem seg_all (l : List α) (i : Nat) : seg l i l.length = l.drop i := by unfold seg; rw [List.take_of_length_le]; simp
theorem seg_getElem? (l : List α) (i j k : Nat) (hk : i + k < j) : (seg l i j)[k]? = l[i + k]? := by
  unfold seg
  rw [List.getElem?_take, if_pos (by omega), List.getElem?_drop]
/-- equal in step: seg x i (i+n) = seg y j (j+n) -/
theorem seg_eq_get {x y : List α} {i j n k : Nat} (h : seg x i (i + n) = seg y j (j + n)) (hk : k < n) : x[i + k]? = y[j + k]? := by
  rw [← seg_getElem? x i (i + n) k (by omega), ← seg_getElem? y j (j + n) k (by omega), h]

/-- a line of a hunk: a sign, and the line -/
abbrev Ln := UInt8 × ByteArray
def olds (ls : List Ln) : List ByteArray := (ls.filter fun l => l.1 != 43).map Prod.snd
def news (ls : List Ln) : List ByteArray := (ls.filter fun l => l.1 != 45).map Prod.snd
def signed (sg : UInt8) (l : List ByteArray) : List Ln := l.map fun s => (sg, s)
theorem olds_app (a b : List Ln) : olds (a ++ b) = olds a ++ olds b := by simp [olds]
theorem news_app (a b : List Ln) : news (a ++ b) = news a ++ news b := by simp [news]
theorem olds_signed (sg : UInt8) (l : List ByteArray) : olds (signed sg l) = if sg = 43 then [] else l := by
  induction l with
  | nil => simp [olds, signed]
  | cons a l ih =>
    by_cases e : sg = 43
    · subst e; simp [olds, signed]
    · simp only [olds, signed, List.map_cons, List.filter_cons] at ih ⊢
      simp [e] at ih ⊢
      exact ih
theorem news_signed (sg : UInt8) (l : List ByteArray) : news (signed sg l) = if sg = 45 then [] else l := by
  induction l with
  | nil => simp [news, signed]
  | cons a l ih =>
    by_cases e : sg = 45
    · subst e; simp [news, signed]
    · simp only [news, signed, List.map_cons, List.filter_cons] at ih ⊢
      simp [e] at ih ⊢
      exact ih
theorem signed_len (sg : UInt8) (l : List ByteArray) : (signed sg l).length = l.length := by simp [signed]
theorem signed_snoc (sg : UInt8) (l : List ByteArray) (s : ByteArray) : signed sg (l ++ [s]) = signed sg l ++ [(sg, s)] := by simp [signed]

/-- a hunk: where it begins in both texts, and its lines -/
structure Hk where
  o : Nat
  n : Nat
  ls : List Ln

def Signs (ls : List Ln) : Prop := ∀ l ∈ ls, l.1 = 32 ∨ l.1 = 45 ∨ l.1 = 43
theorem Signs.app {a b : List Ln} (ha : Signs a) (hb : Signs b) : Signs (a ++ b) := fun l hl => (List.mem_append.1 hl).elim (ha l) (hb l)
theorem Signs.signed {sg : UInt8} (h : sg = 32 ∨ sg = 45 ∨ sg = 43) (l : List ByteArray) : Signs (signed sg l) := fun p hp => by
  simp [Dp.signed] at hp
  obtain ⟨_, _, rfl⟩ := hp
  exact h

/-- a hunk h, from i, j on, ends at i', j' -/
structure Step (x y : List ByteArray) (i j : Nat) (h : Hk) (i' j' : Nat) : Prop where
  le : i ≤ h.o
  gap : h.o + j = h.n + i
  same : seg x i h.o = seg y j h.n
  lo : h.o ≤ i'
  hi : i' ≤ x.length
  lo2 : h.n ≤ j'
  hi2 : j' ≤ y.length
  ol : olds h.ls = seg x h.o i'
  nw : news h.ls = seg y h.n j'
  ne : h.ls ≠ []
  sg : Signs h.ls

def Chain (x y : List ByteArray) : Nat → Nat → List Hk → Nat → Nat → Prop
  | i, j, [], e, f => i = e ∧ j = f
  | i, j, h :: t, e, f => ∃ i' j', Step x y i j h i' j' ∧ Chain x y i' j' t e f

theorem Chain.snoc {x y : List ByteArray} {h : Hk} {e f e' f' : Nat} (hs : Step x y e f h e' f') : ∀ {l : List Hk} {i j : Nat}, Chain x y i j l e f → Chain x y i j (l ++ [h]) e' f'
  | [], i, j, hc => by obtain ⟨rfl, rfl⟩ := hc; exact ⟨e', f', hs, rfl, rfl⟩
  | a :: t, i, j, hc => by obtain ⟨i', j', h1, h2⟩ := hc; exact ⟨i', j', h1, Chain.snoc hs h2⟩

/-- what a diff's hunks do: they lead from x to y -/
def Leads (x y : List ByteArray) (hs : List Hk) : Prop := ∃ e f, Chain x y 0 0 hs e f ∧ e ≤ x.length ∧ f ≤ y.length ∧ x.drop e = y.drop f

/-- the state of the loop: the hunks that are written end at a; a chunk that begins at c has the lines ct, up to d -/
structure DS (x y : List ByteArray) (hs : List Hk) (a1 a2 c1 c2 d1 d2 : Nat) (ct : List Ln) : Prop where
  chain : Chain x y 0 0 hs a1 a2
  le : a1 ≤ c1
  gap : c1 + a2 = c2 + a1
  same : seg x a1 c1 = seg y a2 c2
  lo : c1 ≤ d1
  hi : d1 ≤ x.length
  lo2 : c2 ≤ d2
  hi2 : d2 ≤ y.length
  ol : olds ct = seg x c1 d1
  nw : news ct = seg y c2 d2
  sg : Signs ct

variable {x y : List ByteArray} {hs : List Hk} {a1 a2 c1 c2 d1 d2 : Nat} {ct : List Ln}

theorem DS.start (x y : List ByteArray) : DS x y [] 0 0 0 0 0 0 [] :=
  ⟨⟨rfl, rfl⟩, Nat.le_refl _, rfl, by simp [seg], Nat.le_refl _, Nat.zero_le _, Nat.le_refl _, Nat.zero_le _, by simp [olds, seg], by simp [news, seg], fun _ h => by cases h⟩
theorem DS.del (h : DS x y hs a1 a2 c1 c2 d1 d2 ct) {s : Nat} (h1 : d1 ≤ s) (h2 : s ≤ x.length) : DS x y hs a1 a2 c1 c2 s d2 (ct ++ signed 45 (seg x d1 s)) :=
  ⟨h.chain, h.le, h.gap, h.same, Nat.le_trans h.lo h1, h2, h.lo2, h.hi2, by rw [olds_app, olds_signed, h.ol, if_neg (by decide), seg_append _ h.lo h1], by rw [news_app, news_signed, h.nw, if_pos rfl, List.append_nil], h.sg.app (Signs.signed (by simp) _)⟩
theorem DS.add (h : DS x y hs a1 a2 c1 c2 d1 d2 ct) {s : Nat} (h1 : d2 ≤ s) (h2 : s ≤ y.length) : DS x y hs a1 a2 c1 c2 d1 s (ct ++ signed 43 (seg y d2 s)) :=
  ⟨h.chain, h.le, h.gap, h.same, h.lo, h.hi, Nat.le_trans h.lo2 h1, h2, by rw [olds_app, olds_signed, h.ol, if_pos rfl, List.append_nil], by rw [news_app, news_signed, h.nw, if_neg (by decide), seg_append _ h.lo2 h1], h.sg.app (Signs.signed (by simp) _)⟩
theorem DS.ctx (h : DS x y hs a1 a2 c1 c2 d1 d2 ct) {n : Nat} (h1 : d1 + n ≤ x.length) (h2 : d2 + n ≤ y.length) (he : seg x d1 (d1 + n) = seg y d2 (d2 + n)) : DS x y hs a1 a2 c1 c2 (d1 + n) (d2 + n) (ct ++ signed 32 (seg x d1 (d1 + n))) :=
  ⟨h.chain, h.le, h.gap, h.same, by have := h.lo; omega, h1, by have := h.lo2; omega, h2, by rw [olds_app, olds_signed, h.ol, if_neg (by decide), seg_append _ h.lo (by omega)], by rw [news_app, news_signed, h.nw, if_neg (by decide), he, seg_append _ h.lo2 (by omega)], h.sg.app (Signs.signed (by simp) _)⟩
theorem DS.ctx2 (h : DS x y hs a1 a2 c1 c2 d1 d2 ct) {S1 S2 : Nat} (h0 : d1 ≤ S1) (hg : S1 - d1 = S2 - d2) (h1 : S1 ≤ x.length) (h2 : d2 ≤ S2 ∧ S2 ≤ y.length) (he : seg x d1 S1 = seg y d2 S2) : DS x y hs a1 a2 c1 c2 S1 S2 (ct ++ signed 32 (seg x d1 S1)) := by
  have := h.ctx (n := S1 - d1) (by omega) (by omega) (by rw [show d1 + (S1 - d1) = S1 by omega, show d2 + (S1 - d1) = S2 by omega]; exact he)
  rwa [show d1 + (S1 - d1) = S1 by omega, show d2 + (S1 - d1) = S2 by omega] at this
/-- the chunk is written -/
theorem DS.emit (h : DS x y hs a1 a2 c1 c2 d1 d2 ct) (hne : ct ≠ []) : DS x y (hs ++ [⟨c1, c2, ct⟩]) d1 d2 d1 d2 d1 d2 [] :=
  ⟨Chain.snoc ⟨h.le, h.gap, h.same, h.lo, h.hi, h.lo2, h.hi2, h.ol, h.nw, hne, h.sg⟩ h.chain, Nat.le_refl _, by omega, by simp [seg], Nat.le_refl _, h.hi, Nat.le_refl _, h.hi2, by simp [olds, seg], by simp [news, seg], fun _ h => by cases h⟩
theorem lines_len (ls : List Ln) : ls.length ≤ (olds ls).length + (news ls).length := by
  induction ls with
  | nil => simp [olds, news]
  | cons a t ih =>
    simp only [olds, news, List.filter_cons, List.length_map] at ih ⊢
    by_cases e : a.1 = 43
    · simp [e]; omega
    · by_cases e2 : a.1 = 45
      · simp [e2]; omega
      · simp [e, e2]; omega
theorem DS.ct_len (h : DS x y hs a1 a2 c1 c2 d1 d2 ct) : ct.length ≤ (d1 - c1) + (d2 - c2) := by
  have := lines_len ct
  rwa [h.ol, h.nw, seg_len _ _ _ h.hi, seg_len _ _ _ h.hi2] at this
theorem DS.room (h : DS x y hs a1 a2 c1 c2 d1 d2 ct) : a1 ≤ x.length ∧ a2 ≤ y.length := by
  have := h.le; have := h.gap; have := h.lo; have := h.hi; have := h.lo2; have := h.hi2
  omega
theorem DS.ct_mem (h : DS x y hs a1 a2 c1 c2 d1 d2 ct) (p : Ln) (hp : p ∈ ct) : p.2 ∈ x ∨ p.2 ∈ y := by
  by_cases e : p.1 = 43
  · refine Or.inr (List.mem_of_mem_drop (i := c2) (List.mem_of_mem_take (i := d2 - c2) ?_))
    have := h.nw
    unfold seg at this
    rw [← this]
    exact List.mem_map.2 ⟨p, List.mem_filter.2 ⟨hp, by simp [e]⟩, rfl⟩
  · refine Or.inl (List.mem_of_mem_drop (i := c1) (List.mem_of_mem_take (i := d1 - c1) ?_))
    have := h.ol
    unfold seg at this
    rw [← this]
    exact List.mem_map.2 ⟨p, List.mem_filter.2 ⟨hp, by simp [e]⟩, rfl⟩
/-- without lines nothing is covered -/
theorem DS.empty (h : DS x y hs a1 a2 c1 c2 d1 d2 []) : c1 = d1 ∧ c2 = d2 := by
  have e1 := congrArg List.length h.ol
  have e2 := congrArg List.length h.nw
  rw [seg_len _ _ _ h.hi] at e1
  rw [seg_len _ _ _ h.hi2] at e2
  have := h.lo; have := h.lo2
  simp [olds] at e1
  simp [news] at e2
  omega
/-- a new chunk, n equal lines on -/
theorem DS.skip (h : DS x y hs a1 a2 c1 c2 d1 d2 []) {n : Nat} (h1 : d1 + n ≤ x.length) (h2 : d2 + n ≤ y.length) (he : seg x d1 (d1 + n) = seg y d2 (d2 + n)) : DS x y hs a1 a2 (d1 + n) (d2 + n) (d1 + n) (d2 + n) [] := by
  obtain ⟨rfl, rfl⟩ := h.empty
  have hle := h.le
  have hg := h.gap
  exact ⟨h.chain, by omega, by omega, by rw [← seg_append x h.le (by omega), ← seg_append y (j := c2) (by omega) (by omega), h.same, he], Nat.le_refl _, h1, Nat.le_refl _, h2, by simp [olds, seg], by simp [news, seg], fun _ h => by cases h⟩
theorem DS.skip2 (h : DS x y hs a1 a2 c1 c2 d1 d2 []) {S1 S2 : Nat} (h0 : d1 ≤ S1) (hg : S1 - d1 = S2 - d2) (h1 : S1 ≤ x.length) (h2 : d2 ≤ S2 ∧ S2 ≤ y.length) (he : seg x d1 S1 = seg y d2 S2) : DS x y hs a1 a2 S1 S2 S1 S2 [] := by
  have := h.skip (n := S1 - d1) (by omega) (by omega) (by rw [show d1 + (S1 - d1) = S1 by omega, show d2 + (S1 - d1) = S2 by omega]; exact he)
  rwa [show d1 + (S1 - d1) = S1 by omega, show d2 + (S1 - d1) = S2 by omega] at this
/-- the end -/
theorem DS.done (h : DS x y hs a1 a2 c1 c2 d1 d2 []) (he : x.drop d1 = y.drop d2) : Leads x y hs := by
  obtain ⟨rfl, rfl⟩ := h.empty
  have hle := h.le
  have hg := h.gap
  have hhi := h.hi
  have hhi2 := h.hi2
  refine ⟨a1, a2, h.chain, by omega, by omega, ?_⟩
  rw [← seg_all, ← seg_all, ← seg_append x h.le h.hi, ← seg_append y (i := a2) (j := c2) (by omega) h.hi2, h.same, seg_all, seg_all, he]
/-- hunks there are, if the texts differ -/
theorem Leads.some (h : Leads x y hs) (hne : x ≠ y) : hs ≠ [] := by
  rintro rfl
  obtain ⟨e, f, ⟨rfl, rfl⟩, _, _, h3⟩ := h
  exact hne (by simpa using h3)

/-- what tgs's pairs give: a pair that is not behind the end of a match in x is not behind it in y -/
theorem Good.after {seq : List (Nat × Nat)} (hG : Tg.Good x y seq) {q q' m1 m2 p1 p2 u : Nat} (hq : q < q') (h1 : seq[q]? = some (m1, m2)) (h2 : seq[q']? = some (p1, p2)) (hu : seg x m1 (m1 + u) = seg y m2 (m2 + u)) (hy : m2 + u ≤ y.length) (hp : m1 + u ≤ p1) : m2 + u ≤ p2 := by
  have hup := hG.up q q' _ _ (by omega) h1 h2
  simp only at hup
  have hl := (List.getElem?_eq_some_iff.1 h2).1
  by_cases hlast : q' + 1 < seq.length
  · obtain ⟨r1, r2, r3, r4⟩ := hG.mid q' p1 p2 (by omega) hlast h2
    rcases Nat.lt_or_ge p2 (m2 + u) with c | c
    · have hk := seg_eq_get hu (k := p2 - m2) (by omega)
      rw [show m2 + (p2 - m2) = p2 by omega, ← r3] at hk
      have := r4 _ hk
      omega
    · exact c
  · have e : q' = seq.length - 1 := by omega
    have := hG.last
    rw [← e, h2] at this
    injection this with this
    injection this with _ this
    omega

theorem good_of_bytes {seq : List (Nat × Nat)} (h : Tg.Good (x.map fun s => s.data.toList) (y.map fun s => s.data.toList) seq) : Tg.Good x y seq := by
  have inj : ∀ a b : ByteArray, a.data.toList = b.data.toList → a = b := by
    intro a b e
    exact ByteArray.ext (Array.toList_inj.1 e)
  have ho : ∀ a b : Option ByteArray, a.map (fun s => s.data.toList) = b.map (fun s => s.data.toList) → a = b := by
    intro a b e
    match a, b, e with
    | none, none, _ => rfl
    | some a, some b, e => exact congrArg some (inj a b (Option.some.inj e))
  refine ⟨h.two, h.head, by simpa using h.last, fun q a b h1 h2 h3 => ?_, h.up⟩
  obtain ⟨r1, r2, r3, r4⟩ := h.mid q a b h1 h2 h3
  simp only [List.getElem?_map, List.length_map] at r1 r2 r3 r4
  exact ⟨r1, r2, ho _ _ r3, fun i hi => r4 i (by rw [hi])⟩

end Go.Proofs.YtplbifmjnanceaaDoor.Dp

namespace Go.Proofs.YtplbifmjnanceaaDoor
open Go.RowKit Go.Proofs.YtplbifmjnanceaaDoorW.PrintWords Go.Proofs.YtplbifmjnanceaaDoorW.PrintLast Go.Proofs.YtplbifmjnanceaaDoorW.PrintMore
set_option linter.unusedVariables false

theorem grownBy_put (w : World) {g t : Nat} {cs : Array Value} (h : w.heap[g]? = some (.cells cs t (0, 0))) (i : Nat) (u : Value) : w.grownBy (w.setCell ⟨g, i, none⟩ u) (some g) :=
  ⟨rfl, rfl, rfl, by simp [World.setCell], fun k _ hk => Below.heap_setCell w _ u k (fun e => hk (by rw [e]))⟩

/-- a buffer stays one while another block, of no buffer and no bytes, is written -/
theorem buf_grown {T e B b : Nat} {bs : List Value} {w w1 : World} {row : Option Nat} (h : Lib.IsBuffer T e B b bs w) (hg : w.grownBy w1 row) (hr : ∀ g, row = some g → ∃ cs t fz, w.heap[g]? = some (.cells cs t fz) ∧ t ≠ T ∧ t ≠ e) : Lib.IsBuffer T e B b bs w1 := by
  obtain ⟨hB, v, lr, hbk, hown, hne⟩ := h
  have n1 : some b ≠ row := by
    intro eq
    obtain ⟨cs, t, fz, h1, h2, _⟩ := hr b eq.symm
    rw [hbk] at h1
    injection h1 with h1
    injection h1 with _ h1
    exact h2 h1.symm
  refine ⟨hB, v, lr, blk_grown hbk hg n1, own_other hown hg ?_, hne⟩
  cases e1 : v.ownBlock with
  | none => exact Or.inl rfl
  | some g =>
    refine Or.inr ?_
    intro eq
    obtain ⟨cs, t, fz, h1, _, h3⟩ := hr g eq.symm
    obtain ⟨cells, hc⟩ := own_typed hown g e1
    rw [hc] at h1
    injection h1 with h1
    injection h1 with _ h1
    exact h3 h1.symm

/-- a box of a pair -/
def Box (w : World) (g : Nat) (a b : Int) : Prop := w.heap[g]? = some (.cells #[.int .i64 a, .int .i64 b] 68 (0, 0))
theorem Box.c0 {w : World} {g : Nat} {a b : Int} (h : Box w g a b) : w.cell? ⟨g, 0, none⟩ = some (.int .i64 a) := (blk_cell h 0).trans rfl
theorem Box.c1 {w : World} {g : Nat} {a b : Int} (h : Box w g a b) : w.cell? ⟨g, 1, none⟩ = some (.int .i64 b) := (blk_cell h 1).trans rfl
theorem Box.f {w : World} {g : Nat} {a b : Int} (h : Box w g a b) (i : Nat) : w.frozen? ⟨g, i, none⟩ = false := blk_frozen h i
theorem Box.lt {w : World} {g : Nat} {a b : Int} (h : Box w g a b) : g < w.heap.size := blk_lt h
theorem Box.set0 {w : World} {g : Nat} {a b : Int} (h : Box w g a b) (x : Int) : Box (w.setCell ⟨g, 0, none⟩ (.int .i64 x)) g x b := blk_put h 0 _ rfl
theorem Box.set1 {w : World} {g : Nat} {a b : Int} (h : Box w g a b) (x : Int) : Box (w.setCell ⟨g, 1, none⟩ (.int .i64 x)) g a x := blk_put h 1 _ rfl
theorem Box.new (w : World) (a b : Int) : Box (w.alloc (.cells #[.int .i64 a, .int .i64 b] 68)) w.heap.size a b := blk_new w _
theorem Box.grown {w w1 : World} {g : Nat} {a b : Int} {row : Option Nat} (h : Box w g a b) (hg : w.grownBy w1 row) (hne : some g ≠ row) : Box w1 g a b := blk_grown h hg hne
theorem Box.below {w w1 : World} {g : Nat} {a b : Int} (h : Box w g a b) (hb : Below w.heap.size w w1) : Box w1 g a b := blk_below h hb

theorem Box.putc {w : World} {k g : Nat} {a b x y : Int} (h : Box w k x y) (hg : Box w g a b) (hne : k ≠ g) (i : Nat) (u : Value) : Box (w.setCell ⟨g, i, none⟩ u) k x y := h.grown (grownBy_put w hg i u) (fun e => by injection e with e; exact hne e)
theorem Box.put2 {w : World} {k g : Nat} {a b x y : Int} (h : Box w k x y) (hg : Box w g a b) (hne : k ≠ g) (c d : Int) : Box ((w.setCell ⟨g, 0, none⟩ (.int .i64 c)).setCell ⟨g, 1, none⟩ (.int .i64 d)) k x y := (h.putc hg hne 0 _).putc (hg.set0 c) hne 1 _

/-- boxes but g stay -/
def Kp (g : Option Nat) (w w1 : World) : Prop := ∀ k a b, Box w k a b → some k ≠ g → Box w1 k a b
theorem Kp.refl (g : Option Nat) (w : World) : Kp g w w := fun _ _ _ h _ => h
theorem Kp.trans {g : Option Nat} {a b c : World} (h : Kp g a b) (k : Kp g b c) : Kp g a c := fun i x y hb hn => k i x y (h i x y hb hn) hn
theorem Kp.of_below {g : Option Nat} {w w1 : World} (h : Below w.heap.size w w1) : Kp g w w1 := fun _ _ _ hb _ => hb.below h
theorem Kp.none_any {g : Option Nat} {w w1 : World} (h : Kp none w w1) : Kp g w w1 := fun i x y hb _ => h i x y hb (by simp)

/-- What Diff holds. W0: the world before the buffer was made; B: its size. -/
structure Dw (W0 : World) (gb gd gc gk q : Nat) (txt : List UInt8) (d1 d2 c1 c2 k1 k2 : Int) (v : Value) (l : List ByteArray) (sv : Value) (seq : List (Nat × Nat)) (w : World) : Prop where
  buf : Lib.IsBuffer 62 5 W0.heap.size gb (Lib.byteCells txt) w
  bd : Box w gd d1 d2
  bc : Box w gc c1 c2
  bk : Box w gk k1 k2
  ct : Kd.string.R 9 w W0.heap.size (fun _ => True) v l
  sq : PairsAt w q sv seq
  dc : gd ≠ gc
  dk : gd ≠ gk
  ck : gc ≠ gk
  ld : W0.heap.size ≤ gd
  lc : W0.heap.size ≤ gc
  lk : W0.heap.size ≤ gk
  ud : gd < q
  uc : gc < q
  uk : gk < q
  bel : Below W0.heap.size W0 w

section
variable {W0 w w1 : World} {gb gd gc gk q : Nat} {txt : List UInt8} {d1 d2 c1 c2 k1 k2 : Int} {v v1 sv : Value} {l l1 : List ByteArray} {seq : List (Nat × Nat)}

theorem Dw.below (h : Dw W0 gb gd gc gk q txt d1 d2 c1 c2 k1 k2 v l sv seq w) (hb : Below w.heap.size w w1) : Dw W0 gb gd gc gk q txt d1 d2 c1 c2 k1 k2 v l sv seq w1 :=
  ⟨h.buf.old hb, h.bd.below hb, h.bc.below hb, h.bk.below hb, Kd.R_below h.ct hb, h.sq.below hb, h.dc, h.dk, h.ck, h.ld, h.lc, h.lk, h.ud, h.uc, h.uk, h.bel.trans (hb.mono h.bel.size)⟩
theorem Dw.alloc (h : Dw W0 gb gd gc gk q txt d1 d2 c1 c2 k1 k2 v l sv seq w) (o : Obj) : Dw W0 gb gd gc gk q txt d1 d2 c1 c2 k1 k2 v l sv seq (w.alloc o) := h.below (below_alloc (Below.refl _ _) o)

/-- a store into a box of a pair, that is none of done's, chunk's, count's -/
theorem Dw.other (h : Dw W0 gb gd gc gk q txt d1 d2 c1 c2 k1 k2 v l sv seq w) {g : Nat} {a b : Int} (hb : Box w g a b) (i : Nat) (u : Value) (h1 : gd ≠ g) (h2 : gc ≠ g) (h3 : gk ≠ g) (h4 : W0.heap.size ≤ g) (h5 : sv.ownBlock ≠ some g) : Dw W0 gb gd gc gk q txt d1 d2 c1 c2 k1 k2 v l sv seq (w.setCell ⟨g, i, none⟩ u) := by
  have hg := grownBy_put w hb i u
  refine ⟨buf_grown h.buf hg (fun g' e => ?_), h.bd.grown hg (fun e => by injection e with e; exact h1 e), h.bc.grown hg (fun e => by injection e with e; exact h2 e), h.bk.grown hg (fun e => by injection e with e; exact h3 e), ?_, h.sq.kept hg (fun k hk e => by rw [hk] at h5; exact h5 e), h.dc, h.dk, h.ck, h.ld, h.lc, h.lk, h.ud, h.uc, h.uk, h.bel.trans ((Below.refl _ _).setCell h4 _)⟩
  · cases e; exact ⟨_, _, _, hb, by decide, by decide⟩
  · exact Kd.R_set h.ct hb (by intro t ht; simp [Kd.string, Kd.scalar] at ht; subst ht; decide) i u

theorem Dw.readSeq {S : Option Addr} {cs : Nat} (h : Dw W0 gb gd gc gk q txt d1 d2 c1 c2 k1 k2 v l (.slice S seq.length cs) seq w) : kP.C w S seq.length (prs seq) := by
  obtain ⟨A, c, e, _, hC⟩ := h.sq.reads
  injection e with e
  subst e
  exact hC
theorem Dw.ltk (h : Dw W0 gb gd gc gk q txt d1 d2 c1 c2 k1 k2 v l sv seq w) : gk < w.heap.size := h.bk.lt
theorem Dw.seq_lt (h : Dw W0 gb gd gc gk q txt d1 d2 c1 c2 k1 k2 v l sv seq w) (k : Nat) (hk : sv.ownBlock = some k) : k < w.heap.size := by
  obtain ⟨i, ho⟩ := Kd.R_own h.sq
  exact own_lt ho k hk
theorem Dw.not_seq (h : Dw W0 gb gd gc gk q txt d1 d2 c1 c2 k1 k2 v l sv seq w) {g : Nat} (hg : g < q) : sv.ownBlock ≠ some g := fun e => by
  have := h.sq.ge g e
  omega

theorem Dw.setK0 (h : Dw W0 gb gd gc gk q txt d1 d2 c1 c2 k1 k2 v l sv seq w) (x : Int) : Dw W0 gb gd gc gk q txt d1 d2 c1 c2 x k2 v l sv seq (w.setCell ⟨gk, 0, none⟩ (.int .i64 x)) := by
  have hg := grownBy_put w h.bk 0 (.int .i64 x)
  refine ⟨buf_grown h.buf hg (fun g' e => ?_), h.bd.grown hg (fun e => by injection e with e; exact h.dk e), h.bc.grown hg (fun e => by injection e with e; exact h.ck e), h.bk.set0 x, ?_, h.sq.kept hg (fun k hk e => h.not_seq h.uk (hk.trans e)), h.dc, h.dk, h.ck, h.ld, h.lc, h.lk, h.ud, h.uc, h.uk, h.bel.trans ((Below.refl _ _).setCell h.lk _)⟩
  · cases e; exact ⟨_, _, _, h.bk, by decide, by decide⟩
  · exact Kd.R_set h.ct h.bk (by intro t ht; simp [Kd.string, Kd.scalar] at ht; subst ht; decide) 0 _
theorem Dw.setK1 (h : Dw W0 gb gd gc gk q txt d1 d2 c1 c2 k1 k2 v l sv seq w) (x : Int) : Dw W0 gb gd gc gk q txt d1 d2 c1 c2 k1 x v l sv seq (w.setCell ⟨gk, 1, none⟩ (.int .i64 x)) := by
  have hg := grownBy_put w h.bk 1 (.int .i64 x)
  refine ⟨buf_grown h.buf hg (fun g' e => ?_), h.bd.grown hg (fun e => by injection e with e; exact h.dk e), h.bc.grown hg (fun e => by injection e with e; exact h.ck e), h.bk.set1 x, ?_, h.sq.kept hg (fun k hk e => h.not_seq h.uk (hk.trans e)), h.dc, h.dk, h.ck, h.ld, h.lc, h.lk, h.ud, h.uc, h.uk, h.bel.trans ((Below.refl _ _).setCell h.lk _)⟩
  · cases e; exact ⟨_, _, _, h.bk, by decide, by decide⟩
  · exact Kd.R_set h.ct h.bk (by intro t ht; simp [Kd.string, Kd.scalar] at ht; subst ht; decide) 1 _
theorem Dw.setD0 (h : Dw W0 gb gd gc gk q txt d1 d2 c1 c2 k1 k2 v l sv seq w) (x : Int) : Dw W0 gb gd gc gk q txt x d2 c1 c2 k1 k2 v l sv seq (w.setCell ⟨gd, 0, none⟩ (.int .i64 x)) := by
  have hg := grownBy_put w h.bd 0 (.int .i64 x)
  refine ⟨buf_grown h.buf hg (fun g' e => ?_), h.bd.set0 x, h.bc.grown hg (fun e => by injection e with e; exact h.dc e.symm), h.bk.grown hg (fun e => by injection e with e; exact h.dk e.symm), ?_, h.sq.kept hg (fun k hk e => h.not_seq h.ud (hk.trans e)), h.dc, h.dk, h.ck, h.ld, h.lc, h.lk, h.ud, h.uc, h.uk, h.bel.trans ((Below.refl _ _).setCell h.ld _)⟩
  · cases e; exact ⟨_, _, _, h.bd, by decide, by decide⟩
  · exact Kd.R_set h.ct h.bd (by intro t ht; simp [Kd.string, Kd.scalar] at ht; subst ht; decide) 0 _
theorem Dw.setD1 (h : Dw W0 gb gd gc gk q txt d1 d2 c1 c2 k1 k2 v l sv seq w) (x : Int) : Dw W0 gb gd gc gk q txt d1 x c1 c2 k1 k2 v l sv seq (w.setCell ⟨gd, 1, none⟩ (.int .i64 x)) := by
  have hg := grownBy_put w h.bd 1 (.int .i64 x)
  refine ⟨buf_grown h.buf hg (fun g' e => ?_), h.bd.set1 x, h.bc.grown hg (fun e => by injection e with e; exact h.dc e.symm), h.bk.grown hg (fun e => by injection e with e; exact h.dk e.symm), ?_, h.sq.kept hg (fun k hk e => h.not_seq h.ud (hk.trans e)), h.dc, h.dk, h.ck, h.ld, h.lc, h.lk, h.ud, h.uc, h.uk, h.bel.trans ((Below.refl _ _).setCell h.ld _)⟩
  · cases e; exact ⟨_, _, _, h.bd, by decide, by decide⟩
  · exact Kd.R_set h.ct h.bd (by intro t ht; simp [Kd.string, Kd.scalar] at ht; subst ht; decide) 1 _
theorem Dw.setC0 (h : Dw W0 gb gd gc gk q txt d1 d2 c1 c2 k1 k2 v l sv seq w) (x : Int) : Dw W0 gb gd gc gk q txt d1 d2 x c2 k1 k2 v l sv seq (w.setCell ⟨gc, 0, none⟩ (.int .i64 x)) := by
  have hg := grownBy_put w h.bc 0 (.int .i64 x)
  refine ⟨buf_grown h.buf hg (fun g' e => ?_), h.bd.grown hg (fun e => by injection e with e; exact h.dc e), h.bc.set0 x, h.bk.grown hg (fun e => by injection e with e; exact h.ck e.symm), ?_, h.sq.kept hg (fun k hk e => h.not_seq h.uc (hk.trans e)), h.dc, h.dk, h.ck, h.ld, h.lc, h.lk, h.ud, h.uc, h.uk, h.bel.trans ((Below.refl _ _).setCell h.lc _)⟩
  · cases e; exact ⟨_, _, _, h.bc, by decide, by decide⟩
  · exact Kd.R_set h.ct h.bc (by intro t ht; simp [Kd.string, Kd.scalar] at ht; subst ht; decide) 0 _
theorem Dw.setC1 (h : Dw W0 gb gd gc gk q txt d1 d2 c1 c2 k1 k2 v l sv seq w) (x : Int) : Dw W0 gb gd gc gk q txt d1 d2 c1 x k1 k2 v l sv seq (w.setCell ⟨gc, 1, none⟩ (.int .i64 x)) := by
  have hg := grownBy_put w h.bc 1 (.int .i64 x)
  refine ⟨buf_grown h.buf hg (fun g' e => ?_), h.bd.grown hg (fun e => by injection e with e; exact h.dc e), h.bc.set1 x, h.bk.grown hg (fun e => by injection e with e; exact h.ck e.symm), ?_, h.sq.kept hg (fun k hk e => h.not_seq h.uc (hk.trans e)), h.dc, h.dk, h.ck, h.ld, h.lc, h.lk, h.ud, h.uc, h.uk, h.bel.trans ((Below.refl _ _).setCell h.lc _)⟩
  · cases e; exact ⟨_, _, _, h.bc, by decide, by decide⟩
  · exact Kd.R_set h.ct h.bc (by intro t ht; simp [Kd.string, Kd.scalar] at ht; subst ht; decide) 1 _
theorem Kp.put {g : Nat} {a b : Int} (h : Box w g a b) (i : Nat) (u : Value) : Kp (some g) w (w.setCell ⟨g, i, none⟩ u) := fun k x y hk hn => hk.grown (grownBy_put w h i u) hn

/-- an append to the chunk's lines -/
theorem Dw.append (h : Dw W0 gb gd gc gk q txt d1 d2 c1 c2 k1 k2 v l sv seq w) (ho : Kd.string.R 9 w1 W0.heap.size (fun _ => True) v1 l1) (hg : w.grownBy w1 v.ownBlock) : Dw W0 gb gd gc gk q txt d1 d2 c1 c2 k1 k2 v1 l1 sv seq w1 ∧ Kp none w w1 := by
  have ht : ∀ g, v.ownBlock = some g → ∃ cs, w.heap[g]? = some (.cells cs 9 (0, 0)) := fun g hk => by
    obtain ⟨inner, hown⟩ := Kd.R_own h.ct
    exact own_typed hown g hk
  have hbx : ∀ k a b, Box w k a b → some k ≠ v.ownBlock := fun k a b hk e => by
    obtain ⟨cs, hc⟩ := ht k e.symm
    have h2 := hc.symm.trans hk
    injection h2 with h2
    injection h2 with _ h2
    exact absurd h2 (by decide)
  have hl : ∀ k, v.ownBlock = some k → W0.heap.size ≤ k := fun k hk => by
    obtain ⟨inner, hown⟩ := Kd.R_own h.ct
    exact own_base hown k hk
  refine ⟨⟨buf_grown h.buf hg (fun g' e => ?_), h.bd.grown hg (hbx _ _ _ h.bd), h.bc.grown hg (hbx _ _ _ h.bc), h.bk.grown hg (hbx _ _ _ h.bk), ho, ?_, h.dc, h.dk, h.ck, h.ld, h.lc, h.lk, h.ud, h.uc, h.uk, h.bel.grown hg h.bel.size hl⟩, fun k a b hk _ => hk.grown hg (hbx k a b hk)⟩
  · obtain ⟨cs, hc⟩ := ht g' e
    exact ⟨_, _, _, hc, by decide, by decide⟩
  · exact Kd.R_over h.sq h.ct (by intro t ht; simp [kP, Kd.pair, Kd.int, Kd.scalar] at ht; subst ht; decide) hg

theorem Dw.recut {A : Option Addr} {n c : Nat} (h : Dw W0 gb gd gc gk q txt d1 d2 c1 c2 k1 k2 (.slice A n c) l sv seq w) : Dw W0 gb gd gc gk q txt d1 d2 c1 c2 k1 k2 (.slice A 0 c) [] sv seq w :=
  { h with ct := by simpa using Kd.R_take h.ct (m := 0) (Nat.zero_le _) }
/-- a write into the buffer -/
theorem Dw.write {txt1 : List UInt8} (h : Dw W0 gb gd gc gk q txt d1 d2 c1 c2 k1 k2 v l sv seq w) (hb : Lib.IsBuffer 62 5 W0.heap.size gb (Lib.byteCells txt1) w1) (hB : Below W0.heap.size w w1) (hk : Lib.OthersKept 5 (some gb) w w1) : Dw W0 gb gd gc gk q txt1 d1 d2 c1 c2 k1 k2 v l sv seq w1 ∧ Kp none w w1 := by
  have hnb : ∀ (k : Nat) (cs : Array Value) (t : Nat), w.heap[k]? = some (Obj.cells cs t (0, 0)) → t ≠ 62 → some k ≠ some gb := fun k cs t hx ht e => by
    injection e with e
    obtain ⟨_, v', lr, hbk, _⟩ := h.buf
    rw [e, hbk] at hx
    injection hx with hx
    injection hx with _ hx
    exact ht hx.symm
  have hkp : ∀ (k : Nat) (cs : Array Value) (t : Nat), w.heap[k]? = some (Obj.cells cs t (0, 0)) → t ≠ 62 → t ≠ 5 → w1.heap[k]? = some (Obj.cells cs t (0, 0)) := fun k cs t hh h1 h2 =>
    hk k _ hh (hnb k cs t hh h1) (fun c fz (e : Obj.cells cs t (0, 0) = Obj.cells c 5 fz) => by injection e with _ e; exact h2 e)
  have hbx : ∀ k a b, Box w k a b → Box w1 k a b := fun k a b hh => hkp k _ _ hh (by decide) (by decide)
  refine ⟨⟨hb, hbx _ _ _ h.bd, hbx _ _ _ h.bc, hbx _ _ _ h.bk, ?_, ?_, h.dc, h.dk, h.ck, h.ld, h.lc, h.lk, h.ud, h.uc, h.uk, h.bel.trans hB⟩, fun k a b hh _ => hbx k a b hh⟩
  · refine Kd.R_mono (Kd.R_move (Kd.R_bound h.ct) (fun k hk2 => ?_)) (fun _ _ => trivial)
    obtain ⟨_, _, _, t, ht, cells, hc⟩ := hk2
    simp [Kd.string, Kd.scalar] at ht
    subst ht
    exact (hkp k _ _ hc (by decide) (by decide)).trans hc.symm
  · refine Kd.R_mono (Kd.R_move (Kd.R_bound h.sq) (fun k hk2 => ?_)) (fun _ _ => trivial)
    obtain ⟨_, _, _, t, ht, cells, hc⟩ := hk2
    simp [kP, Kd.pair, Kd.int, Kd.scalar] at ht
    subst ht
    exact (hkp k _ _ hc (by decide) (by decide)).trans hc.symm
end
end Go.Proofs.YtplbifmjnanceaaDoor

namespace Go.Proofs.YtplbifmjnanceaaDoor
open Go.RowKit
set_option linter.unusedVariables false

def sl (l : List Value) : Nat → Value := fun i => l.getD i undef
def FrOf (n : Nat) (u : Nat → Value) : List Value := (List.range n).map u
theorem frOf_sl (n : Nat) (l : List Value) (h : l.length = n) : FrOf n (sl l) = l := by
  unfold FrOf sl
  apply List.ext_getElem
  · simp [h]
  · intro i h1 h2
    simp [h2]

theorem cutU {P : Program} {s : Code} {K : Act → World → Prop} {Q' : Exit → Act → World → Prop} {l : List Value} {w : World} (n : Nat) (R : (Nat → Value) → World → Prop)
    (rest : ∀ u w', R u w' → K ⟨(FrOf n u).toArray, []⟩ w')
    (first : ∀ (J K' : Act → World → Prop), (∀ l' w', List.length l' = n → R (sl l') w' → J ⟨l'.toArray, []⟩ w') → (∀ a' w', Met J a' w' → K' a' w') → s.wp P (Exit.then K' Q') ⟨l.toArray, []⟩ w) : s.wp P (Exit.then K Q') ⟨l.toArray, []⟩ w := by
  refine wp_cut (fun a' w' => ∃ l' : List Value, l'.length = n ∧ R (sl l') w' ∧ a' = ⟨l'.toArray, []⟩) ?_ ?_
  · rintro a' w' ⟨l', hl, hR, rfl⟩
    have := rest _ _ hR
    rwa [frOf_sl n l' hl] at this
  · intro J K' hJ hK
    exact first J K' (fun l' w' hl hR => hJ _ _ ⟨l', hl, hR, rfl⟩) hK

theorem loopU {P : Program} {c : Code} {Q : Exit → Act → World → Prop} {l : List Value} {w : World} (n : Nat) (R : (Nat → Value) → World → Prop) (m : (Nat → Value) → World → Nat) (hl : l.length = n) (h0 : R (sl l) w)
    (round : ∀ u w', R u w' → ∀ (J K' : Act → World → Prop), (∀ l' w'', List.length l' = n → m (sl l') w'' < m u w' → R (sl l') w'' → J ⟨l'.toArray, []⟩ w'') → (∀ a' w', Met J a' w' → K' a' w') → c.wp P (Exit.then K' Q) ⟨(FrOf n u).toArray, []⟩ w') : (Code.loop c).wp P Q ⟨l.toArray, []⟩ w := by
  refine wp_loop (fun a' w' => ∃ l' : List Value, l'.length = n ∧ R (sl l') w' ∧ a' = ⟨l'.toArray, []⟩) (fun a' w' => m (sl a'.tmps.toList) w') ⟨l, hl, h0, rfl⟩ ?_
  rintro a' w' ⟨l', hl', hR, rfl⟩
  have := round _ _ hR (fun a w'' => (∃ l' : List Value, l'.length = n ∧ R (sl l') w'' ∧ a = ⟨l'.toArray, []⟩) ∧ m (sl a.tmps.toList) w'' < m (sl l') w') _ (fun l2 w2 h1 h2 h3 => ⟨⟨l2, h1, h3, rfl⟩, h2⟩) (fun _ _ h => h)
  rwa [frOf_sl n l' hl'] at this

theorem loopG {P : Program} {c : Code} {Q : Exit → Act → World → Prop} {l : List Value} {w : World} (n : Nat) (R : Nat → (Nat → Value) → World → Prop) (g0 : Nat) (hl : l.length = n) (h0 : R g0 (sl l) w)
    (round : ∀ g u w', R g u w' → ∀ (J K' : Act → World → Prop), (∀ g' l' w'', List.length l' = n → g' < g → R g' (sl l') w'' → J ⟨l'.toArray, []⟩ w'') → (∀ a' w', Met J a' w' → K' a' w') → c.wp P (Exit.then K' Q) ⟨(FrOf n u).toArray, []⟩ w') : (Code.loop c).wp P Q ⟨l.toArray, []⟩ w := by
  refine wp_loop_ghost (fun g a' w' => ∃ l' : List Value, l'.length = n ∧ R g (sl l') w' ∧ a' = ⟨l'.toArray, []⟩) g0 ⟨l, hl, h0, rfl⟩ ?_
  rintro g a' w' ⟨l', hl', hR, rfl⟩
  have := round g _ _ hR (fun a w'' => ∃ g', g' < g ∧ ∃ l' : List Value, l'.length = n ∧ R g' (sl l') w'' ∧ a = ⟨l'.toArray, []⟩) _ (fun g2 l2 w2 h1 h2 h3 => ⟨g2, h2, l2, h1, h3, rfl⟩) (fun _ _ h => h)
  rwa [frOf_sl n l' hl'] at this

set_option maxRecDepth 100000 in
theorem lit379 (u : Nat → Value) : FrOf 379 u = [u 0, u 1, u 2, u 3, u 4, u 5, u 6, u 7, u 8, u 9, u 10, u 11, u 12, u 13, u 14, u 15, u 16, u 17, u 18, u 19, u 20, u 21, u 22, u 23, u 24, u 25, u 26, u 27, u 28, u 29, u 30, u 31, u 32, u 33, u 34, u 35, u 36, u 37, u 38, u 39, u 40, u 41, u 42, u 43, u 44, u 45, u 46, u 47, u 48, u 49, u 50, u 51, u 52, u 53, u 54, u 55, u 56, u 57, u 58, u 59, u 60, u 61, u 62, u 63, u 64, u 65, u 66, u 67, u 68, u 69, u 70, u 71, u 72, u 73, u 74, u 75, u 76, u 77, u 78, u 79, u 80, u 81, u 82, u 83, u 84, u 85, u 86, u 87, u 88, u 89, u 90, u 91, u 92, u 93, u 94, u 95, u 96, u 97, u 98, u 99, u 100, u 101, u 102, u 103, u 104, u 105, u 106, u 107, u 108, u 109, u 110, u 111, u 112, u 113, u 114, u 115, u 116, u 117, u 118, u 119, u 120, u 121, u 122, u 123, u 124, u 125, u 126, u 127, u 128, u 129, u 130, u 131, u 132, u 133, u 134, u 135, u 136, u 137, u 138, u 139, u 140, u 141, u 142, u 143, u 144, u 145, u 146, u 147, u 148, u 149, u 150, u 151, u 152, u 153, u 154, u 155, u 156, u 157, u 158, u 159, u 160, u 161, u 162, u 163, u 164, u 165, u 166, u 167, u 168, u 169, u 170, u 171, u 172, u 173, u 174, u 175, u 176, u 177, u 178, u 179, u 180, u 181, u 182, u 183, u 184, u 185, u 186, u 187, u 188, u 189, u 190, u 191, u 192, u 193, u 194, u 195, u 196, u 197, u 198, u 199, u 200, u 201, u 202, u 203, u 204, u 205, u 206, u 207, u 208, u 209, u 210, u 211, u 212, u 213, u 214, u 215, u 216, u 217, u 218, u 219, u 220, u 221, u 222, u 223, u 224, u 225, u 226, u 227, u 228, u 229, u 230, u 231, u 232, u 233, u 234, u 235, u 236, u 237, u 238, u 239, u 240, u 241, u 242, u 243, u 244, u 245, u 246, u 247, u 248, u 249, u 250, u 251, u 252, u 253, u 254, u 255, u 256, u 257, u 258, u 259, u 260, u 261, u 262, u 263, u 264, u 265, u 266, u 267, u 268, u 269, u 270, u 271, u 272, u 273, u 274, u 275, u 276, u 277, u 278, u 279, u 280, u 281, u 282, u 283, u 284, u 285, u 286, u 287, u 288, u 289, u 290, u 291, u 292, u 293, u 294, u 295, u 296, u 297, u 298, u 299, u 300, u 301, u 302, u 303, u 304, u 305, u 306, u 307, u 308, u 309, u 310, u 311, u 312, u 313, u 314, u 315, u 316, u 317, u 318, u 319, u 320, u 321, u 322, u 323, u 324, u 325, u 326, u 327, u 328, u 329, u 330, u 331, u 332, u 333, u 334, u 335, u 336, u 337, u 338, u 339, u 340, u 341, u 342, u 343, u 344, u 345, u 346, u 347, u 348, u 349, u 350, u 351, u 352, u 353, u 354, u 355, u 356, u 357, u 358, u 359, u 360, u 361, u 362, u 363, u 364, u 365, u 366, u 367, u 368, u 369, u 370, u 371, u 372, u 373, u 374, u 375, u 376, u 377, u 378] := rfl

end Go.Proofs.YtplbifmjnanceaaDoor

namespace Go.Proofs.YtplbifmjnanceaaDoor
set_option linter.unusedVariables false
set_option linter.unusedSimpArgs false

/-- the three head lines -/
def hdr1 (a b : ByteArray) : ByteArray := ⟨#[100, 105, 102, 102, 32]⟩ ++ a ++ ⟨#[32]⟩ ++ b ++ ⟨#[10]⟩
def hdr2 (a : ByteArray) : ByteArray := ⟨#[45, 45, 45, 32]⟩ ++ a ++ ⟨#[10]⟩
def hdr3 (b : ByteArray) : ByteArray := ⟨#[43, 43, 43, 32]⟩ ++ b ++ ⟨#[10]⟩
def hdr (a b : ByteArray) : List UInt8 := (hdr1 a b).data.toList ++ (hdr2 a).data.toList ++ (hdr3 b).data.toList

theorem hdr1_size (a b : ByteArray) : (hdr1 a b).size = a.size + b.size + 7 := by
  unfold hdr1
  simp only [ByteArray.size_append]
  have e1 : (⟨#[100, 105, 102, 102, 32]⟩ : ByteArray).size = 5 := rfl
  have e2 : (⟨#[32]⟩ : ByteArray).size = 1 := rfl
  have e3 : (⟨#[10]⟩ : ByteArray).size = 1 := rfl
  omega
theorem hdr2_size (a : ByteArray) : (hdr2 a).size = a.size + 5 := by
  unfold hdr2
  simp only [ByteArray.size_append]
  have e1 : (⟨#[45, 45, 45, 32]⟩ : ByteArray).size = 4 := rfl
  have e3 : (⟨#[10]⟩ : ByteArray).size = 1 := rfl
  omega
theorem hdr3_size (a : ByteArray) : (hdr3 a).size = a.size + 5 := by
  unfold hdr3
  simp only [ByteArray.size_append]
  have e1 : (⟨#[43, 43, 43, 32]⟩ : ByteArray).size = 4 := rfl
  have e3 : (⟨#[10]⟩ : ByteArray).size = 1 := rfl
  omega
theorem bc_len (l : List UInt8) : (Lib.byteCells l).length = l.length := by simp [Lib.byteCells]
theorem data_len (s : ByteArray) : s.data.toList.length = s.size := rfl
theorem hdr_len (a b : ByteArray) : (hdr a b).length = 2 * a.size + 2 * b.size + 17 := by
  unfold hdr
  rw [List.length_append, List.length_append, data_len, data_len, data_len, hdr1_size, hdr2_size, hdr3_size]
  omega

/-- a line of the diff's text -/
def lineB (l : Dp.Ln) : ByteArray := ⟨#[l.1]⟩ ++ l.2
def numB (n : Nat) : ByteArray := ⟨(Lib.itoa n).toArray⟩
/-- the first line of a hunk -/
def hkHead (o oc n nc : Nat) : ByteArray := ⟨#[64, 64, 32, 45]⟩ ++ numB (if 0 < oc then o + 1 else o) ++ ⟨#[44]⟩ ++ numB oc ++ ⟨#[32, 43]⟩ ++ numB (if 0 < nc then n + 1 else n) ++ ⟨#[44]⟩ ++ numB nc ++ ⟨#[32, 64, 64, 10]⟩
def lnText (ls : List Dp.Ln) : List UInt8 := ls.flatMap fun l => (lineB l).data.toList
def hkText (h : Dp.Hk) : List UInt8 := (hkHead h.o (Dp.olds h.ls).length h.n (Dp.news h.ls).length).data.toList ++ lnText h.ls
def diffText (a b : ByteArray) (hs : List Dp.Hk) : List UInt8 := hdr a b ++ hs.flatMap hkText

theorem len_bound {a b x y n : Nat} (h : n ≤ 4194321 + (a + b) * 2097152) (hr : a ≤ x ∧ b ≤ y) : n ≤ 4194321 + (x + y) * 2097152 := Nat.le_trans h (Nat.add_le_add_left (Nat.mul_le_mul_right _ (Nat.add_le_add hr.1 hr.2)) _)

end Go.Proofs.YtplbifmjnanceaaDoor
