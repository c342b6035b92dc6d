/- maps, rows of numbers, plain pairs; spec.head. -/
import Derived.Test.YtplbifmjnanceaaDoorProg
import Derived.Test.YtplbifmjnanceaaDoorWMore
import Derived.Below
import Derived.Deep.Draws
import Derived.Deep.AppendLies
import Derived.Maps.AppendAt
import Derived.OwnWalk
import Derived.Laws.BytesArg
import Derived.Laws.MakeOwn
import Derived.Laws.OwnMore
import Derived.Deep.OwnRows
import Derived.Tactics
import Derived.Lib.ConvBytes
import Derived.Laws.Slices
import Derived.WalkKit
import Derived.KernelRfl
import Derived.RowKit3
import Derived.Deep.LoopGhost
import Derived.Deep.QuietTactic
import Derived.BigQuiet
import Derived.WideLaws
import Derived.Deep.DeepCutAuto
import Derived.Deep.CutBlock
import Derived.Deep.RegionHeld3
import Derived.Laws.Rows
import Derived.Lib.AppendStr
import Derived.ArgAppend
import Derived.Laws.IdiomCopy
import Derived.OrdersHeld
import Derived.Laws.BitsLemmas
import Derived.RowKit
import Derived.Outline
import Derived.WalkSpells
import Derived.WalkLawsBesides
import Derived.Test.YtplbifmjnanceaaDoorPnumberx1
import Derived.Maps.OwnOps
import Derived.StringKeys
import Derived.Maps.OwnSet
namespace Go.Proofs.YtplbifmjnanceaaDoor
open Go.RowKit Go.Proofs.YtplbifmjnanceaaDoorW.PrintWords Go.Proofs.YtplbifmjnanceaaDoorW.PrintLast Go.Proofs.YtplbifmjnanceaaDoorW.PrintMore

theorem below_put {B : Nat} {w W : World} (h : Below B w W) (g j : Nat) (u : Value) (hg : B ≤ g) : Below B w (W.setCell ⟨g, j, none⟩ u) := h.setCell hg u

end Go.Proofs.YtplbifmjnanceaaDoor

namespace Go.Proofs.YtplbifmjnanceaaDoor
open Go.RowKit Go.Proofs.YtplbifmjnanceaaDoorW.PrintWords Go.Proofs.YtplbifmjnanceaaDoorW.PrintLast Go.Proofs.YtplbifmjnanceaaDoorW.PrintMore
open Go.Proofs.YtplbifmjnanceaaDoor.Pnumber
set_option linter.unusedVariables false
set_option linter.unusedSimpArgs false

set_option maxHeartbeats 1000000 in
set_option maxRecDepth 100000 in
theorem head_calls (k : Nat) (s : ByteArray) (a b c d : Int) (t1 t2 t3 t4 : ByteArray) (w : World)
    (z1 : 4 ≤ (s.size : Int)) (e1 : ((s.extract 0 4).toList == [64, 64, 32, 45]) = true) (h1 : spec_number.f k (s.extract 4 s.size) = some (a, t1)) (ha : 0 ≤ a)
    (z2 : 1 ≤ (t1.size : Int)) (e2 : ((t1.extract 0 1).toList == [44]) = true) (h2 : spec_number.f k (t1.extract 1 t1.size) = some (b, t2)) (hb : 0 ≤ b)
    (z3 : 2 ≤ (t2.size : Int)) (e3 : ((t2.extract 0 2).toList == [32, 43]) = true) (h3 : spec_number.f k (t2.extract 2 t2.size) = some (c, t3)) (hc : 0 ≤ c)
    (z4 : 1 ≤ (t3.size : Int)) (e4 : ((t3.extract 0 1).toList == [44]) = true) (h4 : spec_number.f k (t3.extract 1 t3.size) = some (d, t4)) (hd : 0 ≤ d)
    (e5 : (t4.toList == [32, 64, 64, 10]) = true) :
    Calls Tryd.prog 14 #[.string s] w fun e w' => e = .returned (.tuple #[.agg #[.int .i64 a, .int .i64 c, .int .i64 b, .int .i64 d], .bool true]) ∧ Below w.heap.size w w' := by
  have HB := Aside0.mk (Below.refl w.heap.size w)
  have H1 := Aside0.mk h1
  have H2 := Aside0.mk h2
  have H3 := Aside0.mk h3
  have H4 := Aside0.mk h4
  clear h1 h2 h3 h4
  go_enter Tryd.func14, Tryd.ntmps14
  go_upto_block 0 with (fail)
  go_cut [0, 2] (fun s0 s2 wc => s0 = .string t4 ∧ s2 = .pointer (some ⟨w.heap.size, 0, none⟩) ∧ wc.heap[w.heap.size]? = some (.cells #[.int .i64 a, .int .i64 b, .int .i64 c, .int .i64 d] 44 (0, 0)) ∧ Below w.heap.size w wc)
  case first =>
    go_wp2
    refine wp_loop_rounds 5 ?_
    rw [rounds_succ]
    go_wp2_with fail
    refine (spec_number.calls _ _ _ _ _ H1.out).mono ?_
    rintro e w1 ⟨rfl, ⟨n1, rfl⟩⟩
    go_wp2_with fail
    rw [rounds_succ]
    go_wp2_with fail
    refine (spec_number.calls _ _ _ _ _ H2.out).mono ?_
    rintro e w2 ⟨rfl, ⟨n2, rfl⟩⟩
    go_wp2_with fail
    rw [rounds_succ]
    go_wp2_with fail
    refine (spec_number.calls _ _ _ _ _ H3.out).mono ?_
    rintro e w3 ⟨rfl, ⟨n3, rfl⟩⟩
    go_wp2_with fail
    rw [rounds_succ]
    go_wp2_with fail
    refine (spec_number.calls _ _ _ _ _ H4.out).mono ?_
    rintro e w4 ⟨rfl, ⟨n4, rfl⟩⟩
    go_wp2_with fail
    rw [rounds_succ]
    go_wp2_with fail
    go_meet
    case rel => 
      refine ⟨rfl, rfl, ?_, ?_⟩
      · exact blk_put (blk_drewN (blk_put (blk_drewN (blk_put (blk_drewN (blk_put (blk_drewN (blk_alloc (blk_new w _) _) _) 0 _ rfl) _) 1 _ rfl) _) 2 _ rfl) _) 3 _ rfl
      · repeat (first | (with_reducible exact HB.out) | (with_reducible apply below_alloc) | (with_reducible apply pw_below_drewN) | (with_reducible refine below_put ?_ _ _ _ (Nat.le_refl _)))
  case rest =>
    obtain ⟨rfl, rfl, hb, hB⟩ := hcut
    have c0 := blk_cell hb 0
    have c1 := blk_cell hb 1
    have c2 := blk_cell hb 2
    have c3 := blk_cell hb 3
    have f0 := blk_frozen hb 0
    have f1 := blk_frozen hb 1
    have f2 := blk_frozen hb 2
    have f3 := blk_frozen hb 3
    simp at c0 c1 c2 c3
    have HB2 := Aside0.mk hB
    have Hb := Aside0.mk hb
    clear hB hb HB H1 H2 H3 H4
    go_wp2
    refine bodyPost_ret (v := .tuple #[.agg #[.int .i64 a, .int .i64 c, .int .i64 b, .int .i64 d], .bool true]) ?_ rfl ⟨rfl, ?_⟩
    · have hF := blk_put (blk_put (blk_put (blk_put (blk_put (blk_put Hb.out 1 (.int .i64 c) rfl) 2 (.int .i64 b) rfl) 0 (.int .i64 a) rfl) 1 (.int .i64 c) rfl) 2 (.int .i64 b) rfl) 3 (.int .i64 d) rfl
      have d0 := blk_cell hF 0
      have d1 := blk_cell hF 1
      have d2 := blk_cell hF 2
      have d3 := blk_cell hF 3
      simp at d0 d1 d2 d3
      simp [results, Tryd.results14, go_sem, d0, d1, d2, d3]
    · repeat (first | (with_reducible exact HB2.out) | (with_reducible refine below_put ?_ _ _ _ (Nat.le_refl _)))
end Go.Proofs.YtplbifmjnanceaaDoor

namespace Go.Proofs.YtplbifmjnanceaaDoor.Tg
set_option linter.unusedSectionVars false
variable {α : Type} [DecidableEq α]

/-- what the map holds of a text that is in no list of anchors -/
def cnt (x y : List α) (s : α) : Int := -((min (x.count s) 2 : Nat) : Int) - 4 * ((min (y.count s) 2 : Nat) : Int)

def Uniq (x y : List α) (s : α) : Prop := x.count s = 1 ∧ y.count s = 1

theorem cnt_uniq (x y : List α) (s : α) : cnt x y s = -5 ↔ Uniq x y s := by
  unfold cnt Uniq; omega
theorem cnt_nonpos (x y : List α) (s : α) : cnt x y s ≤ 0 := by unfold cnt; omega
theorem cnt_ge (x y : List α) (s : α) : -10 ≤ cnt x y s := by unfold cnt; omega
theorem cnt_neg (x y : List α) (s : α) (h : s ∈ x) : cnt x y s < 0 := by
  have := List.count_pos_iff.2 h
  unfold cnt; omega

theorem take_succ' (x : List α) (k : Nat) (h : k < x.length) : x.take (k + 1) = x.take k ++ [x[k]] := by
  rw [List.take_add_one, List.getElem?_eq_getElem h]; rfl

theorem count_take (x : List α) (k : Nat) (h : k < x.length) (s : α) : (x.take (k + 1)).count s = (x.take k).count s + if x[k] = s then 1 else 0 := by
  rw [take_succ' x k h, List.count_append, List.count_singleton]
  by_cases e : x[k] = s <;> simp [e]

/-- the first loop: behind k texts of x -/
def F1 (x : List α) (k : Nat) (s : α) : Int := cnt (x.take k) [] s
/-- the second loop -/
def F2 (x y : List α) (k : Nat) (s : α) : Int := cnt x (y.take k) s

theorem F1_zero (x : List α) (s : α) : F1 x 0 s = 0 := by simp [F1, cnt]
theorem F1_step (x : List α) (k : Nat) (h : k < x.length) (s : α) :
    F1 x (k + 1) s = if x[k] = s ∧ -2 < F1 x k s then F1 x k s - 1 else F1 x k s := by
  unfold F1 cnt
  rw [count_take x k h]
  by_cases e : x[k] = s
  · simp only [e, if_true, true_and]
    split <;> simp <;> simp at * <;> omega
  · simp [e]
theorem F12 (x y : List α) (s : α) : F1 x x.length s = F2 x y 0 s := by simp [F1, F2, cnt]
theorem F2_step (x y : List α) (k : Nat) (h : k < y.length) (s : α) :
    F2 x y (k + 1) s = if y[k] = s ∧ -8 < F2 x y k s then F2 x y k s - 4 else F2 x y k s := by
  unfold F2 cnt
  rw [count_take y k h]
  by_cases e : y[k] = s
  · simp only [e, if_true, true_and]
    split <;> omega
  · simp [e]
theorem F2_last (x y : List α) (s : α) : F2 x y y.length s = cnt x y s := by simp [F2]

/-- the third loop: behind k texts of y: the anchors' places in y, and what the map holds -/
structure R3 (x y : List α) (k : Nat) (yi : List Nat) (f : α → Int) : Prop where
  lt : ∀ i ∈ yi, i < k
  up : yi.Pairwise (· < ·)
  uq : ∀ i ∈ yi, ∀ s, y[i]? = some s → Uniq x y s
  all : ∀ (i : Nat) (s : α), i < k → y[i]? = some s → Uniq x y s → i ∈ yi
  val : ∀ s, (∃ j i : Nat, yi[j]? = some i ∧ y[i]? = some s ∧ f s = j) ∨ ((∀ i ∈ yi, y[i]? ≠ some s) ∧ f s = cnt x y s)

theorem R3.start (x y : List α) (f : α → Int) (hf : ∀ s, f s = cnt x y s) : R3 x y 0 [] f :=
  ⟨by simp, by simp, by simp, by simp, fun s => Or.inr ⟨by simp, hf s⟩⟩

theorem uniq_place {y : List α} {s : α} (h : y.count s = 1) {i j : Nat} (hi : y[i]? = some s) (hj : y[j]? = some s) : i = j := by
  induction y generalizing i j with
  | nil => simp at hi
  | cons a l ih =>
    have hl : ∀ k : Nat, l[k]? = some s → 1 ≤ l.count s := fun k hk => List.count_pos_iff.2 (List.mem_of_getElem? hk)
    cases i with
    | zero =>
      cases j with
      | zero => rfl
      | succ j =>
        simp at hi hj; subst hi
        have := hl j hj
        simp at h; omega
    | succ i =>
      cases j with
      | zero =>
        simp at hi hj; subst hj
        have := hl i hi
        simp at h; omega
      | succ j =>
        simp at hi hj
        have h1 : l.count s = 1 := by
          have := hl i hi
          rw [List.count_cons] at h
          split at h <;> omega
        rw [ih h1 hi hj]

/-- a text of y that is not an anchor -/
theorem R3.skip {x y : List α} {k : Nat} {yi : List Nat} {f : α → Int} (h : R3 x y k yi f) (hk : k < y.length) (hn : f y[k] ≠ -5) : R3 x y (k + 1) yi f := by
  refine ⟨fun i hi => Nat.lt_succ_of_lt (h.lt i hi), h.up, h.uq, ?_, h.val⟩
  intro i s hi hs hu
  by_cases e : i = k
  · subst e
    rw [List.getElem?_eq_getElem hk] at hs; cases hs
    rcases h.val y[i] with ⟨j, i', hj, hi', hf⟩ | ⟨_, hf⟩
    · have := uniq_place hu.2 hi' (List.getElem?_eq_getElem hk)
      subst this
      exact List.mem_of_getElem? hj
    · exact absurd (hf.trans ((cnt_uniq x y _).2 hu)) hn
  · exact h.all i s (by omega) hs hu

/-- an anchor -/
theorem R3.take {x y : List α} {k : Nat} {yi : List Nat} {f g : α → Int} (h : R3 x y k yi f) (hk : k < y.length) (hn : f y[k] = -5)
    (hg : ∀ s, g s = if y[k] = s then (yi.length : Int) else f s) : R3 x y (k + 1) (yi ++ [k]) g := by
  have hu : Uniq x y y[k] := by
    rcases h.val y[k] with ⟨j, i', hj, hi', hf⟩ | ⟨_, hf⟩
    · omega
    · exact (cnt_uniq x y _).1 (hf.symm.trans hn)
  refine ⟨?_, ?_, ?_, ?_, ?_⟩
  · intro i hi
    rcases List.mem_append.1 hi with hi | hi
    · exact Nat.lt_succ_of_lt (h.lt i hi)
    · simp at hi; omega
  · rw [List.pairwise_append]
    exact ⟨h.up, by simp, fun a ha b hb => by simp at hb; subst hb; exact h.lt a ha⟩
  · intro i hi s hs
    rcases List.mem_append.1 hi with hi | hi
    · exact h.uq i hi s hs
    · simp at hi; subst hi; rw [List.getElem?_eq_getElem hk] at hs; cases hs; exact hu
  · intro i s hi hs hu'
    by_cases e : i = k
    · simp [e]
    · exact List.mem_append_left _ (h.all i s (by omega) hs hu')
  · intro s
    by_cases e : y[k] = s
    · subst e
      exact Or.inl ⟨yi.length, k, by simp, List.getElem?_eq_getElem hk, by rw [hg]; simp⟩
    · rcases h.val s with ⟨j, i', hj, hi', hf⟩ | ⟨hno, hf⟩
      · exact Or.inl ⟨j, i', by rw [List.getElem?_append_left (List.getElem?_eq_some_iff.1 hj).1]; exact hj, hi', by rw [hg, if_neg e]; exact hf⟩
      · refine Or.inr ⟨?_, by rw [hg, if_neg e]; exact hf⟩
        intro i hi
        rcases List.mem_append.1 hi with hi | hi
        · exact hno i hi
        · simp at hi; subst hi; rw [List.getElem?_eq_getElem hk]; simpa using e

/-- the fourth loop: behind k texts of x -/
structure R4 (x y : List α) (yi : List Nat) (k : Nat) (xi inv : List Nat) : Prop where
  len : inv.length = xi.length
  lt : ∀ i ∈ xi, i < k
  at' : ∀ p i j : Nat, xi[p]? = some i → inv[p]? = some j → ∃ i' : Nat, yi[j]? = some i' ∧ i < x.length ∧ x[i]? = y[i']?
  all : ∀ i i' j : Nat, i < k → yi[j]? = some i' → i < x.length → x[i]? = y[i']? → j ∈ inv

theorem R4.start (x y : List α) (yi : List Nat) : R4 x y yi 0 [] [] := ⟨rfl, by simp, by simp, by simp⟩

theorem R4.skip {x y : List α} {yi : List Nat} {f : α → Int} (h3 : R3 x y y.length yi f) {k : Nat} {xi inv : List Nat} (h : R4 x y yi k xi inv) (hk : k < x.length) (hn : f x[k] < 0) : R4 x y yi (k + 1) xi inv := by
  refine ⟨h.len, fun i hi => Nat.lt_succ_of_lt (h.lt i hi), h.at', ?_⟩
  intro i i' j hi hj hx he
  by_cases e : i = k
  · subst e
    rcases h3.val x[i] with ⟨j', _, _, _, hf⟩ | ⟨hno, _⟩
    · omega
    · exact absurd (he.symm.trans (List.getElem?_eq_getElem hk)) (hno i' (List.mem_of_getElem? hj))
  · exact h.all i i' j (by omega) hj hx he

theorem R4.take {x y : List α} {yi : List Nat} {f : α → Int} (h3 : R3 x y y.length yi f) {k : Nat} {xi inv : List Nat} (h : R4 x y yi k xi inv) (hk : k < x.length) (j : Nat) (hn : f x[k] = j) : R4 x y yi (k + 1) (xi ++ [k]) (inv ++ [j]) := by
  have hj : ∃ i' : Nat, yi[j]? = some i' ∧ x[k]? = y[i']? := by
    rcases h3.val x[k] with ⟨j', i', hj', hi', hf⟩ | ⟨_, hf⟩
    · have : j' = j := by omega
      subst this
      exact ⟨i', hj', by rw [hi', List.getElem?_eq_getElem hk]⟩
    · have := cnt_neg x y x[k] (List.getElem_mem hk)
      omega
  refine ⟨by simp [h.len], ?_, ?_, ?_⟩
  · intro i hi
    rcases List.mem_append.1 hi with hi | hi
    · exact Nat.lt_succ_of_lt (h.lt i hi)
    · simp at hi; omega
  · intro p i j' hp hq
    by_cases e : p < xi.length
    · rw [List.getElem?_append_left e] at hp
      rw [List.getElem?_append_left (by rw [h.len]; exact e)] at hq
      exact h.at' p i j' hp hq
    · have e2 : p = xi.length := by
        have := (List.getElem?_eq_some_iff.1 hp).1
        simp at this; omega
      subst e2
      have hq' : j = j' := by
        rw [← h.len] at hq
        simpa using hq
      have hp' : k = i := by simpa using hp
      subst hq' hp'
      obtain ⟨i', a, b⟩ := hj
      exact ⟨i', a, hk, b⟩
  · intro i i' j' hi hj' hx he
    by_cases e : i = k
    · subst e
      obtain ⟨i2, a, b⟩ := hj
      -- both anchors hold the same text: they are one
      have hs : y[i']? = some x[i] := he.symm.trans (List.getElem?_eq_getElem hk)
      have hu := h3.uq i' (List.mem_of_getElem? hj') _ hs
      have e1 := uniq_place hu.2 hs (b.symm.trans (List.getElem?_eq_getElem hk))
      subst e1
      have e3 : j' = j := by
        obtain ⟨l1, v1⟩ := List.getElem?_eq_some_iff.1 hj'
        obtain ⟨l2, v2⟩ := List.getElem?_eq_some_iff.1 a
        rcases Nat.lt_trichotomy j' j with c | c | c
        · have := List.pairwise_iff_getElem.1 h3.up j' j l1 l2 c; omega
        · exact c
        · have := List.pairwise_iff_getElem.1 h3.up j j' l2 l1 c; omega
      simp [e3]
    · exact List.mem_append_left _ (h.all i i' j' (by omega) hj' hx he)

theorem pigeon : ∀ (m : Nat) (l : List Nat), (∀ j < m, j ∈ l) → m ≤ l.length
  | 0, _, _ => Nat.zero_le _
  | m + 1, l, h => by
    have hm := h m (Nat.lt_succ_self m)
    have := pigeon m (l.erase m) fun j hj => (List.mem_erase_of_ne (by omega)).2 (h j (by omega))
    rw [List.length_erase_of_mem hm] at this
    have := List.length_pos_of_mem hm
    omega

theorem anchors_le {x y : List α} {yi : List Nat} {f : α → Int} (h3 : R3 x y y.length yi f) {xi inv : List Nat} (h : R4 x y yi x.length xi inv) : yi.length ≤ xi.length := by
  rw [← h.len]
  refine pigeon _ _ fun j hj => ?_
  have hi := List.getElem?_eq_getElem hj
  have hly := h3.lt _ (List.getElem_mem hj)
  have hs := List.getElem?_eq_getElem hly
  have hu := h3.uq _ (List.getElem_mem hj) _ hs
  have hm : y[yi[j]] ∈ x := List.count_pos_iff.1 (by rw [hu.1]; exact Nat.one_pos)
  obtain ⟨i, hix, e⟩ := List.getElem_of_mem hm
  exact h.all i yi[j] j hix hi hix (by rw [hs, List.getElem?_eq_getElem hix, e])

/-! ### the longest rising run -/

/-- the fifth loop: behind i rounds: the least last anchor of a run of each length, and each anchor's length of run -/
structure R5 (J : List Nat) (n i : Nat) (T L : List Nat) : Prop where
  lenT : T.length = n
  lenL : L.length = n
  up : ∀ a b, a ≤ b → b < n → T.getD a 0 ≤ T.getD b 0
  far : ∀ k, i ≤ k → k < n → T.getD k 0 = n + 1
  most : ∀ k, k < n → T.getD k 0 ≤ n + 1
  own : ∀ k, k < n → T.getD k 0 < n + 1 → ∃ p, p < i ∧ J.getD p 0 = T.getD k 0 ∧ L.getD p 0 = k + 1 ∧ ∀ j, p < j → j < i → L.getD j 0 ≠ k + 1
  run : ∀ p, p < i → 1 ≤ L.getD p 0 ∧ L.getD p 0 ≤ n ∧ (2 ≤ L.getD p 0 → ∃ q, q < p ∧ L.getD q 0 + 1 = L.getD p 0 ∧ J.getD q 0 < J.getD p 0 ∧ ∀ j, q < j → j < p → L.getD j 0 + 1 ≠ L.getD p 0)

theorem getD_set (l : List Nat) (i j v : Nat) : (l.set i v).getD j 0 = if i = j ∧ i < l.length then v else l.getD j 0 := by
  simp only [List.getD_eq_getElem?_getD, List.getElem?_set]
  by_cases e : i = j
  · subst e
    by_cases h : i < l.length
    · simp [h]
    · simp [h]
  · simp [e]

theorem R5.start (J : List Nat) (n : Nat) : R5 J n 0 (List.replicate n (n + 1)) (List.replicate n 0) := by
  have hr : ∀ k, k < n → (List.replicate n (n + 1)).getD k 0 = n + 1 := by
    intro k hk; simp [List.getD_eq_getElem?_getD, hk]
  refine ⟨by simp, by simp, ?_, ?_, ?_, ?_, by intro p hp; omega⟩
  · intro a b hab hb; rw [hr a (by omega), hr b hb]; exact Nat.le_refl _
  · intro k _ hk; exact hr k hk
  · intro k hk; rw [hr k hk]; exact Nat.le_refl _
  · intro k hk h; rw [hr k hk] at h; omega

theorem R5.step {J : List Nat} {n i : Nat} {T L : List Nat} (h : R5 J n i T L) (hi : i < n) (k : Nat) (hJ : J.getD i 0 ≤ n)
    (hlo : ∀ a, a < k → a < n → T.getD a 0 < J.getD i 0) (hhi : ∀ a, k ≤ a → a < n → J.getD i 0 ≤ T.getD a 0) (hk : k ≤ n) :
    k < n ∧ R5 J n (i + 1) (T.set k (J.getD i 0)) (L.set i (k + 1)) := by
  have hki : k ≤ i := by
    rcases Nat.lt_or_ge i k with c | c
    · have h1 := h.far i (Nat.le_refl _) hi
      have h2 := hlo i c hi
      omega
    · exact c
  have hkn : k < n := by omega
  have gT : ∀ j, (T.set k (J.getD i 0)).getD j 0 = if k = j then J.getD i 0 else T.getD j 0 := by
    intro j; rw [getD_set]; simp [h.lenT, hkn]
  have gL : ∀ j, (L.set i (k + 1)).getD j 0 = if i = j then k + 1 else L.getD j 0 := by
    intro j; rw [getD_set]; simp [h.lenL, hi]
  refine ⟨hkn, ⟨by simp [h.lenT], by simp [h.lenL], ?_, ?_, ?_, ?_, ?_⟩⟩
  · intro a b hab hb
    rw [gT, gT]
    by_cases ea : k = a
    · rw [if_pos ea]
      by_cases eb : k = b
      · rw [if_pos eb]; exact Nat.le_refl _
      · rw [if_neg eb]; exact hhi b (by omega) hb
    · rw [if_neg ea]
      by_cases eb : k = b
      · rw [if_pos eb]; exact Nat.le_of_lt (hlo a (by omega) (by omega))
      · rw [if_neg eb]; exact h.up a b hab hb
  · intro j hj hjn
    rw [gT, if_neg (by omega)]; exact h.far j (by omega) hjn
  · intro j hj
    rw [gT]; split
    · omega
    · exact h.most j hj
  · intro j hj hT
    rw [gT] at hT ⊢
    by_cases e : k = j
    · subst e
      refine ⟨i, by omega, by simp, by rw [gL]; simp, fun m hm hm2 => by omega⟩
    · rw [if_neg e] at hT ⊢
      obtain ⟨p, hp, e1, e2, e3⟩ := h.own j hj hT
      refine ⟨p, by omega, e1, by rw [gL, if_neg (by omega)]; exact e2, ?_⟩
      intro m hm hm2
      rw [gL]
      by_cases em : i = m
      · rw [if_pos em]; omega
      · rw [if_neg em]; exact e3 m hm (by omega)
  · intro p hp
    by_cases ep : p = i
    · subst ep
      rw [gL, if_pos rfl]
      refine ⟨by omega, by omega, ?_⟩
      intro h2
      have hlt := hlo (k - 1) (by omega) (by omega)
      obtain ⟨q, hq, e1, e2, e3⟩ := h.own (k - 1) (by omega) (by omega)
      refine ⟨q, hq, by rw [gL, if_neg (by omega)]; omega, by omega, ?_⟩
      intro j hj hj2
      rw [gL, if_neg (by omega)]
      have := e3 j hj hj2
      omega
    · obtain ⟨r1, r2, r3⟩ := h.run p (by omega)
      rw [gL, if_neg (by omega)]
      refine ⟨r1, r2, ?_⟩
      intro h2
      obtain ⟨q, hq, e1, e2, e3⟩ := r3 h2
      refine ⟨q, hq, by rw [gL, if_neg (by omega)]; exact e1, e2, ?_⟩
      intro j hj hj2
      rw [gL, if_neg (by omega)]
      exact e3 j hj hj2

/-- the sixth loop: the greatest length -/
structure R6 (L : List Nat) (i k : Nat) : Prop where
  most : ∀ p, p < i → L.getD p 0 ≤ k
  one : k = 0 ∨ ∃ p, p < i ∧ L.getD p 0 = k

theorem R6.start (L : List Nat) : R6 L 0 0 := ⟨by simp, Or.inl rfl⟩
theorem R6.step {L : List Nat} {i k : Nat} (h : R6 L i k) : R6 L (i + 1) (if k < L.getD i 0 then L.getD i 0 else k) := by
  refine ⟨?_, ?_⟩
  · intro p hp
    by_cases e : p = i
    · subst e; split <;> omega
    · have := h.most p (by omega); split <;> omega
  · split
    · exact Or.inr ⟨i, by omega, rfl⟩
    · rcases h.one with e | ⟨p, hp, e⟩
      · exact Or.inl e
      · exact Or.inr ⟨p, by omega, e⟩

/-- the pairs that tgs hands back -/
structure Good (x y : List α) (seq : List (Nat × Nat)) : Prop where
  two : 2 ≤ seq.length
  head : seq[0]? = some (0, 0)
  last : seq[seq.length - 1]? = some (x.length, y.length)
  mid : ∀ q a b : Nat, 0 < q → q + 1 < seq.length → seq[q]? = some (a, b) → a < x.length ∧ b < y.length ∧ x[a]? = y[b]? ∧ ∀ i : Nat, x[i]? = x[a]? → i = a
  up : ∀ (q q' : Nat) (p p' : Nat × Nat), q ≤ q' → seq[q]? = some p → seq[q']? = some p' → p.2 ≤ p'.2

/-- the last loop: i anchors are left, k pairs are to be laid -/
structure R7 (x y : List α) (xi yi J L : List Nat) (n K i k : Nat) (seq : List (Nat × Nat)) : Prop where
  len : seq.length = K + 2
  le : k ≤ K
  last : seq[K + 1]? = some (x.length, y.length)
  set : ∀ q, k < q → q ≤ K → ∃ p, p < n ∧ seq[q]? = some (xi.getD p 0, yi.getD (J.getD p 0) 0)
  up : ∀ (q q' : Nat) (p p' : Nat × Nat), k < q → q ≤ q' → seq[q]? = some p → seq[q']? = some p' → p.2 ≤ p'.2
  next : k = 0 ∨ ∃ p, p < i ∧ L.getD p 0 = k ∧ (∀ j, p < j → j < i → L.getD j 0 ≠ k) ∧ ∀ b, seq[k + 1]? = some b → yi.getD (J.getD p 0) 0 ≤ b.2

variable {x y : List α} {xi yi J L T : List Nat} {n K i k : Nat} {seq : List (Nat × Nat)}

theorem last_one {L : List Nat} {k : Nat} : ∀ {i : Nat}, (∃ p, p < i ∧ L.getD p 0 = k) → ∃ p, p < i ∧ L.getD p 0 = k ∧ ∀ j, p < j → j < i → L.getD j 0 ≠ k
  | 0, ⟨p, hp, _⟩ => by omega
  | i + 1, ⟨p, hp, e⟩ => by
    by_cases c : L.getD i 0 = k
    · exact ⟨i, by omega, c, fun j _ _ => by omega⟩
    · have hpi : p < i := by
        rcases Nat.lt_or_ge p i with h | h
        · exact h
        · have : p = i := by omega
          subst this; exact absurd e c
      obtain ⟨q, hq, e1, e2⟩ := last_one ⟨p, hpi, e⟩
      refine ⟨q, by omega, e1, fun j hj hj2 => ?_⟩
      by_cases ej : j = i
      · subst ej; exact c
      · exact e2 j hj (by omega)

theorem R7.start (hK : R6 L n K) (hlast : seq[K + 1]? = some (x.length, y.length)) (hlen : seq.length = K + 2) (hy : ∀ p, p < n → yi.getD (J.getD p 0) 0 ≤ y.length) : R7 x y xi yi J L n K n K seq := by
  refine ⟨hlen, Nat.le_refl _, hlast, fun q h1 h2 => by omega, ?_, ?_⟩
  · intro q q' p p' h1 h2 hp hp'
    have l1 := (List.getElem?_eq_some_iff.1 hp).1
    have l2 := (List.getElem?_eq_some_iff.1 hp').1
    have e1 : q = K + 1 := by omega
    have e2 : q' = K + 1 := by omega
    subst e1; subst e2
    rw [hp] at hp'; cases hp'; exact Nat.le_refl _
  · rcases hK.one with e | h
    · exact Or.inl e
    · obtain ⟨p, h1, h2, h3⟩ := last_one h
      refine Or.inr ⟨p, h1, h2, h3, ?_⟩
      intro b hb
      rw [hlast] at hb; cases hb; exact hy p h1

theorem R7.skip (h : R7 x y xi yi J L n K (i + 1) k seq) (hn : L.getD i 0 ≠ k) : R7 x y xi yi J L n K i k seq := by
  refine ⟨h.len, h.le, h.last, h.set, h.up, ?_⟩
  rcases h.next with e | ⟨p, h1, h2, h3, h4⟩
  · exact Or.inl e
  · refine Or.inr ⟨p, ?_, h2, fun j hj hj2 => h3 j hj (by omega), h4⟩
    rcases Nat.lt_or_ge p i with c | c
    · exact c
    · have : p = i := by omega
      subst this; exact absurd h2 hn

theorem R7.take (h5 : R5 J n n T L) (hyi : yi.Pairwise (· < ·)) (hJ : ∀ p, p < n → J.getD p 0 < yi.length) (h : R7 x y xi yi J L n K (i + 1) k seq) (hin : i < n) (hn : L.getD i 0 = k) :
    1 ≤ k ∧ R7 x y xi yi J L n K i (k - 1) (seq.set k (xi.getD i 0, yi.getD (J.getD i 0) 0)) := by
  have hle := h.le
  obtain ⟨r1, r2, r3⟩ := h5.run i hin
  have hk1 : 1 ≤ k := by omega
  have hlen := h.len
  have hnext : ∀ b, seq[k + 1]? = some b → yi.getD (J.getD i 0) 0 ≤ b.2 := by
    rcases h.next with e | ⟨p, h1, h2, h3, h4⟩
    · omega
    · have : p = i := by
        rcases Nat.lt_or_ge p i with c | c
        · exact absurd hn (h3 i c (by omega))
        · omega
      subst this; exact h4
  refine ⟨hk1, ⟨by simp [h.len], by omega, ?_, ?_, ?_, ?_⟩⟩
  · rw [List.getElem?_set, if_neg (by omega)]; exact h.last
  · intro q h1 h2
    by_cases e : k = q
    · subst e
      exact ⟨i, hin, by rw [List.getElem?_set, if_pos rfl, if_pos (by omega)]⟩
    · obtain ⟨p, hp, e1⟩ := h.set q (by omega) h2
      exact ⟨p, hp, by rw [List.getElem?_set, if_neg e]; exact e1⟩
  · intro q q' p p' h1 h2 hp hp'
    rw [List.getElem?_set] at hp hp'
    by_cases e : k = q
    · subst e
      rw [if_pos rfl, if_pos (by omega)] at hp
      cases hp
      by_cases e' : k = q'
      · subst e'
        rw [if_pos rfl, if_pos (by omega)] at hp'
        cases hp'; exact Nat.le_refl _
      · rw [if_neg e'] at hp'
        have hb := List.getElem?_eq_getElem (l := seq) (i := k + 1) (by omega)
        have h3 := hnext _ hb
        have h4 := h.up (k + 1) q' _ _ (by omega) (by omega) hb hp'
        exact Nat.le_trans h3 h4
    · rw [if_neg e] at hp
      rw [if_neg (by omega)] at hp'
      exact h.up q q' p p' (by omega) h2 hp hp'
  · by_cases e : k - 1 = 0
    · exact Or.inl e
    · obtain ⟨q, hq, e1, e2, e3⟩ := r3 (by omega)
      refine Or.inr ⟨q, hq, by omega, fun j hj hj2 => ?_, ?_⟩
      · have := e3 j hj hj2; omega
      · intro b hb
        rw [show k - 1 + 1 = k by omega, List.getElem?_set, if_pos rfl, if_pos (by omega)] at hb
        cases hb
        have l1 := hJ q (by omega)
        have l2 := hJ i hin
        have := List.pairwise_iff_getElem.1 hyi _ _ l1 l2 e2
        show yi.getD (J.getD q 0) 0 ≤ yi.getD (J.getD i 0) 0
        rw [List.getD_eq_getElem?_getD (l := yi), List.getElem?_eq_getElem l1, List.getD_eq_getElem?_getD (l := yi), List.getElem?_eq_getElem l2]
        exact Nat.le_of_lt this

theorem R7.done {f : α → Int} (h3 : R3 x y y.length yi f) (h4 : R4 x y yi x.length xi J) (hJ : ∀ p, p < n → J.getD p 0 < yi.length) (hn : n = xi.length) (h : R7 x y xi yi J L n K 0 k seq) :
    k = 0 ∧ Good x y (seq.set 0 (0, 0)) := by
  have hk : k = 0 := by
    rcases h.next with e | ⟨p, h1, _⟩
    · exact e
    · omega
  subst hk
  have hlen := h.len
  refine ⟨rfl, ⟨by simp [hlen], ?_, ?_, ?_, ?_⟩⟩
  · rw [List.getElem?_set, if_pos rfl, if_pos (by omega)]
  · rw [List.length_set, hlen, List.getElem?_set, if_neg (by omega)]; exact h.last
  · intro q a b h1 h2 he
    rw [List.length_set] at h2
    rw [List.getElem?_set, if_neg (by omega)] at he
    obtain ⟨p, hp, e1⟩ := h.set q h1 (by omega)
    rw [e1] at he
    cases he
    have lx : p < xi.length := by omega
    have lj : p < J.length := by rw [h4.len]; exact lx
    have ly := hJ p hp
    have ex : xi[p]? = some (xi.getD p 0) := by simp [List.getD_eq_getElem?_getD, List.getElem?_eq_getElem lx]
    have ej : J[p]? = some (J.getD p 0) := by simp [List.getD_eq_getElem?_getD, List.getElem?_eq_getElem lj]
    have ey : yi[J.getD p 0]? = some (yi.getD (J.getD p 0) 0) := by
      rw [List.getD_eq_getElem?_getD (l := yi), List.getElem?_eq_getElem ly]; rfl
    generalize xi.getD p 0 = a at *
    generalize J.getD p 0 = j at *
    generalize yi.getD j 0 = b at *
    obtain ⟨b', e2, ha, e3⟩ := h4.at' p a j ex ej
    rw [ey] at e2; cases e2
    have hb : b < y.length := h3.lt b (List.mem_of_getElem? ey)
    have hs := List.getElem?_eq_getElem hb
    have hu := h3.uq b (List.mem_of_getElem? ey) _ hs
    refine ⟨ha, hb, e3, ?_⟩
    intro i' hi'
    exact uniq_place hu.1 (hi'.trans (e3.trans hs)) (e3.trans hs)
  · intro q q' p p' h1 he he'
    rw [List.getElem?_set] at he he'
    by_cases e : 0 = q
    · subst e
      rw [if_pos rfl, if_pos (by omega)] at he
      cases he; exact Nat.zero_le _
    · rw [if_neg e] at he
      rw [if_neg (by omega)] at he'
      exact h.up q q' p p' (by omega) h1 he he'

end Go.Proofs.YtplbifmjnanceaaDoor.Tg

namespace Go.Proofs.YtplbifmjnanceaaDoor
open Go.RowKit Go.Maps
open Go.ChangeMaps Go.WideMaps

/-- Block b of w is a map of at most n entries; at each text s it gives f s, and the texts of S are there. -/
def MapIs (P : Program) (w : World) (b n : Nat) (f : List UInt8 → Int) (S : List UInt8 → Prop) : Prop :=
  ∃ D : DataW Unit, w.ownsMap P 9 (plainElem P 3) b n D ∧ IsMap D ∧ (∀ s, D.atKey (.string s) (.lit (.int .i64 0)) = .lit (.int .i64 (f s))) ∧ ∀ s, S s → has D (.string s) = true

theorem keyS : Keyed Tryd.prog 9 := string_keyed Tryd.underlying9
theorem zeroInt (w : World) : (zeroValue 3).run Tryd.prog w = .ok (.int .i64 0) w := by kernel_rfl

theorem MapIs.made (w : World) : MapIs Tryd.prog (w.alloc (.map #[] 0)) w.heap.size 0 (fun _ => 0) (fun _ => False) :=
  ⟨.map [], World.ownsMap_made _ _ _ _, isMap_empty, fun _ => rfl, fun _ h => h.elim⟩

theorem MapIs.kept {P : Program} {w w' : World} {b n : Nat} {f : List UInt8 → Int} {S : List UInt8 → Prop} {row : Option Nat} (h : MapIs P w b n f S) (hg : w.grownBy w' row) (hne : some b ≠ row) : MapIs P w' b n f S := by
  obtain ⟨D, h1, h2⟩ := h
  exact ⟨D, h1.kept hg hne, h2⟩

theorem MapIs.alloc {P : Program} {w : World} {b n : Nat} {f : List UInt8 → Int} {S : List UInt8 → Prop} (h : MapIs P w b n f S) (o : Obj) : MapIs P (w.alloc o) b n f S := h.kept (World.grownBy_alloc w o none) (by simp)

theorem MapIs.imp {P : Program} {w : World} {b n n' : Nat} {f g : List UInt8 → Int} {S S' : List UInt8 → Prop} (h : MapIs P w b n f S) (hn : n ≤ n') (hfg : ∀ s, g s = f s) (hS : ∀ s, S' s → S s ∨ f s ≠ 0) : MapIs P w b n' g S' := by
  obtain ⟨D, h1, h2, h3, h4⟩ := h
  refine ⟨D, h1.mono hn, h2, fun s => by rw [hfg]; exact h3 s, fun s hs => ?_⟩
  rcases hS s hs with h | h
  · exact h4 s h
  · cases e : has D (.string s) with
    | true => rfl
    | false =>
      have := (atKey_of_not_has e (.lit (.int .i64 0))).symm.trans (h3 s)
      injection this with this
      injection this with _ this
      exact absurd this.symm h

theorem MapIs.mono {P : Program} {w : World} {b n n' : Nat} {f : List UInt8 → Int} {S : List UInt8 → Prop} (h : MapIs P w b n f S) (hn : n ≤ n') : MapIs P w b n' f S := by
  obtain ⟨D, h1, h2⟩ := h
  exact ⟨D, h1.mono hn, h2⟩
theorem MapIs.lt {P : Program} {w : World} {b n : Nat} {f : List UInt8 → Int} {S : List UInt8 → Prop} (h : MapIs P w b n f S) : b < w.heap.size := by
  obtain ⟨D, h1, h2⟩ := h
  exact h1.lt
theorem infoInt : (Tryd.prog.info? 3).map (fun i => (i.zero, i.size, i.bytes)) = some (some (.int .i64 0), 1, 8) := by kernel_rfl

/-- m[s] -/
theorem wp_look {w : World} {ops : Array Oper} {rest : List Oper} {o : Oper} {a : Act} {Q : Exit → Act → World → Prop}
    (hg : o.guard = none) (m x : Operand) (hop : o.op = Op.lookup 81 m x false) (b n : Nat) (f : List UInt8 → Int) (S : List UInt8 → Prop)
    (hm : a.eval m = .map (some b)) (h : MapIs Tryd.prog w b n f S) (s : ByteArray) (hs : s.size ≤ maxLen) (hx : a.eval x = .string s)
    (hK : wpList Tryd.prog ops Q rest (a.put o.dst (.int .i64 (f s.data.toList))) w) : wpList Tryd.prog ops Q (o :: rest) a w := by
  obtain ⟨D, h1, h2, h3, h4⟩ := h
  refine wpList_lookup_own_int w hg m x 81 hop 9 3 .i64 keyS Tryd.underlying81 Tryd.underlying3 (zeroInt w) b n D hm h1 _ _ hx (keyOf_string_mk Tryd.underlying9 hs) ?_
  intro c hc _
  have e := (h3 s.data.toList).symm.trans hc
  injection e with e
  injection e with _ e
  rw [← e]
  exact hK

/-- j, ok := m[s] at a text that is there -/
theorem wp_look_ok {w : World} {ops : Array Oper} {rest : List Oper} {o : Oper} {a : Act} {Q : Exit → Act → World → Prop}
    (hg : o.guard = none) (m x : Operand) (hop : o.op = Op.lookup 81 m x true) (b n : Nat) (f : List UInt8 → Int) (S : List UInt8 → Prop)
    (hm : a.eval m = .map (some b)) (h : MapIs Tryd.prog w b n f S) (s : ByteArray) (hs : s.size ≤ maxLen) (hx : a.eval x = .string s) (hS : S s.data.toList)
    (hK : wpList Tryd.prog ops Q rest (a.put o.dst (.tuple #[.int .i64 (f s.data.toList), .bool true])) w) : wpList Tryd.prog ops Q (o :: rest) a w := by
  obtain ⟨D, h1, h2, h3, h4⟩ := h
  refine wpList_lookup_own_ok_int w hg m x 81 hop 9 3 .i64 keyS Tryd.underlying81 Tryd.underlying3 (zeroInt w) b n D hm h1 _ _ hx (keyOf_string_mk Tryd.underlying9 hs) ?_
  intro c hc _
  have e := (h3 s.data.toList).symm.trans hc
  injection e with e
  injection e with _ e
  rw [← e, h4 _ hS]
  exact hK

/-- m[s] = v -/
theorem wp_put {w : World} {ops : Array Oper} {rest : List Oper} {o : Oper} {a : Act} {Q : Exit → Act → World → Prop}
    (hg : o.guard = none) (m x v : Operand) (hop : o.op = Op.mapUpdate 81 m x v) (b n : Nat) (f : List UInt8 → Int) (S : List UInt8 → Prop)
    (hm : a.eval m = .map (some b)) (h : MapIs Tryd.prog w b n f S) (hn : n < maxLen) (s : ByteArray) (hs : s.size ≤ maxLen) (hx : a.eval x = .string s) (i : Int) (hi : (Lit.int .i64 i).wf = true) (hv : a.eval v = .int .i64 i)
    (hK : ∀ w', MapIs Tryd.prog w' b (n + 1) (fun t => if s.data.toList = t then i else f t) (fun t => S t ∨ s.data.toList = t) → w.grownBy w' (some b) → wpList Tryd.prog ops Q rest (a.put o.dst undef) w') : wpList Tryd.prog ops Q (o :: rest) a w := by
  obtain ⟨D, h1, h2, h3, h4⟩ := h
  refine wpList_mapUpdate_own w hg m x v 81 hop 9 3 keyS Tryd.underlying81 _ b n D hm h1 hn _ _ _ hx hv (keyOf_string_mk Tryd.underlying9 hs) _ [] (plainElem_int Tryd.underlying3 hi) ?_
  intro w' r1 r2
  have hk : WideAt.IsKeyLit (.string s.data.toList) := by simp [WideAt.IsKeyLit]
  refine hK w' ⟨_, r1, h2.put _ _, fun t => ?_, fun t ht => ?_⟩ r2
  · by_cases e : s.data.toList = t
    · subst e
      rw [atKey_put_same h2 hk]; simp
    · rw [atKey_put_other (by intro e2; injection e2 with e2; exact e e2.symm), h3 t]; simp [e]
  · by_cases e : s.data.toList = t
    · subst e
      exact has_put_same h2 hk _
    · rw [has_put_other (by intro e2; injection e2 with e2; exact e e2.symm)]
      rcases ht with ht | ht
      · exact h4 t ht
      · exact absurd ht e

end Go.Proofs.YtplbifmjnanceaaDoor

namespace Go.Proofs.YtplbifmjnanceaaDoor
open Go.RowKit Go.Proofs.YtplbifmjnanceaaDoorW.PrintWords Go.Proofs.YtplbifmjnanceaaDoorW.PrintLast Go.Proofs.YtplbifmjnanceaaDoorW.PrintMore

/-- places as ints -/
def ints (l : List Nat) : List Int := l.map fun i : Nat => (i : Int)
theorem ints_snoc (l : List Nat) (i : Nat) : ints (l ++ [i]) = ints l ++ [(i : Int)] := by simp [ints]
theorem ints_len (l : List Nat) : (ints l).length = l.length := by simp [ints]
theorem ints_getD (l : List Nat) (k : Nat) : (ints l).getD k 0 = (l.getD k 0 : Nat) := by
  simp only [ints, List.getD_eq_getElem?_getD, List.getElem?_map]
  cases l[k]? <;> rfl
theorem ints_set (l : List Nat) (k v : Nat) : (ints l).set k (v : Int) = ints (l.set k v) := by simp [ints, List.map_set]

/-- v is a slice of ints of the call's own, its row from base on -/
def IntsAt (w : World) (base : Nat) (v : Value) (l : List Nat) : Prop := (Kd.int .i64).R 3 w base (fun _ => True) v (ints l)

section
variable {w w1 : World} {base : Nat} {v u v1 : Value} {l m : List Nat}

theorem IntsAt.of {ok : Nat → Prop} (h : (Kd.int .i64).R 3 w base ok v (ints l)) : IntsAt w base v l := Kd.R_mono h (fun _ _ => trivial)
theorem IntsAt.nil (w : World) (base : Nat) : IntsAt w base (.slice none 0 0) [] := Kd.R_nil _ _ _ _ _
theorem IntsAt.own (h : IntsAt w base v l) : ∃ inner, w.ownsRow base 3 1 v (ints l).length inner := Kd.R_own h
theorem IntsAt.ge (h : IntsAt w base v l) (k : Nat) (hk : v.ownBlock = some k) : base ≤ k := by
  obtain ⟨i, ho⟩ := h.own
  exact own_base ho k hk
theorem IntsAt.lt (h : IntsAt w base v l) (k : Nat) (hk : v.ownBlock = some k) : k < w.heap.size := by
  obtain ⟨i, ho⟩ := h.own
  exact own_lt ho k hk
/-- another row is written -/
theorem IntsAt.kept (h : IntsAt w base v l) {row : Option Nat} (hg : w.grownBy w1 row) (hne : ∀ k, v.ownBlock = some k → some k ≠ row) : IntsAt w1 base v l := by
  have h2 : (Kd.int .i64).R 3 w base (fun k => some k ≠ row) v (ints l) := ⟨hne, h.2⟩
  exact IntsAt.of (Kd.R_grown h2 hg (fun _ hk => hk))
theorem IntsAt.below (h : IntsAt w base v l) (hb : Below w.heap.size w w1) : IntsAt w1 base v l := Kd.R_below h hb
theorem IntsAt.ne_of_base {b : Nat} (h : IntsAt w base v l) (hb : b < base) : some b ≠ v.ownBlock := by
  intro e
  have := h.ge b e.symm
  omega
/-- what was apart stays apart behind an append -/
theorem ne_appended (hne : NeRow v u) (hu : IntsAt w base u m) (hat : v1.ownBlock = v.ownBlock ∨ ∃ b, v1.ownBlock = some b ∧ w.heap.size ≤ b) : NeRow v1 u := by
  intro k hk hk2
  rcases hat with e | ⟨b, e, hb⟩
  · rw [e] at hk; exact hne k hk hk2
  · rw [e] at hk; cases hk
    have := hu.lt _ hk2
    omega
theorem NeRow.symm' (h : NeRow v u) : NeRow u v := fun k hk hk2 => h k hk2 hk
theorem NeRow.row (h : NeRow v u) : ∀ k, v.ownBlock = some k → some k ≠ u.ownBlock := fun k hk e => h k hk e.symm
theorem NeRow.nil (u : Value) : NeRow (.slice none 0 0) u := fun k hk => by simp [Value.ownBlock] at hk
/-- a cell that is stored into -/
theorem IntsAt.store (h : IntsAt w base v l) (k : Nat) (hk : k < l.length) : ∃ g cap, v = .slice (some ⟨g, 0, none⟩) l.length cap ∧ base ≤ g ∧ g < w.heap.size ∧ (∃ cells, w.heap[g]? = some (.cells cells 3 (0, 0))) ∧ w.cell? ⟨g, k, none⟩ = some (.int .i64 (l.getD k 0 : Nat)) ∧ w.frozen? ⟨g, k, none⟩ = false ∧
    ∀ x : Nat, IntsAt (w.setCell ⟨g, k, none⟩ (.int .i64 x)) base v (l.set k x) ∧ w.grownBy (w.setCell ⟨g, k, none⟩ (.int .i64 x)) (some g) := by
  unfold IntsAt at h
  obtain ⟨g, cap, rfl, h1, h2, h3⟩ := Kd.R_form h (by rw [ints_len]; omega)
  obtain ⟨c1, c2⟩ := Kd.R_cell (0 : Int) h (k : Int) (by omega) (by rw [ints_len]; omega)
  simp only [Int.toNat_natCast, rdOf, ints_getD] at c1 c2
  refine ⟨g, cap, by rw [ints_len], h1, h2, h3, c1, c2, fun x => ?_⟩
  obtain ⟨p1, p2⟩ := Kd.R_put h (k : Int) (x : Int)
  simp only [Int.toNat_natCast, ints_set] at p1 p2
  refine ⟨?_, p2⟩
  unfold IntsAt
  have e : (ints (l.set k x)).length = (ints l).length := by rw [ints_len, ints_len, List.length_set]
  exact p1
/-- a cell that is read -/
theorem ints_cell {A : Option Addr} (h : Kd.C (Kd.int .i64) w A l.length (ints l)) (k : Nat) (hk : k < l.length) : ∃ ad, A = some ad ∧ w.cell? (ad.add k) = some (.int .i64 (l.getD k 0 : Nat)) := by
  obtain ⟨ad, e, hc⟩ := Kd.at_int h (k : Int) (by omega) (by omega)
  refine ⟨ad, e, ?_⟩
  have e2 : rd (ints l) (k : Int) = ((l.getD k 0 : Nat) : Int) := by simp only [rd, Int.toNat_natCast, ints_getD]
  simpa [e2] using hc
theorem IntsAt.reads (h : IntsAt w base v l) : ∃ A c, v = .slice A l.length c ∧ l.length ≤ c ∧ Kd.C (Kd.int .i64) w A l.length (ints l) := by
  obtain ⟨A, c, e, h1, h2⟩ := Kd.R_reads h
  rw [ints_len] at e h1 h2
  exact ⟨A, c, e, h1, h2⟩
theorem zeros_at {n : Nat} (h : (Kd.int .i64).R 3 w base (fun _ => True) v (List.replicate ((n : Int)).toNat 0)) : IntsAt w base v (List.replicate n 0) ∧ ∃ A c, v = .slice A n c := by
  simp only [Int.toNat_natCast] at h
  have h2 : IntsAt w base v (List.replicate n 0) := by unfold IntsAt; simpa [ints] using h
  obtain ⟨A, c, e, _⟩ := h2.reads
  exact ⟨h2, A, c, by rw [e, List.length_replicate]⟩
/-- a box stays while a row of ints is written -/
theorem IntsAt.box (h : IntsAt w base v l) {g t : Nat} {cells : Array Value} (hb : w.heap[g]? = some (.cells cells t (0, 0))) (ht : t ≠ 3) (hg : w.grownBy w1 v.ownBlock) : w1.heap[g]? = some (.cells cells t (0, 0)) :=
  blk_grown hb hg (Kd.R_ne h hb (fun e => ht e.symm))
end

/-- Two slices of ints of the call's own, T and L, in a world that has grown since W4; T and the slice J lie in boxes. -/
structure St (W4 : World) (gT : Nat) (J T L : Value) (n : Nat) (lT lL : List Nat) (w : World) : Prop where
  bJ : w.heap[W4.heap.size]? = some (.cells #[J] 82 (0, 0))
  bT : w.heap[gT]? = some (.cells #[T] 82 (0, 0))
  t : IntsAt w (W4.heap.size + 1) T lT
  l : IntsAt w (W4.heap.size + 1) L lL
  ap : NeRow T L
  lenT : lT.length = n
  lenL : lL.length = n
  bel : Below W4.heap.size W4 w

section
variable {W4 w w1 : World} {gT n : Nat} {J T L : Value} {lT lL : List Nat}
theorem St.below (h : St W4 gT J T L n lT lL w) (hb : Below w.heap.size w w1) : St W4 gT J T L n lT lL w1 :=
  ⟨blk_below h.bJ hb, blk_below h.bT hb, h.t.below hb, h.l.below hb, h.ap, h.lenT, h.lenL, h.bel.trans (hb.mono h.bel.size)⟩
theorem St.alloc (h : St W4 gT J T L n lT lL w) (o : Obj) : St W4 gT J T L n lT lL (w.alloc o) := h.below ((Below.refl _ _).alloc (Nat.le_refl _) o)
theorem St.drewN (h : St W4 gT J T L n lT lL w) (q : Nat) : St W4 gT J T L n lT lL (w.drewN q) := h.below (pw_below_drewN (Below.refl _ _) q)
theorem St.lt (h : St W4 gT J T L n lT lL w) : W4.heap.size < w.heap.size := blk_lt h.bJ

/-- T's cell k -/
theorem St.storeT (h : St W4 gT J T L n lT lL w) (k : Nat) (hk : k < n) : ∃ g cap, T = .slice (some ⟨g, 0, none⟩) n cap ∧ g < w.heap.size ∧ w.cell? ⟨g, k, none⟩ = some (.int .i64 (lT.getD k 0 : Nat)) ∧ w.frozen? ⟨g, k, none⟩ = false ∧
    ∀ x : Nat, St W4 gT J T L n (lT.set k x) lL (w.setCell ⟨g, k, none⟩ (.int .i64 x)) := by
  obtain ⟨g, cap, e, hb, hlt, _, hc, hf, hs⟩ := h.t.store k (by rw [h.lenT]; exact hk)
  rw [h.lenT] at e
  refine ⟨g, cap, e, hlt, hc, hf, fun x => ?_⟩
  obtain ⟨s1, s2⟩ := hs x
  have eo : T.ownBlock = some g := by rw [e]; rfl
  have n1 : some W4.heap.size ≠ some g := by rw [← eo]; exact Kd.R_ne h.t h.bJ (by decide)
  have n2 : some gT ≠ some g := by rw [← eo]; exact Kd.R_ne h.t h.bT (by decide)
  refine ⟨blk_grown h.bJ s2 n1, blk_grown h.bT s2 n2, s1, h.l.kept s2 ?_, h.ap, by simp [h.lenT], h.lenL, h.bel.trans ((Below.refl _ _).setCell ?_ _)⟩
  · rw [← eo]; exact NeRow.row (NeRow.symm' h.ap)
  · simp; omega
/-- L's cell k -/
theorem St.storeL (h : St W4 gT J T L n lT lL w) (k : Nat) (hk : k < n) : ∃ g cap, L = .slice (some ⟨g, 0, none⟩) n cap ∧ g < w.heap.size ∧ w.cell? ⟨g, k, none⟩ = some (.int .i64 (lL.getD k 0 : Nat)) ∧ w.frozen? ⟨g, k, none⟩ = false ∧
    ∀ x : Nat, St W4 gT J T L n lT (lL.set k x) (w.setCell ⟨g, k, none⟩ (.int .i64 x)) := by
  obtain ⟨g, cap, e, hb, hlt, _, hc, hf, hs⟩ := h.l.store k (by rw [h.lenL]; exact hk)
  rw [h.lenL] at e
  refine ⟨g, cap, e, hlt, hc, hf, fun x => ?_⟩
  obtain ⟨s1, s2⟩ := hs x
  have eo : L.ownBlock = some g := by rw [e]; rfl
  have n1 : some W4.heap.size ≠ some g := by rw [← eo]; exact Kd.R_ne h.l h.bJ (by decide)
  have n2 : some gT ≠ some g := by rw [← eo]; exact Kd.R_ne h.l h.bT (by decide)
  refine ⟨blk_grown h.bJ s2 n1, blk_grown h.bT s2 n2, h.t.kept s2 ?_, s1, h.ap, h.lenT, by simp [h.lenL], h.bel.trans ((Below.refl _ _).setCell ?_ _)⟩
  · rw [← eo]; exact NeRow.row h.ap
  · simp; omega
theorem St.cellsT {g cap : Nat} (h : St W4 gT J (.slice (some ⟨g, 0, none⟩) n cap) L n lT lL w) (k : Nat) (hk : k < n) : w.cell? ⟨g, k, none⟩ = some (.int .i64 (lT.getD k 0 : Nat)) ∧ w.frozen? ⟨g, k, none⟩ = false ∧
    ∀ x : Nat, St W4 gT J (.slice (some ⟨g, 0, none⟩) n cap) L n (lT.set k x) lL (w.setCell ⟨g, k, none⟩ (.int .i64 x)) := by
  obtain ⟨g', cap', e, _, h1, h2, h3⟩ := h.storeT k hk
  injection e with e
  injection e with e
  injection e with e
  subst e
  exact ⟨h1, h2, h3⟩
theorem St.cellsL {g cap : Nat} (h : St W4 gT J T (.slice (some ⟨g, 0, none⟩) n cap) n lT lL w) (k : Nat) (hk : k < n) : w.cell? ⟨g, k, none⟩ = some (.int .i64 (lL.getD k 0 : Nat)) ∧ w.frozen? ⟨g, k, none⟩ = false ∧
    ∀ x : Nat, St W4 gT J T (.slice (some ⟨g, 0, none⟩) n cap) n lT (lL.set k x) (w.setCell ⟨g, k, none⟩ (.int .i64 x)) := by
  obtain ⟨g', cap', e, _, h1, h2, h3⟩ := h.storeL k hk
  injection e with e
  injection e with e
  injection e with e
  subst e
  exact ⟨h1, h2, h3⟩
theorem St.readL {Al : Option Addr} {cl : Nat} (h : St W4 gT J T (.slice Al n cl) n lT lL w) : Kd.C (Kd.int .i64) w Al lL.length (ints lL) := by
  obtain ⟨A, c, e, _, hC⟩ := h.l.reads
  injection e with e
  subst e
  exact hC
theorem St.cellJ (h : St W4 gT J T L n lT lL w) : w.cell? ⟨W4.heap.size, 0, none⟩ = some J := by simpa using blk_cell h.bJ 0
theorem St.cellT (h : St W4 gT J T L n lT lL w) : w.cell? ⟨gT, 0, none⟩ = some T := by simpa using blk_cell h.bT 0
end

theorem fill_step (n k : Nat) (hk : k < n) : (List.replicate k (n + 1) ++ List.replicate (n - k) 0).set k (n + 1) = List.replicate (k + 1) (n + 1) ++ List.replicate (n - (k + 1)) 0 := by
  obtain ⟨m, e⟩ : ∃ m, n - k = m + 1 := ⟨n - k - 1, by omega⟩
  have e2 : n - (k + 1) = m := by omega
  rw [e, e2, List.set_append_right _ _ (by simp)]
  simp [List.replicate_succ']
  rw [← List.replicate_succ', List.replicate_succ, List.set_cons_zero]


/-! ### slices of pairs of ints -/
def kP : Kd (Int × Int) := Kd.pair (Kd.int .i64) (Kd.int .i64)
def prs (l : List (Nat × Nat)) : List (Int × Int) := l.map fun p : Nat × Nat => ((p.1 : Int), (p.2 : Int))
theorem prs_len (l : List (Nat × Nat)) : (prs l).length = l.length := by simp [prs]
theorem prs_set (l : List (Nat × Nat)) (k a b : Nat) : (prs l).set k ((a : Int), (b : Int)) = prs (l.set k (a, b)) := by simp [prs, List.map_set]
theorem prs_getD (l : List (Nat × Nat)) (k : Nat) : (prs l).getD k ((0 : Int), (0 : Int)) = (((l.getD k (0, 0)).1 : Int), ((l.getD k (0, 0)).2 : Int)) := by
  simp only [prs, List.getD_eq_getElem?_getD, List.getElem?_map]
  cases l[k]? <;> rfl
theorem infoPair : (Tryd.prog.info? 68).map (fun i => (i.zero, i.size, i.bytes)) = some (some (.agg #[.int .i64 0, .int .i64 0]), 2, 16) := by kernel_rfl

def PairsAt (w : World) (base : Nat) (v : Value) (l : List (Nat × Nat)) : Prop := kP.R 68 w base (fun _ => True) v (prs l)

section
variable {w w1 : World} {base : Nat} {v u v1 : Value} {l : List (Nat × Nat)}
theorem PairsAt.ge (h : PairsAt w base v l) (k : Nat) (hk : v.ownBlock = some k) : base ≤ k := by
  obtain ⟨i, ho⟩ := Kd.R_own h
  exact own_base ho k hk
theorem PairsAt.kept (h : PairsAt w base v l) {row : Option Nat} (hg : w.grownBy w1 row) (hne : ∀ k, v.ownBlock = some k → some k ≠ row) : PairsAt w1 base v l := by
  obtain ⟨h1, inner, ho, hr⟩ := h
  refine ⟨h1, inner, own_other ho hg ?_, ?_⟩
  · cases e : v.ownBlock with
    | none => exact Or.inl rfl
    | some k => exact Or.inr (hne k e)
  · exact hr
theorem PairsAt.below (h : PairsAt w base v l) (hb : Below w.heap.size w w1) : PairsAt w1 base v l := Kd.R_below h hb
theorem PairsAt.zeros {n : Nat} (h : kP.R 68 w base (fun _ => True) v (List.replicate ((n : Int)).toNat ((0 : Int), (0 : Int)))) : PairsAt w base v (List.replicate n (0, 0)) ∧ ∃ A c, v = .slice A n c := by
  simp only [Int.toNat_natCast] at h
  have h2 : PairsAt w base v (List.replicate n (0, 0)) := by unfold PairsAt; simpa [prs] using h
  obtain ⟨A, c, e, _⟩ := Kd.R_reads h
  exact ⟨h2, A, c, by rw [e, List.length_replicate]⟩
theorem PairsAt.reads (h : PairsAt w base v l) : ∃ A c, v = .slice A l.length c ∧ l.length ≤ c ∧ kP.C w A l.length (prs l) := by
  obtain ⟨A, c, e, h1, h2⟩ := Kd.R_reads h
  rw [prs_len] at e h1 h2
  exact ⟨A, c, e, h1, h2⟩
theorem pair_cell {A : Option Addr} {n : Nat} (h : kP.C w A n (prs l)) (k : Nat) (hk : k < n) : ∃ ad, A = some ad ∧ w.cell? (ad.add (k * 2)) = some (.int .i64 (l.getD k (0, 0)).1) ∧ w.cell? ⟨(ad.add (k * 2)).block, (ad.add (k * 2)).off + 1, none⟩ = some (.int .i64 (l.getD k (0, 0)).2) := by
  obtain ⟨ad, c, e, _, hK, hc0⟩ := Kd.C_get h ((0 : Int), (0 : Int)) (k : Int) (by omega) (by omega)
  rw [Int.toNat_natCast] at hK hc0
  have hc : ∀ j u, c[j]? = some u → w.cell? (ad.add (k * 2 + j)) = some u := hc0
  have e2 := prs_getD l k
  rw [e2] at hK
  obtain ⟨c0, c1, rfl, rfl, rfl⟩ := hK
  exact ⟨ad, e, hc 0 _ rfl, by rw [← add_field _ _ 1 (by omega)]; exact hc 1 _ rfl⟩
theorem PairsAt.store (h : PairsAt w base v l) (k : Nat) (hk : k < l.length) : ∃ g cap, v = .slice (some ⟨g, 0, none⟩) l.length cap ∧ base ≤ g ∧ g < w.heap.size ∧
    (∃ a b, w.cell? ⟨g, k * 2, none⟩ = some (.int .i64 a) ∧ w.cell? ⟨g, k * 2 + 1, none⟩ = some (.int .i64 b)) ∧ w.frozen? ⟨g, k * 2, none⟩ = false ∧ w.frozen? ⟨g, k * 2 + 1, none⟩ = false ∧
    ∀ a b : Nat, PairsAt ((w.setCell ⟨g, k * 2, none⟩ (.int .i64 a)).setCell ⟨g, k * 2 + 1, none⟩ (.int .i64 b)) base v (l.set k (a, b)) ∧ w.grownBy ((w.setCell ⟨g, k * 2, none⟩ (.int .i64 a)).setCell ⟨g, k * 2 + 1, none⟩ (.int .i64 b)) (some g) := by
  unfold PairsAt at h
  obtain ⟨g, cap, rfl, h1, h2, cells, h3⟩ := Kd.R_form h (by rw [prs_len]; omega)
  rw [prs_len] at h
  obtain ⟨_, hnc, hC⟩ := Kd.R_reads' h
  rw [prs_len] at hC
  obtain ⟨ad, e, c1, c2⟩ := pair_cell hC k hk
  cases e
  have ea : (Addr.add ⟨g, 0, none⟩ (k * 2)) = ⟨g, k * 2, none⟩ := by simp [Addr.add]; intro e; omega
  rw [ea] at c1 c2
  simp only at c2
  refine ⟨g, cap, by rw [prs_len], h1, h2, ⟨_, _, c1, c2⟩, blk_frozen h3 _, blk_frozen h3 _, fun a b => ?_⟩
  have hs := Kd.R_seg h (k : Int) (by omega) (by omega) (c := [.int .i64 (l.getD k (0, 0)).1, .int .i64 (l.getD k (0, 0)).2]) (seg := [.int .i64 (a : Int), .int .i64 (b : Int)]) (j := 0) (x' := ((a : Int), (b : Int))) (okp := fun _ => False) rfl
    (fun j u hj => by
      match j, hj with
      | 0, hj => cases hj; exact c1
      | 1, hj => cases hj; exact c2
      | j + 2, hj => simp at hj) (Nat.le_refl _) ⟨[.int .i64 (a : Int)], [.int .i64 (b : Int)], rfl, rfl, rfl⟩ (fun _ h => h.elim)
  rw [Int.toNat_natCast, prs_set] at hs
  refine ⟨?_, hs.2⟩
  unfold PairsAt
  rw [prs_len]
  exact hs.1
end

/-- What the last loop holds: the box of J, the slice L, the pairs. -/
structure St8 (W4 : World) (J : Value) (L : Value) (lL : List Nat) (v : Value) (seq : List (Nat × Nat)) (w : World) : Prop where
  bJ : w.heap[W4.heap.size]? = some (.cells #[J] 82 (0, 0))
  l : IntsAt w (W4.heap.size + 1) L lL
  p : PairsAt w (W4.heap.size + 1) v seq
  bel : Below W4.heap.size W4 w
section
variable {W4 w w1 : World} {J L v : Value} {lL : List Nat} {seq : List (Nat × Nat)}
theorem St8.below (h : St8 W4 J L lL v seq w) (hb : Below w.heap.size w w1) : St8 W4 J L lL v seq w1 := ⟨blk_below h.bJ hb, h.l.below hb, h.p.below hb, h.bel.trans (hb.mono h.bel.size)⟩
theorem St8.store (h : St8 W4 J L lL v seq w) (k : Nat) (hk : k < seq.length) : ∃ g cap, v = .slice (some ⟨g, 0, none⟩) seq.length cap ∧ g < w.heap.size ∧
    (∃ a b, w.cell? ⟨g, k * 2, none⟩ = some (.int .i64 a) ∧ w.cell? ⟨g, k * 2 + 1, none⟩ = some (.int .i64 b)) ∧ w.frozen? ⟨g, k * 2, none⟩ = false ∧ w.frozen? ⟨g, k * 2 + 1, none⟩ = false ∧
    ∀ a b : Nat, St8 W4 J L lL v (seq.set k (a, b)) ((w.setCell ⟨g, k * 2, none⟩ (.int .i64 a)).setCell ⟨g, k * 2 + 1, none⟩ (.int .i64 b)) := by
  obtain ⟨g, cap, e, h1, h2, h3, h4, h5, h6⟩ := h.p.store k hk
  refine ⟨g, cap, e, h2, h3, h4, h5, fun a b => ?_⟩
  obtain ⟨s1, s2⟩ := h6 a b
  have eo : v.ownBlock = some g := by rw [e]; rfl
  have hl : IntsAt ((w.setCell ⟨g, k * 2, none⟩ (.int .i64 a)).setCell ⟨g, k * 2 + 1, none⟩ (.int .i64 b)) (W4.heap.size + 1) L lL :=
    Kd.R_over h.l h.p (by intro q hq; simp [Kd.int, Kd.scalar] at hq; subst hq; decide) (by rw [eo]; exact s2)
  refine ⟨blk_grown h.bJ s2 (fun e => by injection e with e; omega), hl, s1, h.bel.trans ?_⟩
  exact ((Below.refl _ _).setCell (by simp; omega) _).setCell (by simp; omega) _
theorem St8.cellJ (h : St8 W4 J L lL v seq w) : w.cell? ⟨W4.heap.size, 0, none⟩ = some J := by simpa using blk_cell h.bJ 0
theorem St8.readL {Al : Option Addr} {n cl : Nat} (h : St8 W4 J (.slice Al n cl) lL v seq w) : Kd.C (Kd.int .i64) w Al lL.length (ints lL) := by
  obtain ⟨A, c, e, _, hC⟩ := h.l.reads
  injection e with e
  subst e
  exact hC
end
end Go.Proofs.YtplbifmjnanceaaDoor
