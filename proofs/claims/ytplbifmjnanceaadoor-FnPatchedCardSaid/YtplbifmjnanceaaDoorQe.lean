/- plain: lines, rows, numbers, what Applied makes of hunks. -/
import Derived.Test.YtplbifmjnanceaaDoorPlinesx1
import Derived.Test.YtplbifmjnanceaaDoorQa
import Derived.Test.YtplbifmjnanceaaDoorPAppliedx1
import Derived.Test.YtplbifmjnanceaaDoorPnumberx1
import Derived.Lib.ItoaMem
import Derived.Test.YtplbifmjnanceaaDoorQb
import Derived.Test.YtplbifmjnanceaaDoorPAppliedx2
namespace Go.Proofs.YtplbifmjnanceaaDoor
open Go.RowKit Go.Proofs.YtplbifmjnanceaaDoorW.PrintWords Go.Proofs.YtplbifmjnanceaaDoorW.PrintLast Go.Proofs.YtplbifmjnanceaaDoorW.PrintMore
open Go.Proofs.YtplbifmjnanceaaDoor.Plines
set_option linter.unusedVariables false

/-- the lines of a text, each with its line feed, and what is behind the last line feed -/
def spl (acc : List UInt8) : List UInt8 → List (List UInt8)
  | [] => [acc]
  | b :: t => if b = 10 then (acc ++ [b]) :: spl [] t else spl (acc ++ [b]) t

def mkB (l : List UInt8) : ByteArray := ⟨l.toArray⟩

theorem extract_seg (s : ByteArray) (i j : Nat) (h : j ≤ s.size) : s.extract i j = mkB ((s.data.toList.drop i).take (j - i)) := by
  apply ByteArray.ext
  apply Array.toList_inj.1
  simp [mkB, ByteArray.data_extract, Array.toList_extract, List.extract_eq_drop_take']

theorem zzLines_l0 (s : ByteArray) (hs : s.size ≤ 1048576) : ∀ (k : Nat) (x3 : List ByteArray) (i j : Nat), i ≤ j → j ≤ s.size → s.size - j < k → x3.length ≤ j →
    diff_zzLines.l0 k s x3 (i : Int) (j : Int) = some (x3 ++ (spl ((s.data.toList.drop i).take (j - i)) (s.data.toList.drop j)).map mkB) := by
  intro k
  induction k with
  | zero => intro x3 i j _ _ h; omega
  | succ k ih =>
    intro x3 i j h1 h2 h3 h4
    unfold diff_zzLines.l0
    have e1 : wrap64 ((j : Int) + 1) = ((j + 1 : Nat) : Int) := by unfold wrap64; omega
    by_cases c : j < s.size
    · rw [if_pos (by omega), if_pos (by omega)]
      have hl : j < s.data.toList.length := c
      have hd : s.data.toList.drop j = s.data.toList[j] :: s.data.toList.drop (j + 1) := List.drop_eq_getElem_cons hl
      have ht : (s.data.toList.drop i).take (j + 1 - i) = (s.data.toList.drop i).take (j - i) ++ [s.data.toList[j]] := by
        rw [show j + 1 - i = (j - i) + 1 by omega, List.take_add_one, List.getElem?_drop, show i + (j - i) = j by omega, List.getElem?_eq_getElem hl]
        rfl
      have hb : bt s (j : Int) = (s.data.toList[j].toNat : Int) := by
        unfold bt
        rw [dif_pos (by simpa using c)]
        rfl
      rw [hd, hb]
      by_cases n : s.data.toList[j] = 10
      · rw [n] at ht
        rw [if_pos (by rw [n]; rfl), if_pos (by omega), e1, if_pos (by omega), if_pos (by omega), if_pos (by omega), ih _ (j + 1) (j + 1) (Nat.le_refl _) c (by omega) (by simp; omega)]
        simp only [Int.toNat_natCast, spl, n, if_true]
        rw [extract_seg s i (j + 1) c, ht]
        simp
      · have nn : ¬ ((s.data.toList[j].toNat : Nat) : Int) = 10 := by
          intro e
          apply n
          apply UInt8.toNat_inj.1
          show s.data.toList[j].toNat = 10
          omega
        rw [if_neg nn, e1, ih _ i (j + 1) (by omega) c (by omega) (by omega), ht]
        simp only [spl, n, if_false]
    · have ej : j = s.size := by omega
      rw [if_neg (by omega), if_pos (by omega), if_pos (by omega), if_pos (by omega)]
      have hd : s.data.toList.drop j = [] := List.drop_eq_nil_of_le (by rw [ej]; exact Nat.le_refl _)
      rw [hd]
      simp only [Int.toNat_natCast, spl, List.map_cons, List.map_nil]
      rw [extract_seg s i s.size (Nat.le_refl _), ej]

/-- the remark behind a last line without a line feed, with the line feed ahead of it -/
def msg : List UInt8 := [10, 92, 32, 78, 111, 32, 110, 101, 119, 108, 105, 110, 101, 32, 97, 116, 32, 101, 110, 100, 32, 111, 102, 32, 102, 105, 108, 101, 10]
/-- what diff.lines gives -/
def lns (acc : List UInt8) : List UInt8 → List (List UInt8)
  | [] => if acc = [] then [] else [acc ++ msg]
  | b :: t => if b = 10 then (acc ++ [b]) :: lns [] t else lns (acc ++ [b]) t
/-- what spec.Rows gives -/
def rws (acc : List UInt8) : List UInt8 → List (List UInt8)
  | [] => if acc = [] then [] else [acc]
  | b :: t => if b = 10 then (acc ++ [b]) :: rws [] t else rws (acc ++ [b]) t
theorem spl_parts (l : List UInt8) : ∀ acc, ∃ full last, spl acc l = full ++ [last] ∧ lns acc l = full ++ (if last = [] then [] else [last ++ msg]) ∧ rws acc l = full ++ (if last = [] then [] else [last]) := by
  induction l with
  | nil => intro acc; exact ⟨[], acc, rfl, rfl, rfl⟩
  | cons b t ih =>
    intro acc
    by_cases h : b = 10
    · obtain ⟨f, la, h1, h2, h3⟩ := ih []
      refine ⟨(acc ++ [b]) :: f, la, ?_, ?_, ?_⟩
      · simp [spl, h, h1]
      · simp [lns, h, h2]
      · simp [rws, h, h3]
    · obtain ⟨f, la, h1, h2, h3⟩ := ih (acc ++ [b])
      exact ⟨f, la, by simp [spl, h, h1], by simp [lns, h, h2], by simp [rws, h, h3]⟩

theorem rows_l0 (s : ByteArray) (hs : s.size ≤ 1099511627776) : ∀ (k : Nat) (x3 : List ByteArray) (i j : Nat), i ≤ j → j ≤ s.size → s.size - j < k → x3.length ≤ j →
    PApplied.spec_Rows.l0 k s x3 (i : Int) (s.size : Int) (j : Int) = some (x3 ++ (rws ((s.data.toList.drop i).take (j - i)) (s.data.toList.drop j)).map mkB) := by
  intro k
  induction k with
  | zero => intro x3 i j _ _ h; omega
  | succ k ih =>
    intro x3 i j h1 h2 h3 h4
    unfold PApplied.spec_Rows.l0
    have e1 : wrap64 ((j : Int) + 1) = ((j + 1 : Nat) : Int) := by unfold wrap64; omega
    by_cases c : j < s.size
    · rw [if_pos (by omega), if_pos (by omega), if_pos (by omega)]
      have hl : j < s.data.toList.length := c
      have hd : s.data.toList.drop j = s.data.toList[j] :: s.data.toList.drop (j + 1) := List.drop_eq_getElem_cons hl
      have ht : (s.data.toList.drop i).take (j + 1 - i) = (s.data.toList.drop i).take (j - i) ++ [s.data.toList[j]] := by
        rw [show j + 1 - i = (j - i) + 1 by omega, List.take_add_one, List.getElem?_drop, show i + (j - i) = j by omega, List.getElem?_eq_getElem hl]
        rfl
      have hb : bt s (j : Int) = (s.data.toList[j].toNat : Int) := by
        unfold bt
        rw [dif_pos (by simpa using c)]
        rfl
      rw [hd, hb]
      by_cases n : s.data.toList[j] = 10
      · rw [n] at ht
        rw [if_pos (by rw [n]; rfl), if_pos (by omega), e1, if_pos (by omega), if_pos (by omega), if_pos (by omega), ih _ (j + 1) (j + 1) (Nat.le_refl _) c (by omega) (by simp; omega)]
        simp only [Int.toNat_natCast, rws, n, if_true]
        rw [extract_seg s i (j + 1) c, ht]
        simp
      · have nn : ¬ ((s.data.toList[j].toNat : Nat) : Int) = 10 := by
          intro e
          apply n
          apply UInt8.toNat_inj.1
          show s.data.toList[j].toNat = 10
          omega
        rw [if_neg nn, e1, ih _ i (j + 1) (by omega) c (by omega) (by omega), ht]
        simp only [rws, n, if_false]
    · have ej : j = s.size := by omega
      have hd : s.data.toList.drop j = [] := List.drop_eq_nil_of_le (by rw [ej]; exact Nat.le_refl _)
      rw [if_neg (by omega), hd]
      have hle : ((s.data.toList.drop i).take (j - i)).length = j - i := by
        rw [List.length_take, List.length_drop, show s.data.toList.length = s.size from rfl]; omega
      by_cases ci : i < s.size
      · rw [if_pos (by omega), if_pos (by omega), if_pos (by omega), if_pos (by omega)]
        have hne : ¬ (s.data.toList.drop i).take (j - i) = [] := fun e => by rw [e] at hle; simp at hle; omega
        simp only [Int.toNat_natCast, rws, hne, if_false, List.map_cons, List.map_nil]
        rw [extract_seg s i s.size (Nat.le_refl _), ej]
      · rw [if_neg (by omega)]
        have hne : (s.data.toList.drop i).take (j - i) = [] := List.eq_nil_of_length_eq_zero (by omega)
        simp [rws, hne]

theorem strOf_bytesOf (s : ByteArray) : strOfNums (bytesOf s) = s := by
  apply ByteArray.ext
  apply Array.toList_inj.1
  rw [strOfNums_data]
  unfold bytesOf
  rw [List.map_map]
  conv => rhs; rw [← List.map_id s.data.toList]
  apply List.map_congr_left
  intro b _
  simp

theorem spl_len (l : List UInt8) : ∀ acc, (spl acc l).length ≤ l.length + 1 := by
  induction l with
  | nil => intro acc; simp [spl]
  | cons b t ih =>
    intro acc
    by_cases h : b = 10
    · have := ih []; simp [spl, h]; omega
    · have := ih (acc ++ [b]); simp [spl, h]; omega
theorem spl_last (l : List UInt8) : ∀ acc, ∀ p ∈ spl acc l, p.length ≤ acc.length + l.length := by
  induction l with
  | nil => intro acc p hp; simp [spl] at hp; subst hp; simp
  | cons b t ih =>
    intro acc p hp
    by_cases h : b = 10
    · simp [spl, h] at hp
      rcases hp with rfl | hp
      · simp
      · have := ih [] p hp; simp at this ⊢; omega
    · simp [spl, h] at hp
      have := ih _ p hp; simp at this ⊢; omega

theorem lines_f (s : ByteArray) (hs : s.size ≤ 1048576) (k : Nat) (hk : s.size < k) : diff_lines.f k (bytesOf s) = some ((lns [] s.data.toList).map mkB) := by
  unfold diff_lines.f
  have hz : diff_zzLines.f k (strOfNums (bytesOf s)) = some ((spl [] s.data.toList).map mkB) := by
    rw [strOf_bytesOf]
    have := zzLines_l0 s hs k [] 0 0 (Nat.le_refl _) (Nat.zero_le _) (by omega) (Nat.zero_le _)
    simpa [diff_zzLines.f] using this
  rw [hz]
  obtain ⟨f, la, h1, h2, h3⟩ := spl_parts s.data.toList []
  have hl := spl_len s.data.toList []
  have hla := spl_last s.data.toList [] la (by rw [h1]; simp)
  rw [h1] at hl
  have hsz : s.data.toList.length = s.size := rfl
  simp only [List.length_append, List.length_cons, List.length_nil, hsz] at hl hla
  rw [h1, h2]
  have e1 : wrap64 (((f.length + 1 : Nat) : Int) - 1) = (f.length : Int) := by unfold wrap64; omega
  simp only [Option.bind_some, List.map_append, List.map_cons, List.map_nil, List.length_append, List.length_map, List.length_cons, List.length_nil, Nat.zero_add, e1]
  have er : rdOf ByteArray.empty (f.map mkB ++ [mkB la]) (f.length : Int) = mkB la := by
    simp [rdOf]
  rw [if_pos (by omega), if_pos (by omega), er]
  by_cases h0 : la = []
  · subst h0
    rw [if_pos (by simp [mkB, ByteArray.toList_eq]), if_pos (by omega)]
    simp
  · rw [if_neg (by simpa [mkB, ByteArray.toList_eq] using h0), if_pos (by simp [mkB, ByteArray.size]; omega), if_neg h0]
    congr 1
    simp [mkB, msg]
    apply ByteArray.ext
    simp

end Go.Proofs.YtplbifmjnanceaaDoor

namespace Go.Proofs.YtplbifmjnanceaaDoor
set_option linter.unusedVariables false

/-- a row as diff.lines has it -/
def mk (r : List UInt8) : List UInt8 := if r.getLast? = some 10 then r else r ++ msg

/-- a row: it has something, and a line feed nowhere but at its end -/
def Row (r : List UInt8) : Prop := r ≠ [] ∧ (10 : UInt8) ∉ r.dropLast

theorem lns_rws (l : List UInt8) : ∀ acc, (10 : UInt8) ∉ acc → lns acc l = (rws acc l).map mk := by
  induction l with
  | nil =>
    intro acc ha
    by_cases h : acc = []
    · simp [lns, rws, h]
    · have : acc.getLast? ≠ some 10 := fun e => ha (List.mem_of_getLast? e)
      simp [lns, rws, h, mk, this]
  | cons b t ih =>
    intro acc ha
    by_cases h : b = 10
    · simp [lns, rws, h, mk, ih [] (by simp)]
    · simp [lns, rws, h, ih (acc ++ [b]) (by simp; exact ⟨ha, fun e => h e.symm⟩)]
theorem rws_row (l : List UInt8) : ∀ acc, (10 : UInt8) ∉ acc → ∀ r ∈ rws acc l, Row r := by
  induction l with
  | nil =>
    intro acc ha r hr
    by_cases h : acc = []
    · simp [rws, h] at hr
    · simp [rws, h] at hr
      subst hr
      exact ⟨h, fun e => ha (List.dropLast_subset _ e)⟩
  | cons b t ih =>
    intro acc ha r hr
    by_cases h : b = 10
    · simp [rws, h] at hr
      rcases hr with rfl | hr
      · exact ⟨by simp, by simpa using ha⟩
      · exact ih [] (by simp) r hr
    · simp [rws, h] at hr
      exact ih (acc ++ [b]) (by simp; exact ⟨ha, fun e => h e.symm⟩) r hr

theorem mk_inj {a b : List UInt8} (ha : Row a) (hb : Row b) (h : mk a = mk b) : a = b := by
  have key : ∀ r q : List UInt8, Row r → Row q → r.getLast? = some 10 → q.getLast? ≠ some 10 → r ≠ q ++ msg := by
    intro r q hr hq h1 h2 e
    apply hr.2
    rw [e, List.dropLast_append_of_ne_nil (by simp [msg])]
    simp [msg]
  unfold mk at h
  by_cases h1 : a.getLast? = some 10
  · by_cases h2 : b.getLast? = some 10
    · simpa [h1, h2] using h
    · simp only [h1, h2, if_true, if_false] at h
      exact absurd h (key a b ha hb h1 h2)
  · by_cases h2 : b.getLast? = some 10
    · simp only [h1, h2, if_true, if_false] at h
      exact absurd h.symm (key b a hb ha h2 h1)
    · simp only [h1, h2, if_false] at h
      exact List.append_cancel_right h

/-- a text that ends with a line feed, and more -/
theorem rws_append (b : List UInt8) : ∀ (a acc : List UInt8), a.getLast? = some 10 → rws acc (a ++ b) = rws acc a ++ rws [] b := by
  intro a
  induction a with
  | nil => intro acc h; simp at h
  | cons c t ih =>
    intro acc h
    by_cases ht : t = []
    · subst ht
      simp at h
      simp [rws, h]
    · have h' : t.getLast? = some 10 := by
        rw [List.getLast?_cons] at h
        cases e : t.getLast? with
        | none => exact absurd (List.getLast?_eq_none_iff.1 e) ht
        | some q => rw [e] at h; simpa using h
      by_cases hc : c = 10
      · simp [rws, hc, ih [] h']
      · simp [rws, hc, ih (acc ++ [c]) h']
/-- one line -/
theorem rws_one (l : List UInt8) (h : (10 : UInt8) ∉ l) : ∀ acc, rws acc (l ++ [10]) = [acc ++ l ++ [10]] := by
  induction l with
  | nil => intro acc; simp [rws]
  | cons c t ih =>
    intro acc
    have hc : ¬ c = 10 := fun e => h (by simp [e])
    have := ih (fun e => h (List.mem_cons_of_mem _ e)) (acc ++ [c])
    simp [rws, hc, this]

/-- the row of a line as diff.lines has it -/
def unm (l : List UInt8) : List UInt8 := if 29 ≤ l.length ∧ l.drop (l.length - 29) = msg then l.take (l.length - 29) else l
theorem unm_mk {r : List UInt8} (hr : Row r) : unm (mk r) = r := by
  unfold unm mk
  by_cases h : r.getLast? = some 10
  · rw [if_pos h, if_neg]
    rintro ⟨h1, h2⟩
    apply hr.2
    have e : r = r.take (r.length - 29) ++ msg := by rw [← h2, List.take_append_drop]
    rw [e, List.dropLast_append_of_ne_nil (by simp [msg])]
    simp [msg]
  · rw [if_neg h, if_pos]
    · simp [msg]
    · simp [msg]
/-- the remark's row -/
def remark : List UInt8 := msg.tail
/-- the rows of a line of a hunk -/
def lineRows (p : UInt8 × List UInt8) : List (List UInt8) := if p.2.getLast? = some 10 then [p.1 :: p.2] else [p.1 :: (p.2 ++ [10]), remark]
theorem rws_line {sg : UInt8} {r : List UInt8} (hr : Row r) (hs : sg ≠ 10) : rws [] (sg :: mk r) = lineRows (sg, r) := by
  unfold lineRows mk
  by_cases h : r.getLast? = some 10
  · simp only [h, if_true]
    obtain ⟨q, hq⟩ : ∃ q, r = q ++ [10] := by
      obtain ⟨q, hq⟩ := List.getLast?_eq_some_iff.1 h
      exact ⟨q, hq⟩
    have hn : (10 : UInt8) ∉ q := by have := hr.2; rw [hq] at this; simpa using this
    rw [hq]
    have := rws_one (sg :: q) (by simp; exact ⟨fun e => hs e.symm, hn⟩) []
    simpa using this
  · simp only [h, if_false]
    have hn : (10 : UInt8) ∉ r := by
      intro e
      rcases List.eq_nil_or_concat r with h0 | ⟨q, a, h0⟩
      · exact hr.1 h0
      · have h2 := hr.2
        rw [h0] at h2 e h
        simp at h2 e h
        rcases e with e | e
        · exact h2 e
        · exact h e.symm
    have e1 : sg :: (r ++ msg) = ((sg :: r) ++ [10]) ++ remark := by simp [msg, remark]
    rw [e1, rws_append _ _ _ (List.getLast?_concat), rws_one (sg :: r) (by simp; exact ⟨fun e => hs e.symm, hn⟩) []]
    have e2 : rws [] remark = [remark] := by decide
    rw [e2]
    simp

end Go.Proofs.YtplbifmjnanceaaDoor

namespace Go.Proofs.YtplbifmjnanceaaDoor
open Go.RowKit Go.Proofs.YtplbifmjnanceaaDoorW.PrintWords Go.Proofs.YtplbifmjnanceaaDoorW.PrintLast Go.Proofs.YtplbifmjnanceaaDoorW.PrintMore
set_option linter.unusedVariables false
set_option linter.unusedSimpArgs false

theorem digit_of (d : Nat) (h : d < 10) : (UInt8.ofNat (48 + d)).toNat = 48 + d := by
  rw [UInt8.toNat_ofNat']
  omega

theorem dec_digits (u : Nat) : ∀ b ∈ Lib.decDigits u, 48 ≤ b.toNat ∧ b.toNat ≤ 57 := by
  induction u using Nat.strongRecOn with
  | _ u ih =>
    intro b hb
    rw [Lib.decDigits] at hb
    by_cases h : u < 10
    · rw [dif_pos h] at hb
      simp only [List.mem_singleton] at hb
      subst hb
      rw [digit_of u h]
      omega
    · rw [dif_neg h] at hb
      rcases List.mem_append.1 hb with hb | hb
      · exact ih (u / 10) (by omega) b hb
      · simp only [List.mem_singleton] at hb
        subst hb
        rw [digit_of _ (by omega)]
        omega

def decVal (n : Nat) (l : List UInt8) : Nat := l.foldl (fun n b => 10 * n + (b.toNat - 48)) n
theorem dec_val (u : Nat) : decVal 0 (Lib.decDigits u) = u := by
  induction u using Nat.strongRecOn with
  | _ u ih =>
    rw [Lib.decDigits]
    by_cases h : u < 10
    · rw [dif_pos h]
      simp only [decVal, List.foldl_cons, List.foldl_nil]
      rw [digit_of u h]
      omega
    · rw [dif_neg h]
      have := ih (u / 10) (by omega)
      unfold decVal at this ⊢
      rw [List.foldl_append, this]
      simp only [List.foldl_cons, List.foldl_nil]
      rw [digit_of _ (by omega)]
      omega

theorem dec_first (u : Nat) (h : 1 ≤ u) : ∃ b t, Lib.decDigits u = b :: t ∧ 49 ≤ b.toNat := by
  induction u using Nat.strongRecOn with
  | _ u ih =>
    rw [Lib.decDigits]
    by_cases h1 : u < 10
    · rw [dif_pos h1]
      exact ⟨_, [], rfl, by rw [digit_of u h1]; omega⟩
    · rw [dif_neg h1]
      obtain ⟨b, t, e, hb⟩ := ih (u / 10) (by omega) (by omega)
      exact ⟨b, t ++ _, by rw [e]; rfl, hb⟩

theorem nDigits_le (k : Nat) : ∀ u, u < 10 ^ (k + 1) → Lib.nDigits u ≤ k + 1 := by
  induction k with
  | zero => intro u h; rw [Lib.nDigits_small (by simpa using h)]; exact Nat.le_refl 1
  | succ k ih =>
    intro u h
    by_cases h1 : u < 10
    · rw [Lib.nDigits_small h1]; omega
    · rw [Lib.nDigits_big h1]
      have := ih (u / 10) (by rw [Nat.pow_succ] at h; omega)
      omega
theorem dec_len (u : Nat) (h : u < 1000000000) : 1 ≤ (Lib.decDigits u).length ∧ (Lib.decDigits u).length ≤ 9 := by
  rw [Lib.decDigits_length]
  exact ⟨Lib.nDigits_pos u, nDigits_le 8 u h⟩

theorem decVal_snoc (n : Nat) (l : List UInt8) (b : UInt8) : decVal n (l ++ [b]) = 10 * decVal n l + (b.toNat - 48) := by
  simp [decVal, List.foldl_append]
theorem decVal_lt (l : List UInt8) (h : ∀ b ∈ l, 48 ≤ b.toNat ∧ b.toNat ≤ 57) : ∀ j, j ≤ l.length → decVal 0 (l.take j) < 10 ^ j := by
  intro j
  induction j with
  | zero => intro _; simp [decVal]
  | succ j ih =>
    intro hj
    have e : l.take (j + 1) = l.take j ++ [l[j]] := by
      rw [List.take_add_one, List.getElem?_eq_getElem (by omega)]; rfl
    have := ih (by omega)
    have hb := h l[j] (List.getElem_mem _)
    rw [e, decVal_snoc, Nat.pow_succ]
    omega

theorem bt_list (s : ByteArray) (j : Nat) (h : j < s.data.toList.length) : bt s (j : Int) = (s.data.toList[j].toNat : Int) := by
  unfold bt
  rw [dif_pos (by simpa using h)]
  rfl

theorem wrap64_small (n : Int) (h1 : -9223372036854775808 ≤ n) (h2 : n < 9223372036854775808) : wrap64 n = n := by
  unfold wrap64
  rw [Int.emod_eq_of_lt (by omega) (by omega)]
  omega

theorem number_l0 (s : ByteArray) (ds rest : List UInt8) (hs : s.data.toList = ds ++ rest) (hd : ∀ b ∈ ds, 48 ≤ b.toNat ∧ b.toNat ≤ 57) (hl : 1 ≤ ds.length ∧ ds.length ≤ 9) (hf : ds.length = 1 ∨ ∃ b t, ds = b :: t ∧ 49 ≤ b.toNat)
    (hr : ∀ b t, rest = b :: t → b.toNat < 48 ∨ 57 < b.toNat) : ∀ (k j : Nat), j ≤ ds.length → ds.length - j < k → Pnumber.spec_number.l0 k s (decVal 0 (ds.take j) : Int) (j : Int) = some ((decVal 0 ds : Int), mkB rest) := by
  intro k
  induction k with
  | zero => intro j _ h; omega
  | succ k ih =>
    intro j hj hk
    have hsz : s.size = ds.length + rest.length := by
      have := congrArg List.length hs
      simpa using this
    unfold Pnumber.spec_number.l0
    have hv : decVal 0 (ds.take j) < 1000000000 := by
      have h1 : (10 : Nat) ^ j ≤ 10 ^ 9 := Nat.pow_le_pow_right (by decide) (by omega)
      have h2 := decVal_lt ds hd j hj
      have h3 : (10 : Nat) ^ 9 = 1000000000 := by decide
      rw [h3] at h1
      exact Nat.lt_of_lt_of_le h2 h1
    by_cases c : j < ds.length
    · have g1 : j + 1 ≤ ds.length := c
      have g2 : ds.length - (j + 1) < k := by clear hv ih hsz; omega
      have hjl : j < s.data.toList.length := by rw [hs]; simp; omega
      have eb : s.data.toList[j] = ds[j] := by simp [hs, List.getElem_append_left c]
      have hb := hd ds[j] (List.getElem_mem _)
      have hbt := bt_list s j hjl
      rw [eb] at hbt
      have q1 : (j : Int) < (s.size : Int) := by omega
      have q2 : (j : Int) < 9 := by omega
      have q3 : (0 : Int) ≤ (j : Int) := by omega
      have q4 : bt s (j : Int) ≥ 48 := by omega
      have q5 : bt s (j : Int) ≤ 57 := by omega
      rw [if_pos q1, if_pos q2, if_pos q3, if_pos q4, if_pos q5, hbt]
      have e1 : wrap64 ((j : Int) + 1) = ((j + 1 : Nat) : Int) := by rw [wrap64_small _ (by omega) (by omega)]; omega
      have e2 : wrap64 (wrap64 (10 * (decVal 0 (ds.take j) : Int)) + (((ds[j].toNat : Int) - 48) % 256)) = (decVal 0 (ds.take (j + 1)) : Int) := by
        have e : ds.take (j + 1) = ds.take j ++ [ds[j]] := by
          rw [List.take_add_one, List.getElem?_eq_getElem (by omega)]; rfl
        rw [e, decVal_snoc]
        have hv2 := hv
        generalize decVal 0 (ds.take j) = V at hv2 ⊢
        have hb1 := hb.1
        have hb2 := hb.2
        generalize ds[j].toNat = d at hb1 hb2 ⊢
        clear hv ih hd hr hf hs
        rw [wrap64_small (10 * (V : Int)) (by omega) (by omega), Int.emod_eq_of_lt (by omega) (by omega), wrap64_small _ (by omega) (by omega)]
        omega
      rw [e1, e2]
      exact ih (j + 1) g1 g2
    · clear hv ih
      obtain rfl : j = ds.length := by omega
      rw [List.take_length]
      have hex : s.extract ((ds.length : Nat) : Int).toNat s.size = mkB rest := by
        rw [Int.toNat_natCast, extract_seg s _ _ (Nat.le_refl _), hs]
        congr 1
        rw [List.drop_left, hsz, List.take_of_length_le (by omega)]
      have h0 : ¬ ((ds.length : Nat) : Int) = 0 := by omega
      have h00 : (0 : Int) ≤ ((ds.length : Nat) : Int) := by omega
      have hz : (0 : Int) < (s.size : Int) := by omega
      have hle : ((ds.length : Nat) : Int) ≤ (s.size : Int) := by omega
      have h48 : ((ds.length : Nat) : Int) > 1 → ¬ bt s 0 = 48 := by
        intro h1 h2
        obtain ⟨b, t, e, hb⟩ := hf.resolve_left (by omega)
        have := bt_list s 0 (by rw [hs]; simp; omega)
        rw [show (((0 : Nat) : Int)) = 0 from rfl] at this
        rw [this] at h2
        have e3 : s.data.toList[0]'(by rw [hs]; simp; omega) = b := by simp [hs, e]
        rw [e3] at h2
        omega
      generalize hgd : ((decVal 0 ds : Nat) : Int) = V
      generalize hgs : ((ds.length : Nat) : Int) = J at *
      by_cases c1 : J < (s.size : Int)
      · rw [if_pos c1]
        by_cases c2 : J < 9
        · rw [if_pos c2, if_pos h00]
          have hjl : ds.length < s.data.toList.length := by rw [hs]; simp; omega
          have hrest : ∃ b t, rest = b :: t := by
            cases rest with
            | nil => simp at hsz; omega
            | cons b t => exact ⟨b, t, rfl⟩
          obtain ⟨b, t, e⟩ := hrest
          have e3 : s.data.toList[ds.length] = b := by simp [hs, e]
          have hbt := bt_list s ds.length hjl
          rw [e3, hgs] at hbt
          rcases hr b t e with h | h
          · have h3 : ¬ (bt s J ≥ 48) := by omega
            rw [if_neg h3, if_neg h0]
            by_cases h1 : J > 1
            · rw [if_pos h1, if_pos hz, if_neg (h48 h1), if_pos hle, hex]
            · rw [if_neg h1, if_pos hle, hex]
          · have h3 : ¬ (bt s J ≤ 57) := by omega
            have h4 : bt s J ≥ 48 := by omega
            rw [if_pos h4, if_neg h3, if_neg h0]
            by_cases h1 : J > 1
            · rw [if_pos h1, if_pos hz, if_neg (h48 h1), if_pos hle, hex]
            · rw [if_neg h1, if_pos hle, hex]
        · rw [if_neg c2, if_neg h0]
          by_cases h1 : J > 1
          · rw [if_pos h1, if_pos hz, if_neg (h48 h1), if_pos h00, if_pos hle, hex]
          · rw [if_neg h1, if_pos h00, if_pos hle, hex]
      · rw [if_neg c1, if_neg h0]
        by_cases h1 : J > 1
        · rw [if_pos h1, if_pos hz, if_neg (h48 h1), if_pos h00, if_pos hle, hex]
        · rw [if_neg h1, if_pos h00, if_pos hle, hex]

theorem number_f (u : Nat) (hu : u < 1000000000) (s : ByteArray) (rest : List UInt8) (hs : s.data.toList = Lib.decDigits u ++ rest) (hr : ∀ b t, rest = b :: t → b.toNat < 48 ∨ 57 < b.toNat) (k : Nat) (hk : 10 < k) :
    Pnumber.spec_number.f k s = some ((u : Int), mkB rest) := by
  have hl := dec_len u hu
  have hf : (Lib.decDigits u).length = 1 ∨ ∃ b t, Lib.decDigits u = b :: t ∧ 49 ≤ b.toNat := by
    rcases Nat.eq_zero_or_pos u with h | h
    · subst h
      left
      rw [Lib.decDigits_length]
      exact Lib.nDigits_small (by omega)
    · exact Or.inr (dec_first u h)
  have := number_l0 s (Lib.decDigits u) rest hs (dec_digits u) hl hf hr k 0 (Nat.zero_le _) (by omega)
  rw [dec_val] at this
  simpa [decVal, Pnumber.spec_number.f] using this

end Go.Proofs.YtplbifmjnanceaaDoor

namespace Go.Proofs.YtplbifmjnanceaaDoor
open Go.RowKit Go.Proofs.YtplbifmjnanceaaDoorW.PrintWords Go.Proofs.YtplbifmjnanceaaDoorW.PrintLast Go.Proofs.YtplbifmjnanceaaDoorW.PrintMore
open Go.Proofs.YtplbifmjnanceaaDoor.PApplied
set_option linter.unusedVariables false
set_option linter.unusedSimpArgs false

/-- texts, one behind the other -/
def cat (l : List ByteArray) : ByteArray := mkB (l.flatMap fun s => s.data.toList)
theorem mkB_data (s : ByteArray) : mkB s.data.toList = s := by
  apply ByteArray.ext
  simp [mkB]
theorem mkB_list (l : List UInt8) : (mkB l).data.toList = l := by simp [mkB]
theorem mkB_append (a b : List UInt8) : mkB a ++ mkB b = mkB (a ++ b) := by
  apply ByteArray.ext
  simp [mkB, ByteArray.data_append]
theorem cat_nil : cat [] = ⟨#[]⟩ := rfl
theorem cat_append (a b : List ByteArray) : cat a ++ cat b = cat (a ++ b) := by
  unfold cat
  rw [mkB_append, List.flatMap_append]
theorem cat_one (s : ByteArray) : cat [s] = s := by
  simp [cat, mkB_data]
theorem cat_snoc (a : List ByteArray) (s : ByteArray) : cat a ++ s = cat (a ++ [s]) := by
  rw [← cat_append, cat_one]
theorem cat_next {y : List ByteArray} {j : Nat} {s : ByteArray} (h : y[j]? = some s) : cat (y.take j) ++ s = cat (y.take (j + 1)) := by
  rw [cat_snoc, List.take_add_one, h]; rfl
theorem cat_size_take (y : List ByteArray) (j : Nat) : (cat (y.take j)).size ≤ (cat y).size := by
  have h := cat_append (y.take j) (y.drop j)
  rw [List.take_append_drop] at h
  rw [← h, ByteArray.size_append]
  omega
theorem rd_get {x : List ByteArray} {i : Nat} {s : ByteArray} (h : x[i]? = some s) : rdOf ByteArray.empty x (i : Int) = s := by
  unfold rdOf
  rw [Int.toNat_natCast]
  simp [h]
theorem get_lt {α : Type} {x : List α} {i : Nat} {s : α} (h : x[i]? = some s) : i < x.length := by
  rcases Nat.lt_or_ge i x.length with c | c
  · exact c
  · rw [List.getElem?_eq_none c] at h; cases h
theorem w64_succ (j : Nat) (h : j ≤ 4294967296) : wrap64 ((j : Int) + 1) = ((j + 1 : Nat) : Int) := by
  rw [wrap64_small _ (by omega) (by omega)]; omega

variable {x y : List ByteArray}

theorem applied_l3 (hx : x.length ≤ 4294967295) (hy : (cat y).size ≤ 1048576) : ∀ (m k e f : Nat), x.length - e ≤ m → m < k → e ≤ x.length → f ≤ y.length → x.drop e = y.drop f → spec_Applied.l3 k x (cat (y.take f)) (e : Int) = some (cat y, true) := by
  intro m
  induction m with
  | zero =>
    intro k e f h1 h2 h3 h4 h5
    obtain ⟨k, rfl⟩ : ∃ q, k = q + 1 := ⟨k - 1, by omega⟩
    unfold spec_Applied.l3
    rw [if_neg (by omega)]
    have e1 : x.drop e = [] := List.drop_eq_nil_of_le (by omega)
    rw [e1] at h5
    have e2 : y.take f = y := List.take_of_length_le (by have := List.drop_eq_nil_iff.1 h5.symm; omega)
    rw [e2]
  | succ m ih =>
    intro k e f h1 h2 h3 h4 h5
    obtain ⟨k, rfl⟩ : ∃ q, k = q + 1 := ⟨k - 1, by omega⟩
    unfold spec_Applied.l3
    by_cases c : e < x.length
    · obtain ⟨s, hs⟩ : ∃ s, x[e]? = some s := ⟨x[e], List.getElem?_eq_getElem c⟩
      have hs2 : y[f]? = some s := by
        have := congrArg (fun l => l[0]?) h5
        simp only [List.getElem?_drop, Nat.add_zero] at this
        rw [← this, hs]
      have h6 : x.drop (e + 1) = y.drop (f + 1) := by
        rw [← List.drop_drop, ← List.drop_drop, h5]
      have hl := cat_size_take y (f + 1)
      have hf := get_lt hs2
      rw [if_pos (by omega), if_pos (by omega), rd_get hs, ← ByteArray.size_append, cat_next hs2, if_pos (by omega), w64_succ e (by omega)]
      exact ih k (e + 1) (f + 1) (by omega) (by omega) (by omega) (by omega) h6
    · rw [if_neg (by omega)]
      have e1 : x.drop e = [] := List.drop_eq_nil_of_le (by omega)
      rw [e1] at h5
      have e2 : y.take f = y := List.take_of_length_le (by have := List.drop_eq_nil_iff.1 h5.symm; omega)
      rw [e2]

/-- a hunk as the program has it -/
def lineS (l : Dp.Ln) : ByteArray := mkB (l.1 :: l.2.data.toList)
def hkS (h : Dp.Hk) : S48 := ⟨(h.o : Int), (h.n : Int), h.ls.map lineS⟩

theorem mkB_size (l : List UInt8) : (mkB l).size = l.length := by simp [mkB, ByteArray.size]
theorem lineS_size (l : Dp.Ln) : (lineS l).size = l.2.size + 1 := by
  unfold lineS
  rw [mkB_size, List.length_cons]
  rfl
theorem lineS_bt (l : Dp.Ln) : bt (lineS l) 0 = (l.1.toNat : Int) := by
  have := bt_list (lineS l) 0 (by simp [lineS, mkB])
  rw [show ((0 : Nat) : Int) = 0 from rfl] at this
  rw [this]
  simp [lineS, mkB]
theorem lineS_tail (l : Dp.Ln) : (lineS l).extract 1 (lineS l).size = l.2 := by
  rw [extract_seg _ _ _ (Nat.le_refl _)]
  have : (lineS l).data.toList = l.1 :: l.2.data.toList := by simp [lineS, mkB]
  rw [this, lineS_size]
  simp only [List.drop_succ_cons, List.drop_zero, Nat.add_sub_cancel]
  rw [List.take_of_length_le (Nat.le_refl l.2.size), mkB_data]

theorem olds_cons (sg : UInt8) (r : ByteArray) (t : List Dp.Ln) : Dp.olds ((sg, r) :: t) = if sg = 43 then Dp.olds t else r :: Dp.olds t := by
  unfold Dp.olds
  by_cases e : sg = 43 <;> simp [e]
theorem news_cons (sg : UInt8) (r : ByteArray) (t : List Dp.Ln) : Dp.news ((sg, r) :: t) = if sg = 45 then Dp.news t else r :: Dp.news t := by
  unfold Dp.news
  by_cases e : sg = 45 <;> simp [e]
/-- the head of a piece -/
theorem seg_head {x : List ByteArray} {i j : Nat} {r : ByteArray} {t : List ByteArray} (h : r :: t = Dp.seg x i j) (hj : j ≤ x.length) : i < j ∧ x[i]? = some r ∧ t = Dp.seg x (i + 1) j := by
  have hlt : i < j := by
    rcases Nat.lt_or_ge i j with c | c
    · exact c
    · exfalso
      have := congrArg List.length h
      rw [Dp.seg_len _ _ _ hj] at this
      simp at this
      omega
  rw [Dp.seg_cons x hlt hj] at h
  injection h with h1 h2
  exact ⟨hlt, by rw [List.getElem?_eq_getElem (by omega), h1], h2⟩

set_option maxHeartbeats 1000000 in
/-- the lines of a hunk -/
theorem applied_l2 (hx : x.length ≤ 4294967295) (hy : (cat y).size ≤ 1048576) (hyl : y.length ≤ 4294967295) (hs : List S48) (n q : Int) (all : List Dp.Ln) (hall : all.length ≤ 4294967295) (res : Option (ByteArray × Bool)) (K i' j' : Nat) (hi' : i' ≤ x.length) (hj' : j' ≤ y.length)
    (hK : ∀ k, K ≤ k → spec_Applied.l0 k x (cat (y.take j')) (i' : Int) (j' : Int) hs n (wrap64 (q + 1)) = res) :
    ∀ (rest : List Dp.Ln) (c a b k : Nat), all.drop c = rest → K + 2 * rest.length < k → a ≤ i' → b ≤ j' → Dp.olds rest = Dp.seg x a i' → Dp.news rest = Dp.seg y b j' → Dp.Signs rest →
      spec_Applied.l2 k x (cat (y.take b)) (a : Int) (b : Int) hs n q (all.map lineS) ((all.map lineS).length : Int) (c : Int) = res := by
  intro rest
  induction rest with
  | nil =>
    intro c a b k h1 h2 h3 h4 h5 h6 h7
    obtain ⟨k, rfl⟩ : ∃ q, k = q + 1 := ⟨k - 1, by omega⟩
    have hc : all.length ≤ c := List.drop_eq_nil_iff.1 h1
    have ea : a = i' := by
      have := congrArg List.length h5
      rw [Dp.seg_len _ _ _ hi'] at this
      simp [Dp.olds] at this
      omega
    have eb : b = j' := by
      have := congrArg List.length h6
      rw [Dp.seg_len _ _ _ hj'] at this
      simp [Dp.news] at this
      omega
    unfold spec_Applied.l2
    rw [if_neg (by rw [List.length_map]; omega), ea, eb]
    exact hK k (by simp at h2; omega)
  | cons l t ih =>
    intro c a b k h1 h2 h3 h4 h5 h6 h7
    obtain ⟨k, rfl⟩ : ∃ q, k = q + 1 := ⟨k - 1, by omega⟩
    obtain ⟨sg, r⟩ := l
    have hg : all[c]? = some (sg, r) := by
      have := congrArg (fun l => l[0]?) h1
      simpa using this
    have ht : all.drop (c + 1) = t := by
      rw [← List.drop_drop, h1]; rfl
    have hc := get_lt hg
    have hrd : rdOf ByteArray.empty (all.map lineS) (c : Int) = lineS (sg, r) := rd_get (by simp [hg])
    have hbt : Aside0 (bt (lineS (sg, r)) 0 = (sg.toNat : Int)) := ⟨lineS_bt (sg, r)⟩
    have htl : (lineS (sg, r)).extract 1 (lineS (sg, r)).size = r := lineS_tail _
    have hsz : (lineS (sg, r)).size = r.size + 1 := lineS_size _
    have hwc := Aside0.mk (w64_succ c (by omega))
    have h2' : K + 2 * t.length + 2 < k + 1 := by simp at h2; omega
    have hS : Dp.Signs t := fun l hl => h7 l (by simp [hl])
    unfold spec_Applied.l2
    rw [if_pos (by rw [List.length_map]; omega), if_pos (by omega), if_pos (by rw [List.length_map]; omega), hrd, hbt.out, if_pos (by omega)]
    rw [olds_cons] at h5
    rw [news_cons] at h6
    have hsg := h7 (sg, r) (by simp)
    simp only at hsg
    by_cases e43 : sg = 43
    · subst e43
      rw [if_pos (by decide), if_neg (by decide), if_pos (by omega), htl]
      rw [if_pos rfl] at h5
      rw [if_neg (by decide)] at h6
      obtain ⟨g1, g2, g3⟩ := seg_head h6 hj'
      have hl := cat_size_take y (b + 1)
      rw [← ByteArray.size_append, cat_next g2, if_pos (by omega), hwc.out, w64_succ b (by omega)]
      exact ih (c + 1) a (b + 1) k ht (by omega) h3 (by omega) h5 g3 hS
    · have n43 : ¬ ((sg.toNat : Int) = 43) := by
        intro h
        apply e43
        apply UInt8.toNat_inj.1
        show sg.toNat = 43
        omega
      rw [if_neg n43]
      rw [if_neg e43] at h5
      obtain ⟨g1, g2, g3⟩ := seg_head h5 hi'
      obtain ⟨k, rfl⟩ : ∃ q, k = q + 1 := ⟨k - 1, by omega⟩
      rw [if_neg (by omega), if_pos (by omega), if_pos (by omega), if_pos (by omega), htl, rd_get g2]
      have ef : (r.toList != r.toList) = false := by simp
      rw [ef]
      unfold spec_Applied.j4
      rw [if_neg (by decide), hbt.out, htl, hwc.out, w64_succ a (by omega), if_pos (by omega)]
      by_cases e45 : sg = 45
      · subst e45
        rw [if_pos (by decide)]
        rw [if_pos rfl] at h6
        exact ih (c + 1) (a + 1) b k ht (by omega) (by omega) h4 g3 h6 hS
      · have n45 : ¬ ((sg.toNat : Int) = 45) := by
          intro h
          apply e45
          apply UInt8.toNat_inj.1
          show sg.toNat = 45
          omega
        rw [if_neg n45, if_pos (by omega)]
        rw [if_neg e45] at h6
        obtain ⟨u1, u2, u3⟩ := seg_head h6 hj'
        have hl := cat_size_take y (b + 1)
        rw [← ByteArray.size_append, cat_next u2, if_pos (by omega), w64_succ b (by omega)]
        exact ih (c + 1) (a + 1) (b + 1) k ht (by omega) (by omega) (by omega) g3 u3 hS

set_option maxHeartbeats 1000000 in
/-- the lines ahead of a hunk -/
theorem applied_l1 (hx : x.length ≤ 4294967295) (hy : (cat y).size ≤ 1048576) (hyl : y.length ≤ 4294967295) (hs : List S48) (n q : Int) (L : List ByteArray) (o v : Nat) (ho : o ≤ x.length) (hv : v ≤ y.length) (res : Option (ByteArray × Bool)) (K : Nat)
    (hK : ∀ k, K ≤ k → spec_Applied.l2 k x (cat (y.take v)) (o : Int) (v : Int) hs n q L (L.length : Int) 0 = res) :
    ∀ (d a b k : Nat), a + d = o → b + d = v → Dp.seg x a o = Dp.seg y b v → K + d < k →
      spec_Applied.l1 k x (cat (y.take b)) (a : Int) (b : Int) hs n q (o : Int) (v : Int) L = res := by
  intro d
  induction d with
  | zero =>
    intro a b k h1 h2 h3 h4
    obtain ⟨k, rfl⟩ : ∃ q, k = q + 1 := ⟨k - 1, by omega⟩
    obtain rfl : a = o := by omega
    obtain rfl : b = v := by omega
    unfold spec_Applied.l1
    rw [if_neg (by omega), if_pos rfl]
    exact hK k (by omega)
  | succ d ih =>
    intro a b k h1 h2 h3 h4
    obtain ⟨k, rfl⟩ : ∃ q, k = q + 1 := ⟨k - 1, by omega⟩
    unfold spec_Applied.l1
    rw [Dp.seg_cons x (by omega) ho] at h3
    obtain ⟨g1, g2, g3⟩ := seg_head h3 hv
    have hxa : x[a]? = some (x[a]'(by omega)) := List.getElem?_eq_getElem (by omega)
    generalize x[a]'(by omega) = s at *
    have hl := cat_size_take y (b + 1)
    rw [if_pos (by omega), if_pos (by omega), if_pos (by omega), rd_get hxa, ← ByteArray.size_append, cat_next g2, if_pos (by omega), w64_succ a (by omega), w64_succ b (by omega)]
    exact ih (a + 1) (b + 1) k (by omega) (by omega) g3 (by omega)

theorem rd48 {hs : List Dp.Hk} {c : Nat} {h : Dp.Hk} (hg : hs[c]? = some h) : rd_T48 (hs.map hkS) (c : Int) = hkS h := by
  unfold rd_T48
  rw [Int.toNat_natCast]
  simp [hg]

set_option maxHeartbeats 1000000 in
/-- all hunks -/
theorem applied_l0 (hx : x.length ≤ 4294967295) (hy : (cat y).size ≤ 1048576) (hyl : y.length ≤ 4294967295) (all : List Dp.Hk) (hall : all.length ≤ 4294967295) (hll : ∀ h ∈ all, h.ls.length ≤ 4294967295) (e f : Nat) (he : e ≤ x.length) (hf : f ≤ y.length) (hd : x.drop e = y.drop f) :
    ∀ (rest : List Dp.Hk) (c i j : Nat), all.drop c = rest → Dp.Chain x y i j rest e f → ∃ K, ∀ k, K ≤ k → spec_Applied.l0 k x (cat (y.take j)) (i : Int) (j : Int) (all.map hkS) ((all.map hkS).length : Int) (c : Int) = some (cat y, true) := by
  intro rest
  induction rest with
  | nil =>
    intro c i j h1 h2
    obtain ⟨rfl, rfl⟩ := h2
    refine ⟨x.length - i + 2, fun k hk => ?_⟩
    obtain ⟨k, rfl⟩ : ∃ q, k = q + 1 := ⟨k - 1, by omega⟩
    have hc : all.length ≤ c := List.drop_eq_nil_iff.1 h1
    unfold spec_Applied.l0
    rw [if_neg (by rw [List.length_map]; omega)]
    exact applied_l3 hx hy (x.length - i) k i j (Nat.le_refl _) (by omega) he hf hd
  | cons h t ih =>
    intro c i j h1 h2
    obtain ⟨i', j', hS, hC⟩ := h2
    have hg : all[c]? = some h := by
      have := congrArg (fun l => l[0]?) h1
      simpa using this
    have ht : all.drop (c + 1) = t := by
      rw [← List.drop_drop, h1]; rfl
    have hc := get_lt hg
    obtain ⟨K, hK⟩ := ih (c + 1) i' j' ht hC
    have hm : h ∈ all := List.mem_of_getElem? hg
    refine ⟨K + 2 * h.ls.length + (h.o - i) + 10, fun k hk => ?_⟩
    obtain ⟨k, rfl⟩ : ∃ q, k = q + 2 := ⟨k - 2, by omega⟩
    have s1 := hS.le
    have s2 := hS.lo
    have s3 := hS.hi
    have s4 := hS.lo2
    have s5 := hS.hi2
    have s6 := hS.gap
    unfold spec_Applied.l0
    rw [if_pos (by rw [List.length_map]; omega), if_pos (by omega), if_pos (by rw [List.length_map]; omega), rd48 hg]
    have e0 : (hkS h).f0 = (h.o : Int) := rfl
    have e1 : (hkS h).f1 = (h.n : Int) := rfl
    have e2 : (hkS h).f2 = h.ls.map lineS := rfl
    rw [e0, e1, e2, if_neg (by omega), show decide ((h.o : Int) > (x.length : Int)) = false by simp; omega]
    unfold spec_Applied.j1
    rw [if_neg (by decide)]
    refine applied_l1 hx hy hyl _ _ _ _ h.o h.n (by omega) (by omega) _ (K + 2 * h.ls.length + 1) ?_ (h.o - i) i j k (by omega) (by omega) hS.same (by omega)
    intro k' hk'
    have hl2 := applied_l2 hx hy hyl (all.map hkS) ((all.map hkS).length : Int) (c : Int) h.ls (hll h hm) (some (cat y, true)) K i' j' s3 s5 (by rw [w64_succ c (by omega)]; exact hK) h.ls 0 h.o h.n k' rfl (by omega) s2 s4 hS.ol hS.nw hS.sg
    simpa using hl2

theorem applied_f (s : ByteArray) (hs : s.size ≤ 1048576) (hy : (cat y).size ≤ 1048576) (hyl : y.length ≤ 4294967295) (hks : List Dp.Hk) (hall : hks.length ≤ 4294967295) (hll : ∀ h ∈ hks, h.ls.length ≤ 4294967295) (hL : Dp.Leads ((rws [] s.data.toList).map mkB) y hks) (hxl : (rws [] s.data.toList).length ≤ 4294967295) :
    ∃ k, spec_Applied.f k s (hks.map hkS) = some (cat y, true) := by
  obtain ⟨e, f, hC, he, hf, hd⟩ := hL
  obtain ⟨K, hK⟩ := applied_l0 (by rw [List.length_map]; exact hxl) hy hyl hks hall hll e f he hf hd hks 0 0 0 rfl hC
  refine ⟨max K (s.size + 1), ?_⟩
  unfold spec_Applied.f
  have hr : spec_Rows.f (max K (s.size + 1)) s = some ((rws [] s.data.toList).map mkB) := by
    have := rows_l0 s (by omega) (max K (s.size + 1)) [] 0 0 (Nat.le_refl _) (Nat.zero_le _) (by omega) (Nat.zero_le _)
    simpa [spec_Rows.f] using this
  rw [hr]
  have := hK (max K (s.size + 1)) (Nat.le_max_left _ _)
  simpa [cat_nil] using this

end Go.Proofs.YtplbifmjnanceaaDoor

namespace Go.Proofs.YtplbifmjnanceaaDoor
set_option linter.unusedVariables false
set_option linter.unusedSimpArgs false

theorem numB_list (n : Nat) : (numB n).data.toList = Lib.decDigits n := by
  unfold numB
  rw [Lib.itoa_nonneg]

theorem numB_no10 (n : Nat) : (10 : UInt8) ∉ (numB n).data.toList := by
  rw [numB_list]
  intro h
  have := (dec_digits n _ h).1
  revert this
  decide

theorem hkHead_list (o oc n nc : Nat) : (hkHead o oc n nc).data.toList = [64, 64, 32, 45] ++ (numB (if 0 < oc then o + 1 else o)).data.toList ++ [44] ++ (numB oc).data.toList ++ [32, 43] ++ (numB (if 0 < nc then n + 1 else n)).data.toList ++ [44] ++ (numB nc).data.toList ++ [32, 64, 64, 10] := by
  simp [hkHead, ByteArray.data_append]

theorem hkHead_rows (o oc n nc : Nat) : rws [] (hkHead o oc n nc).data.toList = [(hkHead o oc n nc).data.toList] ∧ (hkHead o oc n nc).data.toList.getLast? = some 10 := by
  have e : (hkHead o oc n nc).data.toList = ([64, 64, 32, 45] ++ (numB (if 0 < oc then o + 1 else o)).data.toList ++ [44] ++ (numB oc).data.toList ++ [32, 43] ++ (numB (if 0 < nc then n + 1 else n)).data.toList ++ [44] ++ (numB nc).data.toList ++ [32, 64, 64]) ++ [10] := by
    rw [hkHead_list]
    simp
  rw [e]
  refine ⟨?_, List.getLast?_concat⟩
  rw [rws_one _ ?_ []]
  · rfl
  · have h1 := numB_no10 (if 0 < oc then o + 1 else o)
    have h2 := numB_no10 oc
    have h3 := numB_no10 (if 0 < nc then n + 1 else n)
    have h4 := numB_no10 nc
    simp only [List.mem_append, not_or]
    simp only [h1, h2, h3, h4]
    decide

theorem flatMap_cg {α β : Type} {f g : α → List β} : ∀ {l : List α}, (∀ a ∈ l, f a = g a) → l.flatMap f = l.flatMap g := by
  intro l
  induction l with
  | nil => intro _; rfl
  | cons a t ih =>
    intro h
    rw [List.flatMap_cons, List.flatMap_cons, h a (by simp), ih (fun b hb => h b (by simp [hb]))]

theorem rws_flat {α : Type} (f : α → List UInt8) : ∀ (l : List α), (∀ a ∈ l, (f a).getLast? = some 10) → rws [] (l.flatMap f) = l.flatMap (fun a => rws [] (f a)) := by
  intro l
  induction l with
  | nil => intro _; rfl
  | cons a t ih =>
    intro h
    rw [List.flatMap_cons, List.flatMap_cons, rws_append _ _ _ (h a (by simp)), ih (fun b hb => h b (by simp [hb]))]

/-- the line of a hunk, as a row -/
def rl (l : Dp.Ln) : UInt8 × List UInt8 := (l.1, unm l.2.data.toList)
def LineOk (l : Dp.Ln) : Prop := (l.1 = 32 ∨ l.1 = 45 ∨ l.1 = 43) ∧ ∃ r, Row r ∧ l.2 = mkB (mk r)

theorem mk_last (r : List UInt8) : (mk r).getLast? = some 10 := by
  unfold mk
  split
  · assumption
  · rw [List.getLast?_append, show msg.getLast? = some 10 by decide]
    rfl

theorem lineB_list (l : Dp.Ln) : (lineB l).data.toList = l.1 :: l.2.data.toList := by
  simp [lineB, ByteArray.data_append]

theorem lineB_rows (l : Dp.Ln) (h : LineOk l) : rws [] (lineB l).data.toList = lineRows (rl l) ∧ (lineB l).data.toList.getLast? = some 10 := by
  obtain ⟨h1, r, hr, e⟩ := h
  have e2 : l.2.data.toList = mk r := by rw [e]; simp [mkB]
  rw [lineB_list, e2]
  unfold rl
  rw [e2, unm_mk hr]
  refine ⟨rws_line hr ?_, ?_⟩
  · rcases h1 with h | h | h <;> rw [h] <;> decide
  · rw [List.getLast?_cons, mk_last]
    rfl

/-- the rows of the text of a hunk -/
def hkRows (h : Dp.Hk) : List (List UInt8) := (hkHead h.o (Dp.olds h.ls).length h.n (Dp.news h.ls).length).data.toList :: h.ls.flatMap fun l => lineRows (rl l)

theorem lnText_rows (ls : List Dp.Ln) (h : ∀ l ∈ ls, LineOk l) : rws [] (lnText ls) = ls.flatMap fun l => lineRows (rl l) := by
  unfold lnText
  rw [rws_flat _ _ (fun l hl => (lineB_rows l (h l hl)).2)]
  apply flatMap_cg
  intro l hl
  exact (lineB_rows l (h l hl)).1

theorem flat_last {α : Type} (f : α → List UInt8) : ∀ (l : List α), l ≠ [] → (∀ a ∈ l, (f a).getLast? = some 10) → (l.flatMap f).getLast? = some 10 := by
  intro l
  induction l with
  | nil => intro h; exact absurd rfl h
  | cons a t ih =>
    intro _ h
    by_cases ht : t = []
    · subst ht
      simpa using h a (by simp)
    · have := ih ht (fun b hb => h b (by simp [hb]))
      rw [List.flatMap_cons, List.getLast?_append, this]
      rfl

theorem hk_rows (h : Dp.Hk) (hl : ∀ l ∈ h.ls, LineOk l) (ne : h.ls ≠ []) : rws [] (hkText h) = hkRows h ∧ (hkText h).getLast? = some 10 := by
  obtain ⟨h1, h2⟩ := hkHead_rows h.o (Dp.olds h.ls).length h.n (Dp.news h.ls).length
  unfold hkText hkRows
  rw [rws_append _ _ _ h2, h1, lnText_rows _ hl]
  refine ⟨rfl, ?_⟩
  have := flat_last (fun l => (lineB l).data.toList) h.ls ne (fun l hl' => (lineB_rows l (hl l hl')).2)
  unfold lnText
  rw [List.getLast?_append, this]
  rfl

theorem hunks_rows (hs : List Dp.Hk) (h : ∀ h ∈ hs, (∀ l ∈ h.ls, LineOk l) ∧ h.ls ≠ []) : rws [] (hs.flatMap hkText) = hs.flatMap hkRows := by
  rw [rws_flat _ _ (fun a ha => (hk_rows a (h a ha).1 (h a ha).2).2)]
  apply flatMap_cg
  intro a ha
  exact (hk_rows a (h a ha).1 (h a ha).2).1

/-! the hunks of a chain -/
theorem seg_mem {α : Type} {l : List α} {i j : Nat} {a : α} (h : a ∈ Dp.seg l i j) : a ∈ l := List.mem_of_mem_drop (List.mem_of_mem_take h)

theorem Step.mem {x y : List ByteArray} {i j i' j' : Nat} {h : Dp.Hk} (hS : Dp.Step x y i j h i' j') (p : Dp.Ln) (hp : p ∈ h.ls) : p.2 ∈ x ∨ p.2 ∈ y := by
  by_cases e : p.1 = 43
  · refine Or.inr (seg_mem (i := h.n) (j := j') ?_)
    rw [← hS.nw]
    exact List.mem_map.2 ⟨p, List.mem_filter.2 ⟨hp, by simp [e]⟩, rfl⟩
  · refine Or.inl (seg_mem (i := h.o) (j := i') ?_)
    rw [← hS.ol]
    exact List.mem_map.2 ⟨p, List.mem_filter.2 ⟨hp, by simp [e]⟩, rfl⟩

def Marked (x : List ByteArray) : Prop := ∀ s ∈ x, ∃ r, Row r ∧ s = mkB (mk r)

structure HkOk (x y : List ByteArray) (h : Dp.Hk) : Prop where
  ln : ∀ l ∈ h.ls, LineOk l
  ne : h.ls ≠ []
  o : h.o ≤ x.length
  n : h.n ≤ y.length
  oc : (Dp.olds h.ls).length ≤ x.length
  nc : (Dp.news h.ls).length ≤ y.length

theorem chain_ok {x y : List ByteArray} (hx : Marked x) (hy : Marked y) : ∀ (hs : List Dp.Hk) (i j e f : Nat), Dp.Chain x y i j hs e f → ∀ h ∈ hs, HkOk x y h := by
  intro hs
  induction hs with
  | nil => intro i j e f _ h hh; cases hh
  | cons a t ih =>
    intro i j e f hC h hh
    obtain ⟨i', j', hS, hC⟩ := hC
    rcases List.mem_cons.1 hh with rfl | hh
    · have h1 := hS.lo
      have h2 := hS.hi
      have h3 := hS.lo2
      have h4 := hS.hi2
      refine ⟨fun l hl => ⟨hS.sg l hl, ?_⟩, hS.ne, by omega, by omega, ?_, ?_⟩
      · rcases Step.mem hS l hl with h | h
        · exact hx _ h
        · exact hy _ h
      · rw [hS.ol, Dp.seg_len _ _ _ h2]; omega
      · rw [hS.nw, Dp.seg_len _ _ _ h4]; omega
    · exact ih _ _ _ _ hC h hh

theorem lns_marked (l : List UInt8) : Marked ((lns [] l).map mkB) := by
  intro s hs
  rw [lns_rws l [] (by simp), List.map_map] at hs
  obtain ⟨r, hr, rfl⟩ := List.mem_map.1 hs
  exact ⟨r, rws_row l [] (by simp) r hr, rfl⟩

end Go.Proofs.YtplbifmjnanceaaDoor

namespace Go.Proofs.YtplbifmjnanceaaDoor
open Go.RowKit Go.Proofs.YtplbifmjnanceaaDoorW.PrintWords Go.Proofs.YtplbifmjnanceaaDoorW.PrintLast Go.Proofs.YtplbifmjnanceaaDoorW.PrintMore
open Go.Proofs.YtplbifmjnanceaaDoor.Pnumber
set_option linter.unusedVariables false
set_option linter.unusedSimpArgs false

theorem mk_pre (p r : List UInt8) : (mkB (p ++ r)).extract 0 p.length = mkB p := by
  rw [extract_seg _ _ _ (by rw [mkB_size, List.length_append]; omega), mkB_list]
  congr 1
  simp
theorem mk_post (p r : List UInt8) : (mkB (p ++ r)).extract p.length (mkB (p ++ r)).size = mkB r := by
  rw [extract_seg _ _ _ (Nat.le_refl _), mkB_list, mkB_size]
  congr 1
  simp
theorem mkB_toList (l : List UInt8) : (mkB l).toList = l := by
  rw [ByteArray.toList_eq, mkB_list]

theorem number_mk (u : Nat) (hu : u < 1000000000) (rest : List UInt8) (hr : ∀ b t, rest = b :: t → b.toNat < 48 ∨ 57 < b.toNat) (k : Nat) (hk : 10 < k) : spec_number.f k (mkB (Lib.decDigits u ++ rest)) = some ((u : Int), mkB rest) :=
  number_f u hu _ rest (mkB_list _) hr k hk

theorem head_text (w : World) (o oc n nc : Nat) (ho : o < 999999999) (hoc : oc < 999999999) (hn : n < 999999999) (hnc : nc < 999999999) :
    Calls Tryd.prog 14 #[.string (hkHead o oc n nc)] w fun e w' => e = .returned (.tuple #[.agg #[.int .i64 ((if 0 < oc then o + 1 else o : Nat) : Int), .int .i64 ((if 0 < nc then n + 1 else n : Nat) : Int), .int .i64 (oc : Int), .int .i64 (nc : Int)], .bool true]) ∧ Below w.heap.size w w' := by
  generalize hA : (if 0 < oc then o + 1 else o) = A
  generalize hC : (if 0 < nc then n + 1 else n) = C
  have lA : A < 1000000000 := by subst hA; split <;> omega
  have lC : C < 1000000000 := by subst hC; split <;> omega
  have es : hkHead o oc n nc = mkB ([64, 64, 32, 45] ++ (Lib.decDigits A ++ ([44] ++ (Lib.decDigits oc ++ ([32, 43] ++ (Lib.decDigits C ++ ([44] ++ (Lib.decDigits nc ++ [32, 64, 64, 10])))))))) := by
    rw [← mkB_data (hkHead o oc n nc), hkHead_list, numB_list, numB_list, numB_list, numB_list, hA, hC]
    simp only [List.append_assoc]
  rw [es]
  have n4 := number_mk nc (by omega) [32, 64, 64, 10] (by intro b t h; injection h with h _; subst h; decide) 11 (by decide)
  have n3 := number_mk C lC ([44] ++ (Lib.decDigits nc ++ [32, 64, 64, 10])) (by intro b t h; injection h with h _; subst h; decide) 11 (by decide)
  have n2 := number_mk oc (by omega) ([32, 43] ++ (Lib.decDigits C ++ ([44] ++ (Lib.decDigits nc ++ [32, 64, 64, 10])))) (by intro b t h; injection h with h _; subst h; decide) 11 (by decide)
  have n1 := number_mk A lA ([44] ++ (Lib.decDigits oc ++ ([32, 43] ++ (Lib.decDigits C ++ ([44] ++ (Lib.decDigits nc ++ [32, 64, 64, 10])))))) (by intro b t h; injection h with h _; subst h; decide) 11 (by decide)
  generalize Lib.decDigits A = LA at *
  generalize Lib.decDigits oc = LB at *
  generalize Lib.decDigits C = LC at *
  generalize Lib.decDigits nc = LD at *
  have key : ∀ (p r : List UInt8) , (p.length : Int) ≤ ((mkB (p ++ r)).size : Int) ∧ (((mkB (p ++ r)).extract 0 p.length).toList == p) = true ∧ (mkB (p ++ r)).extract p.length (mkB (p ++ r)).size = mkB r := by
    intro p r
    refine ⟨by rw [mkB_size, List.length_append]; omega, by rw [mk_pre, mkB_toList]; simp, mk_post p r⟩
  have k1 := key [64, 64, 32, 45] (LA ++ ([44] ++ (LB ++ ([32, 43] ++ (LC ++ ([44] ++ (LD ++ [32, 64, 64, 10])))))))
  have k2 := key [44] (LB ++ ([32, 43] ++ (LC ++ ([44] ++ (LD ++ [32, 64, 64, 10])))))
  have k3 := key [32, 43] (LC ++ ([44] ++ (LD ++ [32, 64, 64, 10])))
  have k4 := key [44] (LD ++ [32, 64, 64, 10])
  refine head_calls 11 _ A oc C nc (mkB ([44] ++ (LB ++ ([32, 43] ++ (LC ++ ([44] ++ (LD ++ [32, 64, 64, 10]))))))) (mkB ([32, 43] ++ (LC ++ ([44] ++ (LD ++ [32, 64, 64, 10]))))) (mkB ([44] ++ (LD ++ [32, 64, 64, 10]))) (mkB [32, 64, 64, 10]) w
    k1.1 k1.2.1 ?_ (by omega) k2.1 k2.2.1 ?_ (by omega) k3.1 k3.2.1 ?_ (by omega) k4.1 k4.2.1 ?_ (by omega) ?_
  · have := k1.2.2
    rw [show [(64 : UInt8), 64, 32, 45].length = 4 from rfl] at this
    rw [this]
    exact n1
  · have := k2.2.2
    rw [show [(44 : UInt8)].length = 1 from rfl] at this
    rw [this]
    exact n2
  · have := k3.2.2
    rw [show [(32 : UInt8), 43].length = 2 from rfl] at this
    rw [this]
    exact n3
  · have := k4.2.2
    rw [show [(44 : UInt8)].length = 1 from rfl] at this
    rw [this]
    exact n4
  · rw [mkB_toList]
    decide

end Go.Proofs.YtplbifmjnanceaaDoor

namespace Go.Proofs.YtplbifmjnanceaaDoor
open Go.RowKit Go.Proofs.YtplbifmjnanceaaDoorW.PrintWords Go.Proofs.YtplbifmjnanceaaDoorW.PrintLast Go.Proofs.YtplbifmjnanceaaDoorW.PrintMore
open Go.Proofs.YtplbifmjnanceaaDoor.PApplied
set_option linter.unusedVariables false
set_option linter.unusedSimpArgs false

def mapHk (g : ByteArray → ByteArray) (h : Dp.Hk) : Dp.Hk := ⟨h.o, h.n, h.ls.map fun l => (l.1, g l.2)⟩
def unB (s : ByteArray) : ByteArray := mkB (unm s.data.toList)
/-- a line as Diffed reads it -/
def pl (l : Dp.Ln) : ByteArray := lineS (l.1, unB l.2)
/-- a hunk as Diffed reads it -/
def pz (h : Dp.Hk) : S48 := hkS (mapHk unB h)
theorem pz_eq (h : Dp.Hk) : pz h = ⟨(h.o : Int), (h.n : Int), h.ls.map pl⟩ := by
  unfold pz hkS mapHk
  simp [pl, Function.comp_def]
structure HkSm (h : Dp.Hk) : Prop where
  ln : ∀ l ∈ h.ls, LineOk l
  ne : h.ls ≠ []
  o : h.o < 999999999
  n : h.n < 999999999
  oc : (Dp.olds h.ls).length < 999999999
  nc : (Dp.news h.ls).length < 999999999

def lrows (l : Dp.Ln) : List (List UInt8) := lineRows (rl l)
theorem hkRows_eq (h : Dp.Hk) : hkRows h = (hkHead h.o (Dp.olds h.ls).length h.n (Dp.news h.ls).length).data.toList :: h.ls.flatMap lrows := rfl

def firstB (a b : ByteArray) : ByteArray := ⟨#[100, 105, 102, 102, 32]⟩ ++ a ++ ⟨#[32]⟩ ++ b ++ ⟨#[10, 45, 45, 45, 32]⟩ ++ a ++ ⟨#[10, 43, 43, 43, 32]⟩ ++ b ++ ⟨#[10]⟩
theorem firstB_list (a b : ByteArray) : (firstB a b).data.toList = hdr a b := by
  simp [firstB, hdr, hdr1, hdr2, hdr3, ByteArray.data_append]

/-- the first row of what is left is no remark -/
def NoRem (l : List (List UInt8)) : Prop := ∀ q t, l = q :: t → q ≠ remark
theorem lrows_form (l : Dp.Ln) (h : LineOk l) : ∃ r, Row r ∧ unB l.2 = mkB r ∧ ((r.getLast? = some 10 ∧ lrows l = [l.1 :: r]) ∨ (r.getLast? ≠ some 10 ∧ lrows l = [l.1 :: (r ++ [10]), remark])) := by
  obtain ⟨h1, r, hr, e⟩ := h
  have e2 : unm l.2.data.toList = r := by rw [e, mkB_list, unm_mk hr]
  refine ⟨r, hr, by unfold unB; rw [e2], ?_⟩
  unfold lrows lineRows rl
  rw [e2]
  by_cases c : r.getLast? = some 10
  · exact Or.inl ⟨c, by simp [c]⟩
  · exact Or.inr ⟨c, by simp [c]⟩
theorem noRem_lines (ls : List Dp.Ln) (hl : ∀ l ∈ ls, LineOk l) (t : List Dp.Hk) : NoRem (ls.flatMap lrows ++ t.flatMap hkRows) := by
  have hrem : remark = 92 :: remark.tail := by decide
  intro q tl e
  cases ls with
  | nil =>
    cases t with
    | nil => simp at e
    | cons h t =>
      simp only [List.flatMap_nil, List.nil_append, List.flatMap_cons, hkRows_eq, List.cons_append] at e
      injection e with e _
      rw [← e, hkHead_list]
      intro e2
      rw [hrem] at e2
      simp at e2
  | cons l ls =>
    obtain ⟨r, hr, _, h2⟩ := lrows_form l (hl l (by simp))
    have hs := (hl l (by simp)).1
    have : ∃ q', q = l.1 :: q' := by
      rcases h2 with ⟨_, h2⟩ | ⟨_, h2⟩ <;> rw [List.flatMap_cons, h2] at e <;> simp at e
      · exact ⟨_, e.1.symm⟩
      · exact ⟨_, e.1.symm⟩
    obtain ⟨q', rfl⟩ := this
    intro e2
    rw [hrem] at e2
    injection e2 with e2 _
    rw [e2] at hs
    revert hs
    decide

/-- the text of a line's first row -/
structure LineAt (l : Dp.Ln) (s : ByteArray) (nx rest : List (List UInt8)) : Prop where
  two : 2 ≤ s.size
  b0 : bt s 0 = (l.1.toNat : Int)
  last : bt s ((s.size - 1 : Nat) : Int) = 10
  or : (nx = rest ∧ s = pl l) ∨ (nx = remark :: rest ∧ s.extract 0 (s.size - 1) = pl l)

theorem line_at (l : Dp.Ln) (h : LineOk l) (rest : List (List UInt8)) : ∃ s nx, lrows l ++ rest = s.data.toList :: nx ∧ LineAt l s nx rest := by
  obtain ⟨r, hr, hu, h2⟩ := lrows_form l h
  have hpl : pl l = mkB (l.1 :: r) := by
    unfold pl lineS
    simp only [hu, mkB_list]
  have key : ∀ q : List UInt8, q ≠ [] → q.getLast? = some 10 → ∀ s, s = mkB (l.1 :: q) → 2 ≤ s.size ∧ bt s 0 = (l.1.toNat : Int) ∧ bt s ((s.size - 1 : Nat) : Int) = 10 := by
    rintro q hq hq2 s rfl
    have hz : 0 < q.length := List.length_pos_iff.2 hq
    have hsz : (mkB (l.1 :: q)).size = q.length + 1 := by rw [mkB_size, List.length_cons]
    refine ⟨by omega, ?_, ?_⟩
    · have := bt_list (mkB (l.1 :: q)) 0 (by rw [mkB_list]; simp)
      rw [show ((0 : Nat) : Int) = 0 from rfl] at this
      rw [this]
      simp [mkB]
    · have := bt_list (mkB (l.1 :: q)) ((mkB (l.1 :: q)).size - 1) (by rw [mkB_list, hsz, List.length_cons]; omega)
      rw [this]
      have e : (mkB (l.1 :: q)).data.toList[(mkB (l.1 :: q)).size - 1]? = some 10 := by
        rw [mkB_list, hsz, Nat.add_sub_cancel, List.getLast?_eq_getElem?] at *
        rw [List.getElem?_cons, if_neg (by omega)]
        exact hq2
      rw [List.getElem?_eq_some_iff] at e
      obtain ⟨_, e⟩ := e
      rw [e]
      rfl
  rcases h2 with ⟨c, e⟩ | ⟨c, e⟩
  · obtain ⟨k1, k2, k3⟩ := key r hr.1 c _ rfl
    exact ⟨mkB (l.1 :: r), rest, by rw [e, mkB_list]; rfl, k1, k2, k3, Or.inl ⟨rfl, hpl.symm⟩⟩
  · obtain ⟨k1, k2, k3⟩ := key (r ++ [10]) (by simp) List.getLast?_concat _ rfl
    refine ⟨mkB (l.1 :: (r ++ [10])), remark :: rest, by rw [e, mkB_list]; rfl, k1, k2, k3, Or.inr ⟨rfl, ?_⟩⟩
    have := mk_pre (l.1 :: r) [10]
    rw [hpl, ← this]
    have e2 : (mkB (l.1 :: (r ++ [10]))).size - 1 = (l.1 :: r).length := by rw [mkB_size]; simp
    rw [e2]
    rfl

/-- the counts of a line -/
theorem counts (sg : UInt8) (r : ByteArray) (t : List Dp.Ln) (h : sg = 32 ∨ sg = 45 ∨ sg = 43) :
    (sg = 32 ∧ (Dp.olds ((sg, r) :: t)).length = (Dp.olds t).length + 1 ∧ (Dp.news ((sg, r) :: t)).length = (Dp.news t).length + 1) ∨
    (sg = 45 ∧ (Dp.olds ((sg, r) :: t)).length = (Dp.olds t).length + 1 ∧ (Dp.news ((sg, r) :: t)).length = (Dp.news t).length) ∨
    (sg = 43 ∧ (Dp.olds ((sg, r) :: t)).length = (Dp.olds t).length ∧ (Dp.news ((sg, r) :: t)).length = (Dp.news t).length + 1) := by
  rw [olds_cons, news_cons]
  rcases h with rfl | rfl | rfl
  · left; simp
  · right; left; simp
  · right; right; simp

end Go.Proofs.YtplbifmjnanceaaDoor

namespace Go.Proofs.YtplbifmjnanceaaDoor
open Go.RowKit Go.Proofs.YtplbifmjnanceaaDoorW.PrintWords Go.Proofs.YtplbifmjnanceaaDoorW.PrintLast Go.Proofs.YtplbifmjnanceaaDoorW.PrintMore
open Go.Proofs.YtplbifmjnanceaaDoor.PApplied
set_option linter.unusedVariables false
set_option linter.unusedSimpArgs false

theorem seg_map (g : ByteArray → ByteArray) (l : List ByteArray) (i j : Nat) : Dp.seg (l.map g) i j = (Dp.seg l i j).map g := by
  simp [Dp.seg, List.map_take, List.map_drop]
def mapLn (g : ByteArray → ByteArray) (l : Dp.Ln) : Dp.Ln := (l.1, g l.2)
theorem olds_map (g : ByteArray → ByteArray) (ls : List Dp.Ln) : Dp.olds (ls.map fun l => (l.1, g l.2)) = (Dp.olds ls).map g := by
  induction ls with
  | nil => rfl
  | cons l t ih =>
    obtain ⟨sg, r⟩ := l
    rw [List.map_cons, olds_cons, olds_cons, ih]
    split <;> simp
theorem news_map (g : ByteArray → ByteArray) (ls : List Dp.Ln) : Dp.news (ls.map fun l => (l.1, g l.2)) = (Dp.news ls).map g := by
  induction ls with
  | nil => rfl
  | cons l t ih =>
    obtain ⟨sg, r⟩ := l
    rw [List.map_cons, news_cons, news_cons, ih]
    split <;> simp
theorem step_map (g : ByteArray → ByteArray) {x y : List ByteArray} {i j i' j' : Nat} {h : Dp.Hk} (hS : Dp.Step x y i j h i' j') : Dp.Step (x.map g) (y.map g) i j (mapHk g h) i' j' where
  le := hS.le
  gap := hS.gap
  same := by rw [seg_map, seg_map]; exact congrArg _ hS.same
  lo := hS.lo
  hi := by rw [List.length_map]; exact hS.hi
  lo2 := hS.lo2
  hi2 := by rw [List.length_map]; exact hS.hi2
  ol := by
    show Dp.olds (h.ls.map fun l => (l.1, g l.2)) = _
    rw [olds_map, hS.ol, seg_map]; rfl
  nw := by
    show Dp.news (h.ls.map fun l => (l.1, g l.2)) = _
    rw [news_map, hS.nw, seg_map]; rfl
  ne := by
    show (h.ls.map fun l => (l.1, g l.2)) ≠ []
    simpa using hS.ne
  sg := by
    intro p hp
    obtain ⟨q, hq, rfl⟩ := List.mem_map.1 hp
    exact hS.sg q hq
theorem chain_map (g : ByteArray → ByteArray) {x y : List ByteArray} : ∀ (hs : List Dp.Hk) (i j e f : Nat), Dp.Chain x y i j hs e f → Dp.Chain (x.map g) (y.map g) i j (hs.map (mapHk g)) e f := by
  intro hs
  induction hs with
  | nil => intro i j e f h; exact h
  | cons a t ih =>
    intro i j e f h
    obtain ⟨i', j', hS, hC⟩ := h
    exact ⟨i', j', step_map g hS, ih _ _ _ _ hC⟩
theorem leads_map (g : ByteArray → ByteArray) {x y : List ByteArray} {hs : List Dp.Hk} (h : Dp.Leads x y hs) : Dp.Leads (x.map g) (y.map g) (hs.map (mapHk g)) := by
  obtain ⟨e, f, hC, he, hf, hd⟩ := h
  exact ⟨e, f, chain_map g hs 0 0 e f hC, by rw [List.length_map]; exact he, by rw [List.length_map]; exact hf, by rw [← List.map_drop, ← List.map_drop, hd]⟩

theorem chain_len {x y : List ByteArray} : ∀ (hs : List Dp.Hk) (i j e f : Nat), Dp.Chain x y i j hs e f → hs.length + i + j ≤ e + f := by
  intro hs
  induction hs with
  | nil => intro i j e f h; obtain ⟨rfl, rfl⟩ := h; simp
  | cons a t ih =>
    intro i j e f h
    obtain ⟨i', j', hS, hC⟩ := h
    have h1 := ih _ _ _ _ hC
    have h2 := Dp.lines_len a.ls
    rw [hS.ol, hS.nw, Dp.seg_len _ _ _ hS.hi, Dp.seg_len _ _ _ hS.hi2] at h2
    have h3 : 0 < a.ls.length := List.length_pos_iff.2 hS.ne
    have h4 := hS.le
    have h5 := hS.gap
    have h6 := hS.lo
    have h7 := hS.lo2
    rw [List.length_cons]
    omega

theorem rws_flatten (l : List UInt8) : ∀ acc, (rws acc l).flatten = acc ++ l := by
  induction l with
  | nil => intro acc; by_cases h : acc = [] <;> simp [rws, h]
  | cons b t ih =>
    intro acc
    by_cases h : b = 10
    · simp [rws, h, ih]
    · simp [rws, h, ih]
theorem cat_rws (t : ByteArray) : cat ((rws [] t.data.toList).map mkB) = t := by
  unfold cat
  rw [List.flatMap_map]
  have : (fun (a : List UInt8) => (mkB a).data.toList) = id := by funext a; exact mkB_list a
  rw [this, List.flatMap_id, rws_flatten, List.nil_append, mkB_data]

theorem unB_map (l : List UInt8) : ((lns [] l).map mkB).map unB = (rws [] l).map mkB := by
  rw [lns_rws l [] (by simp), List.map_map, List.map_map]
  apply List.map_congr_left
  intro r hr
  show unB (mkB (mk r)) = mkB r
  unfold unB
  rw [mkB_list, unm_mk (rws_row l [] (by simp) r hr)]

theorem rws_le (l : List UInt8) : ∀ acc, (rws acc l).length ≤ l.length + (if acc = [] then 0 else 1) := by
  induction l with
  | nil => intro acc; by_cases h : acc = [] <;> simp [rws, h]
  | cons b t ih =>
    intro acc
    by_cases h : b = 10
    · have := ih []; simp [rws, h] at this ⊢; omega
    · have := ih (acc ++ [b]); simp [rws, h] at this ⊢; split <;> omega

/-- a pair of texts: what their hunks are to Diffed and Applied -/
theorem pair_law (s t : ByteArray) (hs : s.size ≤ 1000) (ht : t.size ≤ 1000) (hks : List Dp.Hk) (hL : Dp.Leads ((lns [] s.data.toList).map mkB) ((lns [] t.data.toList).map mkB) hks) :
    (∀ h ∈ hks, HkSm h) ∧ ∃ k, spec_Applied.f k s (hks.map pz) = some (t, true) := by
  have lx : ((lns [] s.data.toList).map mkB).length ≤ 1000 := by
    rw [lns_rws _ [] (by simp), List.length_map, List.length_map]
    have := rws_le s.data.toList []
    simp at this
    have e : s.data.size = s.size := rfl
    omega
  have ly : ((lns [] t.data.toList).map mkB).length ≤ 1000 := by
    rw [lns_rws _ [] (by simp), List.length_map, List.length_map]
    have := rws_le t.data.toList []
    simp at this
    have e : t.data.size = t.size := rfl
    omega
  obtain ⟨e, f, hC, he, hf, hd⟩ := id hL
  have hok := chain_ok (lns_marked _) (lns_marked _) hks 0 0 e f hC
  have hsm : ∀ h ∈ hks, HkSm h := fun h hh => by
    have := hok h hh
    have a1 := this.o
    have a2 := this.n
    have a3 := this.oc
    have a4 := this.nc
    exact ⟨this.ln, this.ne, by omega, by omega, by omega, by omega⟩
  refine ⟨hsm, ?_⟩
  have hL2 := leads_map unB hL
  rw [unB_map, unB_map] at hL2
  have hlen := chain_len hks 0 0 e f hC
  have h2 := applied_f s (by omega) (y := (rws [] t.data.toList).map mkB) (by rw [cat_rws]; omega) (by rw [List.length_map]; have := rws_le t.data.toList []; simp at this; have e : t.data.size = t.size := rfl; omega) (hks.map (mapHk unB)) (by rw [List.length_map]; omega) (fun h hh => by
    obtain ⟨h0, hh0, rfl⟩ := List.mem_map.1 hh
    have h3 := Dp.lines_len h0.ls
    have h4 := hok h0 hh0
    have a3 := h4.oc
    have a4 := h4.nc
    show (h0.ls.map fun l => (l.1, unB l.2)).length ≤ _
    rw [List.length_map]
    omega) hL2 (by have := rws_le s.data.toList []; simp at this; have e : s.data.size = s.size := rfl; omega)
  obtain ⟨k, hk⟩ := h2
  rw [cat_rws, List.map_map] at hk
  exact ⟨k, hk⟩

theorem rws_row_le (l : List UInt8) : ∀ acc, ∀ p ∈ rws acc l, p.length ≤ acc.length + l.length := by
  induction l with
  | nil =>
    intro acc p hp
    by_cases h : acc = []
    · simp [rws, h] at hp
    · simp [rws, h] at hp; subst hp; simp
  | cons b t ih =>
    intro acc p hp
    by_cases h : b = 10
    · simp [rws, h] at hp
      rcases hp with rfl | hp
      · simp
      · have := ih [] p hp; simp at this ⊢; omega
    · simp [rws, h] at hp
      have := ih _ p hp; simp at this ⊢; omega

/-- the lines of a text, in bounds -/
theorem lns_bounds (s : ByteArray) (hs : s.size ≤ 1000) : ((lns [] s.data.toList).map mkB).length ≤ 1000 ∧ ∀ q ∈ (lns [] s.data.toList).map mkB, q.size ≤ 1048576 := by
  have e : s.data.size = s.size := rfl
  have e2 : s.data.toList.length = s.size := rfl
  constructor
  · rw [lns_rws _ [] (by simp), List.length_map, List.length_map]
    have := rws_le s.data.toList []
    simp at this
    omega
  · intro q hq
    rw [lns_rws _ [] (by simp), List.map_map] at hq
    obtain ⟨r, hr, rfl⟩ := List.mem_map.1 hq
    have h1 : r.length ≤ s.size := by
      have := rws_row_le s.data.toList [] r hr
      simp at this
      omega
    show (mkB (mk r)).size ≤ _
    rw [mkB_size]
    unfold mk
    split
    · omega
    · rw [List.length_append]
      have : msg.length = 29 := rfl
      omega

/-- different texts have different lines -/
theorem lns_ne (s t : ByteArray) (h : s ≠ t) : (lns [] s.data.toList).map mkB ≠ (lns [] t.data.toList).map mkB := by
  intro e
  have e2 := congrArg (fun l => cat (l.map unB)) e
  simp only [unB_map, cat_rws] at e2
  exact h e2

end Go.Proofs.YtplbifmjnanceaaDoor
