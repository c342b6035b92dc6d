/- textsAwake; FnPatched walked. -/
import Derived.Test.YtplbifmjnanceaaDoorQh
import Derived.Test.YtplbifmjnanceaaDoorQf
import Derived.Test.YtplbifmjnanceaaDoorQe
import Derived.Test.YtplbifmjnanceaaDoorQd
import Derived.Test.YtplbifmjnanceaaDoorPzzFits4x1
import Derived.Test.YtplbifmjnanceaaDoorPdataRightx1
namespace Go.Proofs.YtplbifmjnanceaaDoor
open Go.RowKit Go.Proofs.YtplbifmjnanceaaDoorW.PrintWords Go.Proofs.YtplbifmjnanceaaDoorW.PrintLast Go.Proofs.YtplbifmjnanceaaDoorW.PrintMore
set_option linter.unusedVariables false
set_option linter.unusedSimpArgs false

theorem bytes_ne {s t : ByteArray} (h : s ≠ t) : (Lib.bytesOf (bytesOf s) == Lib.bytesOf (bytesOf t)) = false := by
  apply beq_eq_false_iff_ne.mpr
  intro e
  have e1 := bytesOf_ni s.data.toList
  have e2 := bytesOf_ni t.data.toList
  have e3 : Lib.bytesOf (bytesOf s) = s.data.toList := e1
  have e4 : Lib.bytesOf (bytesOf t) = t.data.toList := e2
  rw [e3, e4] at e
  exact h (ByteArray.ext (Array.toList_inj.1 e))

/-- what impl.Diff hands back for two different texts -/
def PairOk (a b s t d : ByteArray) (hs : List Dp.Hk) : Prop :=
  d.size ≤ 1099511627776 ∧ d.data.toList = diffText a b hs ∧ (∀ h ∈ hs, HkSm h) ∧ hs ≠ [] ∧ (hs.length ≤ 1 ∨ 3 ≤ ((lns [] s.data.toList).map mkB).length) ∧ ∃ k, PApplied.spec_Applied.f k s (hs.map pz) = some (t, true)

theorem diff_pair (w : World) (a b s t : ByteArray) (ha : a.size ≤ 1000) (hb : b.size ≤ 1000) (hs : s.size ≤ 1000) (ht : t.size ≤ 1000) (hne : s ≠ t) (hT : powTab w) :
    Calls Tryd.prog 7 #[.string a, .string s, .string b, .string t] w fun e w' => ∃ (d : ByteArray) (hs : List Dp.Hk), e = .returned (.string d) ∧ PairOk a b s t d hs ∧ Below w.heap.size w w' := by
  obtain ⟨lx, sx⟩ := lns_bounds s hs
  obtain ⟨ly, sy⟩ := lns_bounds t ht
  have k1 := lines_f s (by omega) 2000 (by omega)
  have k2 := lines_f t (by omega) 2000 (by omega)
  refine (implDiff_ne w a b s t 2000 _ _ (by omega) (by omega) (bytes_ne hne) k1 k2 (by omega) (by omega) sx sy (by omega) (by omega) hT).mono ?_
  rintro e w' ⟨d, hks, rfl, hL, ⟨hlen, hfew⟩, hd, hB⟩
  obtain ⟨p1, p2⟩ := pair_law s t hs ht hks hL
  refine ⟨d, hks, rfl, ⟨?_, hd, p1, hL.some (lns_ne s t hne), hfew, p2⟩, hB⟩
  have : d.size = d.data.toList.length := rfl
  rw [this, hd]
  omega

def awF : Fl := ([120], [121, 10])
theorem awF_ok : FlOk awF := ⟨⟨by decide, by decide, by decide, by decide, by decide⟩, by decide, Or.inr (by decide)⟩
theorem aw_text : nl [99, 10] ++ ftxt ([awF].map nlF) = [99, 10] ++ ftxt [awF] := by
  have e : nlF awF = awF := by
    unfold nlF
    rw [nl_of awF_ok.nl]
  rw [nl_of (Or.inr (by decide)), List.map_cons, List.map_nil, e]

set_option maxHeartbeats 2000000 in
set_option maxRecDepth 100000 in
theorem textsAwake_calls (w : World) (hT : spTab w) (hP : powTab w) :
    Calls Tryd.prog 5 #[] w fun e w' => e = .returned (.bool true) ∧ Below w.heap.size w w' := by
  have hb1 := below_alloc (Below.refl w.heap.size w) (.cells #[Value.string ⟨#[120]⟩, Value.string ⟨#[121, 10]⟩] 40)
  have hC : Kd.C kA (w.alloc (.cells #[Value.string ⟨#[120]⟩, Value.string ⟨#[121, 10]⟩] 40)) (some ⟨w.heap.size, 0, none⟩) 1 [(mkB [120], mkB [121, 10])] := by
    refine ⟨rfl, by decide, fun _ => ⟨_, rfl, fun j p hj => ?_⟩⟩
    obtain rfl : j = 0 := by
      rcases Nat.eq_zero_or_pos j with e | e
      · exact e
      · rw [List.getElem?_eq_none (by simp; omega)] at hj; cases hj
    injection hj with hj
    subst hj
    refine ⟨[.string (mkB [120]), .string (mkB [121, 10])], rfl, ⟨[.string (mkB [120])], [.string (mkB [121, 10])], rfl, rfl, rfl⟩, fun i u hu => ?_⟩
    rw [add_plain, Nat.zero_mul, Nat.zero_add, World.cell?_alloc_mark]
    rw [← hu]
    exact (Array.getElem?_toList).symm
  have hF := ArcFormat_calls (w.alloc (.cells #[Value.string ⟨#[120]⟩, Value.string ⟨#[121, 10]⟩] 40)) [99, 10] [awF] (some ⟨w.heap.size, 0, none⟩) 1 hC (by decide) (Or.inr (by decide)) (by intro f hf; simp only [List.mem_singleton] at hf; subst hf; exact awF_ok.nl)
  rw [aw_text] at hF
  obtain ⟨s, hs⟩ : ∃ s, s = mkB ([99, 10] ++ ftxt [awF]) := ⟨_, rfl⟩
  rw [← hs] at hF
  have hPr := fun w1 (hw1 : Below w.heap.size w w1) => ArcParse_calls w1 s [99, 10] [awF] (by rw [hs, mkB_list]) (by rw [hs, mkB_size]; decide) (by decide) (Or.inr (by decide)) (by intro f hf; simp only [List.mem_singleton] at hf; subst hf; exact awF_ok) (hT.on hw1)
  have hD := fun w1 (hw1 : Below w.heap.size w w1) => diff_pair w1 ⟨#[97]⟩ ⟨#[98]⟩ ⟨#[120, 10]⟩ ⟨#[121, 10]⟩ (by decide) (by decide) (by decide) (by decide) (by decide) (fun w' hb => hP w' (hw1.trans (hb.mono hw1.size)))
  have HF := Aside0.mk hF
  have HPr := Aside0.mk hPr
  have HD := Aside0.mk hD
  have HB1 := Aside0.mk hb1
  clear hb1 hC hF hPr hD hs
  go_enter Tryd.func5, Tryd.ntmps5
  go_wp2_with fail
  refine HF.out.mono ?_
  rintro e w2 ⟨rfl, hb2⟩
  have HB2 := Aside0.mk (HB1.out.trans (hb2.mono HB1.out.size))
  clear hb2 HB1 HF
  go_wp2_with fail
  refine (HPr.out w2 HB2.out).mono ?_
  rintro e w3 ⟨v3, rfl, hR3, hb3⟩
  obtain ⟨A3, c3, e3, hc3, hC3⟩ := Kd.R_reads hR3
  subst e3
  have HB3 := Aside0.mk (HB2.out.trans (hb3.mono HB2.out.size))
  have HC3 := Aside0.mk hC3
  clear hR3 hb3 hC3 HPr HB2
  go_wp2_with fail
  refine (HD.out w3 HB3.out).mono ?_
  rintro e w4 ⟨d, hks, rfl, ⟨d1, d2, d3, d4, d5, d6⟩, hb4⟩
  have HB4 := Aside0.mk (HB3.out.trans (hb4.mono HB3.out.size))
  have HC4 := Aside0.mk (Kd.C_below HC3.out hb4)
  have HDf := Aside0.mk (Diffed_calls w4 ⟨#[97]⟩ ⟨#[98]⟩ d hks (by decide) (by decide) d2 d1 d3 d4)
  have hl1 : (hks.map pz).length = 1 := by
    rw [List.length_map]
    have h1 : 0 < hks.length := List.length_pos_iff.2 d4
    have h2 : ((lns [] (⟨#[120, 10]⟩ : ByteArray).data.toList).map mkB).length = 1 := by decide
    rw [h2] at d5
    omega
  clear d1 d2 d3 d4 d5 d6 hb4 HD HB3 HC3
  go_wp2_with fail
  refine HDf.out.mono ?_
  rintro e w5 ⟨v5, rfl, hR5, hb5⟩
  obtain ⟨A5, c5, e5, hc5, hC5⟩ := Kd.R_reads hR5
  rw [hl1] at e5
  subst e5
  have HB5 := Aside0.mk (HB4.out.trans (hb5.mono HB4.out.size))
  obtain ⟨ad, hA, b0, b1⟩ := kA_at (Kd.C_below HC4.out hb5) (i := 0) (a := mkB [120]) (b := mkB [121, 10]) rfl
  subst hA
  have b2 : w5.cell? ⟨ad.block, ad.off + 1, none⟩ = some (.string (mkB [121, 10])) := by simpa [Addr.add] using b1
  have e1 : ((mkB [99, 10]).toList == [99, 10]) = true := by rw [mkB_toList2]; decide
  have e2 : ((mkB [121, 10]).toList == [121, 10]) = true := by rw [mkB_toList2]; decide
  clear b0 b1
  clear hR5 hb5 hC5 hc5 hl1 HDf HB4 HC4
  go_wp2_with fail
  go_ret
  exact ⟨rfl, HB5.out⟩

end Go.Proofs.YtplbifmjnanceaaDoor

namespace Go.Proofs.YtplbifmjnanceaaDoor
open Go.RowKit Go.Proofs.YtplbifmjnanceaaDoorW.PrintWords Go.Proofs.YtplbifmjnanceaaDoorW.PrintLast Go.Proofs.YtplbifmjnanceaaDoorW.PrintMore
open Go.Proofs.YtplbifmjnanceaaDoor.PzzFits4 Go.Proofs.YtplbifmjnanceaaDoor.PdataRight
set_option linter.unusedVariables false
set_option linter.unusedSimpArgs false

theorem fits_l0 (l : List ByteArray) (hl : l.length ≤ 2147483647) : ∀ (m i : Nat), l.length - i ≤ m → i ≤ l.length → ∃ r, laws_zzFits4.l0 (m + 1) l (l.length : Int) (i : Int) = some r ∧ (r = true → ∀ (j : Nat) s, i ≤ j → l[j]? = some s → s.size ≤ 2147483647) := by
  intro m
  induction m with
  | zero =>
    intro i h1 h2
    refine ⟨true, ?_, fun _ j s hj hs => ?_⟩
    · unfold laws_zzFits4.l0
      rw [if_neg (by omega)]
    · have := get_lt hs
      omega
  | succ m ih =>
    intro i h1 h2
    by_cases c : i < l.length
    · obtain ⟨s, hs⟩ : ∃ s, l[i]? = some s := ⟨l[i], List.getElem?_eq_getElem c⟩
      have e := w64_succ i (by omega)
      unfold laws_zzFits4.l0
      rw [if_pos (by clear e; omega), if_pos (by clear e; omega), if_pos (by clear e; omega), rd_get hs, e]
      clear e
      by_cases cs : (s.size : Int) > 2147483647
      · rw [if_pos cs]
        exact ⟨false, rfl, fun h => by cases h⟩
      · rw [if_neg cs]
        obtain ⟨r, h3, h4⟩ := ih (i + 1) (by omega) (by omega)
        refine ⟨r, h3, fun hr j s' hj hs' => ?_⟩
        rcases Nat.eq_or_lt_of_le hj with e | e
        · subst e
          rw [hs] at hs'
          injection hs' with hs'
          subst hs'
          omega
        · exact h4 hr j s' e hs'
    · refine ⟨true, ?_, fun _ j s hj hs => ?_⟩
      · unfold laws_zzFits4.l0
        rw [if_neg (by omega)]
      · have := get_lt hs
        omega
theorem fits_f (l : List ByteArray) : ∃ k r, laws_zzFits4.f k l = some r ∧ (r = true → ∀ s ∈ l, s.size ≤ 2147483647) := by
  by_cases c : (l.length : Int) > 2147483647
  · refine ⟨0, false, ?_, fun h => by cases h⟩
    unfold laws_zzFits4.f
    rw [if_pos c]
  · obtain ⟨r, h1, h2⟩ := fits_l0 l (by omega) l.length 0 (by omega) (Nat.zero_le _)
    refine ⟨l.length + 1, r, ?_, fun hr s hs => ?_⟩
    · unfold laws_zzFits4.f
      rw [if_neg c]
      exact h1
    · obtain ⟨j, hj⟩ := List.getElem?_of_mem hs
      exact h2 hr j s (Nat.zero_le _) hj

theorem right_l0 (s : ByteArray) (hs : s.size ≤ 2147483647) : ∀ (m i : Nat), s.size - i ≤ m → i ≤ s.size → ∃ r, laws_dataRight.l0 (m + 1) s (s.size : Int) (i : Int) = some r := by
  intro m
  induction m with
  | zero =>
    intro i h1 h2
    unfold laws_dataRight.l0
    rw [if_neg (by omega)]
    exact ⟨_, rfl⟩
  | succ m ih =>
    intro i h1 h2
    unfold laws_dataRight.l0
    by_cases c : i < s.size
    · have e := w64_succ i (by omega)
      have hi := ih (i + 1) (by clear e; omega) (by clear e; omega)
      rw [if_pos (by clear e; omega), if_pos (by clear e; omega), if_pos (by clear e; omega), e]
      clear e
      split
      · split
        · exact hi
        · exact ⟨_, rfl⟩
      · split
        · split
          · exact hi
          · exact ⟨_, rfl⟩
        · exact hi
    · rw [if_neg (by omega)]
      exact ⟨_, rfl⟩
theorem right_f (s : ByteArray) (hs : s.size ≤ 2147483647) : ∃ k r, laws_dataRight.f k s = some r := by
  obtain ⟨r, h⟩ := right_l0 s hs s.size 0 (by omega) (Nat.zero_le _)
  exact ⟨s.size + 1, r, h⟩

theorem pairs_row (w : World) (s t : ByteArray) : Kd.C kA (w.alloc (.cells #[Value.string s, Value.string t, Value.string t, Value.string s] 26)) (some ⟨w.heap.size, 0, none⟩) 2 [(s, t), (t, s)] := by
  refine ⟨rfl, by decide, fun _ => ⟨_, rfl, fun j p hj => ?_⟩⟩
  have hj2 : j = 0 ∨ j = 1 := by
    have := get_lt hj
    simp at this
    omega
  rcases hj2 with rfl | rfl
  · injection hj with hj
    subst hj
    refine ⟨[.string s, .string t], rfl, ⟨[.string s], [.string t], rfl, rfl, rfl⟩, fun i u hu => ?_⟩
    have hi := get_lt hu
    rw [add_plain, World.cell?_alloc_mark]
    rw [show 0 * kA.sz + i = i by omega]
    have hi2 : i = 0 ∨ i = 1 := by simp at hi; omega
    rcases hi2 with rfl | rfl <;> exact hu
  · injection hj with hj
    subst hj
    refine ⟨[.string t, .string s], rfl, ⟨[.string t], [.string s], rfl, rfl, rfl⟩, fun i u hu => ?_⟩
    have hi := get_lt hu
    rw [add_plain, World.cell?_alloc_mark]
    rw [show 1 * kA.sz + i = 2 + i from congrArg (· + i) rfl]
    have hi2 : i = 0 ∨ i = 1 := by simp at hi; omega
    rcases hi2 with rfl | rfl <;> exact hu

theorem powTab.on {w w1 : World} (h : powTab w) (hb : Below w.heap.size w w1) : powTab w1 := fun w' hb' => h w' (hb.trans (hb'.mono hb.size))

set_option maxRecDepth 100000 in
theorem lit121 (u : Nat → Value) : FrOf 121 u = [u 0, u 1, u 2, u 3, u 4, u 5, u 6, u 7, u 8, u 9, u 10, u 11, u 12, u 13, u 14, u 15, u 16, u 17, u 18, u 19, u 20, u 21, u 22, u 23, u 24, u 25, u 26, u 27, u 28, u 29, u 30, u 31, u 32, u 33, u 34, u 35, u 36, u 37, u 38, u 39, u 40, u 41, u 42, u 43, u 44, u 45, u 46, u 47, u 48, u 49, u 50, u 51, u 52, u 53, u 54, u 55, u 56, u 57, u 58, u 59, u 60, u 61, u 62, u 63, u 64, u 65, u 66, u 67, u 68, u 69, u 70, u 71, u 72, u 73, u 74, u 75, u 76, u 77, u 78, u 79, u 80, u 81, u 82, u 83, u 84, u 85, u 86, u 87, u 88, u 89, u 90, u 91, u 92, u 93, u 94, u 95, u 96, u 97, u 98, u 99, u 100, u 101, u 102, u 103, u 104, u 105, u 106, u 107, u 108, u 109, u 110, u 111, u 112, u 113, u 114, u 115, u 116, u 117, u 118, u 119, u 120] := rfl

set_option maxHeartbeats 4000000 in
set_option maxRecDepth 100000 in
theorem FnPatched_calls (w : World) (A1 A2 : Option Addr) (c1 c2 : Nat) (L1 L2 : List ByteArray) (h1 : Kd.C Kd.string w A1 L1.length L1) (hc1 : L1.length ≤ c1) (h2 : Kd.C Kd.string w A2 L2.length L2) (hc2 : L2.length ≤ c2) (hT : spTab w) (hP : powTab w) :
    Calls Tryd.prog 3 #[.slice A1 L1.length c1, .slice A2 L2.length c2] w fun e w' => e = .returned (.bool true) ∧ Below w.heap.size w w' := by
  obtain ⟨k1, r1, f1, g1⟩ := fits_f L1
  obtain ⟨k2, r2, f2, g2⟩ := fits_f L2
  have HF1 := Aside0.mk f1
  have HF2 := Aside0.mk f2
  have HG1 := Aside0.mk g1
  have HG2 := Aside0.mk g2
  have H1 := Aside0.mk h1
  have H2 := Aside0.mk h2
  have HAw := Aside0.mk (fun w1 (hw1 : Below w.heap.size w w1) => textsAwake_calls w1 (hT.on hw1) (hP.on hw1))
  have HP := Aside0.mk hP
  clear h1 h2 hT hP f1 f2 g1 g2
  go_enter Tryd.func3, Tryd.ntmps3
  go_wp2_with fail
  refine (laws_zzFits4.calls k1 A1 c1 L1 r1 w H1.out hc1 HF1.out).mono ?_
  rintro e w1 ⟨rfl, hd1⟩
  have HB1 := Aside0.mk hd1.below
  clear hd1 HF1
  cases r1 with
  | false =>
    --< unfit1
    clear HF2
    go_wp2
    go_ret
    exact ⟨rfl, HB1.out⟩
    -->
  | true =>
    go_wp2_with fail
    refine (laws_zzFits4.calls k2 A2 c2 L2 r2 w1 (Kd.C_below H2.out HB1.out) hc2 HF2.out).mono ?_
    rintro e w2 ⟨rfl, hd2⟩
    have HB2 := Aside0.mk (HB1.out.trans (hd2.below.mono HB1.out.size))
    clear hd2 HB1 HF2
    cases r2 with
    | false =>
      --< unfit2
      go_wp2
      go_ret
      exact ⟨rfl, HB2.out⟩
      -->
    | true =>
      obtain ⟨n1, hn1⟩ : ∃ z, z = L1.length := ⟨_, rfl⟩
      obtain ⟨n2, hn2⟩ : ∃ z, z = L2.length := ⟨_, rfl⟩
      rw [← hn1] at hc1
      rw [← hn2] at hc2
      rw [← hn1, ← hn2]
      have HN1 := Aside0.mk hn1
      have HN2 := Aside0.mk hn2
      clear hn1 hn2
      have HAw2 := Aside0.mk (HAw.out w2 HB2.out)
      by_cases cn : n1 = n2
      · by_cases cm : 10 < n1
        · --< many
          have u1 : ((n1 : Int) != (n2 : Int)) = false := bne_eq_false_iff_eq.2 (by omega)
          have u2 : (n1 : Int) > 10 := by omega
          have u3 : 10 < n1 := cm
          subst cn
          go_wp2_with fail
          refine HAw2.out.mono ?_
          rintro e w3 ⟨rfl, hb3⟩
          have HB3 := Aside0.mk (HB2.out.trans (hb3.mono HB2.out.size))
          clear hb3
          go_wp2
          go_ret
          exact ⟨rfl, HB3.out⟩
          -->
        · subst cn
          have u1 : ((n1 : Int) != (n1 : Int)) = false := bne_eq_false_iff_eq.2 rfl
          have u2 : decide ((n1 : Int) > 10) = false := decide_eq_false (by omega)
          have u3 : ¬ 10 < n1 := cm
          go_upto_block 0 with (fail)
          clear u1 u2 u3 HAw2
          refine cutU 121 (fun u wc => u 0 = .slice A1 n1 c1 ∧ Below w.heap.size w wc) ?rest ?first
          case rest =>
            --< rest
            rintro u W ⟨h0, hB⟩
            rw [lit121]
            simp only [h0]
            have HB := Aside0.mk hB
            clear hB h0 HB2
            by_cases cz : 0 < n1
            · have u1 : (n1 : Int) > 0 := by omega
              go_wp2
              go_ret
              exact ⟨rfl, HB.out⟩
            · have u1 : decide ((n1 : Int) > 0) = false := decide_eq_false (by omega)
              go_wp2_with fail
              refine (HAw.out W HB.out).mono ?_
              rintro e w3 ⟨rfl, hb3⟩
              have HB3 := Aside0.mk (HB.out.trans (hb3.mono HB.out.size))
              clear hb3
              go_wp2
              go_ret
              exact ⟨rfl, HB3.out⟩
            -->
          case first =>
            --< first
            intro J K hJ hK
            go_wp2
            refine loopG 121 (fun gh u wc => ∃ i : Nat, gh = n1 - i ∧ i ≤ n1 ∧ u 0 = .slice A1 n1 c1 ∧ u 1 = .slice A2 n1 c2 ∧ u 34 = .slice A1 n1 c1 ∧ u 35 = .int .i64 n1 ∧ u 36 = .int .i64 i ∧ Below w.heap.size w wc) n1 rfl ?atStart ?round
            case atStart => exact ⟨0, rfl, Nat.zero_le _, rfl, rfl, rfl, rfl, rfl, HB2.out⟩
            case round =>
              rintro gh u W ⟨i, hg, hi, h0, h1, h34, h35, h36, hB⟩ J2 K2 hJ2 hK2
              rw [lit121]
              simp only [h0, h1, h34, h35, h36]
              have HB := Aside0.mk hB
              clear hB h0 h1 h34 h35 h36 HB2
              by_cases ci : i < n1
              · obtain ⟨s, hs⟩ : ∃ s, L1[i]? = some s := ⟨L1[i]'(by have := HN1.out; omega), List.getElem?_eq_getElem (by have := HN1.out; omega)⟩
                obtain ⟨t, ht⟩ : ∃ t, L2[i]? = some t := ⟨L2[i]'(by have := HN2.out; omega), List.getElem?_eq_getElem (by have := HN2.out; omega)⟩
                obtain ⟨ad1, hA1, b1⟩ := row_cell (Kd.C_below H1.out HB.out) hs
                obtain ⟨ad2, hA2, b2⟩ := row_cell (Kd.C_below H2.out HB.out) ht
                subst hA1 hA2
                obtain ⟨ks, rs, fs⟩ := right_f s (HG1.out trivial s (List.mem_of_getElem? hs))
                obtain ⟨kt, rt, ft⟩ := right_f t (HG2.out trivial t (List.mem_of_getElem? ht))
                have HFs := Aside0.mk fs
                have HFt := Aside0.mk ft
                have u1 : (i : Int) < (n1 : Int) := by omega
                have u2 : IntKind.i64.wrap ((i : Int) + 1) = (i : Int) + 1 := by rw [IntKind.wrap_i64]; omega
                clear hs ht fs ft
                --< pair
                go_wp2_with fail
                refine (laws_dataRight.calls ks s rs W HFs.out).mono ?_
                rintro e w3 ⟨rfl, hd3⟩
                have HB3 := Aside0.mk (HB.out.trans (hd3.below.mono HB.out.size))
                clear hd3 b1 b2
                cases rs with
                | false =>
                  go_wp2_with fail
                  refine (HAw.out w3 HB3.out).mono ?_
                  rintro e w4 ⟨rfl, hb4⟩
                  have HB4 := Aside0.mk (HB3.out.trans (hb4.mono HB3.out.size))
                  clear hb4
                  go_wp2
                  go_ret
                  exact ⟨rfl, HB4.out⟩
                | true =>
                  go_wp2_with fail
                  refine (laws_dataRight.calls kt t rt w3 HFt.out).mono ?_
                  rintro e w4 ⟨rfl, hd4⟩
                  have HB4 := Aside0.mk (HB3.out.trans (hd4.below.mono HB3.out.size))
                  clear hd4 HB3
                  cases rt with
                  | false =>
                    go_wp2_with fail
                    refine (HAw.out w4 HB4.out).mono ?_
                    rintro e w5 ⟨rfl, hb5⟩
                    have HB5 := Aside0.mk (HB4.out.trans (hb5.mono HB4.out.size))
                    clear hb5
                    go_wp2
                    go_ret
                    exact ⟨rfl, HB5.out⟩
                  | true =>
                    by_cases ls : s.size ≤ 1000
                    · by_cases lt : t.size ≤ 1000
                      · --< both
                        have v1 : decide ((s.size : Int) > 1000) = false := decide_eq_false (by omega)
                        have v2 : decide ((t.size : Int) > 1000) = false := decide_eq_false (by omega)
                        have v3 : ¬ 1000 < s.size := by omega
                        have v4 : ¬ 1000 < t.size := by omega
                        go_upto_block 2 with (fail)
                        clear v1 v2 v3 v4
                        have hC5 := pairs_row w4 s t
                        have hb5 := below_alloc (Below.refl w4.heap.size w4) (.cells #[Value.string s, Value.string t, Value.string t, Value.string s] 26)
                        have HB5 := Aside0.mk (HB4.out.trans (hb5.mono HB4.out.size))
                        obtain ⟨g, hg5⟩ : ∃ z, z = w4.heap.size := ⟨_, rfl⟩
                        rw [← hg5] at hC5 ⊢
                        have HC5 := Aside0.mk hC5
                        clear hC5 hb5 hg5 HB4
                        generalize w4.alloc (.cells #[Value.string s, Value.string t, Value.string t, Value.string s] 26) = w5 at *
                        go_wp2
                        refine loopG 121 (fun gh u wc => ∃ j : Nat, gh = 2 - j ∧ j ≤ 2 ∧ u 0 = .slice (some ad1) n1 c1 ∧ u 1 = .slice (some ad2) n1 c2 ∧ u 6 = .string s ∧ u 7 = .string t ∧ u 34 = .slice (some ad1) n1 c1 ∧ u 35 = .int .i64 n1 ∧ u 36 = .int .i64 i ∧ u 70 = .slice (some ⟨g, 0, none⟩) 2 2 ∧ u 71 = .int .i64 2 ∧ u 72 = .int .i64 j ∧ Kd.C kA wc (some ⟨g, 0, none⟩) 2 [(s, t), (t, s)] ∧ Below w.heap.size w wc) 2 rfl ?atStart2 ?round2
                        case atStart2 => exact ⟨0, rfl, Nat.zero_le _, rfl, rfl, rfl, rfl, rfl, rfl, rfl, rfl, rfl, rfl, HC5.out, HB5.out⟩
                        case round2 =>
                          rintro gh2 u5 W2 ⟨j, hg2, hj, h0, h1, h6, h7, h34, h35, h36, h70, h71, h72, hC, hB⟩ J5 K5 hJ5 hK5
                          rw [lit121]
                          simp only [h0, h1, h6, h7, h34, h35, h36, h70, h71, h72]
                          have HB := Aside0.mk hB
                          have HC := Aside0.mk hC
                          clear hB hC h0 h1 h6 h7 h34 h35 h36 h70 h71 h72 HB5 HC5
                          by_cases cj : j < 2
                          · obtain ⟨p, q, hpq, hpe, lp, lq⟩ : ∃ p q, [(s, t), (t, s)][j]? = some (p, q) ∧ (p = q ↔ s = t) ∧ p.size ≤ 1000 ∧ q.size ≤ 1000 := by
                              rcases Nat.lt_or_ge j 1 with c | c
                              · obtain rfl : j = 0 := by omega
                                exact ⟨s, t, rfl, Iff.rfl, ls, lt⟩
                              · obtain rfl : j = 1 := by omega
                                exact ⟨t, s, rfl, ⟨Eq.symm, Eq.symm⟩, lt, ls⟩
                            obtain ⟨ad0, hA0, b0, b1⟩ := kA_at (xs := [(s, t), (t, s)]) HC.out hpq
                            injection hA0 with hA0
                            subst hA0
                            have d0 : W2.cell? ⟨g, j * 2, none⟩ = some (.string p) := by rw [add_plain] at b0; exact b0
                            have d1 : W2.cell? ⟨g, j * 2 + 1, none⟩ = some (.string q) := by rw [add_plain] at b1; exact b1
                            clear b0 b1
                            have v1 : (j : Int) < 2 := by omega
                            have v2 : IntKind.i64.wrap ((j : Int) + 1) = (j : Int) + 1 := by rw [IntKind.wrap_i64]; omega
                            have hba := below_alloc (Below.refl W2.heap.size W2) (.cells #[Value.string p, Value.string q] 26)
                            have hx := blk_new W2 (.cells #[Value.string p, Value.string q] 26)
                            have HBa := Aside0.mk (HB.out.trans (hba.mono HB.out.size))
                            have HCa := Aside0.mk (Kd.C_below HC.out hba)
                            have HX := Aside0.mk hx
                            have HPE := Aside0.mk hpe
                            clear hba hx hpq hpe HB HC
                            --< call
                            obtain ⟨gx, hgx⟩ : ∃ z, z = W2.heap.size := ⟨_, rfl⟩
                            by_cases hpq : p = q
                            · --< same
                              have hst := HPE.out.1 hpq
                              subst hpq
                              subst hst
                              have hsm := Aside0.mk (implDiff_same (W2.alloc (.cells #[Value.string p, Value.string p] 26)) ⟨#[111, 108, 100]⟩ ⟨#[110, 101, 119]⟩ p (by omega))
                              have e1 : (s.toList == s.toList) = true := beq_self_eq_true _
                              go_wp2_with fail
                              refine hsm.out.mono ?_
                              rintro e w6 ⟨rfl, hb6⟩
                              have HB6 := Aside0.mk (HBa.out.trans (hb6.mono HBa.out.size))
                              have HC6 := Aside0.mk (Kd.C_below HCa.out hb6)
                              clear hb6 d0 d1 hsm
                              go_wp2
                              exact Met.intro (hJ5 (2 - (j + 1)) _ _ rfl (by omega) ⟨j + 1, rfl, cj, rfl, rfl, rfl, rfl, rfl, rfl, rfl, rfl, rfl, rfl, HC6.out, HB6.out⟩)
                              -->
                            · --< other
                              have hst : s ≠ t := fun e => hpq (HPE.out.2 e)
                              have hdp := Aside0.mk (diff_pair (W2.alloc (.cells #[Value.string p, Value.string q] 26)) ⟨#[111, 108, 100]⟩ ⟨#[110, 101, 119]⟩ p q (by decide) (by decide) lp lq hpq (HP.out.on HBa.out))
                              have e1 := toList_ne hst
                              clear hst
                              go_wp2_with fail
                              refine hdp.out.mono ?_
                              rintro e w6 ⟨d, hks, rfl, ⟨q1, q2, q3, q4, q5, q6⟩, hb6⟩
                              have e2 : (d.toList == []) = false := by
                                apply beq_eq_false_iff_ne.mpr
                                rw [ByteArray.toList_eq, q2]
                                intro e
                                have := congrArg List.length e
                                unfold diffText at this
                                rw [List.length_append, hdr_len] at this
                                simp at this
                              have HDf := Aside0.mk (Diffed_calls w6 ⟨#[111, 108, 100]⟩ ⟨#[110, 101, 119]⟩ d hks (by decide) (by decide) q2 q1 q3 q4)
                              obtain ⟨ka, hka⟩ := q6
                              have HKa := Aside0.mk hka
                              have HX6 := Aside0.mk (blk_below HX.out hb6)
                              have HB6 := Aside0.mk (HBa.out.trans (hb6.mono HBa.out.size))
                              have HC6 := Aside0.mk (Kd.C_below HCa.out hb6)
                              clear q1 q2 q3 q4 q5 hka hb6 d0 d1 hdp HBa HCa HX
                              go_wp2_with fail
                              refine HDf.out.mono ?_
                              rintro e w7 ⟨v7, rfl, hR7, hb7⟩
                              obtain ⟨A7, c7, e7, hc7, hC7⟩ := Kd.R_reads hR7
                              subst e7
                              have hx7 := blk_below HX6.out hb7
                              have HX7 := Aside0.mk hx7
                              have HB7 := Aside0.mk (HB6.out.trans (hb7.mono HB6.out.size))
                              have HC7 := Aside0.mk (Kd.C_below HC6.out hb7)
                              have HAp := Aside0.mk (PApplied.spec_Applied.calls ka p A7 c7 (hks.map pz) q true w7 hC7 hc7 HKa.out)
                              have d0 := (blk_cell hx7 0).trans rfl
                              clear hR7 hb7 hC7 hc7 hx7 HDf HB6 HC6 HX6
                              have hap := HAp.out
                              rw [List.length_map] at hap
                              have HAp2 := Aside0.mk hap
                              clear hap HAp
                              go_wp2_with fail
                              refine HAp2.out.mono ?_
                              rintro e w8 ⟨rfl, hb8⟩
                              have HB8 := Aside0.mk (HB7.out.trans (hb8.mono HB7.out.size))
                              have HC8 := Aside0.mk (Kd.C_below HC7.out hb8)
                              have d1 := (blk_cell (blk_below HX7.out hb8) 1).trans rfl
                              have e3 : (q.toList == q.toList) = true := beq_self_eq_true _
                              have e4 : (q.toList != q.toList) = false := bne_eq_false_iff_eq.2 rfl
                              clear hb8 d0 HAp2 HB7 HC7 HX7
                              go_wp2
                              exact Met.intro (hJ5 (2 - (j + 1)) _ _ rfl (by omega) ⟨j + 1, rfl, cj, rfl, rfl, rfl, rfl, rfl, rfl, rfl, rfl, rfl, rfl, HC8.out, HB8.out⟩)
                              -->
                            -->
                          · have v1 : decide ((j : Int) < 2) = false := decide_eq_false (by omega)
                            have v2 : ¬ j < 2 := cj
                            go_wp2
                            exact Met.intro (hJ2 (n1 - (i + 1)) _ _ rfl (by omega) ⟨i + 1, rfl, ci, rfl, rfl, rfl, rfl, rfl, HB.out⟩)
                        -->
                      · have v1 : decide ((s.size : Int) > 1000) = false := decide_eq_false (by omega)
                        have v2 : (t.size : Int) > 1000 := by omega
                        have v3 : ¬ 1000 < s.size := by omega
                        have v4 : 1000 < t.size := by omega
                        go_wp2_with fail
                        refine (HAw.out w4 HB4.out).mono ?_
                        rintro e w5 ⟨rfl, hb5⟩
                        have HB5 := Aside0.mk (HB4.out.trans (hb5.mono HB4.out.size))
                        clear hb5
                        go_wp2
                        go_ret
                        exact ⟨rfl, HB5.out⟩
                    · have v1 : (s.size : Int) > 1000 := by omega
                      have v3 : 1000 < s.size := by omega
                      go_wp2_with fail
                      refine (HAw.out w4 HB4.out).mono ?_
                      rintro e w5 ⟨rfl, hb5⟩
                      have HB5 := Aside0.mk (HB4.out.trans (hb5.mono HB4.out.size))
                      clear hb5
                      go_wp2
                      go_ret
                      exact ⟨rfl, HB5.out⟩
                -->
              · have u1 : decide ((i : Int) < (n1 : Int)) = false := decide_eq_false (by omega)
                have u2 : ¬ i < n1 := ci
                go_wp2
                exact Met.intro (hJ _ _ rfl ⟨rfl, HB.out⟩)
            -->
      · --< differ
        have u1 : ((n1 : Int) != (n2 : Int)) = true := bne_iff_ne.2 (by omega)
        have u2 : ((n1 : Int) == (n2 : Int)) = false := beq_eq_false_iff_ne.2 (by omega)
        go_wp2_with fail
        refine HAw2.out.mono ?_
        rintro e w3 ⟨rfl, hb3⟩
        have HB3 := Aside0.mk (HB2.out.trans (hb3.mono HB2.out.size))
        clear hb3
        go_wp2
        go_ret
        exact ⟨rfl, HB3.out⟩
        -->

end Go.Proofs.YtplbifmjnanceaaDoor
