/- The law FnPatched returns true at every input that can be read as data, and its arguments read as they did; on condition that the listed package variables hold at the call what the program lays in them (the tied card says so). -/
import Derived.Test.YtplbifmjnanceaaDoorQi
import Derived.Test.YtplbifmjnanceaaDoorCards
import Derived.Test.YtplbifmjnanceaaDoorTie
import Derived.ProofKit
import Derived.OpenShut
import Derived.LaidMore
import Derived.Lay
import Derived.LaidSub
import Derived.SevenTiedAt
import Derived.Stop.Joined
import Derived.SizedLaws
import Derived.SliceStrings
namespace Go.Proofs.YtplbifmjnanceaaDoor
open Go.ChangeShapes Go.WideShapes Go.ChangeAt Go.RowKit
set_option linter.unusedVariables false
set_option linter.unusedSimpArgs false

theorem own : ownKnob Tryd.prog.godebug = none := by kernel_rfl
theorem laidOut : laidOutB Tryd.prog = true := by kernel_rfl
theorem cellsStr : Tryd.prog.cellsOf 9 = 1 := by kernel_rfl
theorem cellsU8 : Tryd.prog.cellsOf 5 = 1 := by kernel_rfl
theorem cellsU64 : Tryd.prog.cellsOf 96 = 1 := by kernel_rfl
theorem cellsSp : Tryd.prog.cellsOf 103 = 256 := by kernel_rfl
theorem cellsPw : Tryd.prog.cellsOf 105 = 20 := by kernel_rfl

theorem sp_of {W : World} (h : laidMetH Tryd.prog Rows.fnPatchedRow.laid W) : Lib.TabIs Tryd.prog W "strings.asciiSpace" .u8 Lib.asciiSpaceTab := by
  have h1 := h.filter (fun x => x.1 == "strings.asciiSpace")
  have e : Rows.fnPatchedRow.laid.filter (fun x => x.1 == "strings.asciiSpace") = [("strings.asciiSpace", Lib.tabData .u8 Lib.asciiSpaceTab)] := by kernel_rfl
  rw [e, MakeChecks.laidMetH_plain _ _ _ (by kernel_rfl)] at h1
  exact Lib.tabIs_of_head (show Tryd.prog.globalNamed "strings.asciiSpace" = some 1 by kernel_rfl) (show (Tryd.prog.globals[1]?).map (·.type) = some 103 by kernel_rfl) Tryd.underlying103 Tryd.underlying5 cellsU8 cellsSp h1
theorem pw_of {W : World} (h : laidMetH Tryd.prog Rows.fnPatchedRow.laid W) : Lib.TabIs Tryd.prog W "internal/strconv.uint64pow10" .u64 Lib.pow10Tab := by
  have h1 := h.filter (fun x => x.1 == "internal/strconv.uint64pow10")
  have e : Rows.fnPatchedRow.laid.filter (fun x => x.1 == "internal/strconv.uint64pow10") = [("internal/strconv.uint64pow10", Lib.tabData .u64 Lib.pow10Tab)] := by kernel_rfl
  rw [e, MakeChecks.laidMetH_plain _ _ _ (by kernel_rfl)] at h1
  exact Lib.tabIs_of_head (show Tryd.prog.globalNamed "internal/strconv.uint64pow10" = some 2 by kernel_rfl) (show (Tryd.prog.globals[2]?).map (·.type) = some 105 by kernel_rfl) Tryd.underlying105 Tryd.underlying96 cellsU64 cellsPw h1

theorem maxLen_le : maxLen ≤ 9223372036854775807 := Nat.le_of_ble_eq_true rfl

set_option maxRecDepth 100000 in
/-- a slice of texts that is read as data, opened -/
theorem open_texts {H : Type} {enc : TypeId × Value → H} {W : World} {base : Nat} {v : Value} {d : DataW H} {p : List MemPlace} (hv : Value.okWide Tryd.prog W .any base 22 v) (h : DataW.Trod enc Tryd.prog W 0 (fun _ => true) true 22 v d p) :
    ∃ (A : Option Addr) (c : Nat) (L : List ByteArray), v = .slice A L.length c ∧ L.length ≤ c ∧ Go.Proofs.YtplbifmjnanceaaDoorW.PrintWords.Kd.C Go.Proofs.YtplbifmjnanceaaDoorW.PrintWords.Kd.string W A L.length L := by
  obtain ⟨a0, len, cap, rfl⟩ := okWide_slice Tryd.underlying22 hv
  obtain ⟨fuel, hf⟩ := h
  rcases open_strings Tryd.underlying22 Tryd.underlying9 cellsStr hf with ⟨hcs, hx⟩ | ⟨a, len', cap', ss, hcs, _, hl, hm, hz, hx, hcell, hws⟩
  · simp [Value.cells] at hcs
    obtain ⟨rfl, rfl, rfl⟩ := hcs
    exact ⟨none, 0, [], rfl, Nat.le_refl _, Go.Proofs.YtplbifmjnanceaaDoorW.PrintWords.Kd.C_nil _ _⟩
  · simp [Value.cells] at hcs
    obtain ⟨rfl, rfl, rfl⟩ := hcs
    simp only [if_true] at hz
    have hlen : (ss.take len).length = len := by rw [List.length_take]; omega
    refine ⟨some a, cap, ss.take len, by rw [hlen], by rw [hlen]; exact hl, rfl, ?_, fun _ => ⟨a, rfl, fun j q hj => ⟨[.string q], rfl, rfl, fun i u hu => ?_⟩⟩⟩
    · rw [hlen]; exact Nat.le_trans (Nat.le_trans hl hm) maxLen_le
    · have hi : i = 0 := by
        have := get_lt hu
        simp at this
        omega
      subst hi
      injection hu with hu
      subst hu
      rw [List.getElem?_take] at hj
      split at hj
      · have := hcell j (get_lt hj)
        rw [show j * Go.Proofs.YtplbifmjnanceaaDoorW.PrintWords.Kd.string.sz + 0 = j from by show j * 1 + 0 = j; omega, this, List.getD_eq_getElem?_getD, hj]
        rfl
      · cases hj

set_option maxRecDepth 100000 in
theorem lifted (os : Os) (started : os.Started) (H : Type) (enc : TypeId × Value → H) :
    ReturnsInHanded {} Tryd.checked os 3 .any (fun w args => (Rows.fnPatchedSpec.pre enc Tryd.prog Tryd.f3 Rows.fnPatchedRow.domain false w args ∧ laidMetH Tryd.prog Rows.fnPatchedRow.laid w) ∧ sizedMet enc Tryd.prog Tryd.f3 (OpenSpec.ofChange Rows.fnPatchedSpec) false w args)
      (Rows.fnPatchedSpec.post enc Tryd.prog Tryd.f3 false true false false) := by
  refine returnsInHanded_of_change_and (C := Tryd.checked) (X := fun w _ => laidMetH Tryd.prog Rows.fnPatchedRow.laid w) (fun _ _ _ hh h => h.of_heap hh) own started (by kernel_rfl) Tryd.func3
    (ChangeSpec.witness_shaped (enc := enc) (C := Tryd.checked) (os := os) (X := fun w _ => laidMetH Tryd.prog Rows.fnPatchedRow.laid w) false (World.laidAll Tryd.prog os Rows.fnPatchedRow.laid) #[.slice none 0 0, .slice none 0 0] 8 (World.laidAll_os _ _ _)
      (World.shaped_of_ZipB (by kernel_rfl) (by kernel_rfl)) (by kernel_rfl) (by kernel_rfl) (by kernel_rfl)
      (by rw [MakeChecks.laidMetH_plain _ _ _ (by kernel_rfl)]; exact laidMet_laidAll _ (by kernel_rfl) (by kernel_rfl))) ?_
  intro W base args ds gs before hval0 hW hc _ hL _
  have hval : ∀ (j : Nat) t v, Tryd.f3.params[j]? = some t → args[j]? = some v → Value.okWide Tryd.prog W .any base t v := hval0
  have hW' := hW
  obtain ⟨p, q, hA0, hV, rfl, _, _⟩ := hW
  have hA : DataW.TrodAll enc Tryd.prog W 0 (fun _ => true) true Tryd.f3.params.toList args.toList ds p := hA0
  rw [Tryd.params3] at hA hval
  obtain ⟨v0, v1, d0, d1, p0, p1, rfl, rfl, rfl, h0, h1⟩ := trodAll_two hA
  obtain ⟨rfl, rfl⟩ := trodVars_none hV
  clear hA0 hval0
  obtain ⟨A1, c1, L1, rfl, hc1, hC1⟩ := open_texts (hval 0 22 v0 rfl rfl) h0
  obtain ⟨A2, c2, L2, rfl, hc2, hC2⟩ := open_texts (hval 1 22 v1 rfl rfl) h1
  simp only [List.append_nil] at hW'
  have hlt : ∀ x ∈ p0 ++ p1, x.block < W.heap.size := fun x hx => by simpa using hW'.lt x hx
  refine (FnPatched_calls W A1 A2 c1 c2 L1 L2 hC1 hc1 hC2 hc2 (Lib.tabBelow_of_tabIs (sp_of hL)) (Lib.tabBelow_of_tabIs (pw_of hL))).mono fun e W' ⟨he, hnx⟩ => ?_
  subst he
  refine ⟨_, rfl, _, _, _, [] ++ [], p0 ++ p1, [], hW', trodAll_mk1 (shut_bool Tryd.underlying4 _), ?_, rfl, hnx.frame _, fun h => by cases h⟩
  exact trodAll_mk2 (Below.trod laidOut (by kernel_rfl) (of_decide_eq_true (by kernel_rfl)) h0 hnx (fun x hx => hlt x (List.mem_append_left _ hx))) (Below.trod laidOut (by kernel_rfl) (of_decide_eq_true (by kernel_rfl)) h1 hnx (fun x hx => hlt x (List.mem_append_right _ hx)))

theorem fnPatched_holds : Rows.FnPatchedSaid :=
  OpenClaim.holds_of_wide 3 Tryd.f3 rfl rfl rfl rfl rfl rfl rfl ⟨rfl, rfl, rfl, rfl, rfl⟩ rfl rfl rfl rfl rfl (by kernel_rfl) Tryd.func3 (by kernel_rfl)
    (of_decide_eq_true (by kernel_rfl)) (by unfold Func.isWrapper; first | (rw [if_pos (by decide +kernel)]; kernel_rfl) | (rw [if_neg (by decide +kernel)]; exact ⟨rfl, rfl⟩))
    (fun os started H enc _ => lifted os started H enc)

theorem fnPatchedCard_holds : Rows.FnPatchedCardSaid :=
  Claim7.holds_tied_plain_at .later [] [.data, .data, .data, .data, .listed, .sentinel, .data, .pinned] true (true, "13a71f90278f02e5603635c7f89ae732da0d62ea2c436c6fdf1dc597ec7b97dd") false fnPatched_holds (fun _ h => by cases h) (by kernel_rfl) (fun _ h => by cases h) fnPatched_row_tie rfl ⟨rfl, rfl⟩ (by kernel_rfl) rfl
    (fun f fn hf hfn => by
      obtain rfl : f = 3 := Option.some.inj ((show Tryd.prog.funcNamed "pub-smithery/laws.FnPatched" = some 3 by kernel_rfl).symm.trans hf) |>.symm
      obtain rfl : fn = Tryd.f3 := (Option.some.inj (Tryd.func3.symm.trans hfn)).symm
      exact ⟨by kernel_rfl, fun j t ht => by
        rw [Tryd.params3] at ht
        have hm : t ∈ [22, 22] := by simpa using Array.mem_of_getElem? ht
        have hall : ([22, 22].all fun u => !Tryd.prog.wantsStandIn u) = true := by kernel_rfl
        exact (show Tryd.prog.wantsStandIn t = false by simpa using List.all_eq_true.1 hall t hm)⟩)
    (by kernel_rfl)
#print axioms fnPatchedCard_holds

end Go.Proofs.YtplbifmjnanceaaDoor
