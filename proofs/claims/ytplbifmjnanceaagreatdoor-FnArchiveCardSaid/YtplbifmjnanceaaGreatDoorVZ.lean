/- The law FnArchive returns true at every input that can be read as data, and its arguments read as they did; on condition that the listed package variables hold at the call what the program lays in them (the tied card says so). -/
import Derived.Test.YtplbifmjnanceaaGreatDoorVX
import Derived.Test.YtplbifmjnanceaaGreatDoorVY
import Derived.Test.YtplbifmjnanceaaGreatDoorCards
import Derived.Test.YtplbifmjnanceaaGreatDoorTie
import Derived.ProofKit
import Derived.OpenShut
import Derived.LaidMore
import Derived.Lay
import Derived.LaidSub
import Derived.SevenTiedAt
import Derived.Stop.Joined
import Derived.SizedLaws
import Derived.SliceStrings
namespace Go.Proofs.YtplbifmjnanceaaGreatDoor
open Go.ChangeShapes Go.WideShapes Go.ChangeAt Go.RowKit
set_option linter.unusedVariables false
set_option linter.unusedSimpArgs false
theorem own : ownKnob Tryz.prog.godebug = none:=by kernel_rfl
theorem laidOut : laidOutB Tryz.prog = true:=by kernel_rfl
theorem cellsU8 : Tryz.prog.cellsOf 5 = 1:=by kernel_rfl
theorem cellsU64 : Tryz.prog.cellsOf 138 = 1:=by kernel_rfl
theorem cellsSp : Tryz.prog.cellsOf 136 = 256:=by kernel_rfl
theorem cellsPw : Tryz.prog.cellsOf 150 = 20:=by kernel_rfl
theorem sp_of {W : World} (h : laidMetH Tryz.prog Rows.fnArchiveRow.laid W) : Lib.TabIs Tryz.prog W "strings.asciiSpace" .u8 Lib.asciiSpaceTab:=by
 have h1:=h.filter (fun x => x.1 == "strings.asciiSpace")
 have e : Rows.fnArchiveRow.laid.filter (fun x => x.1 == "strings.asciiSpace") = [("strings.asciiSpace",Lib.tabData .u8 Lib.asciiSpaceTab)]:=by kernel_rfl
 rw [e,MakeChecks.laidMetH_plain _ _ _ (by kernel_rfl)] at h1
 exact Lib.tabIs_of_head (show Tryz.prog.globalNamed "strings.asciiSpace" = some 1 by kernel_rfl) (show (Tryz.prog.globals[1]?).map (·.type) = some 136 by kernel_rfl) Tryz.underlying136 Tryz.underlying5 cellsU8 cellsSp h1
theorem pw_of {W : World} (h : laidMetH Tryz.prog Rows.fnArchiveRow.laid W) : Lib.TabIs Tryz.prog W "internal/strconv.uint64pow10" .u64 Lib.pow10Tab:=by
 have h1:=h.filter (fun x => x.1 == "internal/strconv.uint64pow10")
 have e : Rows.fnArchiveRow.laid.filter (fun x => x.1 == "internal/strconv.uint64pow10") = [("internal/strconv.uint64pow10",Lib.tabData .u64 Lib.pow10Tab)]:=by kernel_rfl
 rw [e,MakeChecks.laidMetH_plain _ _ _ (by kernel_rfl)] at h1
 exact Lib.tabIs_of_head (show Tryz.prog.globalNamed "internal/strconv.uint64pow10" = some 4 by kernel_rfl) (show (Tryz.prog.globals[4]?).map (·.type) = some 150 by kernel_rfl) Tryz.underlying150 Tryz.underlying138 cellsU64 cellsPw h1
set_option maxRecDepth 100000 in
theorem lifted (os : Os) (started : os.Started) (H : Type) (enc : TypeId × Value → H) :
  ReturnsInHanded {} Tryz.checked os 3 .any (fun w args => (Rows.fnArchiveSpec.pre enc Tryz.prog Tryz.f3 Rows.fnArchiveRow.domain false w args ∧ laidMetH Tryz.prog Rows.fnArchiveRow.laid w) ∧ sizedMet enc Tryz.prog Tryz.f3 (OpenSpec.ofChange Rows.fnArchiveSpec) false w args)
   (Rows.fnArchiveSpec.post enc Tryz.prog Tryz.f3 false true false false):=by
 refine returnsInHanded_of_change_and (C:=Tryz.checked) (X:=fun w _ => laidMetH Tryz.prog Rows.fnArchiveRow.laid w) (fun _ _ _ hh h => h.of_heap hh) own started (by kernel_rfl) Tryz.func3
  (ChangeSpec.witness_shaped (enc:=enc) (C:=Tryz.checked) (os:=os) (X:=fun w _ => laidMetH Tryz.prog Rows.fnArchiveRow.laid w) false (World.laidAll Tryz.prog os Rows.fnArchiveRow.laid) #[.agg #[.slice none 0 0,.slice none 0 0]] 8 (World.laidAll_os _ _ _)
   (World.shaped_of_ZipB (by kernel_rfl) (by kernel_rfl)) (by kernel_rfl) (by kernel_rfl) (by kernel_rfl)
   (by rw [MakeChecks.laidMetH_plain _ _ _ (by kernel_rfl)]; exact laidMet_laidAll _ (by kernel_rfl) (by kernel_rfl))) ?_
 intro W base args ds gs before hval0 hW hc _ hL _
 have hval : ∀ (j : Nat) t v,Tryz.f3.params[j]? = some t → args[j]? = some v → Value.okWide Tryz.prog W .any base t v:=hval0
 have hW':=hW
 obtain ⟨p,q,hA0,hV,rfl,_,_⟩:=hW
 have hA : DataW.TrodAll enc Tryz.prog W 0 (fun _ => true) true Tryz.f3.params.toList args.toList ds p:=hA0
 rw [Tryz.params3] at hA hval
 obtain ⟨v0,d0,rfl,rfl,h0⟩:=trodAll_one hA
 obtain ⟨rfl,rfl⟩:=trodVars_none hV
 clear hA0 hval0
 obtain ⟨cs0,rfl,_⟩:=okWide_struct Tryz.underlying25 (hval 0 25 v0 rfl rfl)
 have h0':=h0
 obtain ⟨fuel,hf⟩:=h0'
 obtain ⟨A1,c1,A2,c2,F,L,hcs,hc1,hC1,hc2,hC2,hq⟩:=open_project hf
 have hcs2 : cs0 = #[.slice A1 F.length c1,.slice A2 L.length c2]:=by
  apply Array.toList_inj.1
  exact hcs
 subst hcs2
 simp only [List.append_nil] at hW'
 have hlt : ∀ x ∈ p,x.block < W.heap.size:=fun x hx => by simpa using hW'.lt x hx
 refine (FnArchive_calls W A1 A2 c1 c2 F L hC1 hc1 hC2 hc2 hq (Lib.tabBelow_of_tabIs (sp_of hL)) (Lib.tabBelow_of_tabIs (pw_of hL))).mono fun e W' ⟨he,hnx⟩ => ?_
 subst he
 refine ⟨_,rfl,_,_,_,[] ++ [],p,[],hW',trodAll_mk1 (shut_bool Tryz.underlying4 _),?_,rfl,hnx.frame _,fun h => by cases h⟩
 exact trodAll_mk1 (Below.trod laidOut (by kernel_rfl) (of_decide_eq_true (by kernel_rfl)) h0 hnx hlt)
theorem fnArchive_holds : Rows.FnArchiveSaid :=
 OpenClaim.holds_of_wide 3 Tryz.f3 rfl rfl rfl rfl rfl rfl rfl ⟨rfl,rfl,rfl,rfl,rfl⟩ rfl rfl rfl rfl rfl (by kernel_rfl) Tryz.func3 (by kernel_rfl)
  (of_decide_eq_true (by kernel_rfl)) (by unfold Func.isWrapper; first | (rw [if_pos (by decide +kernel)]; kernel_rfl) | (rw [if_neg (by decide +kernel)]; exact ⟨rfl,rfl⟩))
  (fun os started H enc _ => lifted os started H enc)
theorem fnArchiveCard_holds : Rows.FnArchiveCardSaid :=
 Claim7.holds_tied_plain_at .later [] [.data,.data,.data,.data,.listed,.sentinel,.data,.pinned] true (true,"306643ef8887a44e087fd7712efe53eff762779ad0b9465f4ecd7182f4136dc1") false fnArchive_holds (fun _ h => by cases h) (by kernel_rfl) (fun _ h => by cases h) fnArchive_row_tie rfl ⟨rfl,rfl⟩ (by kernel_rfl) rfl
  (fun f fn hf hfn => by
   obtain rfl : f = 3:=Option.some.inj ((show Tryz.prog.funcNamed "pub-smithery/laws.FnArchive" = some 3 by kernel_rfl).symm.trans hf) |>.symm
   obtain rfl : fn = Tryz.f3:=(Option.some.inj (Tryz.func3.symm.trans hfn)).symm
   exact ⟨by kernel_rfl,fun j t ht => by
    rw [Tryz.params3] at ht
    have hm : t ∈ [25]:=by simpa using Array.mem_of_getElem? ht
    have hall : ([25].all fun u => !Tryz.prog.wantsStandIn u) = true:=by kernel_rfl
    exact (show Tryz.prog.wantsStandIn t = false by simpa using List.all_eq_true.1 hall t hm)⟩)
  (by kernel_rfl)
end Go.Proofs.YtplbifmjnanceaaGreatDoor
