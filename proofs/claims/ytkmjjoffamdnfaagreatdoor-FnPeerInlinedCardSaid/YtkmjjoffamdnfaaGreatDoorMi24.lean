/- An ID whose key is inlined tells the key, and a longer key's ID has 34 bytes: proved for every input that the row reads and for every value of the hash's table of words; the listed error variables hold what the program's text lays. -/
import Derived.Test.YtkmjjoffamdnfaaGreatDoorMi21
import Derived.Test.YtkmjjoffamdnfaaGreatDoorMi22
import Derived.Test.YtkmjjoffamdnfaaGreatDoorMi23
import Derived.Test.YtkmjjoffamdnfaaGreatDoorCards
import Derived.Test.YtkmjjoffamdnfaaGreatDoorTie
import Derived.SevenTiedAt
namespace Go.Proofs.YtkmjjoffamdnfaaGreatDoor
namespace RFnPeerInlined
open Go.ChangeShapes Go.WideShapes Go.ChangeAt Go.RowKit
set_option maxRecDepth 100000

theorem door_met (os : Os) (args : Array Value) : laidMetH Tryz.prog Rows.fnPeerInlinedRow.laid ((World.doorLaid Tryz.prog 375 os).forCall (fun _ _ => 0) ⟨#[], args, []⟩).memory :=
  laidMetH_of_parts3 (fuel := 8) (laidMet_of_run' 8 (by kernel_rfl) (by kernel_rfl)) (by kernel_rfl) (by kernel_rfl)

theorem errs {W : World} (h : laidMetH Tryz.prog Rows.fnPeerInlinedRow.laid W) : HasErr W 6 ∧ HasErr W 7 ∧ HasErr W 8 ∧ HasErr W 9 ∧ HasErr W 10 ∧ HasErr W 11 ∧ HasErr W 5 ∧ HasErr W 2 ∧ HasErr W 15 ∧ HasErr W 17 ∧ HasErr W 16 ∧ HasErr W 12 ∧ HasErr W 13 ∧ HasErr W 14 := by
  rw [MakeChecks.laidMetH_plain _ _ _ (by kernel_rfl)] at h
  have h0 : laidMet Tryz.prog Rows.fnPeerInlinedRow.laid W := h
  have e0 := hasErr_head h0 Tryz.gEof.1 Tryz.gEof.2
  have h1 := h0.tail
  have e1 := hasErr_head h1 Tryz.gField.1 Tryz.gField.2
  have h2 := h1.tail
  have e2 := hasErr_head h2 Tryz.gOver.1 Tryz.gOver.2
  have h3 := h2.tail
  have e3 := hasErr_head h3 Tryz.gRes.1 Tryz.gRes.2
  have h4 := h3.tail
  have e4 := hasErr_head h4 Tryz.gEnd.1 Tryz.gEnd.2
  have h5 := h4.tail
  have e5 := hasErr_head h5 Tryz.gParse.1 Tryz.gParse.2
  have h6 := h5.tail
  have e6 := hasErr_head h6 Tryz.gCNum.1 Tryz.gCNum.2
  have h7 := h6.tail
  have e7 := hasErr_head h7 Tryz.gCReq.1 Tryz.gCReq.2
  have h8 := h7.tail
  have e8 := hasErr_head h8 Tryz.gVOver.1 Tryz.gVOver.2
  have h9 := h8.tail
  have e9 := hasErr_head h9 Tryz.gVUnder.1 Tryz.gVUnder.2
  have h10 := h9.tail
  have e10 := hasErr_head h10 Tryz.gVMin.1 Tryz.gVMin.2
  have h11 := h10.tail
  have h12 := h11.tail
  have h13 := h12.tail
  have e13 := hasErr_head h13 Tryz.gMShort.1 Tryz.gMShort.2
  have h14 := h13.tail
  have e14 := hasErr_head h14 Tryz.gMBuf.1 Tryz.gMBuf.2
  have h15 := h14.tail
  have e15 := hasErr_head h15 Tryz.gMLong.1 Tryz.gMLong.2
  exact ⟨e0, e1, e2, e3, e4, e5, e6, e7, e8, e9, e10, e13, e14, e15⟩

set_option maxHeartbeats 1000000 in
theorem lifted (os : Os) (started : os.Started) (H : Type) (enc : TypeId × Value → H) :
    ReturnsInHanded {} Tryz.checked os 5 .any (fun w args => (Rows.fnPeerInlinedSpec.pre enc Tryz.prog Tryz.f5 [] false w args ∧ laidMetH Tryz.prog Rows.fnPeerInlinedRow.laid w) ∧ sizedMet enc Tryz.prog Tryz.f5 (OpenSpec.ofChange Rows.fnPeerInlinedSpec) false w args)
      (Rows.fnPeerInlinedSpec.post enc Tryz.prog Tryz.f5 false true false false) := by
  refine returnsInHanded_of_change_shaped (C := Tryz.checked) (X := fun w _ => laidMetH Tryz.prog Rows.fnPeerInlinedRow.laid w) (fun _ _ _ hh h => h.of_heap hh) Tryz.own started (by kernel_rfl) Tryz.func5
    (ChangeSpec.witness_shaped (enc := enc) (C := Tryz.checked) (os := os) (X := fun w _ => laidMetH Tryz.prog Rows.fnPeerInlinedRow.laid w) false (World.doorLaid Tryz.prog 375 os) #[.int .u8 0, .slice none 0 0] 8 rfl (World.shaped_of_RefB (by kernel_rfl) (by kernel_rfl)) (by kernel_rfl) (by kernel_rfl) (by kernel_rfl) (door_met os _)) ?_
  intro W base args ds gs before hSh hval0 hW _ _ hL _
  have hval : ∀ (j : Nat) t v, Tryz.f5.params[j]? = some t → args[j]? = some v → Value.okWide Tryz.prog W .any base t v := hval0
  have hW' := hW
  obtain ⟨p, q, hA0, hV, rfl, hfz, hnd⟩ := hW
  have hA : DataW.TrodAll enc Tryz.prog W 0 (fun _ => true) true Tryz.f5.params.toList args.toList ds p := hA0
  rw [Tryz.params5] at hA hval
  obtain ⟨v0, vs0, d0, ds0, p0, q0, hargs, rfl, rfl, h0, r0⟩ := trodAll_cons hA
  obtain ⟨v1, vs1, d1, ds1, p1, q1, rfl, rfl, rfl, h1, r1⟩ := trodAll_cons r0
  obtain ⟨rfl, rfl, rfl⟩ := trodAll_nil r1
  obtain rfl : args = #[v0, v1] := by cases args; simp_all
  obtain ⟨rfl, rfl⟩ := trodVars_none hV
  obtain ⟨x0, f0⟩ := openInt Tryz.underlying5 (hval 0 5 v0 rfl rfl) h0
  obtain ⟨x1, f1⟩ := openBytes (hval 1 22 v1 rfl rfl) h1
  have he := errs hL
  clear hA0 hval0
  refine (walk_FnPeerInlined f0 f1 he (keysK hSh)).mono fun e W' ⟨he, bel⟩ => ?_
  subst he
  exact ⟨_, rfl, _, _, _, [], _, [], hW', trodAll_mk1 (shut_bool Tryz.underlying4 _), (trodAll_cons_mk (Below.trod Tryz.laidOut (by kernel_rfl) (of_decide_eq_true (by kernel_rfl)) h0 bel (lt_of_trod h0)) (trodAll_cons_mk (Below.trod Tryz.laidOut (by kernel_rfl) (of_decide_eq_true (by kernel_rfl)) h1 bel (lt_of_trod h1)) trodAll_mk0)), rfl, bel.frame _, fun h => by cases h⟩

theorem j1 : Rows.fnPeerInlinedRow.wf (OpenSpec.ofChange Rows.fnPeerInlinedSpec) = true := by kernel_rfl
theorem j4 : Tryz.f5.params.all (Tryz.prog.readableRec ·) = true := by kernel_rfl
theorem j5 : namedTie Tryz.prog Rows.fnPeerInlinedRow.named Rows.fnPeerInlinedSpec.vars = true := by kernel_rfl
theorem j10 : (Rows.fnPeerInlinedRow.inPlace == Tryz.prog.inPlace 5) = true := by kernel_rfl
theorem j11 : (Rows.fnPeerInlinedRow.unfollowed == Tryz.prog.unfollowed 5) = true := by kernel_rfl
theorem j12 : (Rows.fnPeerInlinedRow.recurses == Tryz.prog.recurses 5) = true := by kernel_rfl
theorem j13 : (Rows.fnPeerInlinedRow.named == Tryz.prog.varsNamed 5) = true := by kernel_rfl
theorem j14 : (Rows.fnPeerInlinedRow.maps == (Tryz.f5.params.toList ++ Rows.fnPeerInlinedSpec.plain.varTypes Tryz.prog).any (Tryz.prog.mapsRec ·)) = true := by kernel_rfl
theorem j15 : (Rows.fnPeerInlinedRow.ifaces == (Tryz.f5.params.toList ++ Rows.fnPeerInlinedSpec.plain.varTypes Tryz.prog).any (Tryz.prog.ifacesRec ·)) = true := by kernel_rfl
theorem j16 : (Rows.fnPeerInlinedRow.mapsOut == Tryz.prog.mapsAmong Tryz.f5.resultTypes.toList) = true := by kernel_rfl
theorem j17 : (Rows.fnPeerInlinedRow.loops == (Tryz.f5.params.toList ++ Rows.fnPeerInlinedSpec.plain.varTypes Tryz.prog).any (Tryz.prog.loopsFrom ·)) = true := by kernel_rfl
theorem j18 : (Rows.fnPeerInlinedRow.wideKeys == (Tryz.f5.params.toList ++ Rows.fnPeerInlinedSpec.plain.varTypes Tryz.prog ++ Tryz.f5.resultTypes.toList).any (Tryz.prog.wideKeysFrom ·)) = true := by kernel_rfl
theorem j19 : Rows.fnPeerInlinedSpec.vars.all (Tryz.prog.varReadable ·) = true := by kernel_rfl
theorem j20 : Tryz.f5.resultTypes.all (fun t => Tryz.prog.readableRec t && decide (t < Tryz.prog.types.size)) = true := by kernel_rfl
theorem j21 : (Rows.fnPeerInlinedRow.ifacesOut == Tryz.f5.resultTypes.toList.any (Tryz.prog.ifacesRec ·)) = true := by kernel_rfl
theorem j22 : (Rows.fnPeerInlinedRow.loopsOut == Tryz.f5.resultTypes.toList.any (Tryz.prog.loopsFrom ·)) = true := by kernel_rfl
theorem j29 : (Rows.fnPeerInlinedRow.kinds == (if Rows.fnPeerInlinedRow.domain.isEmpty then [] else Tryz.f5.params.toList.map fun t => match Tryz.prog.underlying t with | some (.int k) => some k | _ => none)) = true := by kernel_rfl
theorem j30 : (Rows.fnPeerInlinedRow.pinned == Rows.fnPeerInlinedRow.pinnedBy) = true := by kernel_rfl
theorem j31 : (Rows.fnPeerInlinedRow.veiled == (Tryz.f5.params.toList ++ Rows.fnPeerInlinedSpec.plain.varTypes Tryz.prog ++ Tryz.f5.resultTypes.toList).any (Tryz.prog.veiledRec ·)) = true := by kernel_rfl
theorem j32 : Rows.fnPeerInlinedRow.veiledFits Tryz.prog Tryz.f5.params.toList (Tryz.f5.params.toList ++ Rows.fnPeerInlinedSpec.plain.varTypes Tryz.prog ++ Tryz.f5.resultTypes.toList) = true := by kernel_rfl
theorem closed : joinedFacts Tryz.prog 5 Tryz.f5 Rows.fnPeerInlinedSpec Rows.fnPeerInlinedRow = true :=
  joined_of j1 Tryz.laidOut Tryz.jMaps j4 j5 rfl Tryz.jStops rfl Tryz.jKnobs j10 j11 j12 j13 j14 j15 j16 j17 j18 j19 j20 j21 j22 Tryz.jPlain rfl Tryz.jHeard Tryz.jEnter Tryz.jLifts Tryz.jMake j29 j30 j31 j32

theorem row_holds : Rows.FnPeerInlinedSaid :=
  OpenClaim.holds_of_wide 5 Tryz.f5 rfl rfl rfl rfl rfl rfl rfl ⟨rfl, rfl, rfl, rfl, rfl⟩ rfl rfl rfl rfl rfl (by kernel_rfl) Tryz.func5 closed
    (of_decide_eq_true (by kernel_rfl)) (by unfold Func.isWrapper; first | (rw [if_pos (by decide +kernel)]; kernel_rfl) | (rw [if_neg (by decide +kernel)]; exact ⟨rfl, rfl⟩))
    (fun os started H enc _ => lifted os started H enc)
end RFnPeerInlined

theorem FnPeerInlined_holds : Rows.FnPeerInlinedCardSaid :=
  Claim7.holds_tied_plain_at .later [] [.sentinel, .sentinel, .sentinel, .sentinel, .sentinel, .sentinel, .sentinel, .sentinel, .sentinel, .sentinel, .sentinel, .sentinel, .sentinel, .sentinel, .sentinel, .sentinel, .sentinel] true (true, "72e6a68d0cc949935e5aee5083f961e1149173a005c865ab94463c4878a424fd") false
    RFnPeerInlined.row_holds (fun _ h => by cases h) (by kernel_rfl) (fun _ h => by cases h) fnPeerInlined_row_tie rfl ⟨rfl, rfl⟩ (by kernel_rfl) rfl
    (fun f fn hf hfn => by
      obtain rfl : f = 5 := Option.some.inj ((show Tryz.prog.funcNamed "pub-symmory/laws.FnPeerInlined" = some 5 by kernel_rfl).symm.trans hf) |>.symm
      obtain rfl : fn = Tryz.f5 := (Option.some.inj (Tryz.func5.symm.trans hfn)).symm
      exact ⟨by kernel_rfl, fun j t ht => by
        rw [Tryz.params5] at ht
        have hm : t ∈ [5, 22] := by simpa using Array.mem_of_getElem? ht
        have hall : ([5, 22].all fun u => !Tryz.prog.wantsStandIn u) = true := by kernel_rfl
        exact (show Tryz.prog.wantsStandIn t = false by simpa using List.all_eq_true.1 hall t hm)⟩)
    (by kernel_rfl)
#print axioms FnPeerInlined_holds
end Go.Proofs.YtkmjjoffamdnfaaGreatDoor
