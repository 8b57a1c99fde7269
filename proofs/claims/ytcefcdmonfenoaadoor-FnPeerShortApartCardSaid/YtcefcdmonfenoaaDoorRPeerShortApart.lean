/- The short text begins and ends as it should; of an ID's text of more than ten letters it shows the first two and the last six, and a shorter one whole: proved for every input that the row reads; the listed error variables hold what the program's text lays. -/
import Derived.Test.YtcefcdmonfenoaaDoorWPeerShortApart
import Derived.Test.YtcefcdmonfenoaaDoorEp
import Derived.Test.YtcefcdmonfenoaaDoorJg
import Derived.Test.YtcefcdmonfenoaaDoorCards
import Derived.Test.YtcefcdmonfenoaaDoorTie
import Derived.SevenTiedAt
namespace Go.Proofs.YtcefcdmonfenoaaDoor
namespace RFnPeerShortApart
open Go.ChangeShapes Go.WideShapes Go.ChangeAt Go.RowKit
set_option maxRecDepth 100000

theorem door_met (os : Os) (args : Array Value) : laidMetH Tryd.prog Rows.fnPeerShortApartRow.laid ((World.doorLaid Tryd.prog 313 os).forCall (fun _ _ => 0) ⟨#[], args, []⟩).memory :=
  laidMetH_of_parts3 (fuel := 8) (laidMet_of_run' 8 (by kernel_rfl) (by kernel_rfl)) (by kernel_rfl) (by kernel_rfl)

theorem errs {W : World} (h : laidMetH Tryd.prog Rows.fnPeerShortApartRow.laid W) : HasErr W 13 ∧ HasErr W 15 ∧ HasErr W 14 ∧ HasErr W 10 ∧ HasErr W 11 ∧ HasErr W 12 := by
  rw [MakeChecks.laidMetH_plain _ _ _ (by kernel_rfl)] at h
  have h0 : laidMet Tryd.prog Rows.fnPeerShortApartRow.laid W := h
  have e0 := hasErr_head h0 Tryd.gVOver.1 Tryd.gVOver.2
  have h1 := h0.tail
  have e1 := hasErr_head h1 Tryd.gVUnder.1 Tryd.gVUnder.2
  have h2 := h1.tail
  have e2 := hasErr_head h2 Tryd.gVMin.1 Tryd.gVMin.2
  have h3 := h2.tail
  have e3 := hasErr_head h3 Tryd.gMShort.1 Tryd.gMShort.2
  have h4 := h3.tail
  have e4 := hasErr_head h4 Tryd.gMBuf.1 Tryd.gMBuf.2
  have h5 := h4.tail
  have e5 := hasErr_head h5 Tryd.gMLong.1 Tryd.gMLong.2
  exact ⟨e0, e1, e2, e3, e4, e5⟩

set_option maxHeartbeats 1000000 in
theorem lifted (os : Os) (started : os.Started) (H : Type) (enc : TypeId × Value → H) :
    ReturnsInHanded {} Tryd.checked os 4 .any (fun w args => (Rows.fnPeerShortApartSpec.pre enc Tryd.prog Tryd.f4 [] false w args ∧ laidMetH Tryd.prog Rows.fnPeerShortApartRow.laid w) ∧ sizedMet enc Tryd.prog Tryd.f4 (OpenSpec.ofChange Rows.fnPeerShortApartSpec) false w args)
      (Rows.fnPeerShortApartSpec.post enc Tryd.prog Tryd.f4 false true false false) := by
  refine returnsInHanded_of_change_and (C := Tryd.checked) (X := fun w _ => laidMetH Tryd.prog Rows.fnPeerShortApartRow.laid w) (fun _ _ _ hh h => h.of_heap hh) Tryd.own started (by kernel_rfl) Tryd.func4
    (ChangeSpec.witness_shaped (enc := enc) (C := Tryd.checked) (os := os) (X := fun w _ => laidMetH Tryd.prog Rows.fnPeerShortApartRow.laid w) false (World.doorLaid Tryd.prog 313 os) #[.agg #[.int .u8 0, .int .u8 0, .int .u8 0, .int .u8 0, .int .u8 0, .int .u8 0, .int .u8 0, .int .u8 0, .int .u8 0, .int .u8 0, .int .u8 0, .int .u8 0, .int .u8 0, .int .u8 0, .int .u8 0, .int .u8 0, .int .u8 0, .int .u8 0, .int .u8 0, .int .u8 0, .int .u8 0, .int .u8 0, .int .u8 0, .int .u8 0, .int .u8 0, .int .u8 0, .int .u8 0, .int .u8 0, .int .u8 0, .int .u8 0, .int .u8 0, .int .u8 0], .int .u8 0] 8 rfl (World.shaped_of_RefB (by kernel_rfl) (by kernel_rfl)) (by kernel_rfl) (by kernel_rfl) (by kernel_rfl) (door_met os _)) ?_
  intro W base args ds gs before hval0 hW _ _ hL _
  have hval : ∀ (j : Nat) t v, Tryd.f4.params[j]? = some t → args[j]? = some v → Value.okWide Tryd.prog W .any base t v := hval0
  have hW' := hW
  obtain ⟨p, q, hA0, hV, rfl, hfz, hnd⟩ := hW
  have hA : DataW.TrodAll enc Tryd.prog W 0 (fun _ => true) true Tryd.f4.params.toList args.toList ds p := hA0
  rw [Tryd.params4] at hA hval
  obtain ⟨v0, vs0, d0, ds0, p0, q0, hargs, rfl, rfl, h0, r0⟩ := trodAll_cons hA
  obtain ⟨v1, vs1, d1, ds1, p1, q1, rfl, rfl, rfl, h1, r1⟩ := trodAll_cons r0
  obtain ⟨rfl, rfl, rfl⟩ := trodAll_nil r1
  obtain rfl : args = #[v0, v1] := by cases args; simp_all
  obtain ⟨rfl, rfl⟩ := trodVars_none hV
  obtain ⟨x0, f0⟩ := open_arr32 (hval 0 22 v0 rfl rfl) h0
  obtain ⟨x1, f1⟩ := openInt Tryd.underlying5 (hval 1 5 v1 rfl rfl) h1
  have he := errs hL
  clear hA0 hval0
  refine (walk_FnPeerShortApart f0 f1 he).mono fun e W' ⟨he, bel⟩ => ?_
  subst he
  exact ⟨_, rfl, _, _, _, [], _, [], hW', trodAll_mk1 (shut_bool Tryd.underlying4 _), (trodAll_cons_mk (Below.trod Tryd.laidOut (by kernel_rfl) (of_decide_eq_true (by kernel_rfl)) h0 bel (lt_of_trod h0)) (trodAll_cons_mk (Below.trod Tryd.laidOut (by kernel_rfl) (of_decide_eq_true (by kernel_rfl)) h1 bel (lt_of_trod h1)) trodAll_mk0)), rfl, bel.frame _, fun h => by cases h⟩

theorem j1 : Rows.fnPeerShortApartRow.wf (OpenSpec.ofChange Rows.fnPeerShortApartSpec) = true := by kernel_rfl
theorem j4 : Tryd.f4.params.all (Tryd.prog.readableRec ·) = true := by kernel_rfl
theorem j5 : namedTie Tryd.prog Rows.fnPeerShortApartRow.named Rows.fnPeerShortApartSpec.vars = true := by kernel_rfl
theorem j10 : (Rows.fnPeerShortApartRow.inPlace == Tryd.prog.inPlace 4) = true := by kernel_rfl
theorem j11 : (Rows.fnPeerShortApartRow.unfollowed == Tryd.prog.unfollowed 4) = true := by kernel_rfl
theorem j12 : (Rows.fnPeerShortApartRow.recurses == Tryd.prog.recurses 4) = true := by kernel_rfl
theorem j13 : (Rows.fnPeerShortApartRow.named == Tryd.prog.varsNamed 4) = true := by kernel_rfl
theorem j14 : (Rows.fnPeerShortApartRow.maps == (Tryd.f4.params.toList ++ Rows.fnPeerShortApartSpec.plain.varTypes Tryd.prog).any (Tryd.prog.mapsRec ·)) = true := by kernel_rfl
theorem j15 : (Rows.fnPeerShortApartRow.ifaces == (Tryd.f4.params.toList ++ Rows.fnPeerShortApartSpec.plain.varTypes Tryd.prog).any (Tryd.prog.ifacesRec ·)) = true := by kernel_rfl
theorem j16 : (Rows.fnPeerShortApartRow.mapsOut == Tryd.prog.mapsAmong Tryd.f4.resultTypes.toList) = true := by kernel_rfl
theorem j17 : (Rows.fnPeerShortApartRow.loops == (Tryd.f4.params.toList ++ Rows.fnPeerShortApartSpec.plain.varTypes Tryd.prog).any (Tryd.prog.loopsFrom ·)) = true := by kernel_rfl
theorem j18 : (Rows.fnPeerShortApartRow.wideKeys == (Tryd.f4.params.toList ++ Rows.fnPeerShortApartSpec.plain.varTypes Tryd.prog ++ Tryd.f4.resultTypes.toList).any (Tryd.prog.wideKeysFrom ·)) = true := by kernel_rfl
theorem j19 : Rows.fnPeerShortApartSpec.vars.all (Tryd.prog.varReadable ·) = true := by kernel_rfl
theorem j20 : Tryd.f4.resultTypes.all (fun t => Tryd.prog.readableRec t && decide (t < Tryd.prog.types.size)) = true := by kernel_rfl
theorem j21 : (Rows.fnPeerShortApartRow.ifacesOut == Tryd.f4.resultTypes.toList.any (Tryd.prog.ifacesRec ·)) = true := by kernel_rfl
theorem j22 : (Rows.fnPeerShortApartRow.loopsOut == Tryd.f4.resultTypes.toList.any (Tryd.prog.loopsFrom ·)) = true := by kernel_rfl
theorem j29 : (Rows.fnPeerShortApartRow.kinds == (if Rows.fnPeerShortApartRow.domain.isEmpty then [] else Tryd.f4.params.toList.map fun t => match Tryd.prog.underlying t with | some (.int k) => some k | _ => none)) = true := by kernel_rfl
theorem j30 : (Rows.fnPeerShortApartRow.pinned == Rows.fnPeerShortApartRow.pinnedBy) = true := by kernel_rfl
theorem j31 : (Rows.fnPeerShortApartRow.veiled == (Tryd.f4.params.toList ++ Rows.fnPeerShortApartSpec.plain.varTypes Tryd.prog ++ Tryd.f4.resultTypes.toList).any (Tryd.prog.veiledRec ·)) = true := by kernel_rfl
theorem j32 : Rows.fnPeerShortApartRow.veiledFits Tryd.prog Tryd.f4.params.toList (Tryd.f4.params.toList ++ Rows.fnPeerShortApartSpec.plain.varTypes Tryd.prog ++ Tryd.f4.resultTypes.toList) = true := by kernel_rfl
theorem closed : joinedFacts Tryd.prog 4 Tryd.f4 Rows.fnPeerShortApartSpec Rows.fnPeerShortApartRow = true :=
  joined_of j1 Tryd.laidOut Tryd.jMaps j4 j5 rfl Tryd.jStops rfl Tryd.jKnobs j10 j11 j12 j13 j14 j15 j16 j17 j18 j19 j20 j21 j22 Tryd.jPlain rfl Tryd.jHeard Tryd.jEnter Tryd.jLifts Tryd.jMake j29 j30 j31 j32

theorem row_holds : Rows.FnPeerShortApartSaid :=
  OpenClaim.holds_of_wide 4 Tryd.f4 rfl rfl rfl rfl rfl rfl rfl ⟨rfl, rfl, rfl, rfl, rfl⟩ rfl rfl rfl rfl rfl (by kernel_rfl) Tryd.func4 closed
    (of_decide_eq_true (by kernel_rfl)) (by unfold Func.isWrapper; first | (rw [if_pos (by decide +kernel)]; kernel_rfl) | (rw [if_neg (by decide +kernel)]; exact ⟨rfl, rfl⟩))
    (fun os started H enc _ => lifted os started H enc)
end RFnPeerShortApart

theorem FnPeerShortApart_holds : Rows.FnPeerShortApartCardSaid :=
  Claim7.holds_tied_plain_at .later [] [.sentinel, .sentinel, .sentinel, .sentinel, .sentinel, .sentinel] true (true, "bb96b937d59a47cfc6801d7b50419fa9ebef8e98c4de66ff8b0c869ba360b234") false
    RFnPeerShortApart.row_holds (fun _ h => by cases h) (by kernel_rfl) (fun _ h => by cases h) fnPeerShortApart_row_tie rfl ⟨rfl, rfl⟩ (by kernel_rfl) rfl
    (fun f fn hf hfn => by
      obtain rfl : f = 4 := Option.some.inj ((show Tryd.prog.funcNamed "pub-symmory/laws.FnPeerShortApart" = some 4 by kernel_rfl).symm.trans hf) |>.symm
      obtain rfl : fn = Tryd.f4 := (Option.some.inj (Tryd.func4.symm.trans hfn)).symm
      exact ⟨by kernel_rfl, fun j t ht => by
        rw [Tryd.params4] at ht
        have hm : t ∈ [22, 5] := by simpa using Array.mem_of_getElem? ht
        have hall : ([22, 5].all fun u => !Tryd.prog.wantsStandIn u) = true := by kernel_rfl
        exact (show Tryd.prog.wantsStandIn t = false by simpa using List.all_eq_true.1 hall t hm)⟩)
    (by kernel_rfl)
#print axioms FnPeerShortApart_holds
end Go.Proofs.YtcefcdmonfenoaaDoor
