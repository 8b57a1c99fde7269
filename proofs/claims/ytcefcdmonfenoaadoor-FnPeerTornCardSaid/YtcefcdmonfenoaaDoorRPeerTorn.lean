/- An ID with a byte less, or more, is none: proved for every input that the row reads; the listed error variables hold what the program's text lays. -/
import Derived.Test.YtcefcdmonfenoaaDoorWPeerTorn
import Derived.Test.YtcefcdmonfenoaaDoorEp
import Derived.Test.YtcefcdmonfenoaaDoorJg
import Derived.Test.YtcefcdmonfenoaaDoorCards
import Derived.Test.YtcefcdmonfenoaaDoorTie
import Derived.SevenTiedAt
namespace Go.Proofs.YtcefcdmonfenoaaDoor
namespace RFnPeerTorn
open Go.ChangeShapes Go.WideShapes Go.ChangeAt Go.RowKit
set_option maxRecDepth 100000

theorem door_met (os : Os) (args : Array Value) : laidMetH Tryd.prog Rows.fnPeerTornRow.laid ((World.doorLaid Tryd.prog 313 os).forCall (fun _ _ => 0) ⟨#[], args, []⟩).memory :=
  laidMetH_of_parts3 (fuel := 8) (laidMet_of_run' 8 (by kernel_rfl) (by kernel_rfl)) (by kernel_rfl) (by kernel_rfl)

theorem errs {W : World} (h : laidMetH Tryd.prog Rows.fnPeerTornRow.laid W) : HasErr W 13 ∧ HasErr W 15 ∧ HasErr W 14 ∧ HasErr W 10 ∧ HasErr W 11 ∧ HasErr W 12 := by
  rw [MakeChecks.laidMetH_plain _ _ _ (by kernel_rfl)] at h
  have h0 : laidMet Tryd.prog Rows.fnPeerTornRow.laid W := h
  have e0 := hasErr_head h0 Tryd.gVOver.1 Tryd.gVOver.2
  have h1 := h0.tail
  have e1 := hasErr_head h1 Tryd.gVUnder.1 Tryd.gVUnder.2
  have h2 := h1.tail
  have e2 := hasErr_head h2 Tryd.gVMin.1 Tryd.gVMin.2
  have h3 := h2.tail
  have e3 := hasErr_head h3 Tryd.gMShort.1 Tryd.gMShort.2
  have h4 := h3.tail
  have e4 := hasErr_head h4 Tryd.gMBuf.1 Tryd.gMBuf.2
  have h5 := h4.tail
  have e5 := hasErr_head h5 Tryd.gMLong.1 Tryd.gMLong.2
  exact ⟨e0, e1, e2, e3, e4, e5⟩

set_option maxHeartbeats 1000000 in
theorem lifted (os : Os) (started : os.Started) (H : Type) (enc : TypeId × Value → H) :
    ReturnsInHanded {} Tryd.checked os 3 .any (fun w args => (Rows.fnPeerTornSpec.pre enc Tryd.prog Tryd.f3 [] false w args ∧ laidMetH Tryd.prog Rows.fnPeerTornRow.laid w) ∧ sizedMet enc Tryd.prog Tryd.f3 (OpenSpec.ofChange Rows.fnPeerTornSpec) false w args)
      (Rows.fnPeerTornSpec.post enc Tryd.prog Tryd.f3 false true false false) := by
  refine returnsInHanded_of_change_and (C := Tryd.checked) (X := fun w _ => laidMetH Tryd.prog Rows.fnPeerTornRow.laid w) (fun _ _ _ hh h => h.of_heap hh) Tryd.own started (by kernel_rfl) Tryd.func3
    (ChangeSpec.witness_shaped (enc := enc) (C := Tryd.checked) (os := os) (X := fun w _ => laidMetH Tryd.prog Rows.fnPeerTornRow.laid w) false (World.doorLaid Tryd.prog 313 os) #[.agg #[.int .u8 0, .int .u8 0, .int .u8 0, .int .u8 0, .int .u8 0, .int .u8 0, .int .u8 0, .int .u8 0, .int .u8 0, .int .u8 0, .int .u8 0, .int .u8 0, .int .u8 0, .int .u8 0, .int .u8 0, .int .u8 0, .int .u8 0, .int .u8 0, .int .u8 0, .int .u8 0, .int .u8 0, .int .u8 0, .int .u8 0, .int .u8 0, .int .u8 0, .int .u8 0, .int .u8 0, .int .u8 0, .int .u8 0, .int .u8 0, .int .u8 0, .int .u8 0], .int .u8 0, .int .u8 0, .int .u8 0] 8 rfl (World.shaped_of_RefB (by kernel_rfl) (by kernel_rfl)) (by kernel_rfl) (by kernel_rfl) (by kernel_rfl) (door_met os _)) ?_
  intro W base args ds gs before hval0 hW _ _ hL _
  have hval : ∀ (j : Nat) t v, Tryd.f3.params[j]? = some t → args[j]? = some v → Value.okWide Tryd.prog W .any base t v := hval0
  have hW' := hW
  obtain ⟨p, q, hA0, hV, rfl, hfz, hnd⟩ := hW
  have hA : DataW.TrodAll enc Tryd.prog W 0 (fun _ => true) true Tryd.f3.params.toList args.toList ds p := hA0
  rw [Tryd.params3] at hA hval
  obtain ⟨v0, vs0, d0, ds0, p0, q0, hargs, rfl, rfl, h0, r0⟩ := trodAll_cons hA
  obtain ⟨v1, vs1, d1, ds1, p1, q1, rfl, rfl, rfl, h1, r1⟩ := trodAll_cons r0
  obtain ⟨v2, vs2, d2, ds2, p2, q2, rfl, rfl, rfl, h2, r2⟩ := trodAll_cons r1
  obtain ⟨v3, vs3, d3, ds3, p3, q3, rfl, rfl, rfl, h3, r3⟩ := trodAll_cons r2
  obtain ⟨rfl, rfl, rfl⟩ := trodAll_nil r3
  obtain rfl : args = #[v0, v1, v2, v3] := by cases args; simp_all
  obtain ⟨rfl, rfl⟩ := trodVars_none hV
  obtain ⟨x0, f0⟩ := open_arr32 (hval 0 22 v0 rfl rfl) h0
  obtain ⟨x1, f1⟩ := openInt Tryd.underlying5 (hval 1 5 v1 rfl rfl) h1
  obtain ⟨x2, f2⟩ := openInt Tryd.underlying5 (hval 2 5 v2 rfl rfl) h2
  obtain ⟨x3, f3⟩ := openInt Tryd.underlying5 (hval 3 5 v3 rfl rfl) h3
  have he := errs hL
  clear hA0 hval0
  refine (walk_FnPeerTorn f0 f1 f2 f3 he).mono fun e W' ⟨he, bel⟩ => ?_
  subst he
  exact ⟨_, rfl, _, _, _, [], _, [], hW', trodAll_mk1 (shut_bool Tryd.underlying4 _), (trodAll_cons_mk (Below.trod Tryd.laidOut (by kernel_rfl) (of_decide_eq_true (by kernel_rfl)) h0 bel (lt_of_trod h0)) (trodAll_cons_mk (Below.trod Tryd.laidOut (by kernel_rfl) (of_decide_eq_true (by kernel_rfl)) h1 bel (lt_of_trod h1)) (trodAll_cons_mk (Below.trod Tryd.laidOut (by kernel_rfl) (of_decide_eq_true (by kernel_rfl)) h2 bel (lt_of_trod h2)) (trodAll_cons_mk (Below.trod Tryd.laidOut (by kernel_rfl) (of_decide_eq_true (by kernel_rfl)) h3 bel (lt_of_trod h3)) trodAll_mk0)))), rfl, bel.frame _, fun h => by cases h⟩

theorem j1 : Rows.fnPeerTornRow.wf (OpenSpec.ofChange Rows.fnPeerTornSpec) = true := by kernel_rfl
theorem j4 : Tryd.f3.params.all (Tryd.prog.readableRec ·) = true := by kernel_rfl
theorem j5 : namedTie Tryd.prog Rows.fnPeerTornRow.named Rows.fnPeerTornSpec.vars = true := by kernel_rfl
theorem j10 : (Rows.fnPeerTornRow.inPlace == Tryd.prog.inPlace 3) = true := by kernel_rfl
theorem j11 : (Rows.fnPeerTornRow.unfollowed == Tryd.prog.unfollowed 3) = true := by kernel_rfl
theorem j12 : (Rows.fnPeerTornRow.recurses == Tryd.prog.recurses 3) = true := by kernel_rfl
theorem j13 : (Rows.fnPeerTornRow.named == Tryd.prog.varsNamed 3) = true := by kernel_rfl
theorem j14 : (Rows.fnPeerTornRow.maps == (Tryd.f3.params.toList ++ Rows.fnPeerTornSpec.plain.varTypes Tryd.prog).any (Tryd.prog.mapsRec ·)) = true := by kernel_rfl
theorem j15 : (Rows.fnPeerTornRow.ifaces == (Tryd.f3.params.toList ++ Rows.fnPeerTornSpec.plain.varTypes Tryd.prog).any (Tryd.prog.ifacesRec ·)) = true := by kernel_rfl
theorem j16 : (Rows.fnPeerTornRow.mapsOut == Tryd.prog.mapsAmong Tryd.f3.resultTypes.toList) = true := by kernel_rfl
theorem j17 : (Rows.fnPeerTornRow.loops == (Tryd.f3.params.toList ++ Rows.fnPeerTornSpec.plain.varTypes Tryd.prog).any (Tryd.prog.loopsFrom ·)) = true := by kernel_rfl
theorem j18 : (Rows.fnPeerTornRow.wideKeys == (Tryd.f3.params.toList ++ Rows.fnPeerTornSpec.plain.varTypes Tryd.prog ++ Tryd.f3.resultTypes.toList).any (Tryd.prog.wideKeysFrom ·)) = true := by kernel_rfl
theorem j19 : Rows.fnPeerTornSpec.vars.all (Tryd.prog.varReadable ·) = true := by kernel_rfl
theorem j20 : Tryd.f3.resultTypes.all (fun t => Tryd.prog.readableRec t && decide (t < Tryd.prog.types.size)) = true := by kernel_rfl
theorem j21 : (Rows.fnPeerTornRow.ifacesOut == Tryd.f3.resultTypes.toList.any (Tryd.prog.ifacesRec ·)) = true := by kernel_rfl
theorem j22 : (Rows.fnPeerTornRow.loopsOut == Tryd.f3.resultTypes.toList.any (Tryd.prog.loopsFrom ·)) = true := by kernel_rfl
theorem j29 : (Rows.fnPeerTornRow.kinds == (if Rows.fnPeerTornRow.domain.isEmpty then [] else Tryd.f3.params.toList.map fun t => match Tryd.prog.underlying t with | some (.int k) => some k | _ => none)) = true := by kernel_rfl
theorem j30 : (Rows.fnPeerTornRow.pinned == Rows.fnPeerTornRow.pinnedBy) = true := by kernel_rfl
theorem j31 : (Rows.fnPeerTornRow.veiled == (Tryd.f3.params.toList ++ Rows.fnPeerTornSpec.plain.varTypes Tryd.prog ++ Tryd.f3.resultTypes.toList).any (Tryd.prog.veiledRec ·)) = true := by kernel_rfl
theorem j32 : Rows.fnPeerTornRow.veiledFits Tryd.prog Tryd.f3.params.toList (Tryd.f3.params.toList ++ Rows.fnPeerTornSpec.plain.varTypes Tryd.prog ++ Tryd.f3.resultTypes.toList) = true := by kernel_rfl
theorem closed : joinedFacts Tryd.prog 3 Tryd.f3 Rows.fnPeerTornSpec Rows.fnPeerTornRow = true :=
  joined_of j1 Tryd.laidOut Tryd.jMaps j4 j5 rfl Tryd.jStops rfl Tryd.jKnobs j10 j11 j12 j13 j14 j15 j16 j17 j18 j19 j20 j21 j22 Tryd.jPlain rfl Tryd.jHeard Tryd.jEnter Tryd.jLifts Tryd.jMake j29 j30 j31 j32

theorem row_holds : Rows.FnPeerTornSaid :=
  OpenClaim.holds_of_wide 3 Tryd.f3 rfl rfl rfl rfl rfl rfl rfl ⟨rfl, rfl, rfl, rfl, rfl⟩ rfl rfl rfl rfl rfl (by kernel_rfl) Tryd.func3 closed
    (of_decide_eq_true (by kernel_rfl)) (by unfold Func.isWrapper; first | (rw [if_pos (by decide +kernel)]; kernel_rfl) | (rw [if_neg (by decide +kernel)]; exact ⟨rfl, rfl⟩))
    (fun os started H enc _ => lifted os started H enc)
end RFnPeerTorn

theorem FnPeerTorn_holds : Rows.FnPeerTornCardSaid :=
  Claim7.holds_tied_plain_at .later [] [.sentinel, .sentinel, .sentinel, .sentinel, .sentinel, .sentinel] true (true, "bb96b937d59a47cfc6801d7b50419fa9ebef8e98c4de66ff8b0c869ba360b234") false
    RFnPeerTorn.row_holds (fun _ h => by cases h) (by kernel_rfl) (fun _ h => by cases h) fnPeerTorn_row_tie rfl ⟨rfl, rfl⟩ (by kernel_rfl) rfl
    (fun f fn hf hfn => by
      obtain rfl : f = 3 := Option.some.inj ((show Tryd.prog.funcNamed "pub-symmory/laws.FnPeerTorn" = some 3 by kernel_rfl).symm.trans hf) |>.symm
      obtain rfl : fn = Tryd.f3 := (Option.some.inj (Tryd.func3.symm.trans hfn)).symm
      exact ⟨by kernel_rfl, fun j t ht => by
        rw [Tryd.params3] at ht
        have hm : t ∈ [22, 5, 5, 5] := by simpa using Array.mem_of_getElem? ht
        have hall : ([22, 5, 5, 5].all fun u => !Tryd.prog.wantsStandIn u) = true := by kernel_rfl
        exact (show Tryd.prog.wantsStandIn t = false by simpa using List.all_eq_true.1 hall t hm)⟩)
    (by kernel_rfl)
#print axioms FnPeerTorn_holds
end Go.Proofs.YtcefcdmonfenoaaDoor
