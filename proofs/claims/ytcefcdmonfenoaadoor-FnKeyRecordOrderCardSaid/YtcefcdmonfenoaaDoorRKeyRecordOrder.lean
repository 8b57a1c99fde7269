/- A record's message is read as that record also where its addresses stand ahead of its peer and its number stands anywhere among them: proved for every input that the row reads; the listed error variables hold what the program's text lays. -/
import Derived.Test.YtcefcdmonfenoaaDoorWKeyRecordOrder
import Derived.Test.YtcefcdmonfenoaaDoorJg
import Derived.Test.YtcefcdmonfenoaaDoorOpr
import Derived.Test.YtcefcdmonfenoaaDoorCards
import Derived.Test.YtcefcdmonfenoaaDoorTie
import Derived.SevenTiedAt
namespace Go.Proofs.YtcefcdmonfenoaaDoor
namespace RFnKeyRecordOrder
open Go.ChangeShapes Go.WideShapes Go.ChangeAt Go.RowKit
set_option maxRecDepth 100000

theorem door_met (os : Os) (args : Array Value) : laidMetH Tryd.prog Rows.fnKeyRecordOrderRow.laid ((World.doorLaid Tryd.prog 313 os).forCall (fun _ _ => 0) ⟨#[], args, []⟩).memory :=
  laidMetH_of_parts3 (fuel := 8) (laidMet_of_run' 8 (by kernel_rfl) (by kernel_rfl)) (by kernel_rfl) (by kernel_rfl)

theorem errs {W : World} (h : laidMetH Tryd.prog Rows.fnKeyRecordOrderRow.laid W) : HasErr W 4 ∧ HasErr W 5 ∧ HasErr W 6 ∧ HasErr W 7 ∧ HasErr W 8 ∧ HasErr W 9 ∧ HasErr W 0 := by
  rw [MakeChecks.laidMetH_plain _ _ _ (by kernel_rfl)] at h
  have h0 : laidMet Tryd.prog Rows.fnKeyRecordOrderRow.laid W := h
  have e0 := hasErr_head h0 Tryd.gEof.1 Tryd.gEof.2
  have h1 := h0.tail
  have e1 := hasErr_head h1 Tryd.gField.1 Tryd.gField.2
  have h2 := h1.tail
  have e2 := hasErr_head h2 Tryd.gOver.1 Tryd.gOver.2
  have h3 := h2.tail
  have e3 := hasErr_head h3 Tryd.gRes.1 Tryd.gRes.2
  have h4 := h3.tail
  have e4 := hasErr_head h4 Tryd.gEnd.1 Tryd.gEnd.2
  have h5 := h4.tail
  have e5 := hasErr_head h5 Tryd.gParse.1 Tryd.gParse.2
  have h6 := h5.tail
  have e6 := hasErr_head h6 Tryd.gPNum.1 Tryd.gPNum.2
  exact ⟨e0, e1, e2, e3, e4, e5, e6⟩

set_option maxHeartbeats 1000000 in
theorem lifted (os : Os) (started : os.Started) (H : Type) (enc : TypeId × Value → H) :
    ReturnsInHanded {} Tryd.checked os 14 .any (fun w args => (Rows.fnKeyRecordOrderSpec.pre enc Tryd.prog Tryd.f14 [] false w args ∧ laidMetH Tryd.prog Rows.fnKeyRecordOrderRow.laid w) ∧ sizedMet enc Tryd.prog Tryd.f14 (OpenSpec.ofChange Rows.fnKeyRecordOrderSpec) false w args)
      (Rows.fnKeyRecordOrderSpec.post enc Tryd.prog Tryd.f14 false true false false) := by
  refine returnsInHanded_of_change_and (C := Tryd.checked) (X := fun w _ => laidMetH Tryd.prog Rows.fnKeyRecordOrderRow.laid w) (fun _ _ _ hh h => h.of_heap hh) Tryd.own started (by kernel_rfl) Tryd.func14
    (ChangeSpec.witness_shaped (enc := enc) (C := Tryd.checked) (os := os) (X := fun w _ => laidMetH Tryd.prog Rows.fnKeyRecordOrderRow.laid w) false (World.doorLaid Tryd.prog 313 os) #[.agg #[.slice none 0 0, .int .u64 0, .slice none 0 0], .int .u8 0] 8 rfl (World.shaped_of_RefB (by kernel_rfl) (by kernel_rfl)) (by kernel_rfl) (by kernel_rfl) (by kernel_rfl) (door_met os _)) ?_
  intro W base args ds gs before hval0 hW _ _ hL _
  have hval : ∀ (j : Nat) t v, Tryd.f14.params[j]? = some t → args[j]? = some v → Value.okWide Tryd.prog W .any base t v := hval0
  have hW' := hW
  obtain ⟨p, q, hA0, hV, rfl, hfz, hnd⟩ := hW
  have hA : DataW.TrodAll enc Tryd.prog W 0 (fun _ => true) true Tryd.f14.params.toList args.toList ds p := hA0
  rw [Tryd.params14] at hA hval
  obtain ⟨v0, vs0, d0, ds0, p0, q0, hargs, rfl, rfl, h0, r0⟩ := trodAll_cons hA
  obtain ⟨v1, vs1, d1, ds1, p1, q1, rfl, rfl, rfl, h1, r1⟩ := trodAll_cons r0
  obtain ⟨rfl, rfl, rfl⟩ := trodAll_nil r1
  obtain rfl : args = #[v0, v1] := by cases args; simp_all
  obtain ⟨rfl, rfl⟩ := trodVars_none hV
  obtain ⟨x0, f0⟩ := open_rec (hval 0 49 v0 rfl rfl) h0
  obtain ⟨x1, f1⟩ := openInt Tryd.underlying5 (hval 1 5 v1 rfl rfl) h1
  have he := errs hL
  clear hA0 hval0
  refine (walk_FnKeyRecordOrder f0 f1 he).mono fun e W' ⟨he, bel⟩ => ?_
  subst he
  exact ⟨_, rfl, _, _, _, [], _, [], hW', trodAll_mk1 (shut_bool Tryd.underlying4 _), (trodAll_cons_mk (Below.trod Tryd.laidOut (by kernel_rfl) (of_decide_eq_true (by kernel_rfl)) h0 bel (lt_of_trod h0)) (trodAll_cons_mk (Below.trod Tryd.laidOut (by kernel_rfl) (of_decide_eq_true (by kernel_rfl)) h1 bel (lt_of_trod h1)) trodAll_mk0)), rfl, bel.frame _, fun h => by cases h⟩

theorem j1 : Rows.fnKeyRecordOrderRow.wf (OpenSpec.ofChange Rows.fnKeyRecordOrderSpec) = true := by kernel_rfl
theorem j4 : Tryd.f14.params.all (Tryd.prog.readableRec ·) = true := by kernel_rfl
theorem j5 : namedTie Tryd.prog Rows.fnKeyRecordOrderRow.named Rows.fnKeyRecordOrderSpec.vars = true := by kernel_rfl
theorem j10 : (Rows.fnKeyRecordOrderRow.inPlace == Tryd.prog.inPlace 14) = true := by kernel_rfl
theorem j11 : (Rows.fnKeyRecordOrderRow.unfollowed == Tryd.prog.unfollowed 14) = true := by kernel_rfl
theorem j12 : (Rows.fnKeyRecordOrderRow.recurses == Tryd.prog.recurses 14) = true := by kernel_rfl
theorem j13 : (Rows.fnKeyRecordOrderRow.named == Tryd.prog.varsNamed 14) = true := by kernel_rfl
theorem j14 : (Rows.fnKeyRecordOrderRow.maps == (Tryd.f14.params.toList ++ Rows.fnKeyRecordOrderSpec.plain.varTypes Tryd.prog).any (Tryd.prog.mapsRec ·)) = true := by kernel_rfl
theorem j15 : (Rows.fnKeyRecordOrderRow.ifaces == (Tryd.f14.params.toList ++ Rows.fnKeyRecordOrderSpec.plain.varTypes Tryd.prog).any (Tryd.prog.ifacesRec ·)) = true := by kernel_rfl
theorem j16 : (Rows.fnKeyRecordOrderRow.mapsOut == Tryd.prog.mapsAmong Tryd.f14.resultTypes.toList) = true := by kernel_rfl
theorem j17 : (Rows.fnKeyRecordOrderRow.loops == (Tryd.f14.params.toList ++ Rows.fnKeyRecordOrderSpec.plain.varTypes Tryd.prog).any (Tryd.prog.loopsFrom ·)) = true := by kernel_rfl
theorem j18 : (Rows.fnKeyRecordOrderRow.wideKeys == (Tryd.f14.params.toList ++ Rows.fnKeyRecordOrderSpec.plain.varTypes Tryd.prog ++ Tryd.f14.resultTypes.toList).any (Tryd.prog.wideKeysFrom ·)) = true := by kernel_rfl
theorem j19 : Rows.fnKeyRecordOrderSpec.vars.all (Tryd.prog.varReadable ·) = true := by kernel_rfl
theorem j20 : Tryd.f14.resultTypes.all (fun t => Tryd.prog.readableRec t && decide (t < Tryd.prog.types.size)) = true := by kernel_rfl
theorem j21 : (Rows.fnKeyRecordOrderRow.ifacesOut == Tryd.f14.resultTypes.toList.any (Tryd.prog.ifacesRec ·)) = true := by kernel_rfl
theorem j22 : (Rows.fnKeyRecordOrderRow.loopsOut == Tryd.f14.resultTypes.toList.any (Tryd.prog.loopsFrom ·)) = true := by kernel_rfl
theorem j29 : (Rows.fnKeyRecordOrderRow.kinds == (if Rows.fnKeyRecordOrderRow.domain.isEmpty then [] else Tryd.f14.params.toList.map fun t => match Tryd.prog.underlying t with | some (.int k) => some k | _ => none)) = true := by kernel_rfl
theorem j30 : (Rows.fnKeyRecordOrderRow.pinned == Rows.fnKeyRecordOrderRow.pinnedBy) = true := by kernel_rfl
theorem j31 : (Rows.fnKeyRecordOrderRow.veiled == (Tryd.f14.params.toList ++ Rows.fnKeyRecordOrderSpec.plain.varTypes Tryd.prog ++ Tryd.f14.resultTypes.toList).any (Tryd.prog.veiledRec ·)) = true := by kernel_rfl
theorem j32 : Rows.fnKeyRecordOrderRow.veiledFits Tryd.prog Tryd.f14.params.toList (Tryd.f14.params.toList ++ Rows.fnKeyRecordOrderSpec.plain.varTypes Tryd.prog ++ Tryd.f14.resultTypes.toList) = true := by kernel_rfl
theorem closed : joinedFacts Tryd.prog 14 Tryd.f14 Rows.fnKeyRecordOrderSpec Rows.fnKeyRecordOrderRow = true :=
  joined_of j1 Tryd.laidOut Tryd.jMaps j4 j5 rfl Tryd.jStops rfl Tryd.jKnobs j10 j11 j12 j13 j14 j15 j16 j17 j18 j19 j20 j21 j22 Tryd.jPlain rfl Tryd.jHeard Tryd.jEnter Tryd.jLifts Tryd.jMake j29 j30 j31 j32

theorem row_holds : Rows.FnKeyRecordOrderSaid :=
  OpenClaim.holds_of_wide 14 Tryd.f14 rfl rfl rfl rfl rfl rfl rfl ⟨rfl, rfl, rfl, rfl, rfl⟩ rfl rfl rfl rfl rfl (by kernel_rfl) Tryd.func14 closed
    (of_decide_eq_true (by kernel_rfl)) (by unfold Func.isWrapper; first | (rw [if_pos (by decide +kernel)]; kernel_rfl) | (rw [if_neg (by decide +kernel)]; exact ⟨rfl, rfl⟩))
    (fun os started H enc _ => lifted os started H enc)
end RFnKeyRecordOrder

theorem FnKeyRecordOrder_holds : Rows.FnKeyRecordOrderCardSaid :=
  Claim7.holds_tied_plain_at .later [] [.sentinel, .sentinel, .sentinel, .sentinel, .sentinel, .sentinel, .sentinel] true (true, "bb96b937d59a47cfc6801d7b50419fa9ebef8e98c4de66ff8b0c869ba360b234") false
    RFnKeyRecordOrder.row_holds (fun _ h => by cases h) (by kernel_rfl) (fun _ h => by cases h) fnKeyRecordOrder_row_tie rfl ⟨rfl, rfl⟩ (by kernel_rfl) rfl
    (fun f fn hf hfn => by
      obtain rfl : f = 14 := Option.some.inj ((show Tryd.prog.funcNamed "pub-symmory/laws.FnKeyRecordOrder" = some 14 by kernel_rfl).symm.trans hf) |>.symm
      obtain rfl : fn = Tryd.f14 := (Option.some.inj (Tryd.func14.symm.trans hfn)).symm
      exact ⟨by kernel_rfl, fun j t ht => by
        rw [Tryd.params14] at ht
        have hm : t ∈ [49, 5] := by simpa using Array.mem_of_getElem? ht
        have hall : ([49, 5].all fun u => !Tryd.prog.wantsStandIn u) = true := by kernel_rfl
        exact (show Tryd.prog.wantsStandIn t = false by simpa using List.all_eq_true.1 hall t hm)⟩)
    (by kernel_rfl)
#print axioms FnKeyRecordOrder_holds
end Go.Proofs.YtcefcdmonfenoaaDoor
