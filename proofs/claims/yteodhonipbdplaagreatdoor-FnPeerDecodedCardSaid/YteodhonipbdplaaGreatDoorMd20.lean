/- The text of an ID is decoded as this ID; so are the texts of its CID in base 32 and in base 58: proved for every input that the row reads; the listed variables hold what the program's text lays, one of them a table of the library held against a constant. -/
import Derived.Test.YteodhonipbdplaaGreatDoorMd11
import Derived.Test.YteodhonipbdplaaGreatDoorMd19
import Derived.Test.YteodhonipbdplaaGreatDoorCards
import Derived.Test.YteodhonipbdplaaGreatDoorTie
import Derived.SevenTiedAt
import Derived.Stop.JoinedTold
import Derived.Deep.DeepWitnessRef
import Derived.Lay
import Derived.Stop.Joined
namespace Go.Proofs.YteodhonipbdplaaGreatDoor
namespace RFnPeerDecoded
open Go.ChangeShapes Go.WideShapes Go.ChangeAt Go.RowKit
set_option maxRecDepth 100000

theorem laid_met (os : Os) (args : Array Value) : laidMetH Tryz.prog Rows.fnPeerDecodedRow.laid ((World.laidAll Tryz.prog os Rows.fnPeerDecodedRow.laid).forCall (fun _ _ => 0) ⟨#[], args, []⟩).memory := by
  rw [MakeChecks.laidMetH_plain _ _ _ (by kernel_rfl)]; exact laidMet_laidAll _ (by kernel_rfl) (by kernel_rfl)

theorem errs {W : World} (h : laidMetH Tryz.prog Rows.fnPeerDecodedRow.laid W) : HasErr W 4 ∧ HasErr W 6 ∧ HasErr W 5 ∧ HasErr W 8 ∧ HasErr W 11 ∧ HasErr W 12 := by
  rw [MakeChecks.laidMetH_plain _ _ _ (by kernel_rfl)] at h
  have h0 : laidMet Tryz.prog Rows.fnPeerDecodedRow.laid W := h
  have h1 := h0.tail
  have h2 := h1.tail
  have h3 := h2.tail
  have h4 := h3.tail
  have h5 := h4.tail
  have h6 := h5.tail
  have e6 := hasErr_head h6 Tryz.gVOver.1 Tryz.gVOver.2
  have h7 := h6.tail
  have e7 := hasErr_head h7 Tryz.gVUnder.1 Tryz.gVUnder.2
  have h8 := h7.tail
  have e8 := hasErr_head h8 Tryz.gVMin.1 Tryz.gVMin.2
  have h9 := h8.tail
  have h10 := h9.tail
  have h11 := h10.tail
  have h12 := h11.tail
  have e12 := hasErr_head h12 Tryz.gMShort.1 Tryz.gMShort.2
  have h13 := h12.tail
  have h14 := h13.tail
  have e14 := hasErr_head h14 Tryz.gMBuf.1 Tryz.gMBuf.2
  have h15 := h14.tail
  have e15 := hasErr_head h15 Tryz.gMLong.1 Tryz.gMLong.2
  exact ⟨e6, e7, e8, e12, e14, e15⟩

set_option maxHeartbeats 1000000 in
theorem lifted (os : Os) (started : os.Started) (H : Type) (enc : TypeId × Value → H) :
    ReturnsInStopped none {} Tryz.checked os 5 .any Input.okWide ((OpenSpec.ofChange Rows.fnPeerDecodedSpec).preRow enc Tryz.prog Tryz.f5 [] false Rows.fnPeerDecodedRow.laid) (fun F => ((OpenSpec.ofChange Rows.fnPeerDecodedSpec).at F).post enc Tryz.prog Tryz.f5 false true false false) (aloneAtReturn Tryz.prog) nothingAlways := by
  refine returnsInStopped_of_row (C := Tryz.checked) (s := (OpenSpec.ofChange Rows.fnPeerDecodedSpec)) (by kernel_rfl) Tryz.own started (by kernel_rfl) Tryz.func5
    (witnessZip (enc := enc) (C := Tryz.checked) (World.laidAll Tryz.prog os Rows.fnPeerDecodedRow.laid) #[.agg #[.int .u8 0, .int .u8 0, .int .u8 0, .int .u8 0, .int .u8 0, .int .u8 0, .int .u8 0, .int .u8 0, .int .u8 0, .int .u8 0, .int .u8 0, .int .u8 0, .int .u8 0, .int .u8 0, .int .u8 0, .int .u8 0, .int .u8 0, .int .u8 0, .int .u8 0, .int .u8 0, .int .u8 0, .int .u8 0, .int .u8 0, .int .u8 0, .int .u8 0, .int .u8 0, .int .u8 0, .int .u8 0, .int .u8 0, .int .u8 0, .int .u8 0, .int .u8 0], .int .u8 0] (World.laidAll_os _ _ _) (World.shaped_of_ZipB (by kernel_rfl) (by kernel_rfl)) (by kernel_rfl)
      (OpenSpec.preRow_of_B rfl 8 (by kernel_rfl) (by kernel_rfl) (laid_met os _))) ?_
  intro _ W base args ds gs before _ _ hval0 hW _ _ _ hL _
  have hval : ∀ (j : Nat) t v, Tryz.f5.params[j]? = some t → args[j]? = some v → Value.okWide Tryz.prog W .any base t v := hval0
  have hW' := hW
  obtain ⟨p, q, hA0, hV, rfl, hfz, hnd⟩ := hW
  have hA : DataW.TrodAll enc Tryz.prog W 0 (fun _ => true) true Tryz.f5.params.toList args.toList ds p := hA0
  rw [Tryz.params5] at hA hval
  obtain ⟨v0, vs0, d0, ds0, p0, q0, hargs, rfl, rfl, h0, r0⟩ := trodAll_cons hA
  obtain ⟨v1, vs1, d1, ds1, p1, q1, rfl, rfl, rfl, h1, r1⟩ := trodAll_cons r0
  obtain ⟨rfl, rfl, rfl⟩ := trodAll_nil r1
  obtain rfl : args = #[v0, v1] := by cases args; simp_all
  obtain ⟨rfl, rfl⟩ := trodVars_none hV
  obtain ⟨x0, f0⟩ := open_arr32 (hval 0 22 v0 rfl rfl) h0
  obtain ⟨x1, f1⟩ := openInt Tryz.underlying5 (hval 1 5 v1 rfl rfl) h1
  have he := errs hL
  clear hA0 hval0
  refine (walk_FnPeerDecoded f0 f1 he).mono fun e W' ⟨he, bel⟩ => ?_
  subst he
  exact ⟨_, rfl, _, _, _, [], _, [], hW', trodAll_mk1 (shut_bool Tryz.underlying4 _), (trodAll_cons_mk (Below.trod Tryz.laidOut (by kernel_rfl) (of_decide_eq_true (by kernel_rfl)) h0 bel (lt_of_trod h0)) (trodAll_cons_mk (Below.trod Tryz.laidOut (by kernel_rfl) (of_decide_eq_true (by kernel_rfl)) h1 bel (lt_of_trod h1)) trodAll_mk0)), rfl, bel.frame _, fun h => by cases h⟩

theorem more : OpenClaim.moreEntering Rows.fnPeerDecodedRow Tryz.prog Tryz.f5 :=
  OpenClaim.moreEntering_of (by kernel_rfl) (by kernel_rfl) (by kernel_rfl) (by kernel_rfl) (by kernel_rfl) (by kernel_rfl) (by kernel_rfl) (by kernel_rfl) (by kernel_rfl) (by kernel_rfl)
theorem quiet (os : Os) : Stop.quiet Tryz.pinned.checked.prog os := by
  intro k hk
  rw [show Tryz.pinned.checked.prog.stopKnobs = [] by kernel_rfl] at hk
  cases hk
theorem wrap : Tryz.f5.isWrapper Tryz.pinned.checked.prog Rows.fnPeerDecodedRow.wrapper Rows.fnPeerDecodedRow.mainSum := by
  unfold Func.isWrapper; first | (rw [if_pos (by decide +kernel)]; kernel_rfl) | (rw [if_neg (by decide +kernel)]; exact ⟨rfl, rfl⟩)
theorem row_holds : Rows.FnPeerDecodedSaid :=
  OpenClaim.holds_of_stopped_any (c := Rows.fnPeerDecodedRow) 5 Tryz.f5 "fmt.Sprintf" [] [] (by kernel_rfl) rfl rfl rfl Tryz.laidOut (by kernel_rfl) rfl ⟨rfl, rfl, rfl, rfl, rfl, rfl, rfl⟩ rfl rfl (by kernel_rfl) (by kernel_rfl) Tryz.func5 (by kernel_rfl)
    (of_decide_eq_true (by kernel_rfl)) wrap (by kernel_rfl) rfl (by kernel_rfl) (by kernel_rfl)
    (by kernel_rfl) (by kernel_rfl) (by kernel_rfl) (by kernel_rfl) (by kernel_rfl) (by kernel_rfl) (by kernel_rfl) (by kernel_rfl) (by kernel_rfl) rfl (by kernel_rfl) rfl rfl
    rfl rfl more ⟨_, WideRow.started_initial, quiet _⟩
    (fun os started _ H enc _ => lifted os started H enc)
end RFnPeerDecoded

theorem FnPeerDecoded_holds : Rows.FnPeerDecodedCardSaid :=
  Claim7.holds_tied_plain_at .later [] [.data, .data, .data, .data, .sentinel, .sentinel, .sentinel, .sentinel, .sentinel, .sentinel, .data, .sentinel, .sentinel, .sentinel, .sentinel, .sentinel, .sentinel, .pinned] true (true, "613ea39819062a78fb4f13a75d3a619fcbdd7bdab79ee593b2f62d425b8ac6fc") true
    RFnPeerDecoded.row_holds (fun _ h => by cases h) (by kernel_rfl) (fun _ h => by cases h) fnPeerDecoded_row_tie rfl ⟨rfl, rfl⟩ (by kernel_rfl) rfl
    (fun f fn hf hfn => by
      obtain rfl : f = 5 := Option.some.inj ((show Tryz.prog.funcNamed "pub-symmory/laws.FnPeerDecoded" = some 5 by kernel_rfl).symm.trans hf) |>.symm
      obtain rfl : fn = Tryz.f5 := (Option.some.inj (Tryz.func5.symm.trans hfn)).symm
      exact ⟨by kernel_rfl, fun j t ht => by
        rw [Tryz.params5] at ht
        have hm : t ∈ [22, 5] := by simpa using Array.mem_of_getElem? ht
        have hall : ([22, 5].all fun u => !Tryz.prog.wantsStandIn u) = true := by kernel_rfl
        exact (show Tryz.prog.wantsStandIn t = false by simpa using List.all_eq_true.1 hall t hm)⟩)
    (by kernel_rfl)
#print axioms FnPeerDecoded_holds
end Go.Proofs.YteodhonipbdplaaGreatDoor
