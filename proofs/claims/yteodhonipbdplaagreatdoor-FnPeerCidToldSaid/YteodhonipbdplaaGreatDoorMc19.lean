/- The CID of an ID is version 1, the codec of keys and the ID; its text is base 32's; it is told back: proved for every input that the row reads; the listed variables hold what the program's text lays; fmt's texts are told by the kit's function (the road of this law does not come to fmt). -/
import Derived.Test.YteodhonipbdplaaGreatDoorMc11
import Derived.Test.YteodhonipbdplaaGreatDoorMc18
import Derived.Test.YteodhonipbdplaaGreatDoorCards
import Derived.Test.YteodhonipbdplaaGreatDoorTie
import Derived.SevenTiedAt
import Derived.Stop.JoinedTold
import Derived.Deep.DeepWitnessRef
namespace Go.Proofs.YteodhonipbdplaaGreatDoor
namespace RFnPeerCid
open Go.ChangeShapes Go.WideShapes Go.ChangeAt Go.RowKit
set_option maxRecDepth 100000

theorem door_met (os : Os) (args : Array Value) : laidMetH Tryz.prog Rows.fnPeerCidRow.laid ((World.doorLaid Tryz.prog 291 os).forCall (fun _ _ => 0) ⟨#[], args, []⟩).memory :=
  laidMetH_of_parts3 (fuel := 8) (laidMet_of_run' 8 (by kernel_rfl) (by kernel_rfl)) (by kernel_rfl) (by kernel_rfl)

theorem errs {W : World} (h : laidMetH Tryz.prog Rows.fnPeerCidRow.laid W) : HasErr W 4 ∧ HasErr W 6 ∧ HasErr W 5 ∧ HasErr W 8 ∧ HasErr W 11 ∧ HasErr W 12 := by
  rw [MakeChecks.laidMetH_plain _ _ _ (by kernel_rfl)] at h
  have h0 : laidMet Tryz.prog Rows.fnPeerCidRow.laid W := h
  have e0 := hasErr_head h0 Tryz.gVOver.1 Tryz.gVOver.2
  have h1 := h0.tail
  have e1 := hasErr_head h1 Tryz.gVUnder.1 Tryz.gVUnder.2
  have h2 := h1.tail
  have e2 := hasErr_head h2 Tryz.gVMin.1 Tryz.gVMin.2
  have h3 := h2.tail
  have h4 := h3.tail
  have h5 := h4.tail
  have h6 := h5.tail
  have e6 := hasErr_head h6 Tryz.gMShort.1 Tryz.gMShort.2
  have h7 := h6.tail
  have e7 := hasErr_head h7 Tryz.gMBuf.1 Tryz.gMBuf.2
  have h8 := h7.tail
  have e8 := hasErr_head h8 Tryz.gMLong.1 Tryz.gMLong.2
  exact ⟨e0, e1, e2, e6, e7, e8⟩

set_option maxHeartbeats 1000000 in
theorem lifted (os : Os) (started : os.Started) (H : Type) (enc : TypeId × Value → H) :
    ReturnsInTold none {} Tryz.checked os 3 .any Input.okWide ((OpenSpec.ofChange Rows.fnPeerCidSpec).preRow enc Tryz.prog Tryz.f3 [] false Rows.fnPeerCidRow.laid) (fun F => ((OpenSpec.ofChange Rows.fnPeerCidSpec).at F).post enc Tryz.prog Tryz.f3 false true false false) (aloneAtReturn Tryz.prog) nothingAlways := by
  refine returnsInTold_of_row (C := Tryz.checked) (s := (OpenSpec.ofChange Rows.fnPeerCidSpec)) (by kernel_rfl) Tryz.own started (by kernel_rfl) Tryz.func3
    (OpenSpec.witness_stopped_atRef (enc := enc) (C := Tryz.checked) false (World.doorLaid Tryz.prog 291 os) #[.agg #[.int .u8 0, .int .u8 0, .int .u8 0, .int .u8 0, .int .u8 0, .int .u8 0, .int .u8 0, .int .u8 0, .int .u8 0, .int .u8 0, .int .u8 0, .int .u8 0, .int .u8 0, .int .u8 0, .int .u8 0, .int .u8 0, .int .u8 0, .int .u8 0, .int .u8 0, .int .u8 0, .int .u8 0, .int .u8 0, .int .u8 0, .int .u8 0, .int .u8 0, .int .u8 0, .int .u8 0, .int .u8 0, .int .u8 0, .int .u8 0, .int .u8 0, .int .u8 0], .int .u8 0] rfl (by kernel_rfl) (by kernel_rfl) (by kernel_rfl)
      (OpenSpec.preRow_of_B rfl 8 (by kernel_rfl) (by kernel_rfl) (door_met os _))) ?_
  intro _ W base args ds gs before _ _ hval0 hW _ _ _ hL _
  have hval : ∀ (j : Nat) t v, Tryz.f3.params[j]? = some t → args[j]? = some v → Value.okWide Tryz.prog W .any base t v := hval0
  have hW' := hW
  obtain ⟨p, q, hA0, hV, rfl, hfz, hnd⟩ := hW
  have hA : DataW.TrodAll enc Tryz.prog W 0 (fun _ => true) true Tryz.f3.params.toList args.toList ds p := hA0
  rw [Tryz.params3] at hA hval
  obtain ⟨v0, vs0, d0, ds0, p0, q0, hargs, rfl, rfl, h0, r0⟩ := trodAll_cons hA
  obtain ⟨v1, vs1, d1, ds1, p1, q1, rfl, rfl, rfl, h1, r1⟩ := trodAll_cons r0
  obtain ⟨rfl, rfl, rfl⟩ := trodAll_nil r1
  obtain rfl : args = #[v0, v1] := by cases args; simp_all
  obtain ⟨rfl, rfl⟩ := trodVars_none hV
  obtain ⟨x0, f0⟩ := open_arr32 (hval 0 22 v0 rfl rfl) h0
  obtain ⟨x1, f1⟩ := openInt Tryz.underlying5 (hval 1 5 v1 rfl rfl) h1
  have he := errs hL
  clear hA0 hval0
  refine (walk_FnPeerCid f0 f1 he).mono fun e W' ⟨he, bel⟩ => ?_
  subst he
  exact ⟨_, rfl, _, _, _, [], _, [], hW', trodAll_mk1 (shut_bool Tryz.underlying4 _), (trodAll_cons_mk (Below.trod Tryz.laidOut (by kernel_rfl) (of_decide_eq_true (by kernel_rfl)) h0 bel (lt_of_trod h0)) (trodAll_cons_mk (Below.trod Tryz.laidOut (by kernel_rfl) (of_decide_eq_true (by kernel_rfl)) h1 bel (lt_of_trod h1)) trodAll_mk0)), rfl, bel.frame _, fun h => by cases h⟩

theorem more : OpenClaim.moreEntering Rows.fnPeerCidRow Tryz.prog Tryz.f3 :=
  OpenClaim.moreEntering_of (by kernel_rfl) (by kernel_rfl) (by kernel_rfl) (by kernel_rfl) (by kernel_rfl) (by kernel_rfl) (by kernel_rfl) (by kernel_rfl) (by kernel_rfl) (by kernel_rfl)
theorem quiet (os : Os) : Stop.quiet Tryz.pinned.checked.prog os := by
  intro k hk
  rw [show Tryz.pinned.checked.prog.stopKnobs = [] by kernel_rfl] at hk
  cases hk
theorem wrap : Tryz.f3.isWrapper Tryz.pinned.checked.prog Rows.fnPeerCidRow.wrapper Rows.fnPeerCidRow.mainSum := by
  unfold Func.isWrapper; first | (rw [if_pos (by decide +kernel)]; kernel_rfl) | (rw [if_neg (by decide +kernel)]; exact ⟨rfl, rfl⟩)
end RFnPeerCid

theorem FnPeerCid_holds : Rows.FnPeerCidToldSaid :=
  Claim7.holds_of_told_tied_any_at .later (c := Rows.fnPeerCidRow) 3 Tryz.f3 "fmt.Sprintf" [] [] (true, "613ea39819062a78fb4f13a75d3a619fcbdd7bdab79ee593b2f62d425b8ac6fc") true false [.sentinel, .sentinel, .sentinel, .data, .data, .sentinel, .sentinel, .sentinel, .sentinel] true (by kernel_rfl) rfl rfl rfl Tryz.laidOut (by kernel_rfl) rfl ⟨rfl, rfl, rfl, rfl, rfl, rfl, rfl⟩ rfl rfl (by kernel_rfl) (by kernel_rfl) Tryz.func3 (by kernel_rfl)
    (of_decide_eq_true (by kernel_rfl)) RFnPeerCid.wrap (by kernel_rfl) rfl (by kernel_rfl) (by kernel_rfl)
    (by kernel_rfl) (by kernel_rfl) (by kernel_rfl) (by kernel_rfl) (by kernel_rfl) (by kernel_rfl) (by kernel_rfl) (by kernel_rfl) (by kernel_rfl) rfl (by kernel_rfl) rfl rfl
    rfl rfl
    rfl (by kernel_rfl) (by kernel_rfl) (by kernel_rfl) (by kernel_rfl) (by kernel_rfl) fnPeerCid_row_tie
    RFnPeerCid.more
    ⟨_, WideRow.started_initial, RFnPeerCid.quiet _⟩
    (fun os started _ H enc _ => RFnPeerCid.lifted os started H enc)
#print axioms FnPeerCid_holds
end Go.Proofs.YteodhonipbdplaaGreatDoor
