/- A length that tells more than there is, or a number of more than ten groups, makes a message none: proved for every input that the row reads; the listed error variables hold what the program's text lays. -/
import Derived.Test.YtcefcdmonfenoaaDoorWKeyLong
import Derived.Test.YtcefcdmonfenoaaDoorLay
import Derived.Test.YtcefcdmonfenoaaDoorCards
import Derived.Test.YtcefcdmonfenoaaDoorTie
import Derived.SevenTiedAt
namespace Go.Proofs.YtcefcdmonfenoaaDoor
namespace RFnKeyLong
open Go.ChangeShapes Go.WideShapes Go.ChangeAt Go.RowKit
set_option maxRecDepth 100000

theorem door_met (os : Os) (args : Array Value) : laidMetH Tryd.prog Rows.fnKeyLongRow.laid ((World.doorLaid Tryd.prog 313 os).forCall (fun _ _ => 0) ⟨#[], args, []⟩).memory :=
  laidMetH_of_parts3 (fuel := 8) (laidMet_of_run' 8 (by kernel_rfl) (by kernel_rfl)) (by kernel_rfl) (by kernel_rfl)

theorem errs {W : World} (h : laidMetH Tryd.prog Rows.fnKeyLongRow.laid W) : HasErr W 4 ∧ HasErr W 5 ∧ HasErr W 6 ∧ HasErr W 7 ∧ HasErr W 8 ∧ HasErr W 9 ∧ HasErr W 3 ∧ HasErr W 2 := by
  rw [MakeChecks.laidMetH_plain _ _ _ (by kernel_rfl)] at h
  have h0 : laidMet Tryd.prog Rows.fnKeyLongRow.laid W := h
  have e0 := hasErr_head h0 Tryd.gEof.1 Tryd.gEof.2
  have h1 := h0.tail
  have e1 := hasErr_head h1 Tryd.gField.1 Tryd.gField.2
  have h2 := h1.tail
  have e2 := hasErr_head h2 Tryd.gOver.1 Tryd.gOver.2
  have h3 := h2.tail
  have e3 := hasErr_head h3 Tryd.gRes.1 Tryd.gRes.2
  have h4 := h3.tail
  have e4 := hasErr_head h4 Tryd.gEnd.1 Tryd.gEnd.2
  have h5 := h4.tail
  have e5 := hasErr_head h5 Tryd.gParse.1 Tryd.gParse.2
  have h6 := h5.tail
  have e6 := hasErr_head h6 Tryd.gCNum.1 Tryd.gCNum.2
  have h7 := h6.tail
  have e7 := hasErr_head h7 Tryd.gCReq.1 Tryd.gCReq.2
  exact ⟨e0, e1, e2, e3, e4, e5, e6, e7⟩

set_option maxHeartbeats 1000000 in
theorem lifted (os : Os) (started : os.Started) (H : Type) (enc : TypeId × Value → H) :
    ReturnsInHanded {} Tryd.checked os 16 .any (fun w args => (Rows.fnKeyLongSpec.pre enc Tryd.prog Tryd.f16 [] false w args ∧ laidMetH Tryd.prog Rows.fnKeyLongRow.laid w) ∧ sizedMet enc Tryd.prog Tryd.f16 (OpenSpec.ofChange Rows.fnKeyLongSpec) false w args)
      (Rows.fnKeyLongSpec.post enc Tryd.prog Tryd.f16 false true false false) := by
  refine returnsInHanded_of_change_and (C := Tryd.checked) (X := fun w _ => laidMetH Tryd.prog Rows.fnKeyLongRow.laid w) (fun _ _ _ hh h => h.of_heap hh) Tryd.own started (by kernel_rfl) Tryd.func16
    (ChangeSpec.witness_shaped (enc := enc) (C := Tryd.checked) (os := os) (X := fun w _ => laidMetH Tryd.prog Rows.fnKeyLongRow.laid w) false (World.doorLaid Tryd.prog 313 os) #[.int .i32 0, .slice none 0 0, .int .u32 0, .int .u8 0] 8 rfl (World.shaped_of_RefB (by kernel_rfl) (by kernel_rfl)) (by kernel_rfl) (by kernel_rfl) (by kernel_rfl) (door_met os _)) ?_
  intro W base args ds gs before hval0 hW _ _ hL _
  have hval : ∀ (j : Nat) t v, Tryd.f16.params[j]? = some t → args[j]? = some v → Value.okWide Tryd.prog W .any base t v := hval0
  have hW' := hW
  obtain ⟨p, q, hA0, hV, rfl, hfz, hnd⟩ := hW
  have hA : DataW.TrodAll enc Tryd.prog W 0 (fun _ => true) true Tryd.f16.params.toList args.toList ds p := hA0
  rw [Tryd.params16] at hA hval
  obtain ⟨v0, vs0, d0, ds0, p0, q0, hargs, rfl, rfl, h0, r0⟩ := trodAll_cons hA
  obtain ⟨v1, vs1, d1, ds1, p1, q1, rfl, rfl, rfl, h1, r1⟩ := trodAll_cons r0
  obtain ⟨v2, vs2, d2, ds2, p2, q2, rfl, rfl, rfl, h2, r2⟩ := trodAll_cons r1
  obtain ⟨v3, vs3, d3, ds3, p3, q3, rfl, rfl, rfl, h3, r3⟩ := trodAll_cons r2
  obtain ⟨rfl, rfl, rfl⟩ := trodAll_nil r3
  obtain rfl : args = #[v0, v1, v2, v3] := by cases args; simp_all
  obtain ⟨rfl, rfl⟩ := trodVars_none hV
  obtain ⟨x0, f0⟩ := openInt Tryd.underlying21 (hval 0 21 v0 rfl rfl) h0
  obtain ⟨x1, f1⟩ := openBytes (hval 1 23 v1 rfl rfl) h1
  obtain ⟨x2, f2⟩ := openInt Tryd.underlying69 (hval 2 69 v2 rfl rfl) h2
  obtain ⟨x3, f3⟩ := openInt Tryd.underlying5 (hval 3 5 v3 rfl rfl) h3
  have he := errs hL
  clear hA0 hval0
  refine (walk_FnKeyLong f0 f1 f2 f3 he).mono fun e W' ⟨he, bel⟩ => ?_
  subst he
  exact ⟨_, rfl, _, _, _, [], _, [], hW', trodAll_mk1 (shut_bool Tryd.underlying4 _), (trodAll_cons_mk (Below.trod Tryd.laidOut (by kernel_rfl) (of_decide_eq_true (by kernel_rfl)) h0 bel (lt_of_trod h0)) (trodAll_cons_mk (Below.trod Tryd.laidOut (by kernel_rfl) (of_decide_eq_true (by kernel_rfl)) h1 bel (lt_of_trod h1)) (trodAll_cons_mk (Below.trod Tryd.laidOut (by kernel_rfl) (of_decide_eq_true (by kernel_rfl)) h2 bel (lt_of_trod h2)) (trodAll_cons_mk (Below.trod Tryd.laidOut (by kernel_rfl) (of_decide_eq_true (by kernel_rfl)) h3 bel (lt_of_trod h3)) trodAll_mk0)))), rfl, bel.frame _, fun h => by cases h⟩

theorem row_holds : Rows.FnKeyLongSaid :=
  OpenClaim.holds_of_wide 16 Tryd.f16 rfl rfl rfl rfl rfl rfl rfl ⟨rfl, rfl, rfl, rfl, rfl⟩ rfl rfl rfl rfl rfl (by kernel_rfl) Tryd.func16 (by kernel_rfl)
    (of_decide_eq_true (by kernel_rfl)) (by unfold Func.isWrapper; first | (rw [if_pos (by decide +kernel)]; kernel_rfl) | (rw [if_neg (by decide +kernel)]; exact ⟨rfl, rfl⟩))
    (fun os started H enc _ => lifted os started H enc)
end RFnKeyLong

theorem FnKeyLong_holds : Rows.FnKeyLongCardSaid :=
  Claim7.holds_tied_plain_at .later [] [.sentinel, .sentinel, .sentinel, .sentinel, .sentinel, .sentinel, .sentinel, .sentinel] true (true, "bb96b937d59a47cfc6801d7b50419fa9ebef8e98c4de66ff8b0c869ba360b234") false
    RFnKeyLong.row_holds (fun _ h => by cases h) (by kernel_rfl) (fun _ h => by cases h) fnKeyLong_row_tie rfl ⟨rfl, rfl⟩ (by kernel_rfl) rfl
    (fun f fn hf hfn => by
      obtain rfl : f = 16 := Option.some.inj ((show Tryd.prog.funcNamed "pub-symmory/laws.FnKeyLong" = some 16 by kernel_rfl).symm.trans hf) |>.symm
      obtain rfl : fn = Tryd.f16 := (Option.some.inj (Tryd.func16.symm.trans hfn)).symm
      exact ⟨by kernel_rfl, fun j t ht => by
        rw [Tryd.params16] at ht
        have hm : t ∈ [21, 23, 69, 5] := by simpa using Array.mem_of_getElem? ht
        have hall : ([21, 23, 69, 5].all fun u => !Tryd.prog.wantsStandIn u) = true := by kernel_rfl
        exact (show Tryd.prog.wantsStandIn t = false by simpa using List.all_eq_true.1 hall t hm)⟩)
    (by kernel_rfl)
#print axioms FnKeyLong_holds
end Go.Proofs.YtcefcdmonfenoaaDoor
