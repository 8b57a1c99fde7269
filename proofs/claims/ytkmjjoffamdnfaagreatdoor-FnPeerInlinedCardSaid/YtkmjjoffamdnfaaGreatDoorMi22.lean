/- Closed facts of the program, for all rows. -/
import Derived.Test.YtkmjjoffamdnfaaGreatDoorMi21
namespace Go.Proofs.YtkmjjoffamdnfaaGreatDoor
open Go.ChangeShapes Go.WideShapes Go.ChangeAt Go.RowKit
set_option maxRecDepth 100000
/-- a row with all cells at their defaults -/
def rowPlain : OpenClaim := { program := "", sum := "", func := "", spec := "" }
theorem Tryz.jMaps : mapsRowed Tryz.prog = true := by kernel_rfl
theorem Tryz.jStops : (Tryz.prog.stops == []) = true := by kernel_rfl
theorem Tryz.jKnobs : (Tryz.prog.stopKnobs == []) = true := by kernel_rfl
theorem Tryz.jPlain : (rowPlain.plainKeys == Tryz.prog.plainKeys) = true := by kernel_rfl
theorem Tryz.jHeard : Tryz.prog.stopsHeard = true := by kernel_rfl
theorem Tryz.jEnter : Tryz.prog.mayEnter = true := by kernel_rfl
theorem Tryz.jLifts : (rowPlain.lifted == Tryz.prog.liftsFinal) = true := by kernel_rfl
theorem Tryz.jMake : (Tryz.prog.make == some rowPlain.make) = true := by kernel_rfl
theorem joined_of {P : Program} {f : FuncId} {fn : Func} {s : ChangeSpec} {c : OpenClaim} (a1 : c.wf (OpenSpec.ofChange s) = true) (a2 : laidOutB P = true) (a3 : mapsRowed P = true) (a4 : fn.params.all (P.readableRec ·) = true) (a5 : namedTie P c.named s.vars = true)
    (a6 : (c.stops == []) = true) (a7 : (P.stops == []) = true) (a8 : (c.knobs == []) = true) (a9 : (P.stopKnobs == []) = true) (a10 : (c.inPlace == P.inPlace f) = true) (a11 : (c.unfollowed == P.unfollowed f) = true) (a12 : (c.recurses == P.recurses f) = true) (a13 : (c.named == P.varsNamed f) = true)
    (a14 : (c.maps == (fn.params.toList ++ s.plain.varTypes P).any (P.mapsRec ·)) = true) (a15 : (c.ifaces == (fn.params.toList ++ s.plain.varTypes P).any (P.ifacesRec ·)) = true) (a16 : (c.mapsOut == P.mapsAmong fn.resultTypes.toList) = true)
    (a17 : (c.loops == (fn.params.toList ++ s.plain.varTypes P).any (P.loopsFrom ·)) = true) (a18 : (c.wideKeys == (fn.params.toList ++ s.plain.varTypes P ++ fn.resultTypes.toList).any (P.wideKeysFrom ·)) = true) (a19 : s.vars.all (P.varReadable ·) = true)
    (a20 : fn.resultTypes.all (fun t => P.readableRec t && decide (t < P.types.size)) = true) (a21 : (c.ifacesOut == fn.resultTypes.toList.any (P.ifacesRec ·)) = true) (a22 : (c.loopsOut == fn.resultTypes.toList.any (P.loopsFrom ·)) = true) (a23 : (c.plainKeys == P.plainKeys) = true) (a24 : c.shortTexts.isNone = true) (a25 : P.stopsHeard = true) (a26 : P.mayEnter = true) (a27 : (c.lifted == P.liftsFinal) = true) (a28 : (P.make == some c.make) = true)
    (a29 : (c.kinds == (if c.domain.isEmpty then [] else fn.params.toList.map fun t => match P.underlying t with | some (.int k) => some k | _ => none)) = true) (a30 : (c.pinned == c.pinnedBy) = true) (a31 : (c.veiled == (fn.params.toList ++ s.plain.varTypes P ++ fn.resultTypes.toList).any (P.veiledRec ·)) = true) (a32 : c.veiledFits P fn.params.toList (fn.params.toList ++ s.plain.varTypes P ++ fn.resultTypes.toList) = true) :
    joinedFacts P f fn s c = true := by
  simp only [joinedFacts, Bool.and_eq_true]
  exact ⟨⟨⟨⟨⟨⟨⟨⟨⟨⟨⟨⟨⟨⟨⟨⟨⟨⟨⟨⟨⟨⟨⟨⟨⟨⟨⟨⟨⟨⟨⟨a1, a2⟩, a3⟩, a4⟩, a5⟩, a6⟩, a7⟩, a8⟩, a9⟩, a10⟩, a11⟩, a12⟩, a13⟩, a14⟩, a15⟩, a16⟩, a17⟩, a18⟩, a19⟩, a20⟩, a21⟩, a22⟩, a23⟩, a24⟩, a25⟩, a26⟩, a27⟩, a28⟩, a29⟩, a30⟩, a31⟩, a32⟩
end Go.Proofs.YtkmjjoffamdnfaaGreatDoor
