/- The opening of arguments that are structs, and slices of slices of bytes. -/
import Derived.Test.YtcefcdmonfenoaaDoorLay
import Derived.Test.YtcefcdmonfenoaaDoorEi
import Derived.Deep.Fields
import Derived.Deep.Slices
namespace Go.Proofs.YtcefcdmonfenoaaDoor
open Go.ChangeShapes Go.WideShapes Go.ChangeAt Go.RowKit Go.Deep
set_option maxRecDepth 100000
section
variable {H : Type} {enc : TypeId × Value → H} {W : World} {base : Nat} {v : Value} {d : DataW H} {p : List MemPlace}

/-- a struct's cells, each with its own reading -/
theorem openStruct {t : TypeId} {fs : Array Field} (hs : Tryd.prog.underlying t = some (.struct fs)) (hone : oneCellFields Tryd.prog fs = true) (hv : Value.okWide Tryd.prog W .any base t v) (h : DataW.Trod enc Tryd.prog W 0 (fun _ => true) true t v d p) :
    ∃ (cs : List Value) (n : Nat), v = .agg cs.toArray ∧ cs.length = Tryd.prog.cellsOf t ∧ ∀ (j : Nat) (c : Value), cs[j]? = some c → ∀ f, fs[j]? = some f → ∃ y, DataW.trod enc Tryd.prog W 0 (fun _ => true) true n f.type [c] = some y := by
  obtain ⟨⟨l⟩, rfl, hsz⟩ := okWide_struct hs hv
  obtain ⟨fuel, hf⟩ := h
  obtain ⟨xs, n, _, _, _, hlen, hg⟩ := DataW.trod_struct hs hf
  refine ⟨l, n, rfl, hsz, fun j c hc f hj => ?_⟩
  obtain ⟨ho, hk⟩ := hone_of hone j f hj
  have h1 := hg j f hj
  have hjl : j < fs.size := (Array.getElem?_eq_some_iff.1 hj).1
  obtain ⟨hjc, rfl⟩ := List.getElem?_eq_some_iff.1 hc
  rw [ho, hk] at h1
  have e : ((Value.agg ⟨l⟩).cells.toList.drop j).take 1 = [l[j]] := by
    show (l.drop j).take 1 = [l[j]]
    rw [List.drop_eq_getElem_cons hjc]; rfl
  rw [e, List.getElem?_eq_getElem (by omega)] at h1
  exact ⟨_, h1⟩

/-- one cell that is a slice of bytes -/
theorem bsOfCell {n : Nat} {c : Value} {y : DataW H × List MemPlace} (h : DataW.trod enc Tryd.prog W 0 (fun _ => true) true n 23 [c] = some y) : ∃ l, Bs W W.heap.size c l := by
  have hc : ∃ a k m, c = .slice a k m := by
    rcases open_ints Tryd.underlying23 Tryd.underlying5 (by kernel_rfl) h with ⟨hcs, _⟩ | ⟨x, l, cc, zs, hcs, _⟩
    · exact ⟨none, 0, 0, by simpa using hcs⟩
    · exact ⟨some x, l, cc, by simpa using hcs⟩
  obtain ⟨a, k, m, rfl⟩ := hc
  obtain ⟨l, hl, _⟩ := bs_of_trod (d := y.1) (p := y.2) (⟨n, h⟩ : DataW.Trod enc Tryd.prog W 0 (fun _ => true) true 23 (.slice a k m) y.1 y.2)
  exact ⟨l, hl⟩
theorem intOfCell {t : TypeId} {k : IntKind} (hu : Tryd.prog.underlying t = some (.int k)) {n : Nat} {c : Value} {y : DataW H × List MemPlace} (h : DataW.trod enc Tryd.prog W 0 (fun _ => true) true n t [c] = some y) : ∃ x, IsInt k c x := by
  obtain ⟨x, hx, _, hw⟩ := DataW.trod_int hu h
  exact ⟨x, by simpa using hx, hw⟩
theorem boolOfCell {t : TypeId} (hu : Tryd.prog.underlying t = some .bool) {n : Nat} {c : Value} {y : DataW H × List MemPlace} (h : DataW.trod enc Tryd.prog W 0 (fun _ => true) true n t [c] = some y) : ∃ b, c = .bool b := by
  obtain ⟨b, hb, _⟩ := DataW.trod_bool hu h
  exact ⟨b, by simpa using hb⟩

/-- an envelope that came in -/
def EnvIn (W : World) (v : Value) (E : EV) : Prop := EnvVal W W.heap.size v E ∧ -2147483648 ≤ E.kind ∧ E.kind ≤ 2147483647
theorem open_env (hv : Value.okWide Tryd.prog W .any base 64 v) (h : DataW.Trod enc Tryd.prog W 0 (fun _ => true) true 64 v d p) : ∃ E, EnvIn W v E := by
  obtain ⟨cs, n, rfl, hlen, hf⟩ := openStruct Tryd.underlying64 (by kernel_rfl) hv h
  have hlen' : cs.length = 6 := hlen.trans (by kernel_rfl)
  match cs, hlen' with
  | [c0, c1, c2, c3, c4, c5], _ =>
    obtain ⟨y0, t0⟩ := hf 0 c0 rfl _ rfl
    obtain ⟨y1, t1⟩ := hf 1 c1 rfl _ rfl
    obtain ⟨y2, t2⟩ := hf 2 c2 rfl _ rfl
    obtain ⟨y3, t3⟩ := hf 3 c3 rfl _ rfl
    obtain ⟨y4, t4⟩ := hf 4 c4 rfl _ rfl
    obtain ⟨y5, t5⟩ := hf 5 c5 rfl _ rfl
    obtain ⟨b, rfl⟩ := boolOfCell Tryd.underlying4 t0
    obtain ⟨x, hx⟩ := intOfCell Tryd.underlying21 t1
    obtain ⟨rfl, q1, q2⟩ := isI32 hx
    obtain ⟨l2, b2⟩ := bsOfCell t2
    obtain ⟨l3, b3⟩ := bsOfCell t3
    obtain ⟨l4, b4⟩ := bsOfCell t4
    obtain ⟨l5, b5⟩ := bsOfCell t5
    exact ⟨⟨b, x, l2, l3, l4, l5⟩, ⟨_, _, _, _, rfl, b2, b3, b4, b5⟩, q1, q2⟩
end
end Go.Proofs.YtcefcdmonfenoaaDoor
