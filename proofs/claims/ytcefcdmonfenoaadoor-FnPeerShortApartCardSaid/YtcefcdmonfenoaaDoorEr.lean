/- Package-level variables that hold errors. -/
import Derived.Test.YtcefcdmonfenoaaDoorMem
namespace Go.Proofs.YtcefcdmonfenoaaDoor
open Go.RowKit
/-- package-level variable g holds an error -/
def HasErr (w : World) (g : Nat) : Prop := ∃ t x, w.cell? ⟨g, 0, none⟩ = some (.iface t x)
theorem HasErr.below {w w' : World} {g B : Nat} (h : HasErr w g) (hb : Below B w w') (hg : g < B) : HasErr w' g := by
  obtain ⟨t, x, h⟩ := h; exact ⟨t, x, (hb.cell (p := ⟨g, 0, none⟩) hg).trans h⟩
theorem HasErr.step {w w' : World} {g : Nat} (h : HasErr w g) (hb : Below w.heap.size w w') : HasErr w' g := by
  obtain ⟨t, x, h⟩ := h
  exact ⟨t, x, (hb.cell (p := ⟨g, 0, none⟩) (World.block_lt_of_cell? w _ h)).trans h⟩
/-- an error that is not nil -/
def errAns (e : Ending) : Prop := ∃ t x, e = .returned (.iface t x)

end Go.Proofs.YtcefcdmonfenoaaDoor
