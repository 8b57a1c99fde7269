/- What the statements' walks answer; bytes.Equal told yes and no. -/
import Derived.Test.YtcefcdmonfenoaaDoorStd
namespace Go.Proofs.YtcefcdmonfenoaaDoor
open Go.RowKit
set_option maxRecDepth 100000

/-- the call answers true, and nothing that was there has turned -/
def Yes (w : World) (e : Ending) (w' : World) : Prop := e = .returned (.bool true) ∧ Below w.heap.size w w'

theorem Bs.cast {w : World} {B : Nat} {v : Value} {l m : List UInt8} (h : Bs w B v l) (e : l = m) : Bs w B v m := e ▸ h
theorem eqTrue {w : World} {B C : Nat} {v x : Value} {l m : List UInt8} (h : Bs w B v l) (k : Bs w C x m) (e : l = m) :
    Calls Tryd.prog 28 #[v, x] w fun e w' => e = .returned (.bool true) ∧ w = w' := by
  have := bytesEqual h k
  rw [show (l == m) = true by simpa using e] at this
  exact this
theorem eqFalse {w : World} {B C : Nat} {v x : Value} {l m : List UInt8} (h : Bs w B v l) (k : Bs w C x m) (e : l ≠ m) :
    Calls Tryd.prog 28 #[v, x] w fun e w' => e = .returned (.bool false) ∧ w = w' := by
  have := bytesEqual h k
  rw [show (l == m) = false by simpa using e] at this
  exact this

theorem hid_exists_bs' {w : World} {B : Nat} {v : Value} {l : List UInt8} (h : Bs w B v l) : ∃ A n c, v = .slice A n c := by obtain ⟨A, c, rfl, _⟩ := h.form; exact ⟨_, _, _, rfl⟩
end Go.Proofs.YtcefcdmonfenoaaDoor
