/- Whole rows: a block stored over, and read, as one. -/
import Derived.Test.YteodhonipbdplaaGreatDoorMd01
import Derived.Deep.MidRow
import Derived.Laws.Rows
namespace Go.Proofs.YteodhonipbdplaaGreatDoor
open Go.RowKit
section
variable {w a : World} {g : Nat} {t : TypeId} {cs : Array Value}
theorem blk_setCells_go : ∀ (vs pre old : List Value) (w : World), old.length = vs.length → Blk w g t (pre ++ old).toArray → Blk (w.setCells g pre.length vs) g t (pre ++ vs).toArray
  | [], pre, old, w, hl, h => by
    obtain rfl := List.length_eq_zero_iff.1 hl
    exact h
  | v :: vs, pre, [], w, hl, h => by simp at hl
  | v :: vs, pre, o :: old, w, hl, h => by
    have h1 := h.set pre.length v
    rw [List.setIfInBounds_toArray, List.set_append_right _ _ (Nat.le_refl _), Nat.sub_self, List.set_cons_zero] at h1
    have h2 := blk_setCells_go vs (pre ++ [v]) old (w.setCell ⟨g, pre.length, none⟩ v) (by simpa using hl) (by simpa using h1)
    have e : (pre ++ [v]).length = pre.length + 1 := by simp
    rw [e, List.append_assoc] at h2
    exact h2
theorem Blk.over (h : Blk w g t cs) {vs : List Value} (hl : vs.length = cs.size) : Blk (w.setCells g 0 vs) g t vs.toArray := by
  have := blk_setCells_go (g := g) (t := t) vs [] cs.toList w (by simpa using hl.symm) (by simpa using h)
  simpa using this
theorem grown_setCells (g : Nat) : ∀ (vs : List Value) (o : Nat) {a w : World}, a.grownBy w (some g) → a.grownBy (w.setCells g o vs) (some g)
  | [], _, _, _, h => h
  | v :: vs, o, _, _, h => grown_setCells g vs (o + 1) (grown_setCell h (.inl rfl) v)
theorem Blk.there (h : Blk w g t cs) {n : Nat} (hn : n = cs.size) : w.there g 0 n := fun j hj => by
  subst hn
  rw [Nat.zero_add, h.cell, h.free]
  simp [hj]
theorem Blk.range (h : Blk w g t cs) : w.rangeAt g 0 cs.toList := fun j v hj => by
  rw [Nat.zero_add, h.cell]
  simpa using hj
end
end Go.Proofs.YteodhonipbdplaaGreatDoor
