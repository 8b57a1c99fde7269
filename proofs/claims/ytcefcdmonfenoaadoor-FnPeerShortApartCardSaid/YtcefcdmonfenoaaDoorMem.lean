/- Blocks that are known whole, and what stays as it was behind a step that turns one block alone. -/
import Derived.Test.YtcefcdmonfenoaaDoorBase
import Derived.WalkSpells
namespace Go.Proofs.YtcefcdmonfenoaaDoor
open Go.RowKit

/-- block g holds just the cells cs, none of them frozen -/
def Blk (w : World) (g : Nat) (t : TypeId) (cs : Array Value) : Prop := w.heap[g]? = some (.cells cs t (0, 0))

section
variable {w w' : World} {g : Nat} {t : TypeId} {cs : Array Value}
theorem Blk.lt (h : Blk w g t cs) : g < w.heap.size := (Array.getElem?_eq_some_iff.1 h).1
theorem Blk.cell (h : Blk w g t cs) (i : Nat) : w.cell? ⟨g, i, none⟩ = cs[i]? := cell_of_row w g i cs t (0, 0) h
theorem Blk.free (h : Blk w g t cs) (i : Nat) : w.frozen? ⟨g, i, none⟩ = false := by
  have h' : w.heap[g]? = some (.cells cs t (0, 0)) := h
  simp [World.frozen?, h']
theorem Blk.new (w : World) (t : TypeId) (cs : Array Value) : Blk (w.alloc (.cells cs t)) w.heap.size t cs := heap_alloc_new w _
theorem Blk.drewN (h : Blk w g t cs) (n : Nat) : Blk (w.drewN n) g t cs := h
theorem Blk.drew (h : Blk w g t cs) : Blk w.drew g t cs := h
theorem Blk.keep (h : Blk w g t cs) (hb : w'.heap[g]? = w.heap[g]?) : Blk w' g t cs := hb.trans h
theorem Blk.alloc (h : Blk w g t cs) (o : Obj) : Blk (w.alloc o) g t cs := h.keep (Below.heap_alloc w o g h.lt)
theorem Blk.step (h : Blk w g t cs) (hb : Below w.heap.size w w') : Blk w' g t cs := h.keep (hb.block g h.lt)
theorem Blk.below {B : Nat} (h : Blk w g t cs) (hb : Below B w w') (hg : g < B) : Blk w' g t cs := h.keep (hb.block g hg)
theorem Blk.grown {row : Option Nat} (h : Blk w g t cs) (hg : w.grownBy w' row) (hne : some g ≠ row) : Blk w' g t cs := h.keep (hg.block g h.lt hne)
theorem Blk.set (h : Blk w g t cs) (i : Nat) (u : Value) : Blk (w.setCell ⟨g, i, none⟩ u) g t (cs.setIfInBounds i u) := by
  have h' : w.heap[g]? = some (.cells cs t (0, 0)) := h
  show (w.setCell ⟨g, i, none⟩ u).heap[g]? = _
  simp [World.setCell, Array.getElem?_modify, h']
theorem Blk.far (h : Blk w g t cs) {p : Addr} (hp : p.block ≠ g) (u : Value) : Blk (w.setCell p u) g t cs := h.keep (Below.heap_setCell w p u g (by omega))

/-- a cell that holds no number at all -/
def NoInt (v : Value) : Prop := ∀ k n, v ≠ .int k n
theorem noInt_ptr (a : Option Addr) : NoInt (.pointer a) := fun _ _ h => by cases h
theorem noInt_slice (a : Option Addr) (n c : Nat) : NoInt (.slice a n c) := fun _ _ h => by cases h

/-- bytes do not lie in a block whose cells hold no numbers -/
theorem Bs.apart {B : Nat} {v : Value} {l : List UInt8} (h : Bs w B v l) (hb : Blk w g t cs) (hn : ∀ u ∈ cs.toList, NoInt u) : l = [] ∨ v.ownBlock ≠ some g := by
  obtain ⟨A, c, rfl, h1, h2, h3⟩ := h
  rcases Nat.eq_zero_or_pos l.length with h0 | h0
  · exact .inl (List.length_eq_zero_iff.1 h0)
  · right
    obtain ⟨g', o, rfl, _, hc⟩ := h3 h0
    intro e
    have e' : g' = g := by simpa [Value.ownBlock] using e
    subst e'
    have h4 := hc 0 h0
    rw [hb.cell] at h4
    have hm := Array.mem_of_getElem? h4
    exact hn _ (by simpa using hm) _ _ rfl

theorem Bs.keepRow {B : Nat} {v : Value} {l : List UInt8} {row : Option Nat} (h : Bs w B v l) (hg : w.grownBy w' row) (hB : B ≤ w.heap.size) (hne : l = [] ∨ v.ownBlock ≠ row ∨ row = none) : Bs w' B v l := by
  obtain ⟨A, c, rfl, h1, h2, h3⟩ := h
  refine ⟨A, c, rfl, h1, h2, fun hl => ?_⟩
  obtain ⟨g', o, rfl, hgB, hc⟩ := h3 hl
  refine ⟨g', o, rfl, hgB, fun k hk => ?_⟩
  refine (World.cell?_of_block (hg.block g' (by omega) ?_)).trans (hc k hk)
  rcases hne with rfl | hne | rfl
  · simp at hl
  · simpa [Value.ownBlock] using hne
  · simp
theorem Bs.drew1 {v : Value} {l : List UInt8} (h : Bs w w.heap.size v l) : Bs w.drew w.drew.heap.size v l := h
theorem Bs.drewN1 {v : Value} {l : List UInt8} (h : Bs w w.heap.size v l) (n : Nat) : Bs (w.drewN n) (w.drewN n).heap.size v l := h
theorem below_drew (w : World) : Below w.heap.size w w.drew := (Below.refl _ _).drew
theorem Bs.form' {B : Nat} {v : Value} {l : List UInt8} (h : Bs w B v l) : ∃ A n c, v = .slice A n c ∧ Hid (n = l.length) ∧ n ≤ c ∧ c ≤ 9223372036854775807 := by
  obtain ⟨A, c, rfl, h1, h2⟩ := h.form; exact ⟨A, _, c, rfl, rfl, h1, h2⟩
/-- bytes read as they did behind a step that turned a block without numbers -/
theorem Bs.keepBlk {v : Value} {l : List UInt8} (h : Bs w w.heap.size v l) (hb : Blk w g t cs) (hn : ∀ u ∈ cs.toList, NoInt u) (hg : w.grownBy w' (some g)) : Bs w' w'.heap.size v l := by
  refine (h.keepRow hg (Nat.le_refl _) ?_).more hg.size
  rcases h.apart hb hn with h0 | h0
  · exact .inl h0
  · exact .inr (.inl h0)

/-- what a step turned, as a row -/
theorem grown_setCell {a : World} {row : Nat} (h : a.grownBy w (some row)) {p : Addr} (hp : p.block = row ∨ a.heap.size ≤ p.block) (u : Value) : a.grownBy (w.setCell p u) (some row) :=
  ⟨h.os, h.tape, h.output, by simpa [World.setCell] using h.size, fun i hi hne => (Below.heap_setCell w p u i (by
    rintro rfl
    rcases hp with hp | hp
    · exact hne (by rw [hp])
    · omega)).trans (h.block i hi hne)⟩
theorem grown_drewN {a : World} {row : Option Nat} (h : a.grownBy w row) (n : Nat) : a.grownBy (w.drewN n) row := ⟨h.os, h.tape, h.output, h.size, h.block⟩
theorem grown_drew {a : World} {row : Option Nat} (h : a.grownBy w row) : a.grownBy w.drew row := ⟨h.os, h.tape, h.output, h.size, h.block⟩
theorem grown_step {a b c : World} {row : Option Nat} (h : a.grownBy b row) (k : Below b.heap.size b c) : a.grownBy c row := h.trans (grown_of_below k row)
/-- only blocks that are new have turned -/
theorem below_of_new {a b c : World} {g : Nat} (h : Below a.heap.size a b) (hg : a.heap.size ≤ g) (k : b.grownBy c (some g)) : Below a.heap.size a c :=
  h.grown k h.size fun _ e => by injection e with e; omega
theorem below_drewN {B : Nat} {a w : World} (h : Below B a w) (n : Nat) : Below B a (w.drewN n) := ⟨h.os, h.tape, h.output, h.size, h.block⟩
theorem below_refl (w : World) : Below w.heap.size w w := Below.refl _ _
theorem below_alloc (w : World) (o : Obj) : Below w.heap.size w (w.alloc o) := (Below.refl _ _).alloc (Nat.le_refl _) o
theorem below_trans {a b c : World} (h : Below a.heap.size a b) (k : Below b.heap.size b c) : Below a.heap.size a c := h.trans (k.mono h.size)
theorem below_grown {a b c : World} {row : Option Nat} (h : Below a.heap.size a b) (k : b.grownBy c row) (hr : ∀ g, row = some g → a.heap.size ≤ g) : Below a.heap.size a c := h.grown k h.size hr
end

/-- a slice of the call's own making that holds the bytes l; nothing that was there has turned -/
def Fresh (w : World) (l : List UInt8) (e : Ending) (w' : World) : Prop := ∃ v', e = .returned v' ∧ Own w' w.heap.size v' l ∧ Below w.heap.size w w'
/-- likewise, and it is not nil -/
def FreshN (w : World) (l : List UInt8) (e : Ending) (w' : World) : Prop := ∃ v', e = .returned v' ∧ Own w' w.heap.size v' l ∧ Below w.heap.size w w' ∧ NN v'

theorem Own.under {w w' : World} {base : Nat} {v : Value} {l : List UInt8} (h : Own w base v l) (hg : w.grownBy w' v.ownBlock) (hb : base ≤ w.heap.size) : Below base w w' := below_of_own h hg hb

end Go.Proofs.YtcefcdmonfenoaaDoor
