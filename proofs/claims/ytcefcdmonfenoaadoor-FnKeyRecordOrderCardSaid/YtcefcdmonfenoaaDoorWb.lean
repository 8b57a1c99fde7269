/- The readers of protowire: fixed numbers, ParseError, a field's value that is passed over. -/
import Derived.Test.YtcefcdmonfenoaaDoorWa
namespace Go.Proofs.YtcefcdmonfenoaaDoor
open Go.RowKit
set_option maxRecDepth 100000

theorem consumeFixed32_short {w : World} {B : Nat} {v : Value} {l : List UInt8} (h : Bs w B v l) (hl : l.length < 4) :
    Calls Tryd.prog 113 #[v] w fun e w' => e = .returned (.tuple #[.int .u32 0, .int .i64 (-1)]) ∧ w = w' := by
  obtain ⟨A, c, rfl, hlc, hc63⟩ := h.form
  have hi : (l.length : Int) < 4 := by omega
  go_enter Tryd.func113, Tryd.ntmps113
  go_wp2
  go_ret2
  exact ⟨rfl, rfl⟩

theorem consumeFixed64_short {w : World} {B : Nat} {v : Value} {l : List UInt8} (h : Bs w B v l) (hl : l.length < 8) :
    Calls Tryd.prog 114 #[v] w fun e w' => e = .returned (.tuple #[.int .u64 0, .int .i64 (-1)]) ∧ w = w' := by
  obtain ⟨A, c, rfl, hlc, hc63⟩ := h.form
  have hi : (l.length : Int) < 8 := by omega
  go_enter Tryd.func114, Tryd.ntmps114
  go_wp2
  go_ret2
  exact ⟨rfl, rfl⟩

/-- some number and a count -/
def fixAns (k : IntKind) (n : Int) (e : Ending) : Prop := ∃ x : Int, e = .returned (.tuple #[.int k x, .int .i64 n])

theorem consumeFixed32_ok {w : World} {B : Nat} {v : Value} {l : List UInt8} (h : Bs w B v l) (hl : 4 ≤ l.length) :
    Calls Tryd.prog 113 #[v] w fun e w' => fixAns .u32 4 e ∧ ∃ n, w' = w.drewN n := by
  obtain ⟨g, o, c, rfl, _, _, hc63, hc⟩ := h.cellnb (by omega)
  have hc0 : w.cell? ⟨g, o, none⟩ = _ := hc 0 (by omega)
  have hc1 := hc 1 (by omega)
  have hc2 := hc 2 (by omega)
  have hc3 := hc 3 (by omega)
  clear hc h
  generalize Wire.nb l 0 = b0 at *
  generalize Wire.nb l 1 = b1 at *
  generalize Wire.nb l 2 = b2 at *
  generalize Wire.nb l 3 = b3 at *
  generalize l.length = N at *
  have hN : (4 : Int) ≤ (N : Int) := by omega
  have i0 : 0 < N := by omega
  have i1 : (1 : Int) < (N : Int) := by omega
  have i2 : (2 : Int) < (N : Int) := by omega
  have i3 : (3 : Int) < (N : Int) := by omega
  go_enter Tryd.func113, Tryd.ntmps113
  go_wp2
  go_quiet (fail)
  go_wp2
  go_ret2
  exact ⟨⟨_, rfl⟩, _, rfl⟩

theorem consumeFixed64_ok {w : World} {B : Nat} {v : Value} {l : List UInt8} (h : Bs w B v l) (hl : 8 ≤ l.length) :
    Calls Tryd.prog 114 #[v] w fun e w' => fixAns .u64 8 e ∧ ∃ n, w' = w.drewN n := by
  obtain ⟨g, o, c, rfl, _, _, hc63, hc⟩ := h.cellnb (by omega)
  have hc0 : w.cell? ⟨g, o, none⟩ = _ := hc 0 (by omega)
  have hc1 := hc 1 (by omega)
  have hc2 := hc 2 (by omega)
  have hc3 := hc 3 (by omega)
  have hc4 := hc 4 (by omega)
  have hc5 := hc 5 (by omega)
  have hc6 := hc 6 (by omega)
  have hc7 := hc 7 (by omega)
  clear hc h
  generalize Wire.nb l 0 = b0 at *
  generalize Wire.nb l 1 = b1 at *
  generalize Wire.nb l 2 = b2 at *
  generalize Wire.nb l 3 = b3 at *
  generalize Wire.nb l 4 = b4 at *
  generalize Wire.nb l 5 = b5 at *
  generalize Wire.nb l 6 = b6 at *
  generalize Wire.nb l 7 = b7 at *
  generalize l.length = N at *
  have hN : (8 : Int) ≤ (N : Int) := by omega
  have i0 : 0 < N := by omega
  have i1 : (1 : Int) < (N : Int) := by omega
  have i2 : (2 : Int) < (N : Int) := by omega
  have i3 : (3 : Int) < (N : Int) := by omega
  have i4 : (4 : Int) < (N : Int) := by omega
  have i5 : (5 : Int) < (N : Int) := by omega
  have i6 : (6 : Int) < (N : Int) := by omega
  have i7 : (7 : Int) < (N : Int) := by omega
  go_enter Tryd.func114, Tryd.ntmps114
  go_wp2
  go_quiet (fail)
  go_wp2
  go_ret2
  exact ⟨⟨_, rfl⟩, _, rfl⟩

/-- package-level variable g holds an error -/
def HasErr (w : World) (g : Nat) : Prop := ∃ t x, w.cell? ⟨g, 0, none⟩ = some (.iface t x)
theorem HasErr.below {w w' : World} {g B : Nat} (h : HasErr w g) (hb : Below B w w') (hg : g < B) : HasErr w' g := by
  obtain ⟨t, x, h⟩ := h; exact ⟨t, x, (hb.cell (p := ⟨g, 0, none⟩) hg).trans h⟩
theorem HasErr.step {w w' : World} {g : Nat} (h : HasErr w g) (hb : Below w.heap.size w w') : HasErr w' g := by
  obtain ⟨t, x, h⟩ := h
  exact ⟨t, x, (hb.cell (p := ⟨g, 0, none⟩) (World.block_lt_of_cell? w _ h)).trans h⟩
/-- protowire's errors and io's -/
structure PErr (w : World) : Prop where
  eof : HasErr w 4
  num : HasErr w 5
  over : HasErr w 6
  reserved : HasErr w 7
  group : HasErr w 8
  parse : HasErr w 9
theorem PErr.step {w w' : World} (h : PErr w) (hb : Below w.heap.size w w') : PErr w' :=
  ⟨h.eof.step hb, h.num.step hb, h.over.step hb, h.reserved.step hb, h.group.step hb, h.parse.step hb⟩

/-- an error that is not nil -/
def errAns (e : Ending) : Prop := ∃ t x, e = .returned (.iface t x)

theorem parseError {w : World} (h : PErr w) {n : Int} (hn : n < 0) (hn6 : -6 ≤ n) :
    Calls Tryd.prog 96 #[.int .i64 n] w fun e w' => errAns e ∧ w = w' := by
  obtain ⟨⟨t1, x1, h1⟩, ⟨t2, x2, h2⟩, ⟨t3, x3, h3⟩, ⟨t4, x4, h4⟩, ⟨t5, x5, h5⟩, ⟨t6, x6, h6⟩⟩ := h
  have hc : n = -1 ∨ n = -2 ∨ n = -3 ∨ n = -4 ∨ n = -5 ∨ n = -6 := by omega
  rcases hc with rfl | rfl | rfl | rfl | rfl | rfl
  all_goals
    go_enter Tryd.func96, Tryd.ntmps96
    go_wp2
    go_ret
    exact ⟨⟨_, _, rfl⟩, rfl⟩
end Go.Proofs.YtcefcdmonfenoaaDoor
