/- What the walk of blockGeneric wants, and its code in pieces. -/
import Derived.Test.YtkmjjoffamdnfaaGreatDoorMi02
import Derived.Test.YtkmjjoffamdnfaaGreatDoorMi03
namespace Go.Proofs.YtkmjjoffamdnfaaGreatDoor
open Go.RowKit
set_option maxRecDepth 100000
def sliceLen' : Value → Nat
  | .slice _ n _ => n
  | _ => 0
theorem Bs.cells' {w : World} {B : Nat} {v : Value} {l : List UInt8} (h : Bs w B v l) : ∃ A n c, v = .slice A n c ∧ n = l.length ∧ c ≤ 9223372036854775807 ∧ (0 < l.length → ∃ g o, A = some ⟨g, o, none⟩ ∧ g < B ∧ ∀ k, (h : k < l.length) → w.cell? ⟨g, o + k, none⟩ = some (bv l[k])) := by
  obtain ⟨A, c, rfl, h1, h2, h3⟩ := h
  exact ⟨A, _, c, rfl, rfl, h2, h3⟩
theorem byteAt (W : World) (gb ob n c j : Nat) {x : Int} (hx : x = (j : Int)) (hj : j < n) : (Instr.indexAt 22 (.slice (some ⟨gb, ob, none⟩) n c) (.int .i64 x)).run Tryz.prog W = .ok (.pointer (some ⟨gb, ob + j, none⟩)) W := by
  subst hx
  obtain ⟨i0, hi, hz0, hz1, hz2⟩ := info_parts Tryz.info5
  have hs : Tryz.prog.elem 22 = 5 := by kernel_rfl
  have hu : Tryz.prog.underlying 22 = some (.slice (Tryz.prog.elem 22)) := by rw [hs]; exact Tryz.underlying22
  rw [run_indexAt_slice W 22 _ _ _ _ _ hu, if_pos (by omega), hs]
  simp [sizeOf, typeInfo, hi, hz1, Addr.add]
theorem keepD {W : World} {p : Addr} {v : Value} (h : W.cell? p = some v) : W.drew.cell? p = some v := h
theorem keepV {W : World} {g i a b : Nat} {v p q : Value} (ha : a ≠ i) (hb : b ≠ i) (h0 : W.drew.cell? ⟨g, a, none⟩ = some p) (h1 : W.drew.cell? ⟨g, b, none⟩ = some q) :
    (W.setCell ⟨g, i, none⟩ v).drew.cell? ⟨g, a, none⟩ = some p ∧ (W.setCell ⟨g, i, none⟩ v).drew.cell? ⟨g, b, none⟩ = some q :=
  ⟨(World.cell?_setCell_other W ⟨g, i, none⟩ ⟨g, a, none⟩ v (by intro e; injection e with _ e; omega)).trans h0, (World.cell?_setCell_other W ⟨g, i, none⟩ ⟨g, b, none⟩ v (by intro e; injection e with _ e; omega)).trans h1⟩
theorem nextL_val {a0 a9 a1 a14 : Nat} (m1 : a1 < 4294967296) (m14 : a14 < 4294967296) :
    IntKind.u32.wrap (IntKind.u32.wrap (IntKind.u32.wrap (bits .xor .u32 (bits .xor .u32 ((Sha.rotr a14 17 : Nat) : Int) ((Sha.rotr a14 19 : Nat) : Int)) ((a14 : Int) / 1024) + (a9 : Int)) + bits .xor .u32 (bits .xor .u32 ((Sha.rotr a1 7 : Nat) : Int) ((Sha.rotr a1 18 : Nat) : Int)) ((a1 : Int) / 8)) + (a0 : Int)) =
      ((Sha.wadd (Sha.wadd (Sha.wadd a0 a9) (Sha.s0 a1)) (Sha.s1 a14) : Nat) : Int) := by
  have e1 := sig_val (c := 8) (Sha.rotr_lt (n := 7) m1) (Sha.rotr_lt (n := 18) m1) m1 (by omega)
  have e2 := sig_val (c := 1024) (Sha.rotr_lt (n := 17) m14) (Sha.rotr_lt (n := 19) m14) m14 (by omega)
  rw [show (8 : Int) = ((8 : Nat) : Int) from rfl, show (1024 : Int) = ((1024 : Nat) : Int) from rfl, e1, e2, u32_wadd, u32_wadd, u32_wadd]
  rw [← nextW_order]
  rfl
theorem two_wrap {U : Sha.V} (h : U.ok) : IntKind.u32.wrap (bits .xor .u32 (bits .xor .u32 ((Sha.rotr U.a 2 : Nat) : Int) ((Sha.rotr U.a 13 : Nat) : Int)) ((Sha.rotr U.a 22 : Nat) : Int) + bits .xor .u32 (bits .xor .u32 (bits .and .u32 (U.a : Int) (U.b : Int)) (bits .and .u32 (U.a : Int) (U.c : Int))) (bits .and .u32 (U.b : Int) (U.c : Int))) = ((Sha.two U : Nat) : Int) := by
  rw [IntKind.wrap_u32']; exact two_val h
theorem hCell {w : World} {g k : Nat} {t : TypeId} {l : List Nat} {T : List Value} (h : Blk w g t (u32s l ++ T).toArray) (hk : k < l.length) : w.cell? ⟨g, k, none⟩ = some (.int .u32 (l[k] : Int)) := by
  rw [h.cell, List.getElem?_toArray, List.getElem?_append_left (by rw [u32s_length]; exact hk)]
  exact u32s_get hk
/-- the first words are those of the block -/
def Sha.Pre (WL : List Nat) (b : List UInt8) (i : Nat) : Prop := ∀ j, j < i → WL.getD j 0 = (Sha.sched b 48).getD j 0
theorem Sha.Pre.set {WL : List Nat} {b : List UInt8} {i x : Nat} (h : Sha.Pre WL b i) (hl : i < WL.length) (hx : x = (Sha.sched b 48).getD i 0) : Sha.Pre (WL.set i x) b (i + 1) := by
  intro j hj
  rcases Nat.lt_or_ge j i with h2 | h2
  · rw [← h j h2]
    simp only [List.getD_eq_getElem?_getD]
    rw [List.getElem?_set_ne (by omega)]
  · obtain rfl : j = i := by omega
    rw [← hx]
    simp [List.getD_eq_getElem?_getD, List.getElem?_set_self hl]
theorem word_wrap {d0 d1 d2 d3 : Nat} (h0 : d0 ≤ 255) (h1 : d1 ≤ 255) (h2 : d2 ≤ 255) (h3 : d3 ≤ 255) :
    bits .or .u32 (bits .or .u32 (bits .or .u32 (IntKind.u32.wrap (IntKind.u32.wrap (d0 : Int) * 16777216)) (IntKind.u32.wrap (IntKind.u32.wrap (d1 : Int) * 65536))) (IntKind.u32.wrap (IntKind.u32.wrap (d2 : Int) * 256))) (IntKind.u32.wrap (d3 : Int)) = ((d0 * 16777216 + d1 * 65536 + d2 * 256 + d3 : Nat) : Int) := by
  have w0 : IntKind.u32.wrap (d0 : Int) = (d0 : Int) := by rw [IntKind.wrap_u32']; omega
  have w1 : IntKind.u32.wrap (d1 : Int) = (d1 : Int) := by rw [IntKind.wrap_u32']; omega
  have w2 : IntKind.u32.wrap (d2 : Int) = (d2 : Int) := by rw [IntKind.wrap_u32']; omega
  have w3 : IntKind.u32.wrap (d3 : Int) = (d3 : Int) := by rw [IntKind.wrap_u32']; omega
  have v0 : IntKind.u32.wrap ((d0 : Int) * 16777216) = (d0 : Int) * 16777216 := by rw [IntKind.wrap_u32']; omega
  have v1 : IntKind.u32.wrap ((d1 : Int) * 65536) = (d1 : Int) * 65536 := by rw [IntKind.wrap_u32']; omega
  have v2 : IntKind.u32.wrap ((d2 : Int) * 256) = (d2 : Int) * 256 := by rw [IntKind.wrap_u32']; omega
  rw [w0, w1, w2, w3, v0, v1, v2]
  exact word_or h0 h1 h2 h3
/-- the first 'if' on a slot, the first region of a number, in a code -/
def findIf (t : Nat) : Code → Option Code
  | .cond (.tmp k) a b => if k = t then some (.cond (.tmp k) a b) else match findIf t a with
    | some c => some c
    | none => findIf t b
  | .loop c => findIf t c
  | .seq a b => match findIf t a with
    | some c => some c
    | none => findIf t b
  | .block _ c => findIf t c
  | .scope c => findIf t c
  | _ => none
def findRegion (t : Nat) : Code → Option Code
  | .region k o b => if k = t then some (.region k o b) else none
  | .cond _ a b => match findRegion t a with
    | some c => some c
    | none => findRegion t b
  | .loop c => findRegion t c
  | .seq a b => match findRegion t a with
    | some c => some c
    | none => findRegion t b
  | .block _ c => findRegion t c
  | .scope c => findRegion t c
  | _ => none
noncomputable def bgIf : Code := (Tryz.f78.body.bind (findIf 84)).getD .skip
noncomputable def bgTwo : Code := (Tryz.f78.body.bind (findRegion 16)).getD .skip
noncomputable def bgStart : Code := (Tryz.f78.body.bind (findRegion 1)).getD .skip
noncomputable def bgEnd : Code := (Tryz.f78.body.bind (findRegion 35)).getD .skip
noncomputable def bgOne : Code := (Tryz.f78.body.bind (findRegion 15)).getD .skip
end Go.Proofs.YtkmjjoffamdnfaaGreatDoor
