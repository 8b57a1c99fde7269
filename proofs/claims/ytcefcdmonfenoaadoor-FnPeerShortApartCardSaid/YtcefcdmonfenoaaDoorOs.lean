/- Rows of one's own: a byte written, a row begun with one byte; strings put together. -/
import Derived.Test.YtcefcdmonfenoaaDoorStd
namespace Go.Proofs.YtcefcdmonfenoaaDoor
open Go.RowKit
set_option maxRecDepth 100000
theorem Bs.at' {w : World} {B : Nat} {A : Option Addr} {n c k : Nat} {l : List UInt8} (h : Bs w B (.slice A n c) l) (hk : k < l.length) : ∃ g o, A = some ⟨g, o, none⟩ ∧ w.cell? ⟨g, o + k, none⟩ = some (.int .u8 ((l[k].toNat : Nat) : Int)) ∧ g < B := by
  obtain ⟨A', c', he, _, _, hc⟩ := h
  injection he with e1 e2 e3
  subst e1
  obtain ⟨g, o, rfl, hg, hc⟩ := hc (by omega)
  exact ⟨g, o, rfl, hc k hk, hg⟩

section
variable {w : World} {base : Nat} {A : Option Addr} {n c k : Nat} {l : List UInt8}
/-- a byte of a row of one's own: where it lies, and that it may be written -/
theorem Own.at' (h : Own w base (.slice A n c) l) (hk : k < l.length) : ∃ g, A = some ⟨g, 0, none⟩ ∧ base ≤ g ∧ w.cell? ⟨g, k, none⟩ = some (.int .u8 ((l[k].toNat : Nat) : Int)) ∧ w.frozen? ⟨g, k, none⟩ = false ∧
    ∀ (x : UInt8) (d : Int), d = (x.toNat : Int) → Own (w.setCell ⟨g, k, none⟩ (.int .u8 d)) base (.slice A n c) (l.set k x) := by
  have hc := h.bs
  unfold Own at h
  obtain ⟨h0, h1⟩ := h
  rcases h1 with ⟨e, hl⟩ | ⟨g, cap, cur, e, hb, hg, hn, hm, hs, ht⟩
  · rw [hl] at hk; omega
  · injection e with e1 e2 e3
    subst e1 e2 e3
    refine ⟨g, rfl, hb, ?_, by simp [World.frozen?, hg], fun x d hd => ?_⟩
    · obtain ⟨A', c', he, _, _, hc⟩ := hc
      injection he with e1 e2 e3
      obtain ⟨g', o', he, _, hcc⟩ := hc (by omega)
      rw [← e1] at he
      injection he with he
      injection he with he1 he2
      subst he1 he2
      have := hcc k hk
      rwa [Nat.zero_add] at this
    · subst hd
      refine ⟨by simp [bvs], .inr ⟨g, c, cur.setIfInBounds k (bv x), by simp, hb, ?_, by simpa using hn, hm, by simpa using hs, ?_⟩⟩
      · have h' : w.heap[g]? = some (.cells cur 5 (0, 0)) := hg
        show (w.setCell ⟨g, k, none⟩ (bv x)).heap[g]? = _
        simp [World.setCell, Array.getElem?_modify, h']
      · rw [Array.toList_setIfInBounds, List.length_set, List.take_set, ht]
        simp [bvs, List.map_set]
/-- a row of one byte -/
theorem Own.one (w : World) (base : Nat) (hb : base ≤ w.heap.size) (x : UInt8) {d : Int} (hd : d = (x.toNat : Int)) : Own (w.alloc (.cells #[.int .u8 d] 5)) base (.slice (some ⟨w.heap.size, 0, none⟩) 1 1) [x] := by
  subst hd
  exact ⟨rfl, .inr ⟨w.heap.size, 1, #[bv x], rfl, hb, heap_alloc_new w _, Nat.le_refl _, by unfold maxLen; omega, rfl, rfl⟩⟩
end
theorem strOf_append (a b : List UInt8) : strOf a ++ strOf b = strOf (a ++ b) := by
  apply ByteArray.ext
  simp [strOf]
theorem strOf_extract (l : List UInt8) (i j : Nat) : (strOf l).extract i j = strOf ((l.take j).drop i) := by
  apply ByteArray.ext
  apply Array.toList_inj.1
  simp [strOf, ByteArray.data_extract, List.drop_take]
theorem strOf_inj {a b : List UInt8} (h : strOf a = strOf b) : a = b := by
  have := congrArg ByteArray.toList h
  rwa [strOf_toList, strOf_toList] at this
end Go.Proofs.YtcefcdmonfenoaaDoor
