/- An argument that is an array of bytes, by value. -/
import Derived.Test.YtcefcdmonfenoaaDoorLay
namespace Go.Proofs.YtcefcdmonfenoaaDoor
open Go.ChangeShapes Go.WideShapes Go.ChangeAt Go.RowKit
set_option maxRecDepth 100000

/-- the array value v holds the bytes l -/
def IsArr (v : Value) (n : Nat) (l : List UInt8) : Prop := v = .agg (bvs l).toArray ∧ l.length = n

theorem list_of_bytes : ∀ (cs : List Value), (∀ i, (h : i < cs.length) → ∃ k : Int, cs[i] = .int .u8 k ∧ (Lit.int .u8 k).wf = true) → ∃ l : List UInt8, cs = bvs l
  | [], _ => ⟨[], rfl⟩
  | c :: cs, h => by
    obtain ⟨k, hk, hw⟩ := h 0 (by simp)
    obtain ⟨l, hl⟩ := list_of_bytes cs (fun i hi => h (i + 1) (by simpa using hi))
    have hb := wf_u8 hw
    refine ⟨UInt8.ofNat k.toNat :: l, ?_⟩
    have e : c = bv (UInt8.ofNat k.toNat) := by
      have : c = .int .u8 k := by simpa using hk
      rw [this]
      show Value.int .u8 _ = Value.int .u8 _
      rw [Wire.ofNat_toNat (by omega)]
      congr 1
      omega
    rw [e, hl]
    rfl

theorem Bs.arr (w : World) (t : TypeId) (l : List UInt8) (hm : l.length ≤ 9223372036854775807) (g n c : Nat) (hg : w.heap.size = g) (hn : n = l.length) (hc : c = l.length) :
    Bs (w.alloc (.cells (bvs l).toArray t)) (w.alloc (.cells (bvs l).toArray t)).heap.size (.slice (some ⟨g, 0, none⟩) n c) l := by
  subst hg hn hc
  refine ⟨_, _, rfl, Nat.le_refl _, hm, fun hl => ⟨w.heap.size, 0, rfl, by simp, fun k hk => ?_⟩⟩
  rw [Nat.zero_add, cell_of_row (w.alloc (.cells (bvs l).toArray t)) w.heap.size k _ t (0, 0) (heap_alloc_new w _)]
  have := bvs_get l k hk
  simpa using this

theorem openArr {H : Type} {enc : TypeId × Value → H} {W : World} {base : Nat} {v : Value} {d : DataW H} {p : List MemPlace} {t : TypeId} {n : Nat} (hu : Tryd.prog.underlying t = some (.array n 5)) (hC : Tryd.prog.cellsOf t = n) (h1 : Tryd.prog.cellsOf 5 = 1)
    (hv : Value.okWide Tryd.prog W .any base t v) (h : DataW.Trod enc Tryd.prog W 0 (fun _ => true) true t v d p) : ∃ l, IsArr v n l := by
  obtain ⟨cs, rfl⟩ : ∃ cs, v = .agg cs := by
    simp only [Value.okWide, hu] at hv
    obtain ⟨cs, h1, h2⟩ := hv
    exact ⟨cs, h1⟩
  obtain ⟨fuel, hf⟩ := h
  obtain ⟨xs, m, _, _, hlen, hxl, hel⟩ := DataW.trod_array hu hf
  obtain ⟨cs⟩ := cs
  have hcl : cs.length = n := by rw [hC] at hlen; simpa [Value.cells] using hlen
  have hb : ∃ l : List UInt8, cs = bvs l := by
    refine list_of_bytes cs fun i hi => ?_
    have hi' : i < n := by omega
    have he := hel i hi'
    rw [h1, Nat.mul_one] at he
    have e1 : ((Value.agg ⟨cs⟩).cells.toList.drop i).take 1 = [cs[i]] := by
      show (cs.drop i).take 1 = _
      rw [List.drop_eq_getElem_cons hi]
      rfl
    rw [e1, List.getElem?_eq_getElem (by omega)] at he
    obtain ⟨k, e2, _, e3⟩ := DataW.trod_int Tryd.underlying5 he
    simp at e2
    exact ⟨k, e2, e3⟩
  obtain ⟨l, rfl⟩ := hb
  exact ⟨l, rfl, by simpa [bvs] using hcl⟩

theorem open_arr8 {H : Type} {enc : TypeId × Value → H} {W : World} {base : Nat} {v : Value} {d : DataW H} {p : List MemPlace} (hv : Value.okWide Tryd.prog W .any base 42 v) (h : DataW.Trod enc Tryd.prog W 0 (fun _ => true) true 42 v d p) : ∃ l, IsArr v 8 l := openArr Tryd.underlying42 (by kernel_rfl) (by kernel_rfl) hv h
theorem open_arr32 {H : Type} {enc : TypeId × Value → H} {W : World} {base : Nat} {v : Value} {d : DataW H} {p : List MemPlace} (hv : Value.okWide Tryd.prog W .any base 22 v) (h : DataW.Trod enc Tryd.prog W 0 (fun _ => true) true 22 v d p) : ∃ l, IsArr v 32 l := openArr Tryd.underlying22 (by kernel_rfl) (by kernel_rfl) hv h
end Go.Proofs.YtcefcdmonfenoaaDoor
