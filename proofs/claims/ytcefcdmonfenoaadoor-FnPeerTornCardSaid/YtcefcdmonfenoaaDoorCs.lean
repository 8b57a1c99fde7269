/- '[]byte(s)' of a string; strings as lists of bytes. -/
import Derived.Test.YtcefcdmonfenoaaDoorStd
import Derived.Lib.ConvBytes
namespace Go.Proofs.YtcefcdmonfenoaaDoor
open Go.RowKit
set_option maxRecDepth 100000

theorem below_freeze {B : Nat} {a w : World} (h : Below B a w) {p : Addr} (hp : B ≤ p.block) (n : Nat) : Below B a (w.freeze p n) := by
  unfold World.freeze
  split
  · exact h
  · refine ⟨h.os, h.tape, h.output, ?_, fun i hi => ?_⟩
    · have := h.size; simpa using this
    · have := h.block i hi
      have hne : p.block ≠ i := by omega
      simpa [Array.getElem?_modify, hne] using this
/-- '[]byte(s)' -/
theorem conv_bytes (w : World) (l : List UInt8) (hlen : l.length ≤ 140737488355328) {src : TypeId} {u : TypeDesc} (hs : Tryd.prog.underlying src = some u) :
    ∃ w1 c, (convert src 23 (.string (strOf l))).run Tryd.prog w = .ok (.slice (some ⟨w.heap.size, 0, none⟩) l.length c) w1 ∧ Bs w1 w1.heap.size (.slice (some ⟨w.heap.size, 0, none⟩) l.length c) l ∧ Below w.heap.size w w1 ∧ l.length ≤ c ∧ c ≤ 9223372036854775807 := by
  have hr := Lib.run_convert_string_bytes (P := Tryd.prog) w src 23 5 (strOf l) hs Tryd.underlying23 Tryd.underlying5
  rw [strOf_size] at hr
  have hge := grownCap_ge w l.length 0 5
  have hcm : grownCap w l.length 0 5 ≤ maxLen := grownCap_le_maxLen w l.length 0 5 (by unfold maxLen; omega)
  unfold maxLen at hcm
  refine ⟨_, _, hr, ⟨_, _, rfl, hge, hcm, fun hl => ⟨w.heap.size, 0, rfl, ?_, fun k hk => ?_⟩⟩, ?_, hge, hcm⟩
  · rw [Lib.bytesWorld_size]; omega
  · rw [Nat.zero_add, Lib.bytesWorld_cell _ _ _ _ (by rw [strOf_size]; exact hk), strOf_data]
    simp [bv, List.getD, hk]
  · exact below_freeze ((below_drew w).alloc (Nat.le_refl _) _) (by simp) _
end Go.Proofs.YtcefcdmonfenoaaDoor
