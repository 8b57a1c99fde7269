/- The opening of arguments that are records. -/
import Derived.Test.YtcefcdmonfenoaaDoorOpn
import Derived.Test.YtcefcdmonfenoaaDoorRi
namespace Go.Proofs.YtcefcdmonfenoaaDoor
open Go.ChangeShapes Go.WideShapes Go.ChangeAt Go.RowKit Go.Deep
set_option maxRecDepth 100000
section
variable {H : Type} {enc : TypeId × Value → H} {W : World} {base : Nat} {v : Value} {d : DataW H} {p : List MemPlace}
theorem bssOfCell {n : Nat} {c : Value} {y : DataW H × List MemPlace} (h : DataW.trod enc Tryd.prog W 0 (fun _ => true) true n 47 [c] = some y) : ∃ L, Bss W W.heap.size c L := by
  rcases open_slice1 Tryd.underlying47 (by kernel_rfl) h with ⟨hcs, _⟩ | ⟨a, len, cap, m, n', V, D, Pl, hcs, _, hl, hm, hmm, _, hcell⟩
  · obtain rfl : c = .slice none 0 0 := by simpa using hcs
    exact ⟨[], none, 0, rfl, Nat.le_refl _, by omega, fun h => absurd h (by simp)⟩
  · obtain rfl : c = .slice (some a) len cap := by simpa using hcs
    have hmc : m = cap := by simpa using hmm
    have hex : ∀ i, ∃ l, i < len → Bs W W.heap.size (V i) l := fun i => by
      by_cases hi : i < len
      · obtain ⟨l, hb⟩ := bsOfCell (hcell i (by omega)).2
        exact ⟨l, fun _ => hb⟩
      · exact ⟨[], fun h => absurd h hi⟩
    obtain ⟨f, hf⟩ := Classical.axiomOfChoice hex
    refine ⟨(List.range len).map f, some a, cap, by simp, by simpa using hl, by unfold maxLen at hm; exact hm, fun hp => ?_⟩
    have hp' : 0 < len := by simpa using hp
    obtain ⟨g, o, spot⟩ := a
    have h0 := (hcell 0 (by omega)).1
    have hs : spot = none := by
      cases spot with
      | none => rfl
      | some s =>
        exfalso
        simp only [Addr.add, if_true] at h0
        unfold World.cell? at h0
        split at h0
        · simp at h0
        · simp at h0
    subst hs
    have hlt : g < W.heap.size := by
      have := World.block_lt_of_cell? W _ h0
      simpa [Addr.add] using this
    refine ⟨g, o, rfl, hlt, fun k hk => ⟨V k, ?_, ?_⟩⟩
    · have hk' : k < len := by simpa using hk
      have := (hcell k (by omega)).1
      have ha : (⟨g, o, none⟩ : Addr).add k = ⟨g, o + k, none⟩ := by
        unfold Addr.add
        split
        · next h0 => subst h0; rfl
        · rfl
      rw [ha] at this
      exact this
    · have hk' : k < len := by simpa using hk
      have := hf k hk'
      simpa using this
/-- a record that came in -/
def RecIn (W : World) (v : Value) (R : RV) : Prop := RecVal W W.heap.size v R ∧ R.seq < 18446744073709551616
theorem open_rec (hv : Value.okWide Tryd.prog W .any base 49 v) (h : DataW.Trod enc Tryd.prog W 0 (fun _ => true) true 49 v d p) : ∃ R, RecIn W v R := by
  obtain ⟨cs, n, rfl, hlen, hf⟩ := openStruct Tryd.underlying49 (by kernel_rfl) hv h
  have hlen' : cs.length = 3 := hlen.trans (by kernel_rfl)
  match cs, hlen' with
  | [c0, c1, c2], _ =>
    obtain ⟨y0, t0⟩ := hf 0 c0 rfl _ rfl
    obtain ⟨y1, t1⟩ := hf 1 c1 rfl _ rfl
    obtain ⟨y2, t2⟩ := hf 2 c2 rfl _ rfl
    obtain ⟨l0, b0⟩ := bsOfCell t0
    obtain ⟨x, hx⟩ := intOfCell Tryd.underlying41 t1
    obtain ⟨rfl, q1, q2⟩ := isU64 hx
    obtain ⟨n1, rfl⟩ := Int.eq_ofNat_of_zero_le q1
    obtain ⟨L, b2⟩ := bssOfCell t2
    exact ⟨⟨l0, n1, L⟩, ⟨_, _, rfl, b0, b2⟩, by show n1 < _; omega⟩
theorem open_pcs (hv : Value.okWide Tryd.prog W .any base 47 v) (h : DataW.Trod enc Tryd.prog W 0 (fun _ => true) true 47 v d p) : ∃ L, Bss W W.heap.size v L := by
  obtain ⟨a, n, c, rfl⟩ := okWide_slice Tryd.underlying47 hv
  obtain ⟨m, hm⟩ := h
  exact bssOfCell hm
end
end Go.Proofs.YtcefcdmonfenoaaDoor
