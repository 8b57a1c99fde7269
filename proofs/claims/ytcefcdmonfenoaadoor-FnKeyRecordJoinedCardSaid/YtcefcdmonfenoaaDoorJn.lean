/- A record made of another's parts, and its parts' stores. -/
import Derived.Test.YtcefcdmonfenoaaDoorWRl
import Derived.Test.YtcefcdmonfenoaaDoorCn
namespace Go.Proofs.YtcefcdmonfenoaaDoor
open Go.RowKit
set_option maxRecDepth 100000
section
variable {w w' wn w11 : World} {B g : Nat} {v : Value} {L : List (List UInt8)} {a b c z0 z1 z2 : Value} {o : Obj} {R : RV}
theorem RecVal.parts {q : Int} (h : RecVal w B (.agg #[a, .int .u64 q, b]) R) : Bs w B a R.peer ∧ q = (R.seq : Int) ∧ Bss w B b R.addrs := by
  obtain ⟨va, vb, e, h1, h2⟩ := h
  injection e with e
  simp only [Array.mk.injEq, List.cons.injEq, Value.int.injEq, true_and, and_true] at e
  obtain ⟨rfl, rfl, rfl⟩ := e
  exact ⟨h1, rfl, h2⟩
theorem Bss.keepU8 {t : TypeId} {cs : Array Value} (h : Bss w w.heap.size v L) (ho : v.ownBlock ≠ some g) (hb : Blk w g t cs) (hn : NoU8 cs) (hg : w.grownBy w' (some g)) : Bss w' w'.heap.size v L := by
  obtain ⟨A, c, rfl, h1, h2, h3⟩ := h
  refine ⟨A, c, rfl, h1, h2, fun hl => ?_⟩
  obtain ⟨g', o, rfl, hg', hc⟩ := h3 hl
  refine ⟨g', o, rfl, Nat.lt_of_lt_of_le hg' hg.size, fun k hk => ?_⟩
  obtain ⟨u, hu, hb'⟩ := hc k hk
  refine ⟨u, (World.cell?_of_block (hg.block g' hg' ?_)).trans hu, (hb'.keepU8 (Nat.le_refl _) hb hn hg).more hg.size⟩
  simpa [Value.ownBlock] using ho
theorem Bsss.drew {M : List (List (List UInt8))} (h : Bsss w w.heap.size v M) : Bsss w.drew w.drew.heap.size v M := h
theorem RowBs.sliceForm {base : Nat} (h : RowBs w base v L) : ∃ A n c, v = .slice A n c := by
  obtain ⟨xs, h1, _⟩ := h; exact h1.sliceForm
theorem RowBs.lt {base : Nat} (h : RowBs w base v L) : ∀ k, v.ownBlock = some k → base ≤ k ∧ k < w.heap.size := by
  obtain ⟨xs, h1, _⟩ := h; exact h1.lt
/-- the record that is made: its block, its addresses -/
structure WantAt (wn w : World) (g : Nat) (a b c : Value) (L : List (List UInt8)) : Prop where
  blk : Blk w g 49 #[a, b, c]
  ads : Bss w w.heap.size c L
  own : c.ownBlock ≠ some g
  bel : Below wn.heap.size wn w
  old : wn.heap.size ≤ g
theorem wantSet {A1 A2 : Option Addr} {n1 c1 n2 c2 : Nat} {x : Int} (h : WantAt wn w g (.slice A1 n1 c1) (.int .u64 x) (.slice A2 n2 c2) L) (i : Nat) (u : Value) :
    ∃ wF, Hid (w.setCell ⟨g, i, none⟩ u = wF) ∧ Blk wF g 49 (#[.slice A1 n1 c1, .int .u64 x, .slice A2 n2 c2].setIfInBounds i u) ∧ Bss wF wF.heap.size (.slice A2 n2 c2) L ∧ Below wn.heap.size wn wF := by
  have gF := grown_setCell (grown_refl w (some g)) (p := ⟨g, i, none⟩) (.inl rfl) u
  exact ⟨_, rfl, h.blk.set i u, h.ads.keepU8 h.own h.blk noU8_rec gF, below_grown h.bel gF (fun k e => by injection e with e; have := h.old; omega)⟩
theorem wantSet0 {A1 A2 A3 : Option Addr} {n1 c1 n2 c2 n3 c3 : Nat} {x : Int} (h : WantAt wn w g (.slice A1 n1 c1) (.int .u64 x) (.slice A2 n2 c2) L) :
    ∃ wF, Hid (w.setCell ⟨g, 0, none⟩ (.slice A3 n3 c3) = wF) ∧ WantAt wn wF g (.slice A3 n3 c3) (.int .u64 x) (.slice A2 n2 c2) L := by
  obtain ⟨wF, h1, h2, h3, h4⟩ := wantSet h 0 (.slice A3 n3 c3)
  exact ⟨wF, h1, h2, h3, h.own, h4, h.old⟩
theorem wantSet1 {A1 A2 : Option Addr} {n1 c1 n2 c2 : Nat} {x y : Int} (h : WantAt wn w g (.slice A1 n1 c1) (.int .u64 x) (.slice A2 n2 c2) L) :
    ∃ wF, Hid (w.setCell ⟨g, 1, none⟩ (.int .u64 y) = wF) ∧ WantAt wn wF g (.slice A1 n1 c1) (.int .u64 y) (.slice A2 n2 c2) L := by
  obtain ⟨wF, h1, h2, h3, h4⟩ := wantSet h 1 (.int .u64 y)
  exact ⟨wF, h1, h2, h3, h.own, h4, h.old⟩
theorem joinA (hrow : RowBs w11 (wn.alloc o).drew.heap.size c L) (hb : Below (wn.alloc o).drew.heap.size (wn.alloc o).drew w11) (a b : Value) :
    ∃ wF g, Hid (w11.alloc (.cells #[a, b, c] 49) = wF) ∧ w11.heap.size = g ∧ WantAt wn wF g a b c L := by
  refine ⟨_, _, rfl, rfl, Blk.new _ _ _, (hrow.bss hb.size).step (below_alloc _ _), fun e => ?_, ?_, ?_⟩
  · have := (hrow.lt _ e).2; omega
  · exact below_trans (below_trans (below_alloc wn o).drew hb) (below_alloc _ _)
  · have := hb.size; simp at this; omega
theorem joinOf {W : World} {g : Nat} {A1 A2 Az1 Az2 : Option Addr} {n1 c1 n2 c2 nz1 cz1 nz2 cz2 : Nat} {x z : Int} (hW : Below wn.heap.size wn W) (hB : Blk W g 49 #[.slice Az1 nz1 cz1, .int .u64 z, .slice Az2 nz2 cz2]) (hg : wn.heap.size ≤ g) (hrow : RowBs w11 W.heap.size (.slice A2 n2 c2) L) (hb : Below W.heap.size W w11) :
    ∃ wF, Hid ((((w11.setCell ⟨g, 0, none⟩ (.slice A1 n1 c1)).setCell ⟨g, 1, none⟩ (.int .u64 x)).setCell ⟨g, 2, none⟩ (.slice A2 n2 c2)) = wF) ∧ WantAt wn wF g (.slice A1 n1 c1) (.int .u64 x) (.slice A2 n2 c2) L := by
  have h0 := hB.step hb
  have hne : (Value.slice A2 n2 c2).ownBlock ≠ some g := fun e => by have := (hrow.lt _ e).1; have := hB.lt; omega
  obtain ⟨wF, h1, h2, h3⟩ := storeThree h0 (.slice A1 n1 c1) (.int .u64 x) (.slice A2 n2 c2)
  exact ⟨wF, h1, h2, (hrow.bss hb.size).keepU8 hne h0 noU8_rec h3, hne, below_grown (below_trans hW hb) h3 (fun k e => by injection e with e; omega), hg⟩
theorem joinB {A1 A2 : Option Addr} {n1 c1 n2 c2 : Nat} {x : Int} (hrow : RowBs w11 ((wn.alloc (.cells #[.slice none 0 0, .int .u64 0, .slice none 0 0] 49)).alloc o).drew.heap.size (.slice A2 n2 c2) L) (hb : Below ((wn.alloc (.cells #[.slice none 0 0, .int .u64 0, .slice none 0 0] 49)).alloc o).drew.heap.size ((wn.alloc (.cells #[.slice none 0 0, .int .u64 0, .slice none 0 0] 49)).alloc o).drew w11) :
    ∃ wF g, Hid ((((w11.setCell ⟨wn.heap.size, 0, none⟩ (.slice A1 n1 c1)).setCell ⟨wn.heap.size, 1, none⟩ (.int .u64 x)).setCell ⟨wn.heap.size, 2, none⟩ (.slice A2 n2 c2)) = wF) ∧ wn.heap.size = g ∧ WantAt wn wF g (.slice A1 n1 c1) (.int .u64 x) (.slice A2 n2 c2) L ∧ Blk w11 (wn.heap.size) 49 #[.slice none 0 0, .int .u64 0, .slice none 0 0] := by
  obtain ⟨wF, h1, h2⟩ := joinOf (x := x) (A1 := A1) (n1 := n1) (c1 := c1) (below_trans (below_alloc wn (.cells #[.slice none 0 0, .int .u64 0, .slice none 0 0] 49)) (below_alloc _ o)).drew ((Blk.new wn 49 #[.slice none 0 0, .int .u64 0, .slice none 0 0]).alloc o).drew (Nat.le_refl _) hrow hb
  exact ⟨wF, _, h1, rfl, h2, ((Blk.new wn 49 #[.slice none 0 0, .int .u64 0, .slice none 0 0]).alloc o).drew.step hb⟩
theorem joinC {A1 A2 : Option Addr} {n1 c1 n2 c2 : Nat} {x : Int} (hrow : RowBs w11 ((wn.alloc o).alloc (.cells #[.slice none 0 0, .int .u64 0, .slice none 0 0] 49)).drew.heap.size (.slice A2 n2 c2) L) (hb : Below ((wn.alloc o).alloc (.cells #[.slice none 0 0, .int .u64 0, .slice none 0 0] 49)).drew.heap.size ((wn.alloc o).alloc (.cells #[.slice none 0 0, .int .u64 0, .slice none 0 0] 49)).drew w11) :
    ∃ wF g, Hid ((((w11.setCell ⟨wn.heap.size + 1, 0, none⟩ (.slice A1 n1 c1)).setCell ⟨wn.heap.size + 1, 1, none⟩ (.int .u64 x)).setCell ⟨wn.heap.size + 1, 2, none⟩ (.slice A2 n2 c2)) = wF) ∧ wn.heap.size + 1 = g ∧ WantAt wn wF g (.slice A1 n1 c1) (.int .u64 x) (.slice A2 n2 c2) L ∧ Blk w11 (wn.heap.size + 1) 49 #[.slice none 0 0, .int .u64 0, .slice none 0 0] := by
  have hz : (wn.alloc o).heap.size = wn.heap.size + 1 := by simp
  have hB := Blk.new (wn.alloc o) 49 #[.slice none 0 0, .int .u64 0, .slice none 0 0]
  rw [hz] at hB
  obtain ⟨wF, h1, h2⟩ := joinOf (x := x) (A1 := A1) (n1 := n1) (c1 := c1) (below_trans (below_alloc wn o) (below_alloc _ (.cells #[.slice none 0 0, .int .u64 0, .slice none 0 0] 49))).drew hB.drew (Nat.le_succ _) hrow hb
  exact ⟨wF, _, h1, rfl, h2, hB.drew.step hb⟩
end
end Go.Proofs.YtcefcdmonfenoaaDoor
