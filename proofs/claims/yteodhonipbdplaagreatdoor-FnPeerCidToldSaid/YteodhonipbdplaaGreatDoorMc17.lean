/- strings.Builder, as this program has it: Grow, WriteByte, Write, String. -/
import Derived.Test.YteodhonipbdplaaGreatDoorMc01
import Derived.Test.YteodhonipbdplaaGreatDoorMc12
import Derived.Test.YteodhonipbdplaaGreatDoorMc13
import Derived.Test.YteodhonipbdplaaGreatDoorMc15
import Derived.Test.YteodhonipbdplaaGreatDoorMc16
import Derived.Lib.Strings
import Derived.Lib.Slices
import Derived.Lib.Small
import Derived.Lib.BitFns
namespace Go.Proofs.YteodhonipbdplaaGreatDoor
open Go.RowKit
set_option maxRecDepth 100000
section
variable {w : World} {b B n : Nat} {v : Value} {l m : List UInt8}
theorem setSame_below (hB : B ≤ b) : Below B w (w.setCell ⟨b, 0, none⟩ (.pointer (some ⟨b, 0, none⟩))) := (Below.refl B w).setCell (p := ⟨b, 0, none⟩) hB _
set_option maxHeartbeats 2000000 in
/-- Grow of a builder that nothing was written to -/
theorem bldGrow (h : Blk w b 95 #[.pointer none, .slice none 0 0]) (hB : B ≤ b) (hBw : B ≤ w.heap.size) (hn : n ≤ 100000) (hpos : 0 < n) :
    Calls Tryz.prog 68 #[.pointer (some ⟨b, 0, none⟩), .int .i64 (n : Int)] w fun e w' => e = .returned (.tuple #[]) ∧ Bld w' B b [] ∧ Below B w w' := by
  have H := Lib.hid h
  have H1 := Lib.hid h.setSame
  have hn0 : ¬ (n : Int) < 0 := by omega
  have B1 := Lib.hid (setSame_below (w := w) hB)
  have hs1 : B ≤ (w.setCell ⟨b, 0, none⟩ (.pointer (some ⟨b, 0, none⟩))).heap.size := Nat.le_trans hBw B1.out.size
  clear h
  go_enter Tryz.func68, Tryz.ntmps68
  go_wp2_with fail
  refine (copyCheckFresh H.out).mono ?_
  rintro e w1 ⟨rfl, hw1⟩
  rw [← hw1] at H1 B1 hs1
  have c1 : w1.cell? ⟨b, 1, none⟩ = some (.slice none 0 0) := H1.out.cell 1
  clear hw1 H
  go_wp2_with fail
  go_quiet (fail)
  have H2 := Lib.hid (H1.out.drewN nq)
  have B2 := Lib.hid (show Below B w (w1.drewN nq) from ⟨B1.out.os, B1.out.tape, B1.out.output, B1.out.size, B1.out.block⟩)
  have hs2 : B ≤ (w1.drewN nq).heap.size := hs1
  generalize w1.drewN nq = w2 at *
  go_wp2_with fail
  refine (bldGrow0 H2.out hB hs2 hn).mono ?_
  rintro e w3 ⟨rfl, hb, hbl⟩
  go_wp2_with fail
  go_end0
  exact ⟨rfl, hb, B2.out.trans hbl⟩
theorem Own.form1 {w : World} {base : Nat} {v : Value} {l : List UInt8} (h : Own w base v l) : ∃ A c, v = .slice A l.length c := by
  rcases h.2 with ⟨rfl, h0⟩ | ⟨g, cap, cur, rfl, _⟩
  · exact ⟨none, 0, by rw [h0]⟩
  · exact ⟨_, _, rfl⟩
theorem Own.form2 {w : World} {base : Nat} {v : Value} {l : List UInt8} (h : Own w base v l) : ∃ A n c, v = .slice A n c := by
  obtain ⟨A, c, rfl⟩ := h.form1
  exact ⟨_, _, _, rfl⟩
/-- what a builder's writer leaves -/
theorem Bld.put {w1 w2 : World} {v v' : Value} {l : List UInt8} (hB : B ≤ b) (h : Blk w1 b 95 #[.pointer (some ⟨b, 0, none⟩), v]) (hne : v.ownBlock ≠ some b) (hg : w1.grownBy w2 v.ownBlock) (ho : Own w2 B v' l) (hm : Moved w1 v v') :
    Bld (w2.setCell ⟨b, 1, none⟩ v') B b l := by
  have h2 : Blk w2 b 95 #[.pointer (some ⟨b, 0, none⟩), v] := h.grown hg (fun e => hne e.symm)
  have hv : v'.ownBlock ≠ some b := by
    rcases hm with e | ⟨g, e, hge⟩
    · rw [e]; exact hne
    · rw [e]; intro e2; injection e2 with e2; have := h.lt; omega
  exact ⟨hB, v', h2.set 1 v', ho.kept (grown_setCell (grown_refl w2 (some b)) (p := ⟨b, 1, none⟩) (.inl rfl) v') (.inr hv), hv⟩
theorem Bld.under {w1 w2 : World} {v v' : Value} {l : List UInt8} (hB : B ≤ b) (hBw : B ≤ w1.heap.size) (ho : Own w1 B v l) (hg : w1.grownBy w2 v.ownBlock) : Below B w1 (w2.setCell ⟨b, 1, none⟩ v') :=
  (below_of_own ho hg hBw).setCell (p := ⟨b, 1, none⟩) hB _
set_option maxHeartbeats 1000000 in
theorem bldByte (h : Bld w B b l) (hBw : B ≤ w.heap.size) (x : UInt8) {d : Int} (hd : d = (x.toNat : Int)) (hl : l.length ≤ 100000) :
    Calls Tryz.prog 70 #[.pointer (some ⟨b, 0, none⟩), .int .u8 d] w fun e w' => e = .returned .nilIface ∧ Bld w' B b (l ++ [x]) ∧ Below B w w' := by
  obtain ⟨hB, v, hb, ho, hne⟩ := h
  obtain ⟨A, c, rfl⟩ := ho.form1
  have HB := Lib.hid hb
  have HO := Lib.hid ho
  have Hne := Lib.hid hne
  have HX := Lib.hid (Own.one w B hBw x hd)
  have hlen := Lib.hid (show l.length + ([x] : List UInt8).length ≤ 140737488355328 by simp; omega)
  have c1 : w.cell? ⟨b, 1, none⟩ = some (.slice A l.length c) := hb.cell 1
  have hbl := hb.lt
  have hBw1 : B ≤ (w.alloc (.cells #[.int .u8 d] 5)).heap.size := by simp; omega
  clear hb ho hne hd
  go_enter Tryz.func70, Tryz.ntmps70
  go_wp2_with fail
  refine (copyCheckUsed HB.out).mono ?_
  rintro e w1 ⟨rfl, rfl⟩
  go_wp2_with (at_builtin; refine wpList_app rfl _ _ rfl (by rfl) (by rfl) (HO.out.alloc _) HX.out.bs hlen.out hBw1 ?_; intro v' w2 ho2 hg2 hnn hmv; obtain ⟨A', n', c', rfl⟩ := ho2.form2; have HO2 := Lib.hid ho2; have HG2 := Lib.hid hg2; have HM2 := Lib.hid hmv; have HB2 := Lib.hid ((HB.out.alloc (.cells #[.int .u8 d] 5)).grown hg2 (fun e => Hne.out e.symm)); have f1 := HB2.out.free 1; have c2 : w2.cell? ⟨b, 1, none⟩ = some (.slice A l.length c) := HB2.out.cell 1; clear ho2 hg2 hnn hmv)
  go_ret
  refine ⟨rfl, Bld.put hB (HB.out.alloc _) Hne.out HG2.out HO2.out HM2.out, ?_⟩
  exact ((Below.refl B w).alloc hBw _).trans (Bld.under hB hBw1 (HO.out.alloc _) HG2.out)
set_option maxHeartbeats 1000000 in
theorem bldWrite (h : Bld w B b l) (hBw : B ≤ w.heap.size) {N C : Nat} {A0 : Option Addr} (hp : Bs w w.heap.size (.slice A0 N C) m) (hN : N = m.length) (hl : l.length ≤ 100000) (hm : m.length ≤ 100000) :
    Calls Tryz.prog 72 #[.pointer (some ⟨b, 0, none⟩), .slice A0 N C] w fun e w' => e = .returned (.tuple #[.int .i64 (N : Int), .nilIface]) ∧ Bld w' B b (l ++ m) ∧ Below B w w' := by
  obtain ⟨hB, v, hb, ho, hne⟩ := h
  obtain ⟨A, c, rfl⟩ := ho.form1
  have HB := Lib.hid hb
  have HO := Lib.hid ho
  have Hne := Lib.hid hne
  have HX := Lib.hid hp
  have hlen := Lib.hid (show l.length + m.length ≤ 140737488355328 by omega)
  have c1 : w.cell? ⟨b, 1, none⟩ = some (.slice A l.length c) := hb.cell 1
  clear hb ho hne hp hN
  go_enter Tryz.func72, Tryz.ntmps72
  go_wp2_with fail
  refine (copyCheckUsed HB.out).mono ?_
  rintro e w1 ⟨rfl, rfl⟩
  go_wp2_with (at_builtin; refine wpList_app rfl _ _ rfl (by rfl) (by rfl) HO.out HX.out hlen.out hBw ?_; intro v' w2 ho2 hg2 hnn hmv; obtain ⟨A', n', c', rfl⟩ := ho2.form2; have HO2 := Lib.hid ho2; have HG2 := Lib.hid hg2; have HM2 := Lib.hid hmv; have HB2 := Lib.hid (HB.out.grown hg2 (fun e => Hne.out e.symm)); have f1 := HB2.out.free 1; have c2 : w2.cell? ⟨b, 1, none⟩ = some (.slice A l.length c) := HB2.out.cell 1; clear ho2 hg2 hnn hmv)
  go_ret2
  exact ⟨rfl, Bld.put hB HB.out Hne.out HG2.out HO2.out HM2.out, Bld.under hB hBw HO.out HG2.out⟩
set_option maxHeartbeats 2000000 in
theorem bldString (h : Bld w B b l) (h0 : l ≠ []) :
    Calls Tryz.prog 73 #[.pointer (some ⟨b, 0, none⟩)] w fun e w' => e = .returned (.string (strOf l)) ∧ Below B w w' := by
  obtain ⟨hB, v, hb, ho, hne⟩ := h
  have hl0 : l.length ≠ 0 := by simpa using h0
  obtain ⟨g, cap, rfl, hbg, hgl, hnc, hcm⟩ : ∃ g cap, v = .slice (some ⟨g, 0, none⟩) l.length cap ∧ B ≤ g ∧ g < w.heap.size ∧ l.length ≤ cap ∧ cap ≤ 9223372036854775807 := by
    rcases ho.form with ⟨_, hz⟩ | ⟨g, c, h1, h2, h3, h4, h5⟩
    · exact absurd hz h0
    · exact ⟨g, c, h1, h2, h3, h4, h5⟩
  have c1 : w.drew.cell? ⟨b, 1, none⟩ = some (.slice (some ⟨g, 0, none⟩) l.length cap) := hb.drew.cell 1
  have hSD : (Builtin.unsafeSliceData_ #[23] 126 #[.slice (some ⟨g, 0, none⟩) l.length cap]).run Tryz.prog w.drew = .ok (.pointer (some ⟨g, 0, none⟩)) w.drew :=
    Lib.run_unsafeSliceData_row _ _ _ _ _ _ (by omega)
  have hUS : (Builtin.unsafeString_ #[126, 3] 9 #[.pointer (some ⟨g, 0, none⟩), .int .i64 l.length]).run Tryz.prog w.drew = .ok (.string ⟨l.toArray⟩) (w.drew.freeze ⟨g, 0, none⟩ l.length) := by
    obtain ⟨cur, hcur, hsz⟩ : ∃ cur, w.drew.heap[g]? = some (.cells cur 5 (0, 0)) ∧ cur.size = cap := by
      rcases ho.2 with ⟨hv, _⟩ | ⟨g', cap', cur, hv, _, hg, _, _, hcs, _⟩
      · injection hv with e; cases e
      · injection hv with e1 e2 e3
        injection e1 with e1
        injection e1 with e1
        subst e1 e3
        exact ⟨cur, hg, by omega⟩
    refine Lib.run_unsafeString_row w.drew 126 3 9 5 Tryz.underlying126 (by kernel_rfl) g cur.size (by simp [World.shape?, hcur]) l h0 (by omega) (by omega) ?_
    intro j x hx
    exact ho.cells (g := g) rfl j (.int .u8 x.toNat) (by simp [bvs, bv, hx])
  have mixed : Tryz.prog.follows Departure.mixedOrders = true := by kernel_rfl
  have hend : Below B w (w.drew.freeze ⟨g, 0, none⟩ l.length) := Lib.below_freeze (Below.drew (Below.refl B w)) (p := ⟨g, 0, none⟩) hbg _
  clear hb ho hne
  go_enter Tryz.func73, Tryz.ntmps73
  go_wp2_with fail
  go_region_o
  all_goals
    go_wp2
    go_ret
    exact ⟨rfl, hend⟩
end
end Go.Proofs.YteodhonipbdplaaGreatDoor

/- Numbers of seven bits as varints: their size and their byte. -/
namespace Go.Proofs.YteodhonipbdplaaGreatDoor
open Go.RowKit
set_option maxRecDepth 100000
set_option maxHeartbeats 1000000 in
theorem len64s {x : Int} (w : World) (h0 : 0 ≤ x) (h1 : x ≤ 127) :
    Calls Tryz.prog 105 #[.int .u64 x] w fun e w' => (∃ b : Nat, e = .returned (.int .i64 (b : Int)) ∧ b ≤ 7) ∧ w = w' := by
  have t1 : ¬ (4294967296 : Int) ≤ x := by omega
  have t2 : ¬ (65536 : Int) ≤ x := by omega
  have t3 : ¬ (256 : Int) ≤ x := by omega
  have hl := Lib.len8_of x h0 (by omega)
  have hb := Lib.bitLen_le x.toNat 7 (by omega) (by omega)
  obtain ⟨b, hbe⟩ : ∃ b, b = Lib.bitLen x.toNat := ⟨_, rfl⟩
  rw [← hbe] at hl hb
  have hix : ∀ (W : World) (t : TypeId), Tryz.prog.underlying t = some .string → (Instr.index t (.string Lib.len8tab) (.int .u8 x)).run Tryz.prog W = .ok (.int .u8 (b : Int)) W := fun W t ht => by
    rw [Lib.run_index_len8tab W t .u8 x ht h0 (by omega), hl]
  have hix' := fun W : World => hix W 9 Tryz.underlying9
  clear hl hbe hix
  go_enter Tryz.func105, Tryz.ntmps105
  go_wp2
  go_ret
  rcases (by omega : b = 0 ∨ b = 1 ∨ b = 2 ∨ b = 3 ∨ b = 4 ∨ b = 5 ∨ b = 6 ∨ b = 7) with rfl | rfl | rfl | rfl | rfl | rfl | rfl | rfl <;> exact ⟨⟨_, rfl, by omega⟩, rfl⟩
theorem uvSize1 {x : Int} (w : World) (h0 : 0 ≤ x) (h1 : x ≤ 127) :
    Calls Tryz.prog 69 #[.int .u64 x] w fun e w' => e = .returned (.int .i64 1) ∧ w = w' := by
  go_enter Tryz.func69, Tryz.ntmps69
  go_wp2_with fail
  refine (len64s w h0 h1).mono ?_
  rintro e w2 ⟨⟨b, rfl, hb⟩, rfl⟩
  rcases (by omega : b = 0 ∨ b = 1 ∨ b = 2 ∨ b = 3 ∨ b = 4 ∨ b = 5 ∨ b = 6 ∨ b = 7) with rfl | rfl | rfl | rfl | rfl | rfl | rfl | rfl
  all_goals
    go_wp2_with fail
    go_ret
    exact ⟨rfl, rfl⟩
theorem putUv1 {w : World} {g o n c x : Nat} {t : TypeId} {L : List UInt8} (h : Blk w g t (bvs L).toArray) (hn : 1 ≤ n) (ho : o < L.length) (hx : x ≤ 127) :
    Calls Tryz.prog 106 #[.slice (some ⟨g, o, none⟩) n c, .int .u64 (x : Int)] w fun e w' => e = .returned (.int .i64 1) ∧ Blk w' g t (bvs (L.set o (UInt8.ofNat x))).toArray ∧ w.grownBy w' (some g) := by
  have H := Lib.hid h
  obtain ⟨d0, c0⟩ : ∃ v, w.cell? ⟨g, o, none⟩ = some v := ⟨_, byteLies h (k := o) ho⟩
  have f0 := h.free o
  have t1 : ¬ (128 : Int) ≤ (x : Int) := by omega
  have n0 : (0 : Int) < (n : Int) := by omega
  have x256 : (x : Int) % 256 = (x : Int) := by omega
  clear h
  go_enter Tryz.func106, Tryz.ntmps106
  go_wp2_with fail
  go_loopw [1, 5] (fun s1 s5 wr => s1 = .int .u64 (x : Int) ∧ s5 = .int .i64 0 ∧ wr = w) (fun _ _ _ => 0)
  case atStart => exact ⟨rfl, rfl, rfl⟩
  case round =>
    obtain ⟨rfl, rfl, hw⟩ := hrel
    subst hw
    go_wp2_with fail
    go_ret
    have h1 := byteSet (k := o) (n := x) H.out (x := (x : Int)) (by omega)
    have G := grown_setCell (grown_refl wr (some g)) (p := ⟨g, o, none⟩) (.inl rfl) (.int .u8 (x : Int))
    exact ⟨rfl, h1, G⟩
theorem putUv {w : World} {g o n c x : Nat} {t : TypeId} {L : List UInt8} (h : Blk w g t (bvs L).toArray) (hn : 1 ≤ n) (ho : o < L.length) (hx : x ≤ 127) :
    Calls Tryz.prog 71 #[.slice (some ⟨g, o, none⟩) n c, .int .u64 (x : Int)] w fun e w' => e = .returned (.int .i64 1) ∧ Blk w' g t (bvs (L.set o (UInt8.ofNat x))).toArray ∧ w.grownBy w' (some g) := by
  have H := Lib.hid h
  clear h
  go_enter Tryz.func71, Tryz.ntmps71
  go_wp2_with fail
  refine (putUv1 (c := c) H.out hn ho hx).mono ?_
  rintro e w2 ⟨rfl, h2, hg⟩
  go_wp2_with fail
  go_ret
  exact ⟨rfl, h2, hg⟩
end Go.Proofs.YteodhonipbdplaaGreatDoor

/- NewCidV1 and ToCid. -/
namespace Go.Proofs.YteodhonipbdplaaGreatDoor
open Go.RowKit
set_option maxRecDepth 100000
section
variable {w : World} {b B n N C : Nat} {v : Value} {l m : List UInt8} {A : Option Addr}
theorem Bld.alloc (h : Bld w B b l) (o : Obj) : Bld (w.alloc o) B b l := by
  obtain ⟨hB, v, hb, ho, hne⟩ := h
  exact ⟨hB, v, hb.alloc o, ho.alloc o, hne⟩
theorem Bld.keepNew {w1 : World} {k : Nat} (h : Bld w B b l) (hw : w.heap.size = k) {o : Obj} (hg : (w.alloc o).grownBy w1 (some k)) : Bld w1 B b l := by
  obtain ⟨hB, v, hb, ho, hne⟩ := h
  refine ⟨hB, v, (hb.alloc o).grown hg (by intro e; injection e with e; have := hb.lt; omega), (ho.alloc o).kept hg ?_, hne⟩
  right
  intro e
  have := (ho.lt k e).2
  omega
theorem one10 (W : World) (g : Nat) : (Instr.sliceAt 99 (.pointer (some ⟨g, 0, none⟩)) none (some (.int .i64 1)) none).run Tryz.prog W = .ok (.slice (some ⟨g, 0, none⟩) 1 10) W := by
  have ha : Tryz.prog.arrayLen 99 = 10 := by kernel_rfl
  have he : Tryz.prog.elem 99 = 5 := by kernel_rfl
  have hu : Tryz.prog.underlying 99 = some (.array (Tryz.prog.arrayLen 99) (Tryz.prog.elem 99)) := by rw [ha, he]; exact Tryz.underlying99
  obtain ⟨i0, hi, hz0, hz1, hz2⟩ := info_parts Tryz.info5
  rw [run_sliceAt_array_h W 99 ⟨g, 0, none⟩ hu .i64 1 (by omega) (by rw [ha]; omega), ha, he]
  simp [sizeOf, typeInfo, hi, hz1, slicedAt, Addr.add]
set_option maxHeartbeats 2000000 in
theorem newCid (h : Bs w w.heap.size (.slice A N C) m) (hN : N = m.length) (hm : m.length ≤ 1000) :
    Calls Tryz.prog 50 #[.int .u64 114, .slice A N C] w fun e w' => e = .returned (.agg #[.string (strOf (1 :: 114 :: m))]) ∧ Below w.heap.size w w' := by
  have H := Lib.hid h
  have HN := Lib.hid hN
  have hNb : (N : Int) ≤ 1000 := by omega
  clear h hN
  go_enter Tryz.func50, Tryz.ntmps50
  go_wp2_with fail
  obtain ⟨gr, hgr⟩ : ∃ x, x = w.heap.size := ⟨_, rfl⟩
  obtain ⟨b, hb⟩ : ∃ x, x = w.heap.size + 1 := ⟨_, rfl⟩
  obtain ⟨w1, hw1⟩ : ∃ w1, w1 = (w.alloc (.cells #[.string { data := #[] }] 41)).alloc (.cells #[.pointer none, .slice none 0 0] 95) := ⟨_, rfl⟩
  have KR := Lib.hid (show Blk w1 gr 41 #[.string { data := #[] }] by rw [hw1, hgr]; exact (Blk.new _ _ _).alloc _)
  have KB := Lib.hid (show Blk w1 b 95 #[.pointer none, .slice none 0 0] by
    rw [hw1, hb]
    have := Blk.new (w.alloc (.cells #[.string { data := #[] }] 41)) 95 #[.pointer none, .slice none 0 0]
    simpa using this)
  have B1 := Lib.hid (show Below w.heap.size w w1 by rw [hw1]; exact (below_alloc w _).alloc (by simp) _)
  rw [← hw1, ← hb, ← hgr]
  have hgrb : gr < b := by omega
  have hwb : w.heap.size ≤ b := by omega
  have Hgr := Lib.hid hgr
  clear hgr hb hw1
  have hb1 : b ≤ w1.heap.size := Nat.le_of_lt KB.out.lt
  have hgw := KB.out.lt
  refine (uvSize1 w1 (by omega) (by omega)).mono ?_
  rintro e w2 ⟨rfl, rfl⟩
  go_wp2_with fail
  have hg := bldGrow (n := 2 + N) KB.out (Nat.le_refl b) hb1 (by have := HN.out; omega) (by omega)
  rw [show ((2 + N : Nat) : Int) = 2 + (N : Int) by omega] at hg
  refine hg.mono ?_
  rintro e w2 ⟨rfl, hbd, hbl⟩
  have HB := Lib.hid hbd
  have B2 := Lib.hid (B1.out.trans (hbl.mono hwb))
  have KR2 := Lib.hid (KR.out.below hbl hgrb)
  have hb2 : b ≤ w2.heap.size := Nat.le_trans hb1 hbl.size
  clear hg hbd hbl KB KR hb1
  go_wp2_with fail
  refine (bldByte HB.out hb2 1 rfl (by simp)).mono ?_
  rintro e w3 ⟨rfl, hbd, hbl⟩
  have HB3 := Lib.hid hbd
  have B3 := Lib.hid (B2.out.trans (hbl.mono hwb))
  have KR3 := Lib.hid (KR2.out.below hbl hgrb)
  have hb3 : b ≤ w3.heap.size := Nat.le_trans hb2 hbl.size
  clear hbd hbl HB B2 KR2
  go_wp2_with fail
  obtain ⟨gb, hgb⟩ : ∃ x, x = w3.heap.size := ⟨_, rfl⟩
  obtain ⟨w4, hw4⟩ : ∃ w4, w4 = w3.alloc (.cells #[.int .u8 0, .int .u8 0, .int .u8 0, .int .u8 0, .int .u8 0, .int .u8 0, .int .u8 0, .int .u8 0, .int .u8 0, .int .u8 0] 99) := ⟨_, rfl⟩
  have KT := Lib.hid (show Blk w4 gb 99 (bvs (List.replicate 10 0)).toArray by rw [hw4, hgb]; exact Blk.new _ _ _)
  rw [← hw4, ← hgb]
  refine (putUv (x := 114) KT.out (by omega) (by simp) (by omega)).mono ?_
  rintro e w5 ⟨rfl, hk5, hg5⟩
  have HB5 := Lib.hid (HB3.out.keepNew hgb.symm (by rw [← hw4]; exact hg5))
  have B5 := Lib.hid (show Below w.heap.size w w5 from (by rw [hw4] at hg5; exact below_grown (B3.out.alloc B3.out.size _) hg5 (fun k e => by injection e with e; have := B3.out.size; omega)))
  have hb5 : b ≤ w5.heap.size := Nat.le_trans (Nat.le_trans hb3 (by rw [hw4]; simp)) hg5.size
  have KR5 := Lib.hid (show Blk w5 gr 41 #[.string { data := #[] }] from (by rw [hw4] at hg5; exact (KR3.out.alloc _).grown hg5 (by intro e; injection e with e; omega)))
  have KT5 := Lib.hid (((Bs.ofRowBlk (n := 10) (by simp) hk5 (by simp)).front (k := 1) (by simp)).cast (m := [114]) (by simp [List.replicate]))
  have ho10 := fun W : World => one10 W gb
  clear KT HB3 B3 KR3 hk5 hg5 hw4 hgb
  go_wp2_with fail
  refine (bldWrite HB5.out hb5 KT5.out rfl (by simp) (by simp)).mono ?_
  rintro e w6 ⟨rfl, hbd, hbl⟩
  have HB6 := Lib.hid hbd
  have B6 := Lib.hid (B5.out.trans (hbl.mono hwb))
  have KR6 := Lib.hid (KR5.out.below hbl hgrb)
  have hb6 : b ≤ w6.heap.size := Nat.le_trans hb5 hbl.size
  clear hbd hbl HB5 B5 KR5 KT5
  go_wp2_with fail
  refine (bldWrite HB6.out hb6 (H.out.step B6.out) HN.out (by simp) (by omega)).mono ?_
  rintro e w7 ⟨rfl, hbd, hbl⟩
  have HB7 := Lib.hid (show Bld w7 b b (1 :: 114 :: m) from (by simpa using hbd))
  have B7 := Lib.hid (B6.out.trans (hbl.mono hwb))
  have KR7 := Lib.hid (KR6.out.below hbl hgrb)
  have hb7 : b ≤ w7.heap.size := Nat.le_trans hb6 hbl.size
  clear hbd hbl HB6 B6 KR6 ho10 H
  go_wp2_with fail
  refine (bldString HB7.out (by simp)).mono ?_
  rintro e w8 ⟨rfl, hbl⟩
  have B8 := Lib.hid (B7.out.trans (hbl.mono hwb))
  have KR8 := Lib.hid (KR7.out.below hbl hgrb)
  obtain ⟨S, hS⟩ : ∃ S, S = strOf (1 :: 114 :: m) := ⟨_, rfl⟩
  rw [← hS]
  have HS := Lib.hid hS
  have c0 : w8.cell? ⟨gr, 0, none⟩ = some (.string { data := #[] }) := KR8.out.cell 0
  have f0 := KR8.out.free 0
  have y0 : (w8.setCell ⟨gr, 0, none⟩ (.string S)).cell? ⟨gr, 0, none⟩ = some (.string S) := (KR8.out.set 0 (.string S)).cell 0
  clear hbl HB7 B7 KR7 hS
  go_wp2_with fail
  refine bodyPost_ret (by simp [results, Tryz.results50, go_sem, y0]; rfl) rfl ?_
  exact ⟨by rw [HS.out], below_grown B8.out (grown_setCell (grown_refl w8 (some gr)) (p := ⟨gr, 0, none⟩) (.inl rfl) (.string S)) (fun k e => by injection e with e; have := Hgr.out; omega)⟩
set_option maxHeartbeats 1000000 in
theorem toCid (he : MErr w) (hok : Mh.ok m = true) (hm : m.length ≤ 1000) :
    Calls Tryz.prog 29 #[.string (strOf m)] w fun e w' => e = .returned (.agg #[.string (strOf (1 :: 114 :: m))]) ∧ Below w.heap.size w w' := by
  have He := Lib.hid he
  have Hok := Lib.hid hok
  have HC := Lib.hid (fun W => conv_bytes W m (by omega) (src := 43) Tryz.underlying43)
  obtain ⟨S, hS⟩ : ∃ S, S = strOf m := ⟨_, rfl⟩
  obtain ⟨S2, hS2⟩ : ∃ S, S = strOf (1 :: 114 :: m) := ⟨_, rfl⟩
  rw [← hS] at HC
  rw [← hS, ← hS2]
  have HS2 := Lib.hid hS2
  clear hS hS2 he hok
  obtain ⟨gr, hgr⟩ : ∃ x, x = w.heap.size := ⟨_, rfl⟩
  have B1 := Lib.hid (below_alloc w (.cells #[.string { data := #[] }] 41))
  have K1 := Lib.hid (show Blk (w.alloc (.cells #[.string { data := #[] }] 41)) gr 41 #[.string { data := #[] }] by rw [hgr]; exact Blk.new _ _ _)
  obtain ⟨w2, c, hr, hbs, hbl, hc, hcm⟩ := HC.out (w.alloc (.cells #[.string { data := #[] }] 41))
  obtain ⟨gc, hgc⟩ : ∃ x, x = (w.alloc (.cells #[.string { data := #[] }] 41)).heap.size := ⟨_, rfl⟩
  rw [← hgc] at hr hbs
  clear hgc
  have B2 := Lib.hid (below_trans B1.out hbl)
  have K2 := Lib.hid (K1.out.step hbl)
  have H2 := Lib.hid hbs
  have Hgr := Lib.hid hgr
  clear hbs hbl HC K1 B1 hgr
  go_enter Tryz.func29, Tryz.ntmps29
  go_wp2_with fail
  refine (mhCast H2.out (He.out.step B2.out) (by omega)).mono ?_
  rintro e w3 ⟨hb, ⟨_, rfl⟩ | ⟨h1, _⟩⟩
  rotate_left
  · rw [Hok.out] at h1; cases h1
  have B3 := Lib.hid (below_trans B2.out hb)
  have K3 := Lib.hid (K2.out.step hb)
  have H3 := Lib.hid (H2.out.step hb)
  clear hb H2 B2 K2 hr
  rw [← Hgr.out]
  go_wp2_with fail
  refine (newCid H3.out rfl hm).mono ?_
  rintro e w4 ⟨rfl, hb⟩
  have B4 := Lib.hid (below_trans B3.out hb)
  have K4 := Lib.hid (K3.out.step hb)
  rw [← HS2.out]
  have c0 : w4.cell? ⟨gr, 0, none⟩ = some (.string { data := #[] }) := K4.out.cell 0
  have f0 := K4.out.free 0
  have y0 : (w4.setCell ⟨gr, 0, none⟩ (.string S2)).cell? ⟨gr, 0, none⟩ = some (.string S2) := (K4.out.set 0 (.string S2)).cell 0
  clear hb B3 K3 H3
  go_wp2_with fail
  refine bodyPost_ret (by simp [results, Tryz.results29, go_sem, y0]; rfl) rfl ?_
  exact ⟨by rfl, below_grown B4.out (grown_setCell (grown_refl w4 (some gr)) (p := ⟨gr, 0, none⟩) (.inl rfl) (.string S2)) (fun k e => by injection e with e; have := Hgr.out; omega)⟩
end
end Go.Proofs.YteodhonipbdplaaGreatDoor

/- A multihash as an ID. -/
namespace Go.Proofs.YteodhonipbdplaaGreatDoor
open Go.RowKit
set_option maxRecDepth 100000
/-- 'ID(hash)' -/
theorem conv_strM {w : World} {B : Nat} {v : Value} {l : List UInt8} (h : Bs w B v l) {dst : TypeId} (hd : Tryz.prog.underlying dst = some .string) : (convert 68 dst v).run Tryz.prog w = .ok (.string (strOf l)) w := by
  obtain ⟨A, c, rfl, h1, h2, h3⟩ := h
  rcases Nat.eq_zero_or_pos l.length with h0 | h0
  · have := List.length_eq_zero_iff.1 h0
    subst this
    rw [show ([] : List UInt8).length = 0 from rfl, run_convert_bytes_string w 68 dst 5 _ 0 c Tryz.underlying68 Tryz.underlying5 hd]
    cases A <;> simp [Conv.bytesToString, loadCells] <;> rfl
  · obtain ⟨g, o, rfl, _, hc⟩ := h3 h0
    have hs : strOf l = strOfNums (l.map fun u => (u.toNat : Int)) := by
      unfold strOf strOfNums
      congr 2
      rw [List.map_map]
      conv => lhs; rw [← List.map_id l]
      refine List.map_congr_left fun u _ => ?_
      simp
    rw [hs]
    refine run_convert_bytes_arg w 68 5 Tryz.underlying68 Tryz.underlying5 g o l.length c _ (by simp) (fun i hi => ?_) dst hd
    rw [hc i hi]
    simp [bv, List.getD, hi]
end Go.Proofs.YteodhonipbdplaaGreatDoor

/- The text of a CID: multibase's Encode at base 32, Cid.String. -/
namespace Go.Proofs.YteodhonipbdplaaGreatDoor
open Go.RowKit
set_option maxRecDepth 100000
/-- the text of a CID -/
def cidText (m : List UInt8) : ByteArray := ({ data := #[98] } : ByteArray) ++ strOf (B32.enc B32.alpha (1 :: 114 :: m))
section
variable {w : World} {l m : List UInt8} {gs : Nat} {v : Value}
theorem below_hid {a b : World} (h : Below a.heap.size a b) : Hid (Below a.heap.size a b) := Lib.hid h
set_option maxHeartbeats 1000000 in
theorem mbEncode {os n c : Nat} (hs : Bs w w.heap.size (.slice (some ⟨gs, os, none⟩) n c) l) (hn : n = l.length) (hl0 : 0 < n) (hl : n ≤ 1000) :
    Calls Tryz.prog 57 #[.int .i64 98, .slice (some ⟨gs, os, none⟩) n c] w fun e w' => e = .returned (.tuple #[.string (({ data := #[98] } : ByteArray) ++ strOf (B32.enc B32.alpha l)), .nilIface]) ∧ Below w.heap.size w w' := by
  have HS := Lib.hid hs
  have Hn := Lib.hid hn
  have hsz : (strOf (B32.enc B32.alpha l)).size ≤ 2000 := by rw [strOf_size, B32.enc_length]; omega
  clear hs hn
  obtain ⟨S, hS⟩ : ∃ S, S = strOf (B32.enc B32.alpha l) := ⟨_, rfl⟩
  rw [← hS] at hsz ⊢
  have HSt := Lib.hid hS
  clear hS
  go_enter Tryz.func57, Tryz.ntmps57
  go_wp2_with fail
  refine (lowNoPad w).mono ?_
  rintro e w1 ⟨g, rfl, hk, hb⟩
  have B := Lib.hid hb
  have HS1 := Lib.hid (HS.out.step hb)
  clear hb
  go_wp2_with fail
  refine (encToString hk.out HS1.out Hn.out hl0 hl).mono ?_
  rintro e w2 ⟨rfl, hb⟩
  have B2 := Lib.hid (below_trans B.out hb)
  rw [← HSt.out]
  clear hb
  go_wp2_with fail
  go_ret2
  exact ⟨rfl, B2.out⟩
set_option maxHeartbeats 1000000 in
theorem cidString (hm : m.length ≤ 900) :
    Calls Tryz.prog 34 #[.agg #[.string (strOf (1 :: 114 :: m))]] w fun e w' => e = .returned (.string (cidText m)) ∧ Below w.heap.size w w' := by
  have HV := Lib.hid (fun W => cidVersion (w := W) (l := 114 :: m) 1 (by decide))
  have HB := Lib.hid (fun W => cidBytes (w := W) (l := 1 :: 114 :: m) (by simp) (by simp; omega))
  have HM := Lib.hid (fun (W : World) (gb c n : Nat) (hb : Bs W W.heap.size (.slice (some ⟨gb, 0, none⟩) n c) (1 :: 114 :: m)) (hn : n = (1 :: 114 :: m).length) => mbEncode (w := W) hb hn (by rw [hn]; simp) (by rw [hn]; simp; omega))
  obtain ⟨T, hT⟩ : ∃ T, T = cidText m := ⟨_, rfl⟩
  have hT2 : T = ({ data := #[98] } : ByteArray) ++ strOf (B32.enc B32.alpha (1 :: 114 :: m)) := hT
  obtain ⟨q, hq⟩ : ∃ q, q = (1 :: 114 :: m : List UInt8).length := ⟨_, rfl⟩
  obtain ⟨S, hS⟩ : ∃ S, S = strOf (1 :: 114 :: m) := ⟨_, rfl⟩
  rw [← hT2] at HM
  rw [← hS, ← hq] at HB
  have HV' := Lib.hid (fun W => (show Calls Tryz.prog 55 #[.agg #[.string S]] W fun e w' => e = .returned (.int .u64 1) ∧ Below W.heap.size W w' by rw [hS]; exact HV.out W))
  rw [← hS, ← hT]
  have B := Lib.hid (below_alloc w (.cells #[.string S] 41))
  have K := Lib.hid (Blk.new w 41 #[.string S])
  have Hq := Lib.hid hq
  clear hT hT2 hS hq HV
  go_enter Tryz.func34, Tryz.ntmps34
  go_wp2_with fail
  refine (HV'.out _).mono ?_
  rintro e w1 ⟨rfl, hb⟩
  have B1 := Lib.hid (below_trans B.out hb)
  have c0 : w1.cell? ⟨w.heap.size, 0, none⟩ = some (.string S) := (K.out.step hb).cell 0
  clear hb
  go_wp2_with fail
  refine (HB.out w1).mono ?_
  rintro e w2 ⟨gb, c, rfl, hbs, hb, hc⟩
  have B2 := Lib.hid (below_trans B1.out hb)
  clear hb
  go_wp2_with fail
  refine (HM.out w2 gb c q hbs.out Hq.out).mono ?_
  rintro e w3 ⟨rfl, hb⟩
  have B3 := Lib.hid (below_trans B2.out hb)
  clear hb
  go_wp2_with fail
  go_ret
  exact ⟨rfl, B3.out⟩
set_option maxHeartbeats 1000000 in
theorem peerCidText (h : Bs w w.heap.size v m) (he : MErr w) (hok : Mh.ok m = true) (hm : m.length ≤ 900) :
    Calls Tryz.prog 13 #[v] w fun e w' => e = .returned (.string (cidText m)) ∧ Below w.heap.size w w' := by
  have hcv := conv_str h (dst := 43) Tryz.underlying43
  have HT := Lib.hid (toCid (w := w) he hok (by omega))
  have HD := Lib.hid (fun W => cidDefined (w := W) (l := 1 :: 114 :: m) (by simp))
  have HX := Lib.hid (fun W => cidString (w := W) (m := m) hm)
  obtain ⟨S, hS⟩ : ∃ S, S = strOf (1 :: 114 :: m) := ⟨_, rfl⟩
  obtain ⟨S0, hS0⟩ : ∃ S, S = strOf m := ⟨_, rfl⟩
  obtain ⟨T, hT⟩ : ∃ T, T = cidText m := ⟨_, rfl⟩
  rw [← hS] at HT HD HX
  rw [← hS0] at hcv HT
  rw [← hT] at HX ⊢
  obtain ⟨A, n, c, rfl, _, _, _⟩ := h.form'
  clear h he hok hS hS0 hT
  go_enter Tryz.func13, Tryz.ntmps13
  go_wp2_with fail
  refine HT.out.mono ?_
  rintro e w1 ⟨rfl, hb⟩
  have B1 := Lib.hid (below_trans hb (below_alloc w1 (.cells #[.string S] 41)))
  have K := Lib.hid (Blk.new w1 41 #[.string S])
  clear hb
  go_wp2_with fail
  refine (HD.out _).mono ?_
  rintro e w2 ⟨rfl, hb⟩
  have B2 := Lib.hid (below_trans B1.out hb)
  have c0 : w2.cell? ⟨w1.heap.size, 0, none⟩ = some (.string S) := (K.out.step hb).cell 0
  clear hb
  go_wp2_with fail
  refine (HX.out w2).mono ?_
  rintro e w3 ⟨rfl, hb⟩
  have B3 := Lib.hid (below_trans B2.out hb)
  clear hb
  go_wp2_with fail
  go_ret
  exact ⟨rfl, B3.out⟩
set_option maxHeartbeats 1000000 in
theorem peerCid (h : Bs w w.heap.size v m) (he : MErr w) (hok : Mh.ok m = true) (hm : m.length ≤ 900) :
    Calls Tryz.prog 8 #[v] w fun e w' => Fresh w (1 :: 114 :: m) e w' := by
  have hcv := conv_str h (dst := 43) Tryz.underlying43
  have HT := Lib.hid (toCid (w := w) he hok (by omega))
  have HD := Lib.hid (fun W => cidDefined (w := W) (l := 1 :: 114 :: m) (by simp))
  have HX := Lib.hid (fun W => cidBytes (w := W) (l := 1 :: 114 :: m) (by simp) (by simp; omega))
  have hlen : (1 :: 114 :: m : List UInt8).length ≤ 140737488355328 := by simp; omega
  have Hlen := Lib.hid hlen
  obtain ⟨S, hS⟩ : ∃ S, S = strOf (1 :: 114 :: m) := ⟨_, rfl⟩
  obtain ⟨S0, hS0⟩ : ∃ S, S = strOf m := ⟨_, rfl⟩
  obtain ⟨q, hq⟩ : ∃ q, q = (1 :: 114 :: m : List UInt8).length := ⟨_, rfl⟩
  rw [← hS] at HT HD HX
  rw [← hq] at HX
  rw [← hS0] at hcv HT
  obtain ⟨A, n, c, rfl, _, _, _⟩ := h.form'
  clear h he hok hS hS0 hq hlen
  go_enter Tryz.func8, Tryz.ntmps8
  go_wp2_with fail
  refine HT.out.mono ?_
  rintro e w1 ⟨rfl, hb⟩
  have B1 := Lib.hid (below_trans hb (below_alloc w1 (.cells #[.string S] 41)))
  have K := Lib.hid (Blk.new w1 41 #[.string S])
  clear hb
  go_wp2_with fail
  refine (HD.out _).mono ?_
  rintro e w2 ⟨rfl, hb⟩
  have B2 := Lib.hid (below_trans B1.out hb)
  have c0 : w2.cell? ⟨w1.heap.size, 0, none⟩ = some (.string S) := (K.out.step hb).cell 0
  clear hb
  go_wp2_with fail
  refine (HX.out w2).mono ?_
  rintro e w3 ⟨gb, c3, rfl, hbs, hb, hc⟩
  have B3 := Lib.hid (below_trans B2.out hb)
  clear hb
  go_wp2_with fail
  refine (bytesClone hbs.out Hlen.out).mono ?_
  rintro e w4 ⟨v4, rfl, ho, hb⟩
  have B4 := Lib.hid (below_trans B3.out hb)
  have HO := Lib.hid (show Own w4 w.heap.size v4 (1 :: 114 :: m) from ho.more B3.out.size)
  clear hb ho
  go_wp2_with fail
  go_ret
  exact ⟨_, rfl, HO.out, B4.out⟩
end
end Go.Proofs.YteodhonipbdplaaGreatDoor

/- Type and Hash of a CID; CidFromBytes, Cast, FromCid. -/
namespace Go.Proofs.YteodhonipbdplaaGreatDoor
open Go.RowKit
set_option maxRecDepth 100000
section
variable {w : World} {n c : Nat} {l m : List UInt8} {A : Option Addr}
theorem uv_one {x : UInt8} {r : List UInt8} (h : x.toNat < 128) : Mh.uv (x :: r) = some (x.toNat, 1) := by
  unfold Mh.uv Mh.uvGo
  rw [if_neg (by omega), if_pos h, if_neg (by omega)]
  simp
/-- a number's first byte tells it -/
theorem uvFirst {x : UInt8} {r : List UInt8} {e : Ending} (h : x.toNat < 128) (hu : UvAns (x :: r) e) : e = .returned (.tuple #[.int .u64 (x.toNat : Int), .int .i64 1, .nilIface]) := by
  rcases hu with ⟨h1, _⟩ | ⟨y, k, h1, rfl⟩
  · rw [uv_one h] at h1; cases h1
  · rw [uv_one h] at h1
    simp only [Option.some.injEq, Prod.mk.injEq] at h1
    obtain ⟨rfl, rfl⟩ := h1
    rfl
theorem strFrom1 {x : UInt8} {r : List UInt8} (W : World) : (Instr.slice 9 (.string (strOf (x :: r))) (some (.int .i64 1)) none none).run Tryz.prog W = .ok (.string (strOf r)) W := by
  rw [run_slice_string_l W 9 (strOf (x :: r)) Tryz.underlying9 .i64 1 (by omega) (by rw [strOf_size]; simp only [List.length_cons]; omega)]
  congr 2
  rw [strOf_size]
  show (strOf (x :: r)).extract 1 (x :: r).length = _
  rw [strOf_extract]
  simp
theorem cidType (x : UInt8) (hx0 : 0 < x.toNat) (hx : x.toNat < 18) (y : UInt8) (hy0 : 0 < y.toNat) (hy : y.toNat < 128) :
    Calls Tryz.prog 53 #[.agg #[.string (strOf (x :: y :: l))]] w fun e w' => e = .returned (.int .u64 (y.toNat : Int)) ∧ Below w.heap.size w w' := by
  have HV := Lib.hid (fun W => cidVersion (w := W) (l := y :: l) x (by omega))
  have H1 := Lib.hid (fun W => cidUv (w := W) (l := y :: l) x hx0 (by omega))
  have H2 := Lib.hid (fun W => cidUv (w := W) (l := l) y hy0 hy)
  have hs := fun W => strFrom1 (x := x) (r := y :: l) W
  obtain ⟨S, hS⟩ : ∃ S, S = strOf (x :: y :: l) := ⟨_, rfl⟩
  obtain ⟨S2, hS2⟩ : ∃ S, S = strOf (y :: l) := ⟨_, rfl⟩
  obtain ⟨k, hk⟩ : ∃ k : Nat, k = y.toNat := ⟨_, rfl⟩
  obtain ⟨k1, hk1⟩ : ∃ k : Nat, k = x.toNat := ⟨_, rfl⟩
  rw [← hS] at HV H1 hs ⊢
  rw [← hS2] at H2 hs
  rw [← hk] at H2 ⊢
  rw [← hk1] at H1
  have B := Lib.hid (below_alloc w (.cells #[.string S] 41))
  have K := Lib.hid (Blk.new w 41 #[.string S])
  clear hS hS2 hk hk1 hx0 hx hy0 hy
  go_enter Tryz.func53, Tryz.ntmps53
  go_wp2_with fail
  refine (HV.out _).mono ?_
  rintro e w1 ⟨rfl, hb⟩
  have B1 := Lib.hid (below_trans B.out hb)
  have c0 : w1.cell? ⟨w.heap.size, 0, none⟩ = some (.string S) := (K.out.step hb).cell 0
  clear hb
  go_wp2_with fail
  refine (H1.out w1).mono ?_
  rintro e w2 ⟨rfl, rfl⟩
  go_wp2_with fail
  refine (H2.out w1).mono ?_
  rintro e w2 ⟨rfl, rfl⟩
  go_wp2_with fail
  go_ret
  exact ⟨rfl, B1.out⟩
theorem cidHash (he : VErr w) (x : UInt8) (hx : x.toNat < 18) (y : UInt8) (hy : y.toNat < 128) (hlen : l.length ≤ 1000) (hl : l ≠ []) :
    Calls Tryz.prog 54 #[.agg #[.string (strOf (x :: y :: l))]] w fun e w' => ∃ A n c, e = .returned (.slice A n c) ∧ Hid (Bs w' w'.heap.size (.slice A n c) l) ∧ Below w.heap.size w w' := by
  have He := Lib.hid he
  have HV := Lib.hid (fun W => cidVersion (w := W) (l := y :: l) x (by omega))
  have HBy := Lib.hid (fun W => cidBytes (w := W) (l := x :: y :: l) (by simp) (by simp; omega))
  have Hl := Lib.hid hl
  obtain ⟨S, hS⟩ : ∃ S, S = strOf (x :: y :: l) := ⟨_, rfl⟩
  rw [← hS] at HV HBy ⊢
  have B := Lib.hid (below_alloc w (.cells #[.string S] 41))
  have K := Lib.hid (Blk.new w 41 #[.string S])
  clear hS he hl
  go_enter Tryz.func54, Tryz.ntmps54
  go_wp2_with fail
  refine (HBy.out _).mono ?_
  rintro e w1 ⟨gb, c, rfl, hbs, hb, hc⟩
  have c0 : w1.cell? ⟨w.heap.size, 0, none⟩ = some (.string S) := (K.out.step hb).cell 0
  have K1 := Lib.hid (K.out.step hb)
  have B1 := Lib.hid (below_trans B.out hb)
  have H1 := Lib.hid hbs.out
  obtain ⟨N, hN⟩ : ∃ N, N = (x :: y :: l).length := ⟨_, rfl⟩
  rw [← hN] at H1 hc ⊢
  have hN2 : 2 ≤ N := by rw [hN]; simp
  have HN := Lib.hid hN
  clear hb hbs hN HBy
  go_wp2_with fail
  refine (HV.out w1).mono ?_
  rintro e w2 ⟨rfl, hb⟩
  have B2 := Lib.hid (below_trans B1.out hb)
  have H2 := Lib.hid (H1.out.step hb)
  clear hb H1 B1 c0 K1
  go_wp2_with fail
  refine (fromUvarint H2.out (He.out.step B2.out)).mono ?_
  rintro e w3 ⟨hu, hb⟩
  obtain rfl := uvFirst (by omega) hu
  have B3 := Lib.hid (below_trans B2.out hb)
  have H3 := Lib.hid (H2.out.step hb)
  obtain ⟨A1, hs1, hb1⟩ := slice_from (n := 1) H3.out (by omega)
  obtain ⟨A2, hs2, hb2⟩ := slice_from (n := 2) H3.out hN2
  have hs1' : ∀ W : World, (Instr.slice 23 (.slice (some ⟨gb, 0, none⟩) N c) (some (.int .i64 1)) none none).run Tryz.prog W = .ok (.slice A1 (N - 1) (c - 1)) W := fun W => hs1 W .i64
  have hs2' : ∀ W : World, (Instr.slice 23 (.slice (some ⟨gb, 0, none⟩) N c) (some (.int .i64 2)) none none).run Tryz.prog W = .ok (.slice A2 (N - 2) (c - 2)) W := fun W => hs2 W .i64
  have hq1 : (1 : Int) ≤ (c : Int) := by omega
  have hq2 : (2 : Int) ≤ (c : Int) := by omega
  have X1 := Lib.hid (show Bs w3 w3.heap.size (.slice A1 (N - 1) (c - 1)) (y :: l) from hb1)
  have X2 := Lib.hid (show Bs w3 w3.heap.size (.slice A2 (N - 2) (c - 2)) l from hb2)
  clear hb hu H2 B2 hs1 hs2 hb1 hb2 H3
  go_wp2_with fail
  refine (fromUvarint X1.out (He.out.step B3.out)).mono ?_
  rintro e w4 ⟨hu, hb⟩
  obtain rfl := uvFirst hy hu
  have B4 := Lib.hid (below_trans B3.out hb)
  have X4 := Lib.hid (X2.out.step hb)
  clear hb hu B3 X1 X2
  go_wp2_with fail
  go_ret
  exact ⟨_, _, _, rfl, X4, B4.out⟩
end
end Go.Proofs.YteodhonipbdplaaGreatDoor
