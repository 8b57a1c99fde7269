/- base 32: EncodeToString. -/
import Derived.Test.YteodhonipbdplaaGreatDoorMc10
import Derived.Test.YteodhonipbdplaaGreatDoorMc14
namespace Go.Proofs.YteodhonipbdplaaGreatDoor
open Go.RowKit
set_option maxRecDepth 100000
section
variable {w : World} {M l : List UInt8} {g gs : Nat}
theorem Bs.blockLt {B os n c : Nat} (h : Bs w B (.slice (some ⟨gs, os, none⟩) n c) l) (h0 : 0 < l.length) : gs < B := by
  obtain ⟨A2, c2, he, hl, hc, hx⟩ := h
  injection he with e1 e2 e3
  obtain ⟨g2, o2, hA, hlt, hy⟩ := hx h0
  rw [← e1] at hA
  injection hA with hA
  injection hA with e4 e5 _
  subst e4
  exact hlt
theorem encToString (h : Enc32 w g B32.alpha M (-1)) {os n c : Nat} (hs : Bs w w.heap.size (.slice (some ⟨gs, os, none⟩) n c) l) (hn : n = l.length) (hl0 : 0 < n) (hl : n ≤ 1000) :
    Calls Tryz.prog 81 #[.pointer (some ⟨g, 0, none⟩), .slice (some ⟨gs, os, none⟩) n c] w fun e w' => e = .returned (.string (strOf (B32.enc B32.alpha l))) ∧ Below w.heap.size w w' := by
  have HL := Lib.hid (encLen h (n := n) (by omega))
  obtain ⟨N, hN⟩ : ∃ N, N = (n * 8 + 4) / 5 := ⟨_, rfl⟩
  rw [← hN] at HL
  obtain ⟨gd, hgd⟩ : ∃ x, x = w.heap.size := ⟨_, rfl⟩
  have hglt : g < w.heap.size := World.block_lt_of_cell? w _ h.str
  have hgs : gs < w.heap.size := hs.blockLt (by omega)
  have hm : ∀ W : World, (Instr.makeSlice 23 (.int .i64 (N : Int)) (.int .i64 (N : Int))).run Tryz.prog W = .ok (.slice (some ⟨W.heap.size, 0, none⟩) N N) (W.alloc (.cells (bvs (List.replicate N 0)).toArray 5)) := fun W => run_makeBytes' W N (by omega)
  have K := Lib.hid (show Blk (w.alloc (.cells (bvs (List.replicate N 0)).toArray 5)) gd 5 (bvs (List.replicate N 0)).toArray by rw [hgd]; exact Blk.new _ _ _)
  have B := Lib.hid (below_alloc w (.cells (bvs (List.replicate N 0)).toArray 5))
  have HE := Lib.hid (show Enc32 (w.alloc (.cells (bvs (List.replicate N 0)).toArray 5)) g B32.alpha M (-1) from ⟨h.1, h.2.alloc _⟩)
  have HS := Lib.hid (hs.step B.out)
  have HR := Lib.hid (enc32 HE.out K.out HS.out hn (by rw [hN, hn]) hl0 hl (by omega) (by omega))
  have HN := Lib.hid (show (B32.enc B32.alpha l).length = N by rw [B32.enc_length, hN, hn])
  have hN0 : N ≤ 100000 := by omega
  have Hgd := Lib.hid hgd
  obtain ⟨S, hS⟩ : ∃ S, S = strOf (B32.enc B32.alpha l) := ⟨_, rfl⟩
  rw [← hS]
  have HSt := Lib.hid hS
  clear h hs hN hn hglt hgs hgd hS
  go_enter Tryz.func81, Tryz.ntmps81
  go_wp2_with fail
  refine HL.out.mono ?_
  rintro e w1 ⟨rfl, rfl⟩
  go_wp2_with fail
  rw [← Hgd.out]
  generalize w.alloc (.cells (bvs (List.replicate N 0)).toArray 5) = w1 at *
  refine HR.out.mono ?_
  rintro e w2 ⟨rfl, hb, hg⟩
  have hcv := conv_str (Bs.ofRowBlk HN.out hb (by rw [HN.out]; omega)) (dst := 9) Tryz.underlying9
  have B2 := Lib.hid (below_grown B.out hg (fun k e => by injection e with e; have := Hgd.out; omega))
  rw [← HSt.out] at hcv
  clear hb hg
  go_wp2_with fail
  go_ret
  exact ⟨rfl, B2.out⟩
end
end Go.Proofs.YteodhonipbdplaaGreatDoor
