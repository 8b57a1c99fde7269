/- impl.EnvelopeOf. -/
import Derived.Test.YtcefcdmonfenoaaDoorEi
import Derived.Deep.RegionHeld3
import Derived.Deep.DrawnRows
namespace Go.Proofs.YtcefcdmonfenoaaDoor
open Go.RowKit
set_option maxRecDepth 100000
attribute [local go_sem ↓] Go.wp_at_zero Go.wp_at_succ

def EnvOfAns (w : World) (l : List UInt8) (e : Ending) (w' : World) : Prop :=
  Below w.heap.size w w' ∧ ((envDec l = none ∧ ∃ v', e = .returned (.tuple #[v', .bool false]) ∧ EnvVal w' w'.heap.size v' ⟨false, 0, [], [], [], []⟩) ∨
    ∃ E v', envDec l = some E ∧ e = .returned (.tuple #[v', .bool true]) ∧ EnvVal w' w'.heap.size v' E ∧ E.key.length ≤ 140737488355328 ∧ E.ty.length ≤ 140737488355328 ∧ E.pay.length ≤ 140737488355328 ∧ E.sig.length ≤ 140737488355328)

theorem six_set {w : World} {g : Nat} {t : TypeId} {x0 x1 x2 x3 x4 x5 a b c d e f : Value} (hb : Blk w g t #[x0, x1, x2, x3, x4, x5]) :
    Blk ((((((w.setCell ⟨g, 0, none⟩ a).setCell ⟨g, 1, none⟩ b).setCell ⟨g, 2, none⟩ c).setCell ⟨g, 3, none⟩ d).setCell ⟨g, 4, none⟩ e).setCell ⟨g, 5, none⟩ f) g t #[a, b, c, d, e, f] ∧
      w.grownBy ((((((w.setCell ⟨g, 0, none⟩ a).setCell ⟨g, 1, none⟩ b).setCell ⟨g, 2, none⟩ c).setCell ⟨g, 3, none⟩ d).setCell ⟨g, 4, none⟩ e).setCell ⟨g, 5, none⟩ f) (some g) := by
  have h1 := (((((hb.set 0 a).set 1 b).set 2 c).set 3 d).set 4 e).set 5 f
  have g1 := grown_setCell (grown_refl w (some g)) (p := ⟨g, 0, none⟩) (.inl rfl) a
  have g2 := grown_setCell g1 (p := ⟨g, 1, none⟩) (.inl rfl) b
  have g3 := grown_setCell g2 (p := ⟨g, 2, none⟩) (.inl rfl) c
  have g4 := grown_setCell g3 (p := ⟨g, 3, none⟩) (.inl rfl) d
  have g5 := grown_setCell g4 (p := ⟨g, 4, none⟩) (.inl rfl) e
  have g6 := grown_setCell g5 (p := ⟨g, 5, none⟩) (.inl rfl) f
  exact ⟨h1, g6⟩

theorem envCells {W : World} {g : Nat} {t : TypeId} {x a b c : Value} (h : Blk W g t #[x, a, b, c]) : W.cell? ⟨g, 1, none⟩ = some a ∧ W.cell? ⟨g, 2, none⟩ = some b ∧ W.cell? ⟨g, 3, none⟩ = some c := ⟨h.cell 1, h.cell 2, h.cell 3⟩
theorem three_set {w : World} {g : Nat} {t : TypeId} {x0 x1 x2 x3 x4 x5 a b c : Value} (hb : Blk w g t #[x0, x1, x2, x3, x4, x5]) :
    Blk (((w.setCell ⟨g, 0, none⟩ a).setCell ⟨g, 1, none⟩ b).setCell ⟨g, 2, none⟩ c) g t #[a, b, c, x3, x4, x5] ∧ w.grownBy (((w.setCell ⟨g, 0, none⟩ a).setCell ⟨g, 1, none⟩ b).setCell ⟨g, 2, none⟩ c) (some g) := by
  have h1 := ((hb.set 0 a).set 1 b).set 2 c
  have g1 := grown_setCell (grown_refl w (some g)) (p := ⟨g, 0, none⟩) (.inl rfl) a
  have g2 := grown_setCell g1 (p := ⟨g, 1, none⟩) (.inl rfl) b
  have g3 := grown_setCell g2 (p := ⟨g, 2, none⟩) (.inl rfl) c
  exact ⟨h1, g3⟩
/-- no byte among the cells -/
def NoByte (cs : Array Value) : Prop := ∀ u ∈ cs.toList, ∀ n, u ≠ .int .u8 n
theorem Bs.keepBlk8 {w w' : World} {g : Nat} {t : TypeId} {cs : Array Value} {v : Value} {l : List UInt8} (h : Bs w w.heap.size v l) (hb : Blk w g t cs) (hn : NoByte cs) (hg : w.grownBy w' (some g)) : Bs w' w'.heap.size v l := by
  refine (h.keepRow hg (Nat.le_refl _) ?_).more hg.size
  obtain ⟨A, c, rfl, h1, h2, h3⟩ := h
  rcases Nat.eq_zero_or_pos l.length with h0 | h0
  · exact .inl (List.length_eq_zero_iff.1 h0)
  · right; left
    obtain ⟨g', o, rfl, _, hc⟩ := h3 h0
    intro e
    have e' : g' = g := by simpa [Value.ownBlock] using e
    subst e'
    have h4 := hc 0 h0
    rw [hb.cell] at h4
    have hm := Array.mem_of_getElem? h4
    exact hn _ (by simpa using hm) _ rfl
theorem noByte_env (b : Bool) (k : Int) (A1 A2 A3 A4 : Option Addr) (n1 n2 n3 n4 c1 c2 c3 c4 : Nat) : NoByte #[.bool b, .int .i32 k, .slice A1 n1 c1, .slice A2 n2 c2, .slice A3 n3 c3, .slice A4 n4 c4] := by
  intro u hu n e
  subst e
  simp at hu
theorem gcOf {w : World} {g n : Nat} {t : TypeId} {cs : Array Value} (_h : Blk w g t cs) (hg : n ≤ g) : ∃ gC, g = gC ∧ n ≤ gC := ⟨g, rfl, hg⟩
theorem Blk.ne_of_size {w : World} {g g' : Nat} {t t' : TypeId} {cs cs' : Array Value} (h : Blk w g t cs) (k : Blk w g' t' cs') (hs : cs.size ≠ cs'.size) : g ≠ g' := by
  rintro rfl
  have e : some (Obj.cells cs t (0, 0)) = some (Obj.cells cs' t' (0, 0)) := h.symm.trans k
  injection e with e
  injection e with e
  exact hs (by rw [e])
theorem sixCells {W : World} {g : Nat} {t : TypeId} {a b c d e f : Value} (h : Blk W g t #[a, b, c, d, e, f]) :
    W.cell? ⟨g, 0, none⟩ = some a ∧ W.cell? ⟨g, 1, none⟩ = some b ∧ W.cell? ⟨g, 2, none⟩ = some c ∧ W.cell? ⟨g, 3, none⟩ = some d ∧ W.cell? ⟨g, 4, none⟩ = some e ∧ W.cell? ⟨g, 5, none⟩ = some f := ⟨h.cell 0, h.cell 1, h.cell 2, h.cell 3, h.cell 4, h.cell 5⟩
theorem sixFree {W : World} {g : Nat} {t : TypeId} {cs : Array Value} (h : Blk W g t cs) :
    W.frozen? ⟨g, 0, none⟩ = false ∧ W.frozen? ⟨g, 1, none⟩ = false ∧ W.frozen? ⟨g, 2, none⟩ = false ∧ W.frozen? ⟨g, 3, none⟩ = false ∧ W.frozen? ⟨g, 4, none⟩ = false ∧ W.frozen? ⟨g, 5, none⟩ = false := ⟨h.free 0, h.free 1, h.free 2, h.free 3, h.free 4, h.free 5⟩
theorem keyCells {W : World} {g g' : Nat} {t t' : TypeId} {x a b c y d : Value} (h : Blk W g t #[x, a, b, c]) (k : Blk W g' t' #[y, d]) : W.cell? ⟨g, 0, none⟩ = some x ∧ W.cell? ⟨g', 1, none⟩ = some d := ⟨h.cell 0, k.cell 1⟩
theorem storeNew (w : World) (t : TypeId) (cs : Array Value) : ∃ wF, Hid (w.alloc (.cells cs t) = wF) ∧ Blk wF w.heap.size t cs ∧ Below w.heap.size w wF := ⟨_, rfl, Blk.new w t cs, below_alloc w _⟩
theorem storeSix {w : World} {g : Nat} {t : TypeId} {x0 x1 x2 x3 x4 x5 : Value} (hb : Blk w g t #[x0, x1, x2, x3, x4, x5]) (a b c d e f : Value) :
    ∃ wF, Hid (((((((w.setCell ⟨g, 0, none⟩ a).setCell ⟨g, 1, none⟩ b).setCell ⟨g, 2, none⟩ c).setCell ⟨g, 3, none⟩ d).setCell ⟨g, 4, none⟩ e).setCell ⟨g, 5, none⟩ f) = wF) ∧ Blk wF g t #[a, b, c, d, e, f] ∧ w.grownBy wF (some g) := ⟨_, rfl, six_set hb⟩

section
variable {w : World} {v : Value} {l : List UInt8}

set_option maxHeartbeats 2000000 in
theorem envelopeOf (hv : Bs w w.heap.size v l) (he : EErr w) (hlen : l.length ≤ 140737488355328) :
    Calls Tryd.prog 56 #[v] w fun e w' => EnvOfAns w l e w' := by
  obtain ⟨A0, n0, c0, rfl⟩ := hid_exists_bs hv
  have Hv := Lib.hid hv
  have He := Lib.hid he
  clear hv he
  go_enter Tryd.func56, Tryd.ntmps56
  go_wp2_with fail
  have ba := below_alloc w (.cells #[.bool false, .int .i32 0, .slice none 0 0, .slice none 0 0, .slice none 0 0, .slice none 0 0] 64)
  have bb := below_alloc (w.alloc (.cells #[.bool false, .int .i32 0, .slice none 0 0, .slice none 0 0, .slice none 0 0, .slice none 0 0] 64)) (.cells #[.pointer none, .slice none 0 0, .slice none 0 0, .slice none 0 0] 110)
  have bA := Lib.hid ((Blk.new w 64 #[.bool false, .int .i32 0, .slice none 0 0, .slice none 0 0, .slice none 0 0, .slice none 0 0]).step bb)
  have bB := Lib.hid (Blk.new (w.alloc (.cells #[.bool false, .int .i32 0, .slice none 0 0, .slice none 0 0, .slice none 0 0, .slice none 0 0] 64)) 110 #[.pointer none, .slice none 0 0, .slice none 0 0, .slice none 0 0])
  have B0 := Lib.hid (below_trans ba bb)
  have hgB : (w.alloc (.cells #[.bool false, .int .i32 0, .slice none 0 0, .slice none 0 0, .slice none 0 0, .slice none 0 0] 64)).heap.size = w.heap.size + 1 := by simp
  rw [hgB] at bB
  replace Hv := Lib.hid (Hv.out.step B0.out)
  obtain ⟨gA, hgA⟩ : ∃ gA, gA = w.heap.size := ⟨_, rfl⟩
  obtain ⟨gB, hgB'⟩ : ∃ gB, gB = w.heap.size + 1 := ⟨_, rfl⟩
  rw [← hgB'] at bB ⊢
  rw [← hgA] at bA ⊢
  have hAB : gA < gB := by omega
  have HgA := Lib.hid hgA
  clear ba bb hgB hgA hgB'
  generalize (w.alloc (.cells #[.bool false, .int .i32 0, .slice none 0 0, .slice none 0 0, .slice none 0 0, .slice none 0 0] 64)).alloc (.cells #[.pointer none, .slice none 0 0, .slice none 0 0, .slice none 0 0] 110) = wB at *
  refine (bytesClone Hv.out hlen).mono ?_
  rintro e w1 ⟨v1, rfl, ho1, hb⟩
  have Hv1 := Lib.hid ho1.bs
  replace bA := Lib.hid (bA.out.step hb)
  replace bB := Lib.hid (bB.out.step hb)
  have B1 := Lib.hid (below_trans B0.out hb)
  clear ho1 hb Hv
  go_wp2_with fail
  refine (envUnmarshal bB.out Hv1.out (He.out.step B1.out) hlen).mono ?_
  rintro e w2 ⟨pk, ty, pay, sig, hb2, hg2, hans⟩
  replace bA := Lib.hid (bA.out.grown hg2 (fun e => by injection e with e; omega))
  have B2 := Lib.hid (below_grown B1.out hg2 (fun g e => by injection e with e; have := HgA.out; omega))
  have bB2 := Lib.hid hb2
  clear hb2 Hv1 bB B0
  have a0 := bA.out.cell 0
  have a1 := bA.out.cell 1
  have a2 := bA.out.cell 2
  have a3 := bA.out.cell 3
  have a4 := bA.out.cell 4
  have a5 := bA.out.cell 5
  simp only [List.getElem?_toArray, List.getElem?_cons_zero, List.getElem?_cons_succ] at a0 a1 a2 a3 a4 a5
  have f0 := bA.out.free 0
  have f1 := bA.out.free 1
  have f2 := bA.out.free 2
  have f3 := bA.out.free 3
  have f4 := bA.out.free 4
  have f5 := bA.out.free 5
  rcases hans with ⟨hd, te, xe, rfl⟩ | ⟨s, E, hd, hof, rfl, hrep⟩
  · have Hd := Lib.hid hd
    clear hd hg2
    go_wp2_with fail
    obtain ⟨bF, gF⟩ := six_set (a := .bool false) (b := .int .i32 0) (c := .slice none 0 0) (d := .slice none 0 0) (e := .slice none 0 0) (f := .slice none 0 0) bA.out
    have BF := below_grown B2.out gF (fun g e => by injection e with e; have := HgA.out; omega)
    clear a0 a1 a2 a3 a4 a5 f0 f1 f2 f3 f4 f5 gF
    generalize (((((w2.setCell ⟨gA, 0, none⟩ (.bool false)).setCell ⟨gA, 1, none⟩ (.int .i32 0)).setCell ⟨gA, 2, none⟩ (.slice none 0 0)).setCell ⟨gA, 3, none⟩ (.slice none 0 0)).setCell ⟨gA, 4, none⟩ (.slice none 0 0)).setCell ⟨gA, 5, none⟩ (.slice none 0 0) = wF at *
    have a0 := bF.cell 0
    have a1 := bF.cell 1
    have a2 := bF.cell 2
    have a3 := bF.cell 3
    have a4 := bF.cell 4
    have a5 := bF.cell 5
    simp only [List.getElem?_toArray, List.getElem?_cons_zero, List.getElem?_cons_succ] at a0 a1 a2 a3 a4 a5
    have Hb := Lib.hid bF
    have HB := Lib.hid BF
    clear bF BF
    refine bodyPost_ret (by simp [results, Tryd.results56, go_sem, a0, a1, a2, a3, a4, a5]; rfl) rfl ?_
    exact ⟨HB.out, .inl ⟨Hd.out, _, rfl, _, _, _, _, rfl, Bs.nil0 _ _, Bs.nil0 _ _, Bs.nil0 _ _, Bs.nil0 _ _⟩⟩
  · obtain ⟨A2, n2, c2, rfl⟩ := hid_exists_bs hrep.ty
    obtain ⟨A3, n3, c3, rfl⟩ := hid_exists_bs hrep.pay
    obtain ⟨A4, n4, c4, rfl⟩ := hid_exists_bs hrep.sig
    have Hd := Lib.hid hd
    have Hof := Lib.hid hof
    have X2 := Lib.hid hrep.ty
    have X3 := Lib.hid hrep.pay
    have X4 := Lib.hid hrep.sig
    have L2 := Lib.hid hrep.lty
    have L3 := Lib.hid hrep.lpay
    have L4 := Lib.hid hrep.lsig
    have HK := Lib.hid hrep.key
    have hg1 : w.heap.size ≤ w1.heap.size := B1.out.size
    have bBd := Lib.hid bB2.out.drew
    clear hd hg2 hof hrep a0 a1 a2 a3 a4 a5 f0 f1 f2 f3 f4 f5
    go_wp2_with fail
    have HC2 := Lib.hid (show ∀ W, Below w2.heap.size w2 W → Calls Tryd.prog 22 #[.slice A2 n2 c2] W fun e w' => Fresh W s.ty e w' from fun W hW => bytesClone (X2.out.step hW) L2.out)
    have HC3 := Lib.hid (show ∀ W, Below w2.heap.size w2 W → Calls Tryd.prog 22 #[.slice A3 n3 c3] W fun e w' => Fresh W s.pay e w' from fun W hW => bytesClone (X3.out.step hW) L3.out)
    have HC4 := Lib.hid (show ∀ W, Below w2.heap.size w2 W → Calls Tryd.prog 22 #[.slice A4 n4 c4] W fun e w' => Fresh W s.sig e w' from fun W hW => bytesClone (X4.out.step hW) L4.out)
    have hltB := bB2.out.lt
    go_region_held3 (fun W => W.cell? ⟨gB, 1, none⟩ = some (.slice A2 n2 c2) ∧ W.cell? ⟨gB, 2, none⟩ = some (.slice A3 n3 c3) ∧ W.cell? ⟨gB, 3, none⟩ = some (.slice A4 n4 c4))
      (with_reducible first | exact envCells bBd.out | exact envCells (bB2.out.alloc _).drew | exact envCells bk3.out | exact envCells (bk3.out.alloc _) | exact envCells bk4.out | exact envCells (bk4.out.alloc _) | exact envCells bk5.out | exact envCells (bk5.out.alloc _) | (rw [hwF.out]; exact envCells bk6.out))
      (first
      | (go_at_call 22; (with_reducible refine (HC2.out _ (by with_reducible first | exact below_drew w2 | exact (below_alloc w2 _).drew)).mono ?_); rintro e w3 ⟨x2, rfl, ho, hb⟩; (try (with_reducible have bC := Lib.hid ((Blk.new w2 64 #[.bool false, .int .i32 0, .slice none 0 0, .slice none 0 0, .slice none 0 0, .slice none 0 0]).drew.step hb))); (have B3 := Lib.hid (show Below w2.heap.size w2 w3 by (with_reducible first | exact below_trans (below_drew w2) hb | exact below_trans (below_alloc w2 _).drew hb))); have Y2 := Lib.hid ho.bs; obtain ⟨P2, q2, r2, rfl⟩ := hid_exists_bs Y2.out; have bk3 := Lib.hid (bB2.out.step B3.out); clear ho hb)
      | (go_at_call 22; (with_reducible refine (HC3.out _ (by with_reducible first | exact B3.out | exact below_trans B3.out (below_alloc _ _))).mono ?_); rintro e w4 ⟨x3, rfl, ho, hb⟩; (try (with_reducible replace bC := Lib.hid (bC.out.step hb))); (try (with_reducible have bC := Lib.hid ((Blk.new w3 64 #[.bool false, .int .i32 0, .slice none 0 0, .slice none 0 0, .slice none 0 0, .slice none 0 0]).step hb))); (have b34 := Lib.hid (show Below w3.heap.size w3 w4 by (with_reducible first | exact hb | exact below_trans (below_alloc _ _) hb))); have B4 := Lib.hid (below_trans B3.out b34.out); have Y3 := Lib.hid ho.bs; obtain ⟨P3, q3, r3, rfl⟩ := hid_exists_bs Y3.out; replace Y2 := Lib.hid (Y2.out.step b34.out); have bk4 := Lib.hid (bk3.out.step b34.out); clear ho hb b34)
      | (go_at_call 22; (with_reducible refine (HC4.out _ (by with_reducible first | exact B4.out | exact below_trans B4.out (below_alloc _ _))).mono ?_); rintro e w5 ⟨x4, rfl, ho, hb⟩; (try (with_reducible replace bC := Lib.hid (bC.out.step hb))); (try (with_reducible have bC := Lib.hid ((Blk.new w4 64 #[.bool false, .int .i32 0, .slice none 0 0, .slice none 0 0, .slice none 0 0, .slice none 0 0]).step hb))); (have b45 := Lib.hid (show Below w4.heap.size w4 w5 by (with_reducible first | exact hb | exact below_trans (below_alloc _ _) hb))); have B5 := Lib.hid (below_trans B4.out b45.out); have Y4 := Lib.hid ho.bs; obtain ⟨P4, q4, r4, rfl⟩ := hid_exists_bs Y4.out; replace Y2 := Lib.hid (Y2.out.step b45.out); replace Y3 := Lib.hid (Y3.out.step b45.out); have bk5 := Lib.hid (bk4.out.step b45.out); clear ho hb b45; have hs3 := B3.out.size; have hs4 := B4.out.size; have hs5 := B5.out.size; have hdr : w2.drew.heap.size = w2.heap.size := rfl;
          (first
            | (obtain ⟨wF, hwF, bF, gF⟩ := storeSix bC.out (.bool false) (.int .i32 0) (.slice none 0 0) (.slice P2 q2 r2) (.slice P3 q3 r3) (.slice P4 q4 r4); have k0 := bC.out.cell 0; have k1 := bC.out.cell 1; have k2 := bC.out.cell 2; have k3 := bC.out.cell 3; have k4 := bC.out.cell 4; have k5 := bC.out.cell 5; simp only [List.getElem?_toArray, List.getElem?_cons_zero, List.getElem?_cons_succ] at k0 k1 k2 k3 k4 k5; have m0 := bC.out.free 0; have m1 := bC.out.free 1; have m2 := bC.out.free 2; have m3 := bC.out.free 3; have m4 := bC.out.free 4; have m5 := bC.out.free 5; have B6 := Lib.hid (below_grown B5.out gF (fun g e => by injection e with e; omega)); have bk6 := Lib.hid (bk5.out.grown gF (fun e => by injection e with e; omega)); replace Y2 := Lib.hid (Y2.out.keepBlk8 bC.out (noByte_env _ _ _ _ _ _ _ _ _ _ _ _ _ _) gF); replace Y3 := Lib.hid (Y3.out.keepBlk8 bC.out (noByte_env _ _ _ _ _ _ _ _ _ _ _ _ _ _) gF); replace Y4 := Lib.hid (Y4.out.keepBlk8 bC.out (noByte_env _ _ _ _ _ _ _ _ _ _ _ _ _ _) gF); have HbF := Lib.hid bF; clear gF bF)
            | (obtain ⟨wF, hwF, bF, gF⟩ := storeNew w5 64 #[.bool false, .int .i32 0, .slice none 0 0, .slice P2 q2 r2, .slice P3 q3 r3, .slice P4 q4 r4]; have B6 := Lib.hid (below_trans B5.out gF); have bk6 := Lib.hid (bk5.out.step gF); replace Y2 := Lib.hid (Y2.out.step gF); replace Y3 := Lib.hid (Y3.out.step gF); replace Y4 := Lib.hid (Y4.out.step gF); have HbF := Lib.hid bF; clear gF bF))))
    all_goals
      rw [hwF.out]
      replace bA := Lib.hid (bA.out.step B6.out)
      replace HK := Lib.hid (HK.out.step B6.out)
      have BF := Lib.hid (below_trans B2.out B6.out)
      obtain ⟨gC, hgC, hC⟩ := gcOf HbF.out (show w2.heap.size ≤ _ by omega)
      rw [hgC] at HbF ⊢
      clear HC2 HC3 HC4 bBd bB2 X2 X3 X4 bk3 bk4 bk5 B3 B4 B5 hwF hgC
      have HgAC : gA ≠ gC := by omega
      have HgBC : gB ≠ gC := by omega
      clear hs3 hs4 hs5 hdr
      try clear k0 k1 k2 k3 k4 k5 m0 m1 m2 m3 m4 m5 bC
      have b0 := bk6.out.cell 0
      simp only [List.getElem?_toArray, List.getElem?_cons_zero] at b0
      cases hkey : s.key with
      | none =>
        have hpk : pk = none := by have := HK.out; rw [hkey] at this; exact this
        subst hpk
        obtain ⟨x0, x1, x2, x3, x4, x5⟩ := sixCells HbF.out
        obtain ⟨a0, a1, a2, a3, a4, a5⟩ := sixCells bA.out
        obtain ⟨f0, f1, f2, f3, f4, f5⟩ := sixFree bA.out
        have hE : E = ⟨false, 0, [], s.ty, s.pay, s.sig⟩ := by
          have := Hof.out
          obtain ⟨k1, k2, k3, k4⟩ := s
          cases hkey
          injection this with this
          exact this.symm
        have HE := Lib.hid hE
        clear hE hkey HK
        go_wp2_with fail
        obtain ⟨wG, hwG, bG, gG⟩ := storeSix bA.out (.bool false) (.int .i32 0) (.slice none 0 0) (.slice P2 q2 r2) (.slice P3 q3 r3) (.slice P4 q4 r4)
        rw [hwG.out]
        have BG := Lib.hid (below_grown BF.out gG (fun g e => by injection e with e; have := HgA.out; omega))
        have Z2 := Lib.hid (Y2.out.keepBlk8 bA.out (noByte_env _ _ _ _ _ _ _ _ _ _ _ _ _ _) gG)
        have Z3 := Lib.hid (Y3.out.keepBlk8 bA.out (noByte_env _ _ _ _ _ _ _ _ _ _ _ _ _ _) gG)
        have Z4 := Lib.hid (Y4.out.keepBlk8 bA.out (noByte_env _ _ _ _ _ _ _ _ _ _ _ _ _ _) gG)
        have Z1 := Lib.hid (Bs.nil0 wG wG.heap.size)
        obtain ⟨y0, y1, y2, y3, y4, y5⟩ := sixCells bG
        refine bodyPost_ret (by simp [results, Tryd.results56, go_sem, y0, y1, y2, y3, y4, y5]; rfl) rfl ?_
        refine ⟨BG.out, .inr ⟨E, _, Hd.out, rfl, ?_, ?_⟩⟩
        · rw [HE.out]; exact ⟨_, _, _, _, rfl, Z1.out, Z2.out, Z3.out, Z4.out⟩
        · rw [HE.out]; exact ⟨Nat.zero_le _, L2.out, L3.out, L4.out⟩
      | some ks =>
        obtain ⟨gk, p, A1, n1, c1, rfl, hBk, hbk, hrk⟩ : KeyAt w1.heap.size wF pk (some ks) := by have := HK.out; rw [hkey] at this; exact this
        obtain ⟨kind, data⟩ := ks
        obtain ⟨kk, rfl⟩ : ∃ kk, kind = some kk := by
          have := Hof.out
          obtain ⟨k1, k2, k3, k4⟩ := s
          cases hkey
          cases kind with
          | none => exact absurd this (by simp [EV.of])
          | some kk => exact ⟨kk, rfl⟩
        obtain ⟨dd, rfl⟩ : ∃ dd, data = some dd := by
          have := Hof.out
          obtain ⟨k1, k2, k3, k4⟩ := s
          cases hkey
          cases data with
          | none => exact absurd this (by simp [EV.of])
          | some dd => exact ⟨dd, rfl⟩
        have hE : E = ⟨true, kk, dd, s.ty, s.pay, s.sig⟩ := by
          have := Hof.out
          obtain ⟨k1, k2, k3, k4⟩ := s
          cases hkey
          injection this with this
          exact this.symm
        have HE := Lib.hid hE
        have hkC : gk ≠ gC := hbk.ne_of_size HbF.out (by simp)
        have Hbk := Lib.hid hbk
        have Hrk := Lib.hid hrk
        have X1 := Lib.hid hrk.2.1
        have L1 := Lib.hid hrk.2.2.2
        have HG := Lib.hid (show ∀ W, Below wF.heap.size wF W → Calls Tryd.prog 71 #[.pointer (some ⟨gk, 0, none⟩)] W fun e w' => e = .returned (.int .i32 kk) ∧ W = w' from fun W hW => getType (Hbk.out.step hW) (Hrk.out.step hW))
        have bkd := Lib.hid bk6.out.drew
        have bnd := Lib.hid Hbk.out.drew
        clear hE hkey HK hbk hrk
        go_wp2_with fail
        go_region_held3 (fun W => W.cell? ⟨gB, 0, none⟩ = some (.pointer (some ⟨gk, 0, none⟩)) ∧ W.cell? ⟨gk, 1, none⟩ = some (.slice A1 n1 c1))
          (with_reducible first | exact keyCells bkd.out bnd.out | exact keyCells bk7.out bn7.out | exact keyCells sB1.out sK1.out | exact keyCells sB2.out sK2.out | exact keyCells sB3.out sK3.out)
          (first
          | (go_at_call 71; refine (HG.out _ (below_drew wF)).mono ?_; rintro e w' ⟨rfl, rfl⟩)
          | (go_at_call 22; refine (bytesClone X1.out.drew1 L1.out).mono ?_; rintro e w7 ⟨x1, rfl, ho, hb⟩; replace hb := below_trans (below_drew wF) hb; have Y1 := Lib.hid ho.bs; obtain ⟨P1, q1, r1, rfl⟩ := hid_exists_bs Y1.out; have bk7 := Lib.hid (bk6.out.step hb); have bn7 := Lib.hid (Hbk.out.step hb); have B7 := Lib.hid hb; have bC7 := Lib.hid (HbF.out.step hb); obtain ⟨x0, x1, x2, x3, x4, x5⟩ := sixCells bC7.out; obtain ⟨f0, f1, f2, f3, f4, f5⟩ := sixFree bC7.out; have sB1 := Lib.hid (bk7.out.far (p := ⟨gC, 0, none⟩) HgBC.symm (.bool true)); have sK1 := Lib.hid (bn7.out.far (p := ⟨gC, 0, none⟩) hkC.symm (.bool true)); have sB2 := Lib.hid (sB1.out.far (p := ⟨gC, 1, none⟩) HgBC.symm (.int .i32 kk)); have sK2 := Lib.hid (sK1.out.far (p := ⟨gC, 1, none⟩) hkC.symm (.int .i32 kk)); have sB3 := Lib.hid (sB2.out.far (p := ⟨gC, 2, none⟩) HgBC.symm (.slice P1 q1 r1)); have sK3 := Lib.hid (sK2.out.far (p := ⟨gC, 2, none⟩) hkC.symm (.slice P1 q1 r1)); clear ho hb))
        all_goals
          obtain ⟨bS, gS⟩ := three_set (a := .bool true) (b := .int .i32 kk) (c := .slice P1 q1 r1) bC7.out
          replace bA := Lib.hid ((bA.out.step B7.out).grown gS (fun e => by injection e with e; omega))
          have hC' : w.heap.size ≤ gC := Nat.le_trans B2.out.size hC
          have BS := Lib.hid (below_grown (below_trans BF.out B7.out) gS (fun g e => by injection e with e; omega))
          replace Y1 := Lib.hid (Y1.out.keepBlk8 bC7.out (noByte_env _ _ _ _ _ _ _ _ _ _ _ _ _ _) gS)
          replace Y2 := Lib.hid ((Y2.out.step B7.out).keepBlk8 bC7.out (noByte_env _ _ _ _ _ _ _ _ _ _ _ _ _ _) gS)
          replace Y3 := Lib.hid ((Y3.out.step B7.out).keepBlk8 bC7.out (noByte_env _ _ _ _ _ _ _ _ _ _ _ _ _ _) gS)
          replace Y4 := Lib.hid ((Y4.out.step B7.out).keepBlk8 bC7.out (noByte_env _ _ _ _ _ _ _ _ _ _ _ _ _ _) gS)
          have HbS := Lib.hid bS
          clear x0 x1 x2 x3 x4 x5 f0 f1 f2 f3 f4 f5 gS bS bC7 sB1 sB2 sB3 sK1 sK2 sK3 bk7 bn7 bkd bnd b0 HG HbF bk6 Hbk Hrk X1 BF B7
          generalize ((w7.setCell ⟨gC, 0, none⟩ (.bool true)).setCell ⟨gC, 1, none⟩ (.int .i32 kk)).setCell ⟨gC, 2, none⟩ (.slice P1 q1 r1) = wS at *
          obtain ⟨x0, x1, x2, x3, x4, x5⟩ := sixCells HbS.out
          obtain ⟨a0, a1, a2, a3, a4, a5⟩ := sixCells bA.out
          obtain ⟨f0, f1, f2, f3, f4, f5⟩ := sixFree bA.out
          go_wp2_with fail
          obtain ⟨wG, hwG, bG, gG⟩ := storeSix bA.out (.bool true) (.int .i32 kk) (.slice P1 q1 r1) (.slice P2 q2 r2) (.slice P3 q3 r3) (.slice P4 q4 r4)
          rw [hwG.out]
          have BG := Lib.hid (below_grown BS.out gG (fun g e => by injection e with e; have := HgA.out; omega))
          have Z1 := Lib.hid (Y1.out.keepBlk8 bA.out (noByte_env _ _ _ _ _ _ _ _ _ _ _ _ _ _) gG)
          have Z2 := Lib.hid (Y2.out.keepBlk8 bA.out (noByte_env _ _ _ _ _ _ _ _ _ _ _ _ _ _) gG)
          have Z3 := Lib.hid (Y3.out.keepBlk8 bA.out (noByte_env _ _ _ _ _ _ _ _ _ _ _ _ _ _) gG)
          have Z4 := Lib.hid (Y4.out.keepBlk8 bA.out (noByte_env _ _ _ _ _ _ _ _ _ _ _ _ _ _) gG)
          obtain ⟨y0, y1, y2, y3, y4, y5⟩ := sixCells bG
          refine bodyPost_ret (by simp [results, Tryd.results56, go_sem, y0, y1, y2, y3, y4, y5]; rfl) rfl ?_
          refine ⟨BG.out, .inr ⟨E, _, Hd.out, rfl, ?_, ?_⟩⟩
          · rw [HE.out]; exact ⟨_, _, _, _, rfl, Z1.out, Z2.out, Z3.out, Z4.out⟩
          · rw [HE.out]; exact ⟨L1.out, L2.out, L3.out, L4.out⟩
end
end Go.Proofs.YtcefcdmonfenoaaDoor
