/- impl.EnvelopeBytes. -/
import Derived.Test.YtcefcdmonfenoaaDoorEw
import Derived.Deep.RegionHeld3
import Derived.Deep.DrawnRows
namespace Go.Proofs.YtcefcdmonfenoaaDoor
open Go.RowKit
set_option maxRecDepth 100000
attribute [local go_sem ↓] Go.wp_at_zero Go.wp_at_succ

/-- the struct value v tells the envelope E -/
def EnvVal (w : World) (B : Nat) (v : Value) (E : EV) : Prop :=
  ∃ vk vt vp vs, v = .agg #[.bool E.has, .int .i32 E.kind, vk, vt, vp, vs] ∧ Bs w B vk E.key ∧ Bs w B vt E.ty ∧ Bs w B vp E.pay ∧ Bs w B vs E.sig
theorem EnvVal.step {w w' : World} {v : Value} {E : EV} (h : EnvVal w w.heap.size v E) (hb : Below w.heap.size w w') : EnvVal w' w'.heap.size v E := by
  obtain ⟨vk, vt, vp, vs, rfl, h1, h2, h3, h4⟩ := h
  exact ⟨_, _, _, _, rfl, h1.step hb, h2.step hb, h3.step hb, h4.step hb⟩

def BytesTrue0 (w : World) (l : List UInt8) (e : Ending) (w' : World) : Prop := ∃ v', e = .returned (.tuple #[v', .bool true]) ∧ Own w' w.heap.size v' l ∧ Below w.heap.size w w'

section
variable {w : World} {v : Value} {E : EV}

set_option maxHeartbeats 2000000 in
theorem envelopeBytes (hv : EnvVal w w.heap.size v E) (hs : E.small) :
    Calls Tryd.prog 53 #[v] w fun e w' => BytesTrue0 w (envEnc E) e w' := by
  obtain ⟨vk, vt, vp, vs, rfl, h1, h2, h3, h4⟩ := hv
  obtain ⟨A1, n1, c1, rfl⟩ := hid_exists_bs h1
  obtain ⟨A2, n2, c2, rfl⟩ := hid_exists_bs h2
  obtain ⟨A3, n3, c3, rfl⟩ := hid_exists_bs h3
  obtain ⟨A4, n4, c4, rfl⟩ := hid_exists_bs h4
  obtain ⟨has, kind, key, ty, pay, sig⟩ := E
  simp only [] at h1 h2 h3 h4 ⊢
  have ba := below_alloc w (.cells #[.bool has, .int .i32 kind, .slice A1 n1 c1, .slice A2 n2 c2, .slice A3 n3 c3, .slice A4 n4 c4] 64)
  have b0 := Lib.hid (Blk.new w 64 #[.bool has, .int .i32 kind, .slice A1 n1 c1, .slice A2 n2 c2, .slice A3 n3 c3, .slice A4 n4 c4])
  have X1 := Lib.hid (h1.step ba)
  have X2 := Lib.hid (h2.step ba)
  have X3 := Lib.hid (h3.step ba)
  have X4 := Lib.hid (h4.step ba)
  have B := Lib.hid ba
  have Hs := Lib.hid hs
  clear h1 h2 h3 h4 ba hs
  obtain ⟨g0, hg0⟩ : ∃ g0, g0 = w.heap.size := ⟨_, rfl⟩
  rw [← hg0] at b0
  have Hg0 := Lib.hid hg0
  generalize hw0 : w.alloc (.cells #[.bool has, .int .i32 kind, .slice A1 n1 c1, .slice A2 n2 c2, .slice A3 n3 c3, .slice A4 n4 c4] 64) = w0 at *
  have Hw0 := Lib.hid hw0
  clear hw0 hg0
  go_enter Tryd.func53, Tryd.ntmps53
  go_wp2_with fail
  rw [Hw0.out, ← Hg0.out]
  have bk0 := Lib.hid b0.out.drew
  go_region_held3 (fun W => W.cell? ⟨g0, 3, none⟩ = some (.slice A2 n2 c2) ∧ W.cell? ⟨g0, 4, none⟩ = some (.slice A3 n3 c3) ∧ W.cell? ⟨g0, 5, none⟩ = some (.slice A4 n4 c4)) (first | exact ⟨bk0.out.cell 3, bk0.out.cell 4, bk0.out.cell 5⟩ | exact ⟨bk1.out.cell 3, bk1.out.cell 4, bk1.out.cell 5⟩ | exact ⟨bk2.out.cell 3, bk2.out.cell 4, bk2.out.cell 5⟩ | exact ⟨bk3.out.cell 3, bk3.out.cell 4, bk3.out.cell 5⟩ | exact ⟨(bk3.out.alloc _).cell 3, (bk3.out.alloc _).cell 4, (bk3.out.alloc _).cell 5⟩) (first
    | (go_at_call 22; (with_reducible refine (bytesClone X2.out.drew1 (by have := Hs.out.ty; simp only [] at this; omega)).mono ?_); rintro e w1 ⟨x2, rfl, ho, hb⟩; replace hb := below_trans (below_drew w0) hb; have Y2 := Lib.hid ho.bs; obtain ⟨P2, q2, r2, rfl⟩ := hid_exists_bs Y2.out; have bk1 := Lib.hid (b0.out.step hb); have B1 := Lib.hid hb; clear ho hb)
    | (go_at_call 22; (with_reducible refine (bytesClone (X3.out.step B1.out) (by have := Hs.out.pay; simp only [] at this; omega)).mono ?_); rintro e w2 ⟨x3, rfl, ho, hb⟩; have Y3 := Lib.hid ho.bs; obtain ⟨P3, q3, r3, rfl⟩ := hid_exists_bs Y3.out; replace Y2 := Lib.hid (Y2.out.step hb); have bk2 := Lib.hid (bk1.out.step hb); have B2 := Lib.hid (below_trans B1.out hb); clear ho hb)
    | (go_at_call 22; (with_reducible refine (bytesClone (X4.out.step B2.out) (by have := Hs.out.sig; simp only [] at this; omega)).mono ?_); rintro e w3 ⟨x4, rfl, ho, hb⟩; have Y4 := Lib.hid ho.bs; obtain ⟨P4, q4, r4, rfl⟩ := hid_exists_bs Y4.out; replace Y2 := Lib.hid (Y2.out.step hb); replace Y3 := Lib.hid (Y3.out.step hb); have bk3 := Lib.hid (bk2.out.step hb); have B3 := Lib.hid (below_trans B2.out hb); clear ho hb))
  obtain ⟨ge, hge⟩ : ∃ ge, ge = w3.heap.size := ⟨_, rfl⟩
  have ba := below_alloc w3 (.cells #[.pointer none, .slice P2 q2 r2, .slice P3 q3 r3, .slice P4 q4 r4] 110)
  have be4 := Lib.hid (Blk.new w3 110 #[.pointer none, .slice P2 q2 r2, .slice P3 q3 r3, .slice P4 q4 r4])
  have hne : g0 < w3.heap.size := bk3.out.lt
  rw [← hge] at be4 hne ⊢
  have B4 := Lib.hid (below_trans B.out (below_trans B3.out ba))
  have bk4 := Lib.hid (bk3.out.step ba)
  replace X1 := Lib.hid (X1.out.step (below_trans B3.out ba))
  replace Y2 := Lib.hid (Y2.out.step ba)
  replace Y3 := Lib.hid (Y3.out.step ba)
  replace Y4 := Lib.hid (Y4.out.step ba)
  clear b0 bk0 bk1 bk2 bk3 B1 B2 B3 X2 X3 X4 Hw0 B hge
  generalize w3.alloc (.cells #[.pointer none, .slice P2 q2 r2, .slice P3 q3 r3, .slice P4 q4 r4] 110) = w4 at *
  have c00 : w4.cell? ⟨g0, 0, none⟩ = some (.bool has) := bk4.out.cell 0
  cases has with
  | false =>
    have HK : Hid (KeyFull w4 none ⟨false, kind, key, ty, pay, sig⟩) := .inl ⟨rfl, rfl⟩
    clear ba
    go_wp2_with fail
    refine (envMarshal (E := ⟨false, kind, key, ty, pay, sig⟩) be4.out HK.out Y2.out Y3.out Y4.out Hs.out).mono ?_
    rintro e w5 ⟨v5, rfl, ho, hb⟩
    have Ho := Lib.hid ho
    have Hb := Lib.hid hb
    clear ho hb
    go_wp2_with fail
    go_quiet (fail)
    go_wp2
    go_ret2
    exact ⟨v5, rfl, (Ho.out.more B4.out.size).drewN _, below_drewN (below_trans B4.out Hb.out) _⟩
  | true =>
    have c01 : w4.cell? ⟨g0, 1, none⟩ = some (.int .i32 kind) := bk4.out.cell 1
    have bk4d := Lib.hid bk4.out.drew
    clear ba
    go_wp2_with fail
    go_region_held3 (fun W => W.cell? ⟨g0, 1, none⟩ = some (.int .i32 kind) ∧ W.cell? ⟨g0, 2, none⟩ = some (.slice A1 n1 c1)) (first | exact ⟨bk4d.out.cell 1, bk4d.out.cell 2⟩ | exact ⟨bk5.out.cell 1, bk5.out.cell 2⟩ | exact ⟨bk6.out.cell 1, bk6.out.cell 2⟩ | exact ⟨bk7.out.cell 1, bk7.out.cell 2⟩ | exact ⟨bk8.out.cell 1, bk8.out.cell 2⟩) (first
      | (go_at_call 65; refine (enum _ _).mono ?_; rintro e w5 ⟨gt, rfl, hck, hb⟩; replace hb := below_trans (below_drew w4) hb; have Hck := Lib.hid hck; have bk5 := Lib.hid (bk4.out.step hb); have B5 := Lib.hid hb; clear hck hb)
      | (go_at_call 66; refine (present (X1.out.step B5.out) (by have := Hs.out.key; simp only [] at this; omega)).mono ?_; rintro e w6 ⟨x6, rfl, ho, hb, ⟨P1, q1, r1, rfl⟩⟩; have Y1 := Lib.hid ho.bs; have Hck6 := Lib.hid ((hb.cell (p := ⟨gt, 0, none⟩) (World.block_lt_of_cell? w5 _ Hck.out)).trans Hck.out); have bk6 := Lib.hid (bk5.out.step hb); have B6 := Lib.hid (below_trans B5.out hb); have bk7 := Lib.hid (bk6.out.alloc (.cells #[.pointer (some ⟨gt, 0, none⟩), .slice (some P1) q1 r1] 89)); have be7 := Lib.hid ((be4.out.step B6.out).alloc (.cells #[.pointer (some ⟨gt, 0, none⟩), .slice (some P1) q1 r1] 89)); have e7 : (w6.alloc (.cells #[.pointer (some ⟨gt, 0, none⟩), .slice (some P1) q1 r1] 89)).cell? ⟨ge, 0, none⟩ = some (.pointer none) := be7.out.cell 0; have f7 := be7.out.free 0; have bk8 := Lib.hid (bk7.out.far (p := ⟨ge, 0, none⟩) (by show ge ≠ g0; omega) (.pointer (some ⟨w6.heap.size, 0, none⟩))); clear ho hb))
    have ba7 := below_alloc w6 (.cells #[.pointer (some ⟨gt, 0, none⟩), .slice (some P1) q1 r1] 89)
    have bn7 : Blk (w6.alloc (.cells #[.pointer (some ⟨gt, 0, none⟩), .slice (some P1) q1 r1] 89)) w6.heap.size 89 #[.pointer (some ⟨gt, 0, none⟩), .slice (some P1) q1 r1] := Blk.new w6 _ _
    have k7 : KindAt (w6.alloc (.cells #[.pointer (some ⟨gt, 0, none⟩), .slice (some P1) q1 r1] 89)) (.pointer (some ⟨gt, 0, none⟩)) (some kind) := ⟨gt, rfl, (ba7.cell (p := ⟨gt, 0, none⟩) (World.block_lt_of_cell? w6 _ Hck6.out)).trans Hck6.out⟩
    have hgw : ge < w6.heap.size := (be4.out.step B6.out).lt
    have B7 := below_trans B6.out ba7
    have z1 := Y1.out.step ba7
    have z2 := Y2.out.step B7
    have z3 := Y3.out.step B7
    have z4 := Y4.out.step B7
    clear Y1 Y2 Y3 Y4 X1 bk4 bk4d bk5 bk6 bk7 bk8 c00 c01 e7 f7 Hck Hck6 be4 ba7
    generalize hw7 : w6.alloc (.cells #[.pointer (some ⟨gt, 0, none⟩), .slice (some P1) q1 r1] 89) = w7 at *
    obtain ⟨gk, hgk⟩ : ∃ gk, gk = w6.heap.size := ⟨_, rfl⟩
    rw [← hgk] at bn7 hgw ⊢
    have hni : ∀ u ∈ (#[.pointer none, .slice P2 q2 r2, .slice P3 q3 r3, .slice P4 q4 r4] : Array Value).toList, NoInt u := by
      intro u hu
      simp at hu
      rcases hu with rfl | rfl | rfl | rfl
      · exact noInt_ptr _
      · exact noInt_slice _ _ _
      · exact noInt_slice _ _ _
      · exact noInt_slice _ _ _
    have hg8 : w7.grownBy (w7.setCell ⟨ge, 0, none⟩ (.pointer (some ⟨gk, 0, none⟩))) (some ge) := grown_setCell (grown_refl _ _) (.inl rfl) _
    have be8 := Lib.hid (be7.out.set 0 (.pointer (some ⟨gk, 0, none⟩)))
    have bn8 := Lib.hid (bn7.grown hg8 (fun e => by injection e with e; omega))
    have k8 := Lib.hid (k7.keepBlk be7.out hni hg8)
    have Z1 := Lib.hid (z1.keepBlk be7.out hni hg8)
    have Z2 := Lib.hid (z2.keepBlk be7.out hni hg8)
    have Z3 := Lib.hid (z3.keepBlk be7.out hni hg8)
    have Z4 := Lib.hid (z4.keepBlk be7.out hni hg8)
    have B8 := Lib.hid (below_grown (below_trans B4.out B7) hg8 (fun g e => by injection e with e; have := Hg0.out; omega))
    clear be7 bn7 k7 z1 z2 z3 z4 hg8 B7 hni hgk hgw hw7
    generalize w7.setCell ⟨ge, 0, none⟩ (.pointer (some ⟨gk, 0, none⟩)) = w8 at *
    have HK : Hid (KeyFull w8 (some ⟨gk, 0, none⟩) ⟨true, kind, key, ty, pay, sig⟩) := by
      obtain ⟨gt', he, hc⟩ := k8.out
      injection he with he
      injection he with he
      injection he with he
      subst he
      exact .inr ⟨rfl, gk, gt, _, _, _, rfl, bn8.out, hc, Z1.out, ⟨_, _, _, rfl⟩⟩
    clear bn8 k8 Z1
    go_wp2_with fail
    refine (envMarshal (E := ⟨true, kind, key, ty, pay, sig⟩) be8.out HK.out Z2.out Z3.out Z4.out Hs.out).mono ?_
    rintro e w9 ⟨v9, rfl, ho, hb⟩
    have Ho := Lib.hid ho
    have Hb := Lib.hid hb
    clear ho hb
    go_wp2_with fail
    go_quiet (fail)
    go_wp2
    go_ret2
    exact ⟨v9, rfl, (Ho.out.more B8.out.size).drewN _, below_drewN (below_trans B8.out Hb.out) _⟩
end
end Go.Proofs.YtcefcdmonfenoaaDoor
