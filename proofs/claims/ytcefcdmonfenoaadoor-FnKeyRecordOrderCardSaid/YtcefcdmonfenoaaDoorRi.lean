/- impl.RecordBytes. -/
import Derived.Test.YtcefcdmonfenoaaDoorRx
import Derived.Test.YtcefcdmonfenoaaDoorEi
import Derived.Deep.RegionHeld3
import Derived.Deep.RegionWith
import Derived.Deep.DrawnRows
namespace Go.Proofs.YtcefcdmonfenoaaDoor
open Go.RowKit
set_option maxRecDepth 100000
attribute [local go_sem ↓] Go.wp_at_zero Go.wp_at_succ

/-- the struct value v tells the record R -/
def RecVal (w : World) (B : Nat) (v : Value) (R : RV) : Prop :=
  ∃ vp va, v = .agg #[vp, .int .u64 (R.seq : Int), va] ∧ Bs w B vp R.peer ∧ Bss w B va R.addrs
theorem RecVal.step {w w' : World} {v : Value} {R : RV} (h : RecVal w w.heap.size v R) (hb : Below w.heap.size w w') : RecVal w' w'.heap.size v R := by
  obtain ⟨vp, va, rfl, h1, h2⟩ := h
  exact ⟨_, _, rfl, h1.step hb, h2.step hb⟩

theorem recHeld {W : World} {g : Nat} {t : TypeId} {a b c : Value} (h : Blk W g t #[a, b, c]) : W.cell? ⟨g, 0, none⟩ = some a ∧ W.cell? ⟨g, 1, none⟩ = some b := ⟨h.cell 0, h.cell 1⟩
section
variable {w : World} {v : Value} {R : RV}
set_option maxHeartbeats 2000000 in
theorem recordBytes (hv : RecVal w w.heap.size v R) (hs : R.small) :
    Calls Tryd.prog 39 #[v] w fun e w' => BytesTrue0 w (recEnc R) e w' := by
  obtain ⟨vp, va, rfl, h1, h2⟩ := hv
  obtain ⟨A1, n1, c1, rfl⟩ := hid_exists_bs h1
  obtain ⟨Aa, ca, rfl, hca, hca2⟩ := h2.form
  obtain ⟨na, hna⟩ : ∃ na, na = R.addrs.length := ⟨_, rfl⟩
  rw [← hna] at h2 hca ⊢
  have Hna := Lib.hid hna
  have hna3 : na ≤ 1000 := by rw [hna]; exact hs.many
  obtain ⟨sq, hsq⟩ : ∃ sq, sq = (R.seq : Int) := ⟨_, rfl⟩
  rw [← hsq]
  have Hsq := Lib.hid hsq
  have Hs := Lib.hid hs
  have ba := below_alloc w (.cells #[.slice A1 n1 c1, .int .u64 sq, .slice Aa na ca] 49)
  have b0 := Lib.hid (Blk.new w 49 #[.slice A1 n1 c1, .int .u64 sq, .slice Aa na ca])
  have X1 := Lib.hid (h1.step ba)
  have X2 := Lib.hid h2
  have B := Lib.hid ba
  clear h1 h2 ba hs hna hsq
  obtain ⟨g0, hg0⟩ : ∃ g0, g0 = w.heap.size := ⟨_, rfl⟩
  rw [← hg0] at b0
  have Hg0 := Lib.hid hg0
  generalize hw0 : w.alloc (.cells #[.slice A1 n1 c1, .int .u64 sq, .slice Aa na ca] 49) = w0 at *
  have Hw0 := Lib.hid hw0
  clear hw0 hg0
  go_enter Tryd.func39, Tryd.ntmps39
  go_wp2_with fail
  rw [Hw0.out, ← Hg0.out]
  have b0d := Lib.hid b0.out.drew
  go_region_held3 (fun W => W.cell? ⟨g0, 0, none⟩ = some (.slice A1 n1 c1) ∧ W.cell? ⟨g0, 1, none⟩ = some (.int .u64 sq)) (with_reducible first | exact recHeld b0d.out | exact recHeld b1.out | exact recHeld (b1.out.alloc _)) (first
    | (go_at_call 22; (with_reducible refine (bytesClone X1.out.drew1 (by have := Hs.out.peer; omega)).mono ?_); rintro e w1 ⟨x1, rfl, ho, hb⟩; replace hb := below_trans (below_drew w0) hb; have Y1 := Lib.hid ho.bs; obtain ⟨P1, q1, r1, rfl⟩ := hid_exists_bs Y1.out; have b1 := Lib.hid (b0.out.step hb); have B1 := Lib.hid hb; clear ho hb))
  have ba := below_alloc w1 (.cells #[.slice P1 q1 r1, .int .u64 sq, .slice none 0 0] 98)
  have bm := Lib.hid (Blk.new w1 98 #[.slice P1 q1 r1, .int .u64 sq, .slice none 0 0])
  obtain ⟨ge, hge⟩ : ∃ ge, ge = w1.heap.size := ⟨_, rfl⟩
  have hba1 : (w1.alloc (.cells #[.slice P1 q1 r1, .int .u64 sq, .slice none 0 0] 98)).heap.size = ge + 1 := by rw [hge]; simp
  have Z1 := Lib.hid (show Bs (w1.alloc (.cells #[.slice P1 q1 r1, .int .u64 sq, .slice none 0 0] 98)) ge (.slice P1 q1 r1) R.peer by rw [hge]; exact Y1.out.alloc (Nat.le_refl _) _)
  rw [← hge] at bm ⊢
  have hwge : w.heap.size ≤ ge := by rw [hge]; exact Nat.le_trans B.out.size B1.out.size
  have b2 := Lib.hid (b1.out.step ba)
  have B2 := Lib.hid (below_trans B.out (below_trans B1.out ba))
  clear Y1 b1 B1 b0 b0d ba B X1 hge
  generalize w1.alloc (.cells #[.slice P1 q1 r1, .int .u64 sq, .slice none 0 0] 98) = w2 at *
  have c02 : w2.cell? ⟨g0, 2, none⟩ = some (.slice Aa na ca) := b2.out.cell 2
  go_wp2_with fail
  go_loopw [19] (fun i wr => ∃ (k : Nat) (ads : Value), k ≤ na ∧ i = .int .i64 (k : Int) ∧ Hid (Blk wr ge 98 #[.slice P1 q1 r1, .int .u64 sq, ads]) ∧ Hid (Bs wr ge (.slice P1 q1 r1) R.peer) ∧ Hid (AdsAt (ge + 1) wr ads (R.addrs.take k)) ∧ Hid (Below w.heap.size w wr)) (fun i _ => na - (intOf i).toNat)
  case atStart => exact ⟨0, _, Nat.zero_le _, rfl, bm, Z1, AdsAt.nil _ _, B2⟩
  case round =>
    clear bm Z1 B2 b2 c02
    obtain ⟨k, ads, hk, rfl, hblk, hpid, hads, hbel⟩ := hrel
    obtain ⟨Ad, cd, hadf, _, _⟩ := hads.out.slice
    obtain ⟨nd, hnd⟩ : ∃ nd, nd = (R.addrs.take k).length := ⟨_, rfl⟩
    rw [← hnd] at hadf
    have Hnd := Lib.hid hnd
    subst hadf
    clear hnd
    by_cases hlt : k < na
    · have hkL : k < R.addrs.length := by have := Hna.out; omega
      obtain ⟨gr, o, u, rfl, hgr, hcu, hbu⟩ := (X2.out.below hbel.out).at_ hkL
      obtain ⟨Au, nu, cu, rfl⟩ := hid_exists_bs hbu
      have Hbu := Lib.hid (hbu.more hbel.out.size)
      have hle : R.addrs[k].length ≤ 1000 := Hs.out.addrs _ (List.getElem_mem hkL)
      have Htk := Lib.hid (show R.addrs.take (k + 1) = R.addrs.take k ++ [R.addrs[k]] from List.take_succ_eq_append_getElem hkL)
      obtain ⟨xs, hrow, hall⟩ := hads.out
      have Hrow := Lib.hid hrow
      have Hall := Lib.hid hall
      have hxl : xs.length + 1 ≤ 1000000000000 := by have := hall.length; have : (R.addrs.take k).length ≤ k := List.length_take_le _ _; omega
      have hcr : wr.cell? ⟨gr, o + k, none⟩ = some (.slice Au nu cu) := hcu
      clear hbu hrow hall hcu
      go_wp2_with fail
      have a0 := hblk.out.drew.cell 2
      simp only [List.getElem?_toArray, List.getElem?_cons_zero, List.getElem?_cons_succ] at a0
      have hz := hblk.out.lt
      go_region_law (first
        | (refine step_app1 (by rfl) _ _ (by rfl) Tryd.underlying96 Tryd.infoAI rfl (u := .pointer (some ⟨w3.heap.size, 0, none⟩)) (by rfl) (by rfl) ((Hrow3.out.alloc _).alloc _) (by simp [World.cell?_alloc_at]) rfl hxl (by omega) (by have := hs3; simp; omega) ?_; intro A9 n9 c9 w4 hrow4 hg4 hm4; have hb4 := ((hb3.out.alloc _).alloc _).grown hg4 (fun e => by have := (Hrow.out.lt ge e.symm).1; omega); have f4 := hb4.free 2; have d4 : w4.cell? ⟨ge, 2, none⟩ = some (.slice Ad nd cd) := hb4.cell 2; have HP := Lib.hid (adsPush hblk.out hpid.out Hrow.out Hall.out hbel.out hwge hbl3.out Ho3.out (by omega) rfl hrow4 hg4 hm4); clear hb4 hrow4 hg4 hm4)
        | (go_simp; go_at_call 22; (with_reducible refine (bytesClone (Hbu.out.step (below_drew wr)) (by omega)).mono ?_); rintro e w3 ⟨x3, rfl, ho, hb⟩; replace hb := below_trans (below_drew wr) hb; have Ho3 := Lib.hid (show Own w3 wr.heap.size x3 R.addrs[k] from ho); obtain ⟨P3, q3, r3, rfl⟩ := hid_exists_bs Ho3.out.bs; have hb3 := Lib.hid (hblk.out.step hb); have hbl3 := Lib.hid hb; have Hrow3 := Lib.hid (Hrow.out.step hb); have hs3 := hb.size; have a3 : w3.cell? ⟨ge, 2, none⟩ = some (.slice Ad nd cd) := hb3.out.cell 2; have a4 : (w3.alloc (.cells #[.slice P3 q3 r3] 101)).cell? ⟨ge, 2, none⟩ = some (.slice Ad nd cd) := (hb3.out.alloc _).cell 2; have a5 := ((hb3.out.alloc (.cells #[.slice P3 q3 r3] 101)).alloc (.cells #[.pointer (some ⟨w3.heap.size, 0, none⟩)] 99)).cell 2; simp only [List.getElem?_toArray, List.getElem?_cons_zero, List.getElem?_cons_succ] at a5; clear ho hb; go_wp2_with fail))
      all_goals
        have e1 := Lib.hid HP.out.1
        have e2 := Lib.hid HP.out.2.1
        have e3 := Lib.hid (show AdsAt (ge + 1) _ _ (R.addrs.take (k + 1)) by rw [Htk.out]; exact HP.out.2.2.1)
        have e4 := Lib.hid HP.out.2.2.2
        clear HP
        go_wp2_with fail
        go_roundw
        case rel => exact ⟨k + 1, _, by omega, by go_num, e1, e2, e3, e4⟩
        case measure => simp [intOf]; omega
    · obtain rfl : k = na := by omega
      have Hads := Lib.hid (show AdsAt (ge + 1) wr (.slice Ad nd cd) R.addrs by have := hads.out; rw [Hna.out, List.take_length] at this; exact this)
      have hge := hblk.out.lt
      have Hrep := Lib.hid (show RRep (ge + 1) wr (.slice P1 q1 r1) sq (.slice Ad nd cd) R from ⟨hpid.out.more (by omega), Hsq.out, Hs.out.seq, by have := Hs.out.peer; omega, Hads.out, by have := Hs.out.many; omega⟩)
      clear hads Hads Hnd
      go_wp2_with fail
      refine (recMarshal hblk.out Hrep.out Hs.out).mono ?_
      rintro e w5 ⟨v5, rfl, ho, hb⟩
      have Ho := Lib.hid ho
      have Hb := Lib.hid hb
      clear ho hb
      go_wp2_with fail
      go_quiet (fail)
      go_wp2
      go_ret2
      exact ⟨v5, rfl, (Ho.out.more hbel.out.size).drewN _, below_drewN (below_trans hbel.out Hb.out) _⟩
end
end Go.Proofs.YtcefcdmonfenoaaDoor
