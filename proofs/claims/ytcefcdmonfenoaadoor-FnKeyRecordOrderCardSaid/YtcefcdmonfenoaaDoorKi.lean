/- impl: KeyBytes, SecretBytes, KeyOf, SecretOf. -/
import Derived.Test.YtcefcdmonfenoaaDoorKu
import Derived.Deep.RegionHeld3
import Derived.Deep.RegionWith
import Derived.Deep.DrawnRows
namespace Go.Proofs.YtcefcdmonfenoaaDoor
open Go.RowKit
set_option maxRecDepth 100000
attribute [local go_sem ↓] Go.wp_at_zero Go.wp_at_succ

/-- bytes and 'true' -/
def BytesTrue (w : World) (l : List UInt8) (e : Ending) (w' : World) : Prop := ∃ v', e = .returned (.tuple #[v', .bool true]) ∧ Own w' w.heap.size v' l ∧ Below w.heap.size w w' ∧ NN v'

section
variable {w : World} {v : Value} {l : List UInt8} {k : Int}

theorem keyBytes (hv : Bs w w.heap.size v l) (hlen : l.length ≤ 140737488000000) (hk1 : -2147483648 ≤ k) (hk2 : k ≤ 2147483647) :
    Calls Tryd.prog 27 #[.int .i32 k, v] w fun e w' => BytesTrue w (keyEnc k l) e w' := by
  have Hv := Lib.hid hv
  clear hv
  go_enter Tryd.func27, Tryd.ntmps27
  go_wp2_with fail
  refine (enum _ _).mono ?_
  rintro e w1 ⟨gk, rfl, hck, hbl1⟩
  have Hbl1 := Lib.hid hbl1
  have Hck := Lib.hid hck
  clear hbl1 hck
  go_wp2_with fail
  refine (present (Hv.out.step Hbl1.out) (by omega)).mono ?_
  rintro e w2 ⟨v2, rfl, ho2, hbl2, hnn⟩
  obtain ⟨a, n, c, rfl⟩ := hnn
  have Hbl2 := Lib.hid (below_trans Hbl1.out hbl2)
  have Hck2 := Lib.hid ((hbl2.cell (p := ⟨gk, 0, none⟩) (World.block_lt_of_cell? w1 _ Hck.out)).trans Hck.out)
  have Hd2 := Lib.hid ho2.bs
  clear ho2 hbl2
  go_wp2_with fail
  have hba := below_alloc w2 (.cells #[.pointer (some ⟨gk, 0, none⟩), .slice (some a) n c] 89)
  refine (pubMarshal (w := w2.alloc (.cells #[.pointer (some ⟨gk, 0, none⟩), .slice (some a) n c] 89)) (Blk.new w2 _ _) ((hba.cell (p := ⟨gk, 0, none⟩) (World.block_lt_of_cell? w2 _ Hck2.out)).trans Hck2.out) (Hd2.out.step hba) ⟨_, _, _, rfl⟩ hlen hk1 hk2).mono ?_
  rintro e w3 ⟨v3, rfl, ho3, hbl3, hnn3⟩
  have Hbl3 := Lib.hid (below_trans (below_trans Hbl2.out hba) hbl3)
  have Ho3 := Lib.hid ho3
  have hsz := Hbl2.out.size
  clear hba hbl3 ho3
  go_wp2_with fail
  go_quiet (fail)
  go_wp2
  go_ret2
  exact ⟨v3, rfl, (Ho3.out.more (by simp; omega)).drewN _, below_drewN Hbl3.out _, hnn3⟩

theorem secretBytes (hv : Bs w w.heap.size v l) (hlen : l.length ≤ 140737488000000) (hk1 : -2147483648 ≤ k) (hk2 : k ≤ 2147483647) :
    Calls Tryd.prog 42 #[.int .i32 k, v] w fun e w' => BytesTrue w (keyEnc k l) e w' := by
  have Hv := Lib.hid hv
  clear hv
  go_enter Tryd.func42, Tryd.ntmps42
  go_wp2_with fail
  refine (enum _ _).mono ?_
  rintro e w1 ⟨gk, rfl, hck, hbl1⟩
  have Hbl1 := Lib.hid hbl1
  have Hck := Lib.hid hck
  clear hbl1 hck
  go_wp2_with fail
  refine (present (Hv.out.step Hbl1.out) (by omega)).mono ?_
  rintro e w2 ⟨v2, rfl, ho2, hbl2, hnn⟩
  obtain ⟨a, n, c, rfl⟩ := hnn
  have Hbl2 := Lib.hid (below_trans Hbl1.out hbl2)
  have Hck2 := Lib.hid ((hbl2.cell (p := ⟨gk, 0, none⟩) (World.block_lt_of_cell? w1 _ Hck.out)).trans Hck.out)
  have Hd2 := Lib.hid ho2.bs
  clear ho2 hbl2
  go_wp2_with fail
  have hba := below_alloc w2 (.cells #[.pointer (some ⟨gk, 0, none⟩), .slice (some a) n c] 103)
  refine (privMarshal (w := w2.alloc (.cells #[.pointer (some ⟨gk, 0, none⟩), .slice (some a) n c] 103)) (Blk.new w2 _ _) ((hba.cell (p := ⟨gk, 0, none⟩) (World.block_lt_of_cell? w2 _ Hck2.out)).trans Hck2.out) (Hd2.out.step hba) ⟨_, _, _, rfl⟩ hlen hk1 hk2).mono ?_
  rintro e w3 ⟨v3, rfl, ho3, hbl3, hnn3⟩
  have Hbl3 := Lib.hid (below_trans (below_trans Hbl2.out hba) hbl3)
  have Ho3 := Lib.hid ho3
  have hsz := Hbl2.out.size
  clear hba hbl3 ho3
  go_wp2_with fail
  go_quiet (fail)
  go_wp2
  go_ret2
  exact ⟨v3, rfl, (Ho3.out.more (by simp; omega)).drewN _, below_drewN Hbl3.out _, hnn3⟩

/-- what KeyOf answers -/
def KeyOfAns (w : World) (l : List UInt8) (e : Ending) (w' : World) : Prop :=
  Below w.heap.size w w' ∧ ((keyDec l = none ∧ e = .returned (.tuple #[.int .i32 0, .slice none 0 0, .bool false])) ∨
    ∃ k d v', keyDec l = some (k, d) ∧ e = .returned (.tuple #[.int .i32 k, v', .bool true]) ∧ Bs w' w'.heap.size v' d ∧ d.length ≤ 140737488355328)

theorem keyOf (hv : Bs w w.heap.size v l) (he : CErr w) (hlen : l.length ≤ 140737488355328) :
    Calls Tryd.prog 31 #[v] w fun e w' => KeyOfAns w l e w' := by
  have Hv := Lib.hid hv
  have He := Lib.hid he
  clear hv he
  go_enter Tryd.func31, Tryd.ntmps31
  go_wp2_with fail
  have hba := below_alloc w (.cells #[.pointer none, .slice none 0 0] 89)
  refine (bytesClone (w := w.alloc (.cells #[.pointer none, .slice none 0 0] 89)) (Hv.out.step hba) hlen).mono ?_
  rintro e w1 ⟨v1, rfl, ho1, hbl1⟩
  have Hb1 := Lib.hid ((Blk.new w 89 #[.pointer none, .slice none 0 0]).step hbl1)
  have Hbl1 := Lib.hid (below_trans hba hbl1)
  have Hv1 := Lib.hid ho1.bs
  clear hba hbl1 ho1
  go_wp2_with fail
  refine (pubUnmarshal Hb1.out Hv1.out (He.out.step Hbl1.out) hlen).mono ?_
  rintro e w2 ⟨p2, A2, n2, c2, hb2, hg2, hans⟩
  have Hb2 := Lib.hid hb2
  have Hbl2 := Lib.hid (below_grown Hbl1.out hg2 (fun g e => by injection e with e; omega))
  clear hb2 hg2
  rcases hans with ⟨hd, te, xe, rfl⟩ | ⟨k, d, hd, rfl, hrep⟩
  · have Hd := Lib.hid hd
    clear hd
    go_wp2_with fail
    go_ret3
    exact ⟨Hbl2.out, .inl ⟨Hd.out, rfl⟩⟩
  · have Hd := Lib.hid hd
    have Hrep := Lib.hid hrep
    clear hd hrep
    go_wp2_with fail
    have c1 : w2.cell? ⟨w.heap.size, 1, none⟩ = some (.slice A2 n2 c2) := Hb2.out.cell 1
    have HG : ∀ W, Below w2.heap.size w2 W → Calls Tryd.prog 71 #[.pointer (some ⟨w.heap.size, 0, none⟩)] W fun e w' => e = .returned (.int .i32 k) ∧ W = w' := fun W hW => getType (Hb2.out.step hW) (Hrep.out.step hW)
    have HC : ∀ W, Below w2.heap.size w2 W → Calls Tryd.prog 22 #[.slice A2 n2 c2] W fun e w' => Fresh W d e w' := fun W hW => bytesClone (Hrep.out.2.1.step hW) Hrep.out.2.2.2
    have HG' := Lib.hid HG
    have HC' := Lib.hid HC
    clear HG HC
    go_region_with (first
      | (go_at_call 71; refine (HG'.out _ (by first | exact below_refl _ | exact below_drewN (below_refl _) _ | exact (below_refl _).drew | assumption | exact below_trans (below_drewN (below_refl _) _) (by assumption) | exact below_trans (below_refl _).drew (by assumption))).mono ?_; rintro e w' ⟨rfl, rfl⟩)
      | (go_at_call 22; refine (HC'.out _ (by first | exact below_refl _ | exact below_drewN (below_refl _) _ | exact (below_refl _).drew)).mono ?_; rintro e w' ⟨v', rfl, ho, hbl⟩))
    all_goals
      go_wp2
      go_ret3
      have hbl3 := below_trans Hbl2.out (below_trans (below_refl w2).drew hbl)
      exact ⟨hbl3, .inr ⟨k, d, v', Hd.out, rfl, ho.bs, Hrep.out.2.2.2⟩⟩

theorem secretOf (hv : Bs w w.heap.size v l) (he : CErr w) (hlen : l.length ≤ 140737488355328) :
    Calls Tryd.prog 41 #[v] w fun e w' => KeyOfAns w l e w' := by
  have Hv := Lib.hid hv
  have He := Lib.hid he
  clear hv he
  go_enter Tryd.func41, Tryd.ntmps41
  go_wp2_with fail
  have hba := below_alloc w (.cells #[.pointer none, .slice none 0 0] 103)
  refine (bytesClone (w := w.alloc (.cells #[.pointer none, .slice none 0 0] 103)) (Hv.out.step hba) hlen).mono ?_
  rintro e w1 ⟨v1, rfl, ho1, hbl1⟩
  have Hb1 := Lib.hid ((Blk.new w 103 #[.pointer none, .slice none 0 0]).step hbl1)
  have Hbl1 := Lib.hid (below_trans hba hbl1)
  have Hv1 := Lib.hid ho1.bs
  clear hba hbl1 ho1
  go_wp2_with fail
  refine (privUnmarshal Hb1.out Hv1.out (He.out.step Hbl1.out) hlen).mono ?_
  rintro e w2 ⟨p2, A2, n2, c2, hb2, hg2, hans⟩
  have Hb2 := Lib.hid hb2
  have Hbl2 := Lib.hid (below_grown Hbl1.out hg2 (fun g e => by injection e with e; omega))
  clear hb2 hg2
  rcases hans with ⟨hd, te, xe, rfl⟩ | ⟨k, d, hd, rfl, hrep⟩
  · have Hd := Lib.hid hd
    clear hd
    go_wp2_with fail
    go_ret3
    exact ⟨Hbl2.out, .inl ⟨Hd.out, rfl⟩⟩
  · have Hd := Lib.hid hd
    have Hrep := Lib.hid hrep
    clear hd hrep
    go_wp2_with fail
    have c1 : w2.cell? ⟨w.heap.size, 1, none⟩ = some (.slice A2 n2 c2) := Hb2.out.cell 1
    have c0 : w2.cell? ⟨w.heap.size, 0, none⟩ = some (.pointer p2) := Hb2.out.cell 0
    obtain ⟨gk, he, hck⟩ := Hrep.out.1
    injection he with he
    subst he
    have HC : ∀ W, Below w2.heap.size w2 W → Calls Tryd.prog 22 #[.slice A2 n2 c2] W fun e w' => Fresh W d e w' := fun W hW => bytesClone (Hrep.out.2.1.step hW) Hrep.out.2.2.2
    have HK : ∀ W, Below w2.heap.size w2 W → W.cell? ⟨w.heap.size, 0, none⟩ = some (.pointer (some ⟨gk, 0, none⟩)) ∧ W.cell? ⟨gk, 0, none⟩ = some (.int .i32 k) ∧ W.cell? ⟨w.heap.size, 1, none⟩ = some (.slice A2 n2 c2) := fun W hW =>
      ⟨(Hb2.out.step hW).cell 0, (hW.cell (p := ⟨gk, 0, none⟩) (World.block_lt_of_cell? w2 _ hck)).trans hck, (Hb2.out.step hW).cell 1⟩
    have HC' := Lib.hid HC
    have HK' := Lib.hid HK
    clear HC HK
    go_region_held3 (fun W => W.cell? ⟨w.heap.size, 0, none⟩ = some (.pointer (some ⟨gk, 0, none⟩)) ∧ W.cell? ⟨gk, 0, none⟩ = some (.int .i32 k) ∧ W.cell? ⟨w.heap.size, 1, none⟩ = some (.slice A2 n2 c2))
      (first | exact HK'.out _ (below_refl _) | exact HK'.out _ (below_refl _).drew | exact HK'.out _ (below_drewN (below_refl _) _) | exact HK'.out _ (below_trans (below_refl w2).drew hbl) | exact HK'.out _ hbl)
      (first | (go_at_call 22; refine (HC'.out _ (by first | exact below_refl _ | exact below_drewN (below_refl _) _ | exact (below_refl _).drew)).mono ?_; rintro e w' ⟨v', rfl, ho, hbl⟩))
    all_goals
      go_wp2
      go_ret3
      have hbl3 := below_trans Hbl2.out (below_trans (below_refl w2).drew hbl)
      exact ⟨hbl3, .inr ⟨k, d, v', Hd.out, rfl, ho.bs, Hrep.out.2.2.2⟩⟩
end
end Go.Proofs.YtcefcdmonfenoaaDoor
