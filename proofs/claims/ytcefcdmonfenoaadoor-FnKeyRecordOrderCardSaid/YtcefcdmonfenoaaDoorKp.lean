/- crypto/pb: marshal, required, and the methods of PublicKey and PrivateKey. -/
import Derived.Test.YtcefcdmonfenoaaDoorKm
namespace Go.Proofs.YtcefcdmonfenoaaDoor
open Go.RowKit
set_option maxRecDepth 100000

/-- a kind as it stands on the wire -/
def kindNum (k : Int) : Nat := (k % 18446744073709551616).toNat
theorem kindNum_lt (k : Int) : kindNum k < 2 ^ 64 := by unfold kindNum; omega
theorem kindNum_of (k : Int) : 0 ≤ IntKind.u64.wrap k ∧ IntKind.u64.wrap k < 18446744073709551616 ∧ (IntKind.u64.wrap k).toNat = kindNum k := by
  unfold kindNum
  rw [IntKind.wrap_u64]
  omega
/-- a key's message -/
def keyEnc (k : Int) (d : List UInt8) : List UInt8 := 8 :: (Wire.venc (kindNum k) ++ 18 :: lenEnc d)

/-- bytes and no error -/
def BytesOk (w : World) (l : List UInt8) (e : Ending) (w' : World) : Prop := ∃ v', e = .returned (.tuple #[v', .nilIface]) ∧ Own w' w.heap.size v' l ∧ Below w.heap.size w w' ∧ NN v'

theorem keyMarshal {w : World} {g gk : Nat} {t : TypeId} {A : Option Addr} {n c : Nat} {k : Int} {d : List UInt8} (hb : Blk w g t #[.pointer (some ⟨gk, 0, none⟩), .slice A n c])
    (hk : w.cell? ⟨gk, 0, none⟩ = some (.int .i32 k)) (hd : Bs w w.heap.size (.slice A n c) d) (hn : NN (.slice A n c)) (hlen : d.length ≤ 140737488000000) (hk1 : -2147483648 ≤ k) (hk2 : k ≤ 2147483647) :
    Calls Tryd.prog 87 #[.pointer (some ⟨g, 0, none⟩)] w fun e w' => BytesOk w (keyEnc k d) e w' := by
  obtain ⟨a, n', c', he⟩ := hn
  injection he with e1 e2 e3
  subst e1 e2 e3
  have Hb := Lib.hid hb
  have Hd := Lib.hid hd
  have hnd : n = d.length := by
    obtain ⟨A', c', he, _⟩ := hd
    injection he with e1 e2 e3
  clear hd hb
  have c0 : w.cell? ⟨g, 0, none⟩ = some (.pointer (some ⟨gk, 0, none⟩)) := Hb.out.cell 0
  have c1 : w.cell? ⟨g, 1, none⟩ = some (.slice (some a) n c) := Hb.out.cell 1
  have hq := eql_nil
  have Hnd := Lib.hid hnd
  clear hnd
  go_enter Tryd.func87, Tryd.ntmps87
  go_wp2_with fail
  refine (appendTag (Own.nil w w.heap.size) (Nat.le_refl _) (by unfold TagOk; omega) (by simp)).mono ?_
  rintro e w1 ⟨v1, rfl, ho1, hg1, hn1, hm1⟩
  have hbl1 := Lib.hid (below_of_own (Own.nil w w.heap.size) hg1 (Nat.le_refl _))
  have c0' : w1.cell? ⟨g, 0, none⟩ = some (.pointer (some ⟨gk, 0, none⟩)) := (Hb.out.step hbl1.out).cell 0
  have hk' : w1.cell? ⟨gk, 0, none⟩ = some (.int .i32 k) := (hbl1.out.cell (p := ⟨gk, 0, none⟩) (World.block_lt_of_cell? w _ hk)).trans hk
  go_wp2_with fail
  refine (appendVarint ho1 hbl1.out.size _ (kindNum_of k).1 (kindNum_of k).2.1 (by simp)).mono ?_
  rintro e w2 ⟨v2, rfl, ho2, hg2, hn2, hm2⟩
  rw [(kindNum_of k).2.2] at ho2
  have hbl2 := Lib.hid (hbl1.out.trans (below_of_own ho1 hg2 hbl1.out.size))
  go_wp2_with fail
  have h10 : (Wire.venc (kindNum k)).length ≤ 10 := Wire.venc_length_u64 (kindNum_lt k)
  refine (appendTag ho2 hbl2.out.size (by unfold TagOk; omega) (by simp; omega)).mono ?_
  rintro e w3 ⟨v3, rfl, ho3, hg3, hn3, hm3⟩
  have hbl3 := Lib.hid (hbl2.out.trans (below_of_own ho2 hg3 hbl2.out.size))
  have c1' : w3.cell? ⟨g, 1, none⟩ = some (.slice (some a) n c) := (Hb.out.step hbl3.out).cell 1
  have Hd3 := Lib.hid (Hd.out.below hbl3.out)
  go_wp2_with fail
  refine (appendBytes ho3 hbl3.out.size Hd3.out hbl3.out.size (fun g e => (ho3.lt g e).1) (by simp; omega)).mono ?_
  rintro e w4 ⟨v4, rfl, ho4, hg4, hn4, hm4⟩
  have hbl4 := Lib.hid (hbl3.out.trans (below_of_own ho3 hg4 hbl3.out.size))
  go_wp2_with fail
  go_ret2
  exact ⟨v4, rfl, by have := ho4; simpa [keyEnc, List.append_assoc] using this, hbl4.out, hn4⟩
end Go.Proofs.YtcefcdmonfenoaaDoor
