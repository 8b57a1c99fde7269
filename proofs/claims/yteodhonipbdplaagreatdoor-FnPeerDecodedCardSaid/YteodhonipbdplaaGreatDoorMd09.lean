/- The alphabet of base 58 as it lies in memory. -/
import Derived.Test.YteodhonipbdplaaGreatDoorMd01
import Derived.Test.YteodhonipbdplaaGreatDoorMd08
import Derived.Lib.BufferWrite
import Derived.Laws.CopyOwn
import Derived.Deep.MidRow
namespace Go.Proofs.YteodhonipbdplaaGreatDoor
open Go.RowKit
set_option maxRecDepth 100000

/-- what the letters are decoded to, with k of them laid in -/
def decV : Nat → List Value
  | 0 => List.replicate 128 (.int .i8 (-1))
  | k + 1 => (decV k).set (B58.alpha.getD k 0).toNat (.int .i8 (k : Int))
def decZ (k : Nat) : List Value := List.replicate k (.int .i8 (-1)) ++ List.replicate (128 - k) (.int .i8 0)
theorem decV_length : ∀ k, (decV k).length = 128
  | 0 => by simp [decV]
  | k + 1 => by simp [decV, decV_length k]
theorem decZ_length {k : Nat} (h : k ≤ 128) : (decZ k).length = 128 := by simp [decZ]; omega
theorem decZ_succ {k : Nat} (h : k < 128) : (decZ k).set k (.int .i8 (-1)) = decZ (k + 1) := by
  unfold decZ
  rw [List.set_append_right _ _ (by simp), List.length_replicate, Nat.sub_self]
  obtain ⟨m, hm⟩ : ∃ m, 128 - k = m + 1 := ⟨127 - k, by omega⟩
  rw [hm, show 128 - (k + 1) = m by omega, List.replicate_succ, List.set_cons_zero, List.replicate_succ', List.append_assoc]
  rfl
theorem alpha_lt {k : Nat} : (B58.alpha.getD k 0).toNat < 128 := by
  rw [List.getD_eq_getElem?_getD]
  cases h : B58.alpha[k]? with
  | none => simp
  | some x =>
    have hm := List.mem_of_getElem? h
    have : ∀ y ∈ B58.alpha, y.toNat < 128 := by decide
    exact this x hm
def alphaCells (l : List Value) : Array Value := (l ++ bvs B58.alpha).toArray
section
variable {w w1 : World} {g : Nat} {t : TypeId} {l : List Value}
theorem alphaSet (h : Blk w g t (alphaCells l)) {i : Nat} (hi : i < l.length) (u : Value) : Blk (w.setCell ⟨g, i, none⟩ u) g t (alphaCells (l.set i u)) := by
  have := h.set i u
  rw [show (alphaCells l).setIfInBounds i u = alphaCells (l.set i u) by unfold alphaCells; rw [List.setIfInBounds_toArray, List.set_append_left _ _ hi]] at this
  exact this
theorem alphaCell (h : Blk w g t (alphaCells l)) {i : Nat} (hi : i < l.length) : w.cell? ⟨g, i, none⟩ = some l[i] := by
  rw [h.cell]
  simp [alphaCells, List.getElem?_append_left hi]
theorem alphaLetter (h : Blk w g t (alphaCells l)) (hl : l.length = 128) {i : Nat} (hi : i < 58) : w.cell? ⟨g, 128 + i, none⟩ = some (bv (B58.alpha.getD i 0)) := by
  rw [h.cell]
  have hi' : i < B58.alpha.length := hi
  simp [alphaCells, hl, bvs, bv, List.getD_eq_getElem?_getD, hi']
theorem Blk.setRow {cs cs' : Array Value} (h : Blk w g t cs) : Blk (w.setRow g cs') g t cs' := setRow_heap w g cs cs' t (0, 0) h
end
theorem blk_setCell_below {w wr : World} {g : Nat} (h : Below w.heap.size w wr) (hg : w.heap.size ≤ g) (i : Nat) (u : Value) : Below w.heap.size w (wr.setCell ⟨g, i, none⟩ u) :=
  below_grown h (grown_setCell (grown_refl wr (some g)) (p := ⟨g, i, none⟩) (.inl rfl) u) (fun k e => by injection e with e; omega)
theorem zeroAlpha : Tryz.zeroCells158 = (List.replicate 128 (Value.int .i8 0) ++ List.replicate 58 (Value.int .u8 0)).toArray := by kernel_rfl
/-- the letters copied behind the zeros -/
theorem alphaCopy (w : World) (s : ByteArray) (ha : s.data.toList = B58.alpha) :
    ∃ w1, (Builtin.copy_ #[23, 9] 3 #[.slice (some ⟨w.heap.size, 128, none⟩) 58 58, .string s]).run Tryz.prog (w.alloc (.cells Tryz.zeroCells158 158)) = .ok (goInt s.size) w1 ∧
      Blk w1 w.heap.size 158 (alphaCells (decZ 0)) ∧ Below w.heap.size w w1 := by
  have hb := Blk.new w 158 Tryz.zeroCells158
  have hsz : s.size = 58 := by have := congrArg List.length ha; simpa [B58.alpha] using this
  have hz := zeroAlpha
  have hr := Lib.run_copy_row_string (P := Tryz.prog) (w.alloc (.cells Tryz.zeroCells158 158)) 23 9 3 5 w.heap.size 128 58 58 s Tryz.zeroCells158 158 Tryz.underlying23
    (by obtain ⟨i0, hi, hz0, hz1, hz2⟩ := info_parts Tryz.info5; rw [hi]; simp [hz1]) hb (by omega) (by rw [hsz, hz]; simp)
  refine ⟨_, hr, ?_, ?_⟩
  · have e : (Tryz.zeroCells158.toList.take 128 ++ Lib.byteCells s.data.toList ++ Tryz.zeroCells158.toList.drop (128 + s.size)).toArray = alphaCells (decZ 0) := by
      rw [hsz, hz, ha]
      unfold alphaCells decZ
      rw [List.toList_toArray, List.take_left' (by simp), List.drop_of_length_le (by simp)]
      rw [List.append_nil]
      rfl
    rw [e]
    exact hb.setRow
  · exact below_setRow (below_alloc w _) (Nat.le_refl _) _

theorem infoArr58 : (Tryz.prog.info? 156).map (·.size) = some (bvs B58.alpha).length := by kernel_rfl
theorem indexAlpha {k : Nat} (h : k < 58) (W : World) : (Instr.index 156 (.agg (bvs B58.alpha).toArray) (.int .i64 (k : Int))).run Tryz.prog W = .ok (.int .u8 ((B58.alpha.getD k 0).toNat : Int)) W := by
  have hu : Tryz.prog.underlying 156 = some (.array 58 5) := Tryz.underlying156
  have hl : k < (bvs B58.alpha).toArray.size := by simpa [bvs, B58.alpha] using h
  have hg : (bvs B58.alpha).toArray[k]? = some (.int .u8 ((B58.alpha.getD k 0).toNat : Int)) := by
    have := bvs_get B58.alpha k (show k < B58.alpha.length from h)
    rw [List.getD_eq_getElem?_getD, List.getElem?_eq_getElem (show k < B58.alpha.length from h)]
    simpa using this
  obtain ⟨i0, hi, hz0, hz1, hz2⟩ := info_parts Tryz.info5
  have hpart : (part 5 (bvs B58.alpha).toArray k).run Tryz.prog W = .ok (.int .u8 ((B58.alpha.getD k 0).toNat : Int)) W := by
    generalize (B58.alpha.getD k 0).toNat = d at hg ⊢
    unfold part
    simp [isAgg, run_underlying Tryz.underlying5, hg]
  simp [Instr.index, run_underlying hu, asIntOf, sizeOf, typeInfo, hi, hz1, hpart]
  omega
set_option maxHeartbeats 1000000 in
theorem newAlphabet {w : World} {s : ByteArray} (hs : s.size = 58) (ha : s.data.toList = B58.alpha) :
    Calls Tryz.prog 118 #[.string s] w fun e w' => ∃ g, e = .returned (.pointer (some ⟨g, 0, none⟩)) ∧ Blk w' g 158 (alphaCells (decV 58)) ∧ Below w.heap.size w w' ∧ w.heap.size ≤ g := by
  obtain ⟨w1, hcopy, hb1, hbl1⟩ := alphaCopy w s ha
  obtain ⟨g, hg⟩ : ∃ g, g = w.heap.size := ⟨_, rfl⟩
  rw [← hg] at hb1
  have Hg := Lib.hid hg
  have Hb1 := Lib.hid hb1
  have Hbl1 := Lib.hid hbl1
  clear ha hb1 hbl1 hg
  go_enter Tryz.func118, Tryz.ntmps118
  go_wp2_with fail
  rw [← Hg.out]
  clear hcopy
  go_loopw [18] (fun i wr => ∃ k : Nat, k ≤ 128 ∧ i = .int .i64 (k : Int) ∧ Hid (Blk wr g 158 (alphaCells (decZ k))) ∧ Hid (Below w.heap.size w wr)) (fun i _ => 128 - (intOf i).toNat)
  case atStart => exact ⟨0, by omega, rfl, Hb1, Hbl1⟩
  case round =>
    obtain ⟨k, hk, rfl, hb, hbl⟩ := hrel
    clear Hb1 Hbl1
    by_cases hlt : k < 128
    · have hcell := alphaCell hb.out (i := k) (by rw [decZ_length (by omega)]; exact hlt)
      have hfree := hb.out.free k
      have hb2 := Lib.hid (alphaSet hb.out (i := k) (by rw [decZ_length (by omega)]; exact hlt) (.int .i8 (-1)))
      rw [decZ_succ hlt] at hb2
      have hbl2 := Lib.hid (blk_setCell_below hbl.out (by have := Hg.out; omega) k (.int .i8 (-1)) (g := g))
      go_wp2_with fail
      go_roundw
      case rel => exact ⟨k + 1, by omega, by go_num, hb2, hbl2⟩
      case measure => simp [intOf]; omega
    · obtain rfl : k = 128 := by omega
      have e0 : decZ 128 = decV 0 := by simp [decZ, decV]
      have hb2 := Lib.hid (show Blk wr g 158 (alphaCells (decV 0)) by rw [← e0]; exact hb.out)
      clear hb hlt e0
      have hrange : wr.rangeAt g 128 (bvs B58.alpha) := fun j v hj => by
        have hl : j < 58 := by have := (List.getElem?_eq_some_iff.1 hj).1; simpa [bvs, B58.alpha] using this
        rw [alphaLetter hb2.out (decV_length 0) hl, ← hj, bvs_get _ _ (show j < B58.alpha.length from hl), List.getD_eq_getElem?_getD, List.getElem?_eq_getElem (show j < B58.alpha.length from hl)]
        rfl
      have Hr := Lib.hid hrange
      clear hrange
      go_wp2_with ((refine wpList_load_mid rfl 156 _ (by rfl) g 128 (by rfl) (bvs B58.alpha) _ Hr.out Tryz.underlying156 rfl infoArr58 ?_))
      clear Hr
      go_loopw [31] (fun i wr => ∃ k : Nat, k ≤ 58 ∧ i = .int .i64 (k : Int) ∧ Hid (Blk wr g 158 (alphaCells (decV k))) ∧ Hid (Below w.heap.size w wr)) (fun i _ => 58 - (intOf i).toNat)
      case atStart => exact ⟨0, by omega, rfl, hb2, hbl⟩
      case round =>
        clear hb2 hbl
        obtain ⟨k, hk, rfl, hb, hbl⟩ := hrel
        by_cases hlt : k < 58
        · have hix := indexAlpha hlt
          have ha := alpha_lt (k := k)
          have hda : (B58.alpha.getD k 0).toNat < (decV k).length := by rw [decV_length]; exact ha
          obtain ⟨dv, hcell⟩ : ∃ u, wr.cell? ⟨g, (B58.alpha.getD k 0).toNat, none⟩ = some u := ⟨_, alphaCell hb.out hda⟩
          have hfree := hb.out.free (B58.alpha.getD k 0).toNat
          have hb3 := Lib.hid (show Blk _ g 158 (alphaCells (decV (k + 1))) from alphaSet hb.out hda (.int .i8 (k : Int)))
          have hbl3 := Lib.hid (blk_setCell_below hbl.out (by have := Hg.out; omega) (B58.alpha.getD k 0).toNat (.int .i8 (k : Int)) (g := g))
          have ha0 : (0 : Int) ≤ ((B58.alpha.getD k 0).toNat : Int) := by omega
          have ha1 : ((B58.alpha.getD k 0).toNat : Int) < 128 := by omega
          clear hda
          generalize (B58.alpha.getD k 0).toNat = d at *
          clear hb hbl
          go_wp2_with fail
          go_roundw
          case rel => exact ⟨k + 1, by omega, by go_num, hb3, hbl3⟩
          case measure => simp [intOf]; omega
        · obtain rfl : k = 58 := by omega
          go_wp2_with fail
          go_ret
          exact ⟨g, rfl, hb.out, hbl.out, by have := Hg.out; omega⟩
/-- the alphabet, made anew -/
theorem btcAlphabet (w : World) : Calls Tryz.prog 92 #[] w fun e w' => ∃ g, e = .returned (.pointer (some ⟨g, 0, none⟩)) ∧ Blk w' g 158 (alphaCells (decV 58)) ∧ Below w.heap.size w w' ∧ w.heap.size ≤ g := by
  go_enter Tryz.func92, Tryz.ntmps92
  go_wp2_with fail
  refine (newAlphabet (by rfl) (by rfl)).mono ?_
  rintro e w1 ⟨g, rfl, h1, h2, h3⟩
  have H1 := Lib.hid h1
  have H2 := Lib.hid h2
  clear h1 h2
  go_wp2_with fail
  go_ret
  exact ⟨g, rfl, H1.out, H2.out, h3⟩
end Go.Proofs.YteodhonipbdplaaGreatDoor

