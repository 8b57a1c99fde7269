/- The cells of a digest. -/
import Derived.Test.YtkmjjoffamdnfaaGreatDoorMi02
import Derived.Laws.CopyOwn
import Derived.Deep.CutBlock
import Derived.Deep.DeepCutAuto
import Derived.Deep.RegionHeld3
import Derived.Deep.RegionLaw
namespace Go.Proofs.YtkmjjoffamdnfaaGreatDoor
open Go.RowKit
set_option maxRecDepth 100000
section
variable {w w' : World} {g : Nat} {V U : Sha.V} {X Y : List UInt8} {nx len : Nat}
theorem dig_low (V : Sha.V) (T : List Value) (j : Nat) : (u32s V.list ++ T)[8 + j]? = T[j]? := by
  rw [List.getElem?_append_right (by simp [u32s_length, Sha.V.list])]
  congr 1
  simp [u32s_length, Sha.V.list]
theorem digT_x {j : Nat} (hX : X.length = 64) (hj : j < 64) : (digT X nx len)[j]? = some (bv (X[j]'(by omega))) := by
  unfold digT
  rw [List.getElem?_append_left (by rw [bvs_length]; omega)]
  exact bvs_get X j (by omega)
theorem digT_n (hX : X.length = 64) (j : Nat) : (digT X nx len)[64 + j]? = ([.int .i64 (nx : Int), .int .u64 (len : Int), .bool false] : List Value)[j]? := by
  unfold digT
  rw [List.getElem?_append_right (by rw [bvs_length]; omega), bvs_length, hX]
  congr 1
  omega
theorem Dig.x (h : Dig w g V X nx len) {j : Nat} (hj : j < 64) : w.cell? ⟨g, 8 + j, none⟩ = some (bv (X[j]'(by have := h.1; omega))) := by
  rw [h.2.cell, List.getElem?_toArray, dig_low, digT_x h.1 hj]
theorem Dig.num (h : Dig w g V X nx len) : w.cell? ⟨g, 72, none⟩ = some (.int .i64 (nx : Int)) ∧ w.cell? ⟨g, 73, none⟩ = some (.int .u64 (len : Int)) ∧ w.cell? ⟨g, 74, none⟩ = some (.bool false) := by
  refine ⟨?_, ?_, ?_⟩
  · rw [h.2.cell, List.getElem?_toArray, show 72 = 8 + (64 + 0) from rfl, dig_low, digT_n h.1]; rfl
  · rw [h.2.cell, List.getElem?_toArray, show 73 = 8 + (64 + 1) from rfl, dig_low, digT_n h.1]; rfl
  · rw [h.2.cell, List.getElem?_toArray, show 74 = 8 + (64 + 2) from rfl, dig_low, digT_n h.1]; rfl
theorem Dig.words (h : Dig w g V X nx len) : w.cell? ⟨g, 0, none⟩ = some (.int .u32 (V.a : Int)) ∧ w.cell? ⟨g, 1, none⟩ = some (.int .u32 (V.b : Int)) ∧ w.cell? ⟨g, 2, none⟩ = some (.int .u32 (V.c : Int)) ∧ w.cell? ⟨g, 3, none⟩ = some (.int .u32 (V.d : Int)) ∧ w.cell? ⟨g, 4, none⟩ = some (.int .u32 (V.e : Int)) ∧ w.cell? ⟨g, 5, none⟩ = some (.int .u32 (V.f : Int)) ∧ w.cell? ⟨g, 6, none⟩ = some (.int .u32 (V.g : Int)) ∧ w.cell? ⟨g, 7, none⟩ = some (.int .u32 (V.h : Int)) :=
  ⟨h.2.cell 0, h.2.cell 1, h.2.cell 2, h.2.cell 3, h.2.cell 4, h.2.cell 5, h.2.cell 6, h.2.cell 7⟩
/-- the row, from a place on -/
theorem Dig.buf (h : Dig w g V X nx len) {a : Nat} (ha : a ≤ 64) {n c : Nat} (hn : n = 64 - a) (hc : c = 64 - a) : Bs w w.heap.size (.slice (some ⟨g, 8 + a, none⟩) n c) (X.drop a) := by
  subst hn hc
  have hX := h.1
  have hl : (X.drop a).length = 64 - a := by rw [List.length_drop, hX]
  refine ⟨some ⟨g, 8 + a, none⟩, 64 - a, by rw [hl], by omega, by omega, fun _ => ⟨g, 8 + a, rfl, h.2.lt, fun k hk => ?_⟩⟩
  rw [Nat.add_assoc, h.x (by omega), List.getElem_drop]
theorem digT_setN {n : Nat} (hX : X.length = 64) : (u32s V.list ++ digT X nx len).set 72 (.int .i64 (n : Int)) = u32s V.list ++ digT X n len := by
  rw [List.set_append_right _ _ (by simp [u32s_length, Sha.V.list])]
  congr 1
  unfold digT
  rw [List.set_append_right _ _ (by simp [u32s_length, Sha.V.list, bvs_length, hX])]
  simp [u32s_length, Sha.V.list, bvs_length, hX]
theorem digT_setL {n : Nat} (hX : X.length = 64) : (u32s V.list ++ digT X nx len).set 73 (.int .u64 (n : Int)) = u32s V.list ++ digT X nx n := by
  rw [List.set_append_right _ _ (by simp [u32s_length, Sha.V.list])]
  congr 1
  unfold digT
  rw [List.set_append_right _ _ (by simp [u32s_length, Sha.V.list, bvs_length, hX])]
  simp [u32s_length, Sha.V.list, bvs_length, hX]
theorem Dig.setN (h : Dig w g V X nx len) {n : Nat} {x : Int} (hx : x = (n : Int)) : Dig (w.setCell ⟨g, 72, none⟩ (.int .i64 x)) g V X n len := by
  subst hx
  have h1 := h.2.set 72 (.int .i64 (n : Int))
  rw [List.setIfInBounds_toArray, digT_setN h.1] at h1
  exact ⟨h.1, h1⟩
theorem Dig.setL (h : Dig w g V X nx len) {n : Nat} {x : Int} (hx : x = (n : Int)) : Dig (w.setCell ⟨g, 73, none⟩ (.int .u64 x)) g V X nx n := by
  subst hx
  have h1 := h.2.set 73 (.int .u64 (n : Int))
  rw [List.setIfInBounds_toArray, digT_setL h.1] at h1
  exact ⟨h.1, h1⟩
/-- bytes copied into the row -/
theorem dig_over {o : Nat} {p : List UInt8} (hX : X.length = 64) (h : o + p.length ≤ 64) :
    (u32s V.list ++ digT X nx len).take (8 + o) ++ (bvs p ++ (u32s V.list ++ digT X nx len).drop (8 + o + (bvs p).length)) = u32s V.list ++ digT (Sha.over X o p) nx len := by
  have h8 : (u32s V.list).length = 8 := by simp [u32s_length, Sha.V.list]
  have e1 : (u32s V.list ++ digT X nx len).take (8 + o) = u32s V.list ++ bvs (X.take o) := by
    rw [List.take_append, h8, List.take_of_length_le (by omega)]
    congr 1
    unfold digT
    rw [List.take_append_of_le_length (by rw [bvs_length]; omega), show 8 + o - 8 = o by omega]
    simp [bvs]
  have e2 : (u32s V.list ++ digT X nx len).drop (8 + o + (bvs p).length) = bvs (X.drop (o + p.length)) ++ [.int .i64 (nx : Int), .int .u64 (len : Int), .bool false] := by
    rw [List.drop_append, h8, List.drop_of_length_le (by omega), List.nil_append]
    unfold digT
    rw [List.drop_append_of_le_length (by rw [bvs_length, bvs_length]; omega), bvs_length, show 8 + o + p.length - 8 = o + p.length by omega]
    simp [bvs]
  rw [e1, e2]
  unfold digT Sha.over
  simp [bvs_append]
theorem Dig.copied (h : Dig w g V X nx len) {o : Nat} {p : List UInt8} (hp : o + p.length ≤ 64) : Dig (w.setRow g (((u32s V.list ++ digT X nx len).toArray).toList.take (8 + o) ++ (bvs p ++ ((u32s V.list ++ digT X nx len).toArray).toList.drop (8 + o + (bvs p).length))).toArray) g V (Sha.over X o p) nx len := by
  refine ⟨by rw [Sha.over_length (by have := h.1; omega)]; exact h.1, ?_⟩
  have e := dig_over (V := V) (nx := nx) (len := len) h.1 hp
  have h1 := setRow_heap w g _ (((u32s V.list ++ digT X nx len).toArray).toList.take (8 + o) ++ (bvs p ++ ((u32s V.list ++ digT X nx len).toArray).toList.drop (8 + o + (bvs p).length))).toArray _ _ h.2
  rw [show (((u32s V.list ++ digT X nx len).toArray).toList.take (8 + o) ++ (bvs p ++ ((u32s V.list ++ digT X nx len).toArray).toList.drop (8 + o + (bvs p).length))) = u32s V.list ++ digT (Sha.over X o p) nx len from e] at h1 ⊢
  exact h1
theorem grown_setRow {a : World} (h : a.grownBy w (some g)) (cs : Array Value) : a.grownBy (w.setRow g cs) (some g) :=
  ⟨h.os, h.tape, h.output, by simpa [World.setRow] using h.size, fun i hi hne => (setRow_other w g i cs (by rintro rfl; exact hne rfl)).trans (h.block i hi hne)⟩
end
end Go.Proofs.YtkmjjoffamdnfaaGreatDoor

/- The library's Digest.Write, given what blockGeneric comes to. -/
namespace Go.Proofs.YtkmjjoffamdnfaaGreatDoor
open Go.RowKit
set_option maxRecDepth 100000
theorem and_not63 (x : Nat) (hx : x < 2 ^ 64) : x &&& 18446744073709551552 = 64 * (x / 64) := by
  have h1 : (18446744073709551552 : Nat) = 2 ^ 6 * (2 ^ 58 - 1) := rfl
  have h2 : 64 * (x / 64) = 2 ^ 6 * (x / 2 ^ 6) := rfl
  apply Nat.eq_of_testBit_eq
  intro i
  rw [Nat.testBit_and, h1, h2, Nat.testBit_two_pow_mul, Nat.testBit_two_pow_mul, Nat.testBit_two_pow_sub_one, Nat.testBit_div_two_pow]
  by_cases h6 : 6 ≤ i
  · have e : i - 6 + 6 = i := by omega
    simp only [h6, decide_true, Bool.true_and]
    by_cases h64 : i - 6 < 58
    · simp [h64, e]
    · have : x.testBit i = false := Nat.testBit_lt_two_pow (Nat.lt_of_lt_of_le hx (Nat.pow_le_pow_right (by omega) (by omega)))
      simp [h64, e, this]
  · simp [h6]
theorem i64_andNot63 (x : Nat) (hx : x < 2 ^ 32) : bits .andNot .i64 (x : Int) 63 = ((64 * (x / 64) : Nat) : Int) := by
  show IntKind.i64.wrap ((BitVec.ofInt 64 (x : Int) &&& ~~~BitVec.ofInt 64 63).toNat : Int) = _
  have h1 : (BitVec.ofInt 64 63).toNat = 63 := by decide
  have h2 : (BitVec.ofInt 64 (x : Int)).toNat = x := by
    rw [BitVec.toNat_ofInt]; omega
  rw [BitVec.toNat_and, BitVec.toNat_not, h2, h1, show 2 ^ 64 - 1 - 63 = 18446744073709551552 by decide, and_not63 x (by omega), IntKind.wrap_i64]
  omega
/-- what blockGeneric comes to -/
def BlockSaid : Prop := ∀ {w : World} {V : Sha.V} {A : Option Addr} {c g m : Nat} {l : List UInt8} {K : List Nat} {T : List Value}, V.ok → K.length = 64 → Sha.Small K → g ≠ 19 →
    Blk w g 160 (u32s V.list ++ T).toArray → Blk w 19 100 (u32s K).toArray → Bs w w.heap.size (.slice A (64 * m) c) l → l.length = 64 * m →
    Calls Tryz.prog 78 #[.pointer (some ⟨g, 0, none⟩), .slice A (64 * m) c] w fun e w' => e = .returned (.tuple #[]) ∧ Blk w' g 160 (u32s (Sha.blocksK K m V l).list ++ T).toArray ∧ w.grownBy w' (some g)
section
variable {w : World} {g : Nat} {V : Sha.V} {X : List UInt8} {nx len : Nat} {l p : List UInt8} {K : List Nat} {A : Option Addr} {n c m : Nat}
theorem shaBlockL (hB : BlockSaid) (hV : V.ok) (hK : K.length = 64) (hKs : Sha.Small K) (hgk : g ≠ 19) (hd : Dig w g V X nx len) (hk : Blk w 19 100 (u32s K).toArray) (h : Bs w w.heap.size (.slice A n c) p) (hn : n = 64 * m) (hl : p.length = 64 * m) :
    Calls Tryz.prog 131 #[.pointer (some ⟨g, 0, none⟩), .slice A n c] w fun e w' => e = .returned (.tuple #[]) ∧ Dig w' g (Sha.blocksK K m V p) X nx len ∧ w.grownBy w' (some g) := by
  subst hn
  have HB := Lib.hid (hB hV hK hKs hgk hd.2 hk h hl)
  have hX := hd.1
  clear hd hk h
  go_enter Tryz.func131, Tryz.ntmps131
  go_wp2_with fail
  refine HB.out.mono ?_
  rintro e w2 ⟨rfl, h1, h2⟩
  go_wp2_with fail
  go_end0
  exact ⟨rfl, ⟨hX, h1⟩, h2⟩
theorem slice_fromB {w : World} {B gp op N c n : Nat} {l : List UInt8} (h : Bs w B (.slice (some ⟨gp, op, none⟩) N c) l) (hn : n ≤ N) :
    ∃ o', (∀ (W : World) (k : IntKind), (Instr.slice 22 (.slice (some ⟨gp, op, none⟩) N c) (some (.int k (n : Int))) none none).run Tryz.prog W = .ok (.slice (some ⟨gp, o', none⟩) (N - n) (c - n)) W) ∧ Bs w B (.slice (some ⟨gp, o', none⟩) (N - n) (c - n)) (l.drop n) := by
  have hc0 : N ≤ c := by
    obtain ⟨A2, c2, he, hl, hc, _⟩ := h
    injection he with e1 e2 e3
    omega
  obtain ⟨A2, c2, he, hl, hc, hcell⟩ := h
  injection he with e1 e2 e3
  obtain ⟨i0, hi, hz0, hz1, hz2⟩ := info_parts Tryz.info5
  have hs : Tryz.prog.elem 22 = 5 := by kernel_rfl
  have hu : Tryz.prog.underlying 22 = some (.slice (Tryz.prog.elem 22)) := by rw [hs]; exact Tryz.underlying22
  have e : (⟨gp, op, none⟩ : Addr).add n = ⟨gp, op + n, none⟩ := by
    unfold Addr.add
    split
    · next h0 => subst h0; rfl
    · rfl
  have hrun : ∀ (W : World) (k : IntKind), (Instr.slice 22 (.slice (some ⟨gp, op, none⟩) N c) (some (.int k (n : Int))) none none).run Tryz.prog W = .ok (.slice (if c = n then some ⟨gp, op, none⟩ else some ⟨gp, op + n, none⟩) (N - n) (c - n)) W := fun W k => by
    rw [run_slice_l W 22 _ N c hu k n (by omega) (by omega)]
    simp [hs, sizeOf, typeInfo, sliced, hi, hz1, e]
  have hsl := slice_from (show Bs w B (.slice (some ⟨gp, op, none⟩) N c) l from ⟨A2, c2, by rw [e1, e2, e3], hl, hc, hcell⟩) hn
  obtain ⟨A', h1, h2⟩ := hsl
  have h3 := (hrun w .i64).symm.trans (h1 w .i64)
  injection h3 with h3 _
  injection h3 with h3 _ _
  by_cases hcn : c = n
  · rw [if_pos hcn] at h3
    subst h3
    exact ⟨op, h1, h2⟩
  · rw [if_neg hcn] at h3
    subst h3
    exact ⟨op + n, h1, h2⟩
theorem sliceX (W : World) (g k : Nat) (hk : k < 64) : (Instr.sliceAt 158 (.pointer (some ⟨g, 8, none⟩)) (some (.int .i64 (k : Int))) none none).run Tryz.prog W = .ok (.slice (some ⟨g, 8 + k, none⟩) (64 - k) (64 - k)) W := by
  have ha : Tryz.prog.arrayLen 158 = 64 := by kernel_rfl
  have he : Tryz.prog.elem 158 = 5 := by kernel_rfl
  have hu : Tryz.prog.underlying 158 = some (.array (Tryz.prog.arrayLen 158) (Tryz.prog.elem 158)) := by rw [ha, he]; exact Tryz.underlying158
  obtain ⟨i0, hi, hz0, hz1, hz2⟩ := info_parts Tryz.info5
  rw [run_sliceAt_array_l W 158 ⟨g, 8, none⟩ hu .i64 (k : Int) (by omega) (by rw [ha]; omega), ha, he]
  have h64 : ¬ 64 = k := by omega
  simp [sizeOf, typeInfo, hi, hz1, slicedAt, Addr.add, h64]
theorem info1 : (Tryz.prog.info? 5).map (·.size) = some 1 := by kernel_rfl
theorem copyRun {w : World} {g o dLen dCap gp op sLen sCap B q len nx : Nat} {V : Sha.V} {X p : List UInt8} (ty : TypeId) (hd : Dig w g V X nx len) (hp : Bs w B (.slice (some ⟨gp, op, none⟩) sLen sCap) p) (hq : q = min sLen dLen) (hfit : o + q ≤ 64) :
    ∃ w', (Builtin.copy_ #[22, 22] ty #[.slice (some ⟨g, 8 + o, none⟩) dLen dCap, .slice (some ⟨gp, op, none⟩) sLen sCap]).run Tryz.prog w = .ok (goInt q) w' ∧ Dig w' g V (Sha.over X o (p.take q)) nx len ∧ w.grownBy w' (some g) := by
  obtain ⟨A2, c2, he, hl, hc, hcell⟩ := hp
  injection he with e1 e2 e3
  have hlen : (p.take q).length = q := by rw [List.length_take]; omega
  have hs8 : (u32s V.list ++ digT X nx len).toArray.size = 75 := by simp [u32s_length, Sha.V.list, digT, bvs_length, hd.1]
  have hrun := run_copy_row (P := Tryz.prog) w 22 22 ty 5 g (8 + o) dLen dCap ⟨gp, op, none⟩ sLen sCap (u32s V.list ++ digT X nx len).toArray 160 (bvs (p.take q)) Tryz.underlying22 info1 hd.2
    (by rw [bvs_length, hlen]; exact hq) (fun j v hj => by
      have hjq : j < (p.take q).length := by have := (List.getElem?_eq_some_iff.1 hj).1; rwa [bvs_length] at this
      have hjp : j < p.length := by omega
      obtain ⟨g2, o2, hA, _, hc2⟩ := hcell (by omega)
      rw [← e1] at hA
      injection hA with hA
      injection hA with e4 e5 _
      subst e4 e5
      rw [bvs_get _ j hjq] at hj
      obtain rfl := Option.some.inj hj
      have h1 := hc2 j hjp
      have e6 : (⟨gp, op, none⟩ : Addr).add j = ⟨gp, op + j, none⟩ := by
        unfold Addr.add
        split
        · next h0 => subst h0; rfl
        · rfl
      rw [e6, h1, List.getElem_take]) (by rw [bvs_length, hlen, hs8]; omega) (bvs_one _)
  rw [bvs_length, hlen] at hrun
  refine ⟨_, hrun, ?_, ?_⟩
  · have := hd.copied (o := o) (p := p.take q) (by omega)
    rw [bvs_length, hlen] at this
    simpa using this
  · exact grown_setRow (grown_refl w (some g)) _
theorem wpList_copyD {ops : Array Oper} {rest : List Oper} {o : Oper} {a : Act} {Q : Exit → Act → World → Prop} {w : World} (hgd : o.guard = none) (d s : Operand)
    (ho : o.op = .call { callee := .builtin .copy, args := #[d, s], argTypes := #[22, 22] })
    {g k dLen dCap gp op sLen sCap B q len nx : Nat} {V : Sha.V} {X p : List UInt8} (hd : a.eval d = .slice (some ⟨g, 8 + k, none⟩) dLen dCap) (hs : a.eval s = .slice (some ⟨gp, op, none⟩) sLen sCap)
    (hD : Dig w g V X nx len) (hp : Bs w B (.slice (some ⟨gp, op, none⟩) sLen sCap) p) (hq : q = min sLen dLen) (hfit : k + q ≤ 64)
    (h : ∀ w', Dig w' g V (Sha.over X k (p.take q)) nx len → w.grownBy w' (some g) → wpList Tryz.prog ops Q rest (a.put o.dst (goInt q)) w') :
    wpList Tryz.prog ops Q (o :: rest) a w := by
  refine wpList_plain hgd fun K hK => ?_
  obtain ⟨w', hr, h2, h3⟩ := copyRun (dCap := dCap) o.type hD hp hq hfit
  unfold Oper.wp execOp
  simp only [ho, resolve, invoke, builtin, Sem.run_bind, Sem.run_pure, Result.andThen_ok, List.map_toArray, List.map_cons, List.map_nil, hd, hs, hr]
  exact hK _ _ (h w' h2 h3)
theorem step_copyD {ops : Array Oper} {o : Oper} {a : Act} {w : World} {K : Act → World → Prop} {Q : Exit → Act → World → Prop} {E : Prop} (hgd : o.guard = none) (d s : Operand)
    (ho : o.op = .call { callee := .builtin .copy, args := #[d, s], argTypes := #[22, 22] })
    {g k dLen dCap gp op sLen sCap B q len nx : Nat} {V : Sha.V} {X p : List UInt8} (hd : a.eval d = .slice (some ⟨g, 8 + k, none⟩) dLen dCap) (hs : a.eval s = .slice (some ⟨gp, op, none⟩) sLen sCap)
    (hD : Dig w g V X nx len) (hp : Bs w B (.slice (some ⟨gp, op, none⟩) sLen sCap) p) (hq : q = min sLen dLen) (hfit : k + q ≤ 64)
    (h : ∀ w', Dig w' g V (Sha.over X k (p.take q)) nx len → w.grownBy w' (some g) → K (a.put o.dst (goInt q)) w') :
    if Region.wanted o (yielded ops a.tmps) = true then Oper.wp Tryz.prog o a w K Q else E := by
  have hw : Region.wanted o (yielded ops a.tmps) = true := by simp [Region.wanted, hgd]
  rw [if_pos hw]
  obtain ⟨w', hr, h2, h3⟩ := copyRun (dCap := dCap) o.type hD hp hq hfit
  unfold Oper.wp execOp
  simp only [ho, resolve, invoke, builtin, Sem.run_bind, Sem.run_pure, Result.andThen_ok, List.map_toArray, List.map_cons, List.map_nil, hd, hs, hr]
  exact h w' h2 h3
end
end Go.Proofs.YtkmjjoffamdnfaaGreatDoor

/- bits.RotateLeft32. -/
namespace Go.Proofs.YtkmjjoffamdnfaaGreatDoor
open Go.RowKit
set_option maxRecDepth 100000
theorem rot_and : ∀ s : Nat, s < 32 → 1 ≤ s → bits .and .u64 (IntKind.u64.wrap (-((32 - s : Nat) : Int))) 31 = (s : Int) := by decide +kernel
theorem rot_val {x s : Nat} (hx : x < 4294967296) (h1 : 1 ≤ s) (h2 : s ≤ 31) : bits .or .u32 ((x : Int) * 2 ^ s % 4294967296) ((x : Int) / 2 ^ (32 - s)) = ((Sha.rotr x (32 - s) : Nat) : Int) := by
  have e1 : (x : Int) / 2 ^ (32 - s) = ((x / 2 ^ (32 - s) : Nat) : Int) := by rw [Int.natCast_ediv, Int.natCast_pow]; rfl
  have e2 : (x : Int) * 2 ^ s % 4294967296 = ((x * 2 ^ s % 4294967296 : Nat) : Int) := by rw [Int.natCast_emod, Int.natCast_mul, Int.natCast_pow]; rfl
  rw [e1, e2, u32_or_nat _ _ (Nat.mod_lt _ (by omega)) (Nat.lt_of_le_of_lt (Nat.div_le_self _ _) hx), Nat.or_comm]
  unfold Sha.rotr
  rw [show 32 - (32 - s) = s by omega]
theorem rotateLeft (w : World) {x n : Nat} (hx : x < 4294967296) (h1 : 1 ≤ n) (h2 : n ≤ 31) :
    Calls Tryz.prog 136 #[.int .u32 (x : Int), .int .i64 (-(n : Int))] w fun e w' => e = .returned (.int .u32 ((Sha.rotr x n : Nat) : Int)) ∧ w' = w := by
  obtain ⟨s, hs⟩ : ∃ s, s = 32 - n := ⟨_, rfl⟩
  have hs1 : 1 ≤ s := by omega
  have hs2 : s ≤ 31 := by omega
  have hn : n = 32 - s := by omega
  subst hn
  have hb := rot_and s (by omega) hs1
  have hv := Lib.hid (rot_val hx hs1 hs2)
  have hu0 : (0 : Int) ≤ 32 - (s : Int) := by omega
  have hs' : (32 - (s : Int)).toNat = 32 - s := by omega
  clear hs h1 h2
  go_enter Tryz.func136, Tryz.ntmps136
  go_wp2_with fail
  go_ret
  exact ⟨congrArg (fun z => Ending.returned (Value.int .u32 z)) hv.out, rfl⟩
theorem rl2 (w : World) {x : Nat} (hx : x < 4294967296) : Calls Tryz.prog 136 #[.int .u32 (x : Int), .int .i64 (-2)] w fun e w' => e = .returned (.int .u32 ((Sha.rotr x 2 : Nat) : Int)) ∧ w' = w := rotateLeft w (n := 2) hx (by omega) (by omega)
theorem rq2 (w : World) {x : Nat} (hx : x < 4294967296) : Calls Tryz.prog 136 #[.int .u32 (x : Int), .int .i64 (-2)] w fun e w' => e = .returned (.int .u32 ((Sha.rotr x 2 : Nat) : Int)) ∧ ∃ k, w' = w.drewN k := (rl2 w hx).mono fun _ _ h => ⟨h.1, 0, by rw [h.2]; rfl⟩
theorem rl6 (w : World) {x : Nat} (hx : x < 4294967296) : Calls Tryz.prog 136 #[.int .u32 (x : Int), .int .i64 (-6)] w fun e w' => e = .returned (.int .u32 ((Sha.rotr x 6 : Nat) : Int)) ∧ w' = w := rotateLeft w (n := 6) hx (by omega) (by omega)
theorem rq6 (w : World) {x : Nat} (hx : x < 4294967296) : Calls Tryz.prog 136 #[.int .u32 (x : Int), .int .i64 (-6)] w fun e w' => e = .returned (.int .u32 ((Sha.rotr x 6 : Nat) : Int)) ∧ ∃ k, w' = w.drewN k := (rl6 w hx).mono fun _ _ h => ⟨h.1, 0, by rw [h.2]; rfl⟩
theorem rl7 (w : World) {x : Nat} (hx : x < 4294967296) : Calls Tryz.prog 136 #[.int .u32 (x : Int), .int .i64 (-7)] w fun e w' => e = .returned (.int .u32 ((Sha.rotr x 7 : Nat) : Int)) ∧ w' = w := rotateLeft w (n := 7) hx (by omega) (by omega)
theorem rq7 (w : World) {x : Nat} (hx : x < 4294967296) : Calls Tryz.prog 136 #[.int .u32 (x : Int), .int .i64 (-7)] w fun e w' => e = .returned (.int .u32 ((Sha.rotr x 7 : Nat) : Int)) ∧ ∃ k, w' = w.drewN k := (rl7 w hx).mono fun _ _ h => ⟨h.1, 0, by rw [h.2]; rfl⟩
theorem rl11 (w : World) {x : Nat} (hx : x < 4294967296) : Calls Tryz.prog 136 #[.int .u32 (x : Int), .int .i64 (-11)] w fun e w' => e = .returned (.int .u32 ((Sha.rotr x 11 : Nat) : Int)) ∧ w' = w := rotateLeft w (n := 11) hx (by omega) (by omega)
theorem rq11 (w : World) {x : Nat} (hx : x < 4294967296) : Calls Tryz.prog 136 #[.int .u32 (x : Int), .int .i64 (-11)] w fun e w' => e = .returned (.int .u32 ((Sha.rotr x 11 : Nat) : Int)) ∧ ∃ k, w' = w.drewN k := (rl11 w hx).mono fun _ _ h => ⟨h.1, 0, by rw [h.2]; rfl⟩
theorem rl13 (w : World) {x : Nat} (hx : x < 4294967296) : Calls Tryz.prog 136 #[.int .u32 (x : Int), .int .i64 (-13)] w fun e w' => e = .returned (.int .u32 ((Sha.rotr x 13 : Nat) : Int)) ∧ w' = w := rotateLeft w (n := 13) hx (by omega) (by omega)
theorem rq13 (w : World) {x : Nat} (hx : x < 4294967296) : Calls Tryz.prog 136 #[.int .u32 (x : Int), .int .i64 (-13)] w fun e w' => e = .returned (.int .u32 ((Sha.rotr x 13 : Nat) : Int)) ∧ ∃ k, w' = w.drewN k := (rl13 w hx).mono fun _ _ h => ⟨h.1, 0, by rw [h.2]; rfl⟩
theorem rl17 (w : World) {x : Nat} (hx : x < 4294967296) : Calls Tryz.prog 136 #[.int .u32 (x : Int), .int .i64 (-17)] w fun e w' => e = .returned (.int .u32 ((Sha.rotr x 17 : Nat) : Int)) ∧ w' = w := rotateLeft w (n := 17) hx (by omega) (by omega)
theorem rq17 (w : World) {x : Nat} (hx : x < 4294967296) : Calls Tryz.prog 136 #[.int .u32 (x : Int), .int .i64 (-17)] w fun e w' => e = .returned (.int .u32 ((Sha.rotr x 17 : Nat) : Int)) ∧ ∃ k, w' = w.drewN k := (rl17 w hx).mono fun _ _ h => ⟨h.1, 0, by rw [h.2]; rfl⟩
theorem rl18 (w : World) {x : Nat} (hx : x < 4294967296) : Calls Tryz.prog 136 #[.int .u32 (x : Int), .int .i64 (-18)] w fun e w' => e = .returned (.int .u32 ((Sha.rotr x 18 : Nat) : Int)) ∧ w' = w := rotateLeft w (n := 18) hx (by omega) (by omega)
theorem rq18 (w : World) {x : Nat} (hx : x < 4294967296) : Calls Tryz.prog 136 #[.int .u32 (x : Int), .int .i64 (-18)] w fun e w' => e = .returned (.int .u32 ((Sha.rotr x 18 : Nat) : Int)) ∧ ∃ k, w' = w.drewN k := (rl18 w hx).mono fun _ _ h => ⟨h.1, 0, by rw [h.2]; rfl⟩
theorem rl19 (w : World) {x : Nat} (hx : x < 4294967296) : Calls Tryz.prog 136 #[.int .u32 (x : Int), .int .i64 (-19)] w fun e w' => e = .returned (.int .u32 ((Sha.rotr x 19 : Nat) : Int)) ∧ w' = w := rotateLeft w (n := 19) hx (by omega) (by omega)
theorem rq19 (w : World) {x : Nat} (hx : x < 4294967296) : Calls Tryz.prog 136 #[.int .u32 (x : Int), .int .i64 (-19)] w fun e w' => e = .returned (.int .u32 ((Sha.rotr x 19 : Nat) : Int)) ∧ ∃ k, w' = w.drewN k := (rl19 w hx).mono fun _ _ h => ⟨h.1, 0, by rw [h.2]; rfl⟩
theorem rl22 (w : World) {x : Nat} (hx : x < 4294967296) : Calls Tryz.prog 136 #[.int .u32 (x : Int), .int .i64 (-22)] w fun e w' => e = .returned (.int .u32 ((Sha.rotr x 22 : Nat) : Int)) ∧ w' = w := rotateLeft w (n := 22) hx (by omega) (by omega)
theorem rq22 (w : World) {x : Nat} (hx : x < 4294967296) : Calls Tryz.prog 136 #[.int .u32 (x : Int), .int .i64 (-22)] w fun e w' => e = .returned (.int .u32 ((Sha.rotr x 22 : Nat) : Int)) ∧ ∃ k, w' = w.drewN k := (rl22 w hx).mono fun _ _ h => ⟨h.1, 0, by rw [h.2]; rfl⟩
theorem rl25 (w : World) {x : Nat} (hx : x < 4294967296) : Calls Tryz.prog 136 #[.int .u32 (x : Int), .int .i64 (-25)] w fun e w' => e = .returned (.int .u32 ((Sha.rotr x 25 : Nat) : Int)) ∧ w' = w := rotateLeft w (n := 25) hx (by omega) (by omega)
theorem rq25 (w : World) {x : Nat} (hx : x < 4294967296) : Calls Tryz.prog 136 #[.int .u32 (x : Int), .int .i64 (-25)] w fun e w' => e = .returned (.int .u32 ((Sha.rotr x 25 : Nat) : Int)) ∧ ∃ k, w' = w.drewN k := (rl25 w hx).mono fun _ _ h => ⟨h.1, 0, by rw [h.2]; rfl⟩
end Go.Proofs.YtkmjjoffamdnfaaGreatDoor
