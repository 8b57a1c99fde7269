/- Whole rows: a block stored over, and read, as one. -/
import Derived.Test.YtkmjjoffamdnfaaGreatDoorMi01
import Derived.Deep.MidRow
import Derived.Laws.Rows
import Derived.BigQuiet
import Derived.Deep.QuietTactic
import Derived.Deep.DeepCutAuto
import Derived.Deep.RegionHeld3
namespace Go.Proofs.YtkmjjoffamdnfaaGreatDoor
open Go.RowKit
section
variable {w a : World} {g : Nat} {t : TypeId} {cs : Array Value}
theorem blk_setCells_go : ∀ (vs pre old : List Value) (w : World), old.length = vs.length → Blk w g t (pre ++ old).toArray → Blk (w.setCells g pre.length vs) g t (pre ++ vs).toArray
  | [], pre, old, w, hl, h => by
    obtain rfl := List.length_eq_zero_iff.1 hl
    exact h
  | v :: vs, pre, [], w, hl, h => by simp at hl
  | v :: vs, pre, o :: old, w, hl, h => by
    have h1 := h.set pre.length v
    rw [List.setIfInBounds_toArray, List.set_append_right _ _ (Nat.le_refl _), Nat.sub_self, List.set_cons_zero] at h1
    have h2 := blk_setCells_go vs (pre ++ [v]) old (w.setCell ⟨g, pre.length, none⟩ v) (by simpa using hl) (by simpa using h1)
    have e : (pre ++ [v]).length = pre.length + 1 := by simp
    rw [e, List.append_assoc] at h2
    exact h2
theorem Blk.over (h : Blk w g t cs) {vs : List Value} (hl : vs.length = cs.size) : Blk (w.setCells g 0 vs) g t vs.toArray := by
  have := blk_setCells_go (g := g) (t := t) vs [] cs.toList w (by simpa using hl.symm) (by simpa using h)
  simpa using this
theorem grown_setCells (g : Nat) : ∀ (vs : List Value) (o : Nat) {a w : World}, a.grownBy w (some g) → a.grownBy (w.setCells g o vs) (some g)
  | [], _, _, _, h => h
  | v :: vs, o, _, _, h => grown_setCells g vs (o + 1) (grown_setCell h (.inl rfl) v)
theorem Blk.there (h : Blk w g t cs) {n : Nat} (hn : n = cs.size) : w.there g 0 n := fun j hj => by
  subst hn
  rw [Nat.zero_add, h.cell, h.free]
  simp [hj]
theorem Blk.range (h : Blk w g t cs) : w.rangeAt g 0 cs.toList := fun j v hj => by
  rw [Nat.zero_add, h.cell]
  simpa using hj
end
end Go.Proofs.YtkmjjoffamdnfaaGreatDoor

/- The reference's SHA2-256: shaTurn, shaKeys. -/
namespace Go.Proofs.YtkmjjoffamdnfaaGreatDoor
open Go.RowKit
set_option maxRecDepth 100000
/-- words as values -/
def u32s (l : List Nat) : List Value := l.map fun (n : Nat) => Value.int .u32 (n : Int)
theorem u32s_length (l : List Nat) : (u32s l).length = l.length := by simp [u32s]
theorem u32s_get {l : List Nat} {k : Nat} (h : k < l.length) : (u32s l)[k]? = some (.int .u32 (l[k] : Int)) := by simp [u32s, h]
theorem u32s_one (l : List Nat) : ∀ v ∈ u32s l, v.oneCell' = true := by
  intro v hv
  obtain ⟨n, _, rfl⟩ := List.mem_map.1 hv
  rfl
theorem u32s_set (l : List Nat) (k n : Nat) : (u32s l).set k (.int .u32 (n : Int)) = u32s (l.set k n) := by simp [u32s, List.map_set]
theorem turn_val {x n : Nat} (hx : x < 4294967296) : bits .or .u32 ((x : Int) / 2 ^ n) ((x : Int) * 2 ^ (32 - n) % 4294967296) = ((Sha.rotr x n : Nat) : Int) := by
  have e1 : (x : Int) / 2 ^ n = ((x / 2 ^ n : Nat) : Int) := by rw [Int.natCast_ediv, Int.natCast_pow]; rfl
  have e2 : (x : Int) * 2 ^ (32 - n) % 4294967296 = ((x * 2 ^ (32 - n) % 4294967296 : Nat) : Int) := by rw [Int.natCast_emod, Int.natCast_mul, Int.natCast_pow]; rfl
  rw [e1, e2]
  exact u32_or_nat _ _ (Nat.lt_of_le_of_lt (Nat.div_le_self _ _) hx) (Nat.mod_lt _ (by omega))
section
theorem shaTurn (w : World) {x n : Nat} (hx : x < 4294967296) (h1 : 1 ≤ n) (h2 : n ≤ 31) :
    Calls Tryz.prog 50 #[.int .u32 (x : Int), .int .i64 (n : Int)] w fun e w' => e = .returned (.int .u32 ((Sha.rotr x n : Nat) : Int)) ∧ ∃ k, w' = w.drewN k := by
  have hv := Lib.hid (turn_val (n := n) hx)
  have hs : (32 - (n : Int)).toNat = 32 - n := by omega
  have hs0 : (0 : Int) ≤ 32 - (n : Int) := by omega
  have hs' := Lib.hid hs
  clear hs
  go_enter Tryz.func50, Tryz.ntmps50
  go_wp2_with fail
  go_quiet (fail)
  go_wp2_with fail
  go_ret
  exact ⟨congrArg (fun z => Ending.returned (Value.int .u32 z)) hv.out, _, rfl⟩
theorem infoKeys : (Tryz.prog.info? 100).map (·.size) = some 64 := by kernel_rfl
set_option maxHeartbeats 1000000 in
set_option maxHeartbeats 1000000 in
set_option maxHeartbeats 1000000 in
theorem shaKeys (w : World) :
    Calls Tryz.prog 51 #[] w fun e w' => e = .returned (.agg (u32s Sha.keys).toArray) ∧ Below w.heap.size w w' := by
  go_enter Tryz.func51, Tryz.ntmps51
  go_upto_region 1 with fail
  obtain ⟨w1, hw1⟩ : ∃ w1, w1 = w.alloc (.cells #[.int .u32 0, .int .u32 0, .int .u32 0, .int .u32 0, .int .u32 0, .int .u32 0, .int .u32 0, .int .u32 0, .int .u32 0, .int .u32 0, .int .u32 0, .int .u32 0, .int .u32 0, .int .u32 0, .int .u32 0, .int .u32 0, .int .u32 0, .int .u32 0, .int .u32 0, .int .u32 0, .int .u32 0, .int .u32 0, .int .u32 0, .int .u32 0, .int .u32 0, .int .u32 0, .int .u32 0, .int .u32 0, .int .u32 0, .int .u32 0, .int .u32 0, .int .u32 0, .int .u32 0, .int .u32 0, .int .u32 0, .int .u32 0, .int .u32 0, .int .u32 0, .int .u32 0, .int .u32 0, .int .u32 0, .int .u32 0, .int .u32 0, .int .u32 0, .int .u32 0, .int .u32 0, .int .u32 0, .int .u32 0, .int .u32 0, .int .u32 0, .int .u32 0, .int .u32 0, .int .u32 0, .int .u32 0, .int .u32 0, .int .u32 0, .int .u32 0, .int .u32 0, .int .u32 0, .int .u32 0, .int .u32 0, .int .u32 0, .int .u32 0, .int .u32 0] 100) := ⟨_, rfl⟩
  have K := Lib.hid (show Blk w1 w.heap.size 100 #[.int .u32 0, .int .u32 0, .int .u32 0, .int .u32 0, .int .u32 0, .int .u32 0, .int .u32 0, .int .u32 0, .int .u32 0, .int .u32 0, .int .u32 0, .int .u32 0, .int .u32 0, .int .u32 0, .int .u32 0, .int .u32 0, .int .u32 0, .int .u32 0, .int .u32 0, .int .u32 0, .int .u32 0, .int .u32 0, .int .u32 0, .int .u32 0, .int .u32 0, .int .u32 0, .int .u32 0, .int .u32 0, .int .u32 0, .int .u32 0, .int .u32 0, .int .u32 0, .int .u32 0, .int .u32 0, .int .u32 0, .int .u32 0, .int .u32 0, .int .u32 0, .int .u32 0, .int .u32 0, .int .u32 0, .int .u32 0, .int .u32 0, .int .u32 0, .int .u32 0, .int .u32 0, .int .u32 0, .int .u32 0, .int .u32 0, .int .u32 0, .int .u32 0, .int .u32 0, .int .u32 0, .int .u32 0, .int .u32 0, .int .u32 0, .int .u32 0, .int .u32 0, .int .u32 0, .int .u32 0, .int .u32 0, .int .u32 0, .int .u32 0, .int .u32 0] by rw [hw1]; exact Blk.new _ _ _)
  have B := Lib.hid (show Below w.heap.size w w1 by rw [hw1]; exact below_alloc _ _)
  rw [← hw1]
  clear hw1
  obtain ⟨g, hg⟩ : ∃ g, g = w.heap.size := ⟨_, rfl⟩
  rw [← hg] at K ⊢
  have Hg := Lib.hid hg
  clear hg
  have hsz : (u32s Sha.keys).toArray.size = 64 := by simp [u32s_length, Sha.keys]
  have Ht := Lib.hid (show w1.there g 0 (u32s Sha.keys).toArray.size from K.out.there (by rw [hsz]; rfl))
  have Hi := Lib.hid (show (Tryz.prog.info? 100).map (·.size) = some (u32s Sha.keys).toArray.size by rw [hsz]; exact infoKeys)
  have Ho := Lib.hid (all_oneCell_toArray (u32s_one Sha.keys))
  clear hsz
  go_wp2_with ((refine wpList_store_mid rfl 100 _ _ (by rfl) g 0 (u32s Sha.keys).toArray (by rfl) (by rfl) Ht.out Hi.out Ho.out ?_))
  have K2 := Lib.hid (K.out.over (vs := u32s Sha.keys) rfl)
  have B2 := Lib.hid (below_grown B.out (grown_setCells g (u32s Sha.keys) 0 (grown_refl w1 (some g))) (fun k e => by injection e with e; have := Hg.out; omega))
  have hres := results_cell_row (P := Tryz.prog) Tryz.results51
  exact bodyPost_ret (hres _ _ g _ _ (0, 0) _ rfl K2.out Tryz.underlying100 rfl Hi.out) rfl ⟨rfl, B2.out⟩
end
end Go.Proofs.YtkmjjoffamdnfaaGreatDoor

/- Rows of one's own: a byte written, a row begun with one byte; strings put together. -/
namespace Go.Proofs.YtkmjjoffamdnfaaGreatDoor
open Go.RowKit
set_option maxRecDepth 100000
theorem Bs.at' {w : World} {B : Nat} {A : Option Addr} {n c k : Nat} {l : List UInt8} (h : Bs w B (.slice A n c) l) (hk : k < l.length) : ∃ g o, A = some ⟨g, o, none⟩ ∧ w.cell? ⟨g, o + k, none⟩ = some (.int .u8 ((l[k].toNat : Nat) : Int)) ∧ g < B := by
  obtain ⟨A', c', he, _, _, hc⟩ := h
  injection he with e1 e2 e3
  subst e1
  obtain ⟨g, o, rfl, hg, hc⟩ := hc (by omega)
  exact ⟨g, o, rfl, hc k hk, hg⟩

section
variable {w : World} {base : Nat} {A : Option Addr} {n c k : Nat} {l : List UInt8}
/-- a byte of a row of one's own: where it lies, and that it may be written -/
theorem Own.at' (h : Own w base (.slice A n c) l) (hk : k < l.length) : ∃ g, A = some ⟨g, 0, none⟩ ∧ base ≤ g ∧ w.cell? ⟨g, k, none⟩ = some (.int .u8 ((l[k].toNat : Nat) : Int)) ∧ w.frozen? ⟨g, k, none⟩ = false ∧
    ∀ (x : UInt8) (d : Int), d = (x.toNat : Int) → Own (w.setCell ⟨g, k, none⟩ (.int .u8 d)) base (.slice A n c) (l.set k x) := by
  have hc := h.bs
  unfold Own at h
  obtain ⟨h0, h1⟩ := h
  rcases h1 with ⟨e, hl⟩ | ⟨g, cap, cur, e, hb, hg, hn, hm, hs, ht⟩
  · rw [hl] at hk; omega
  · injection e with e1 e2 e3
    subst e1 e2 e3
    refine ⟨g, rfl, hb, ?_, by simp [World.frozen?, hg], fun x d hd => ?_⟩
    · obtain ⟨A', c', he, _, _, hc⟩ := hc
      injection he with e1 e2 e3
      obtain ⟨g', o', he, _, hcc⟩ := hc (by omega)
      rw [← e1] at he
      injection he with he
      injection he with he1 he2
      subst he1 he2
      have := hcc k hk
      rwa [Nat.zero_add] at this
    · subst hd
      refine ⟨by simp [bvs], .inr ⟨g, c, cur.setIfInBounds k (bv x), by simp, hb, ?_, by simpa using hn, hm, by simpa using hs, ?_⟩⟩
      · have h' : w.heap[g]? = some (.cells cur 5 (0, 0)) := hg
        show (w.setCell ⟨g, k, none⟩ (bv x)).heap[g]? = _
        simp [World.setCell, Array.getElem?_modify, h']
      · rw [Array.toList_setIfInBounds, List.length_set, List.take_set, ht]
        simp [bvs, List.map_set]
/-- a row of one byte -/
theorem Own.one (w : World) (base : Nat) (hb : base ≤ w.heap.size) (x : UInt8) {d : Int} (hd : d = (x.toNat : Int)) : Own (w.alloc (.cells #[.int .u8 d] 5)) base (.slice (some ⟨w.heap.size, 0, none⟩) 1 1) [x] := by
  subst hd
  exact ⟨rfl, .inr ⟨w.heap.size, 1, #[bv x], rfl, hb, heap_alloc_new w _, Nat.le_refl _, by unfold maxLen; omega, rfl, rfl⟩⟩
end
theorem strOf_append (a b : List UInt8) : strOf a ++ strOf b = strOf (a ++ b) := by
  apply ByteArray.ext
  simp [strOf]
theorem strOf_extract (l : List UInt8) (i j : Nat) : (strOf l).extract i j = strOf ((l.take j).drop i) := by
  apply ByteArray.ext
  apply Array.toList_inj.1
  simp [strOf, ByteArray.data_extract, List.drop_take]
theorem strOf_inj {a b : List UInt8} (h : strOf a = strOf b) : a = b := by
  have := congrArg ByteArray.toList h
  rwa [strOf_toList, strOf_toList] at this
end Go.Proofs.YtkmjjoffamdnfaaGreatDoor

/- Values of SHA2-256's operations. -/
namespace Go.Proofs.YtkmjjoffamdnfaaGreatDoor
open Go.RowKit
set_option maxRecDepth 100000
theorem wCell {w : World} {g k : Nat} {t : TypeId} {l : List Nat} (h : Blk w g t (u32s l).toArray) (hk : k < l.length) : w.cell? ⟨g, k, none⟩ = some (.int .u32 (l[k] : Int)) := by
  rw [h.cell]
  have := u32s_get hk
  simpa using this
theorem wSet {w : World} {g k n : Nat} {t : TypeId} {l : List Nat} (h : Blk w g t (u32s l).toArray) {x : Int} (hx : x = (n : Int)) : Blk (w.setCell ⟨g, k, none⟩ (.int .u32 x)) g t (u32s (l.set k n)).toArray := by
  subst hx
  have := h.set k (.int .u32 (n : Int))
  rw [List.setIfInBounds_toArray, u32s_set] at this
  exact this
theorem words_fill_len {l : List UInt8} {k : Nat} (h : k ≤ 64) : (Sha.words l k ++ List.replicate (64 - k) 0).length = 64 := by simp [Sha.words_length]; omega
theorem words_next {l : List UInt8} {k : Nat} (h : k < 64) : (Sha.words l k ++ List.replicate (64 - k) 0).set k (Sha.word l k) = Sha.words l (k + 1) ++ List.replicate (64 - (k + 1)) 0 := by
  obtain ⟨m, hm⟩ : ∃ m, 64 - k = m + 1 := ⟨64 - k - 1, by omega⟩
  rw [List.set_append_right _ _ (by rw [Sha.words_length]; exact Nat.le_refl _), Sha.words_length, Nat.sub_self, hm, show 64 - (k + 1) = m by omega, List.replicate_succ, List.set_cons_zero]
  have : Sha.words l (k + 1) = Sha.words l k ++ [Sha.word l k] := by simp [Sha.words, List.range_succ]
  rw [this, List.append_assoc]
  rfl
theorem word_or {d0 d1 d2 d3 : Nat} (h0 : d0 ≤ 255) (h1 : d1 ≤ 255) (h2 : d2 ≤ 255) (h3 : d3 ≤ 255) :
    bits .or .u32 (bits .or .u32 (bits .or .u32 ((d0 : Int) * 16777216) ((d1 : Int) * 65536)) ((d2 : Int) * 256)) (d3 : Int) = ((d0 * 16777216 + d1 * 65536 + d2 * 256 + d3 : Nat) : Int) := by
  have c1 : ((d0 * 16777216 : Nat) : Int) = (d0 : Int) * 16777216 := by simp
  have c2 : ((d1 * 65536 : Nat) : Int) = (d1 : Int) * 65536 := by simp
  have c3 : ((d2 * 256 : Nat) : Int) = (d2 : Int) * 256 := by simp
  have e1 := u32_or_nat (d0 * 16777216) (d1 * 65536) (by omega) (by omega)
  rw [nat_join 24 (d0 * 16777216) (d1 * 65536) (by omega) (by omega)] at e1
  have e2 := u32_or_nat (d0 * 16777216 + d1 * 65536) (d2 * 256) (by omega) (by omega)
  rw [nat_join 16 (d0 * 16777216 + d1 * 65536) (d2 * 256) (by omega) (by omega)] at e2
  have e3 := u32_or_nat (d0 * 16777216 + d1 * 65536 + d2 * 256) d3 (by omega) (by omega)
  rw [nat_join 8 (d0 * 16777216 + d1 * 65536 + d2 * 256) d3 (by omega) (by omega)] at e3
  rw [c1, c2] at e1
  rw [c3] at e2
  rw [e1, e2, e3]
theorem u32_wadd (a b : Nat) : IntKind.u32.wrap ((a : Int) + (b : Int)) = ((Sha.wadd a b : Nat) : Int) := by
  rw [IntKind.wrap_u32']
  unfold Sha.wadd
  omega
theorem mod_wadd (a b : Nat) : ((a : Int) + (b : Int)) % 4294967296 = ((Sha.wadd a b : Nat) : Int) := by
  unfold Sha.wadd
  omega
theorem sig_val {x a b c : Nat} (ha : a < 4294967296) (hb : b < 4294967296) (hc : x < 4294967296) (_hd : 0 < c) : bits .xor .u32 (bits .xor .u32 (a : Int) (b : Int)) ((x : Int) / (c : Int)) = ((a ^^^ b ^^^ x / c : Nat) : Int) := by
  have e : (x : Int) / (c : Int) = ((x / c : Nat) : Int) := by rw [Int.natCast_ediv]
  rw [e, u32_xor_nat a b ha hb, u32_xor_nat _ _ (Sha.xor_lt ha hb) (Nat.lt_of_le_of_lt (Nat.div_le_self _ _) hc)]
theorem next_val {a0 a9 a1 a14 : Nat} (m1 : a1 < 4294967296) (m14 : a14 < 4294967296) :
    IntKind.u32.wrap (IntKind.u32.wrap (IntKind.u32.wrap ((a0 : Int) + (a9 : Int)) + bits .xor .u32 (bits .xor .u32 ((Sha.rotr a1 7 : Nat) : Int) ((Sha.rotr a1 18 : Nat) : Int)) ((a1 : Int) / 8)) + bits .xor .u32 (bits .xor .u32 ((Sha.rotr a14 17 : Nat) : Int) ((Sha.rotr a14 19 : Nat) : Int)) ((a14 : Int) / 1024)) =
      ((Sha.wadd (Sha.wadd (Sha.wadd a0 a9) (Sha.s0 a1)) (Sha.s1 a14) : Nat) : Int) := by
  have e1 := sig_val (c := 8) (Sha.rotr_lt (n := 7) m1) (Sha.rotr_lt (n := 18) m1) m1 (by omega)
  have e2 := sig_val (c := 1024) (Sha.rotr_lt (n := 17) m14) (Sha.rotr_lt (n := 19) m14) m14 (by omega)
  rw [show (8 : Int) = ((8 : Nat) : Int) from rfl, show (1024 : Int) = ((1024 : Nat) : Int) from rfl, e1, e2, u32_wadd, u32_wadd, u32_wadd]
  rfl
theorem sched_fill {l : List UInt8} {k : Nat} (h : k < 48) : (Sha.sched l k ++ List.replicate (48 - k) 0).set (k + 16) (Sha.nextW (Sha.sched l k)) = Sha.sched l (k + 1) ++ List.replicate (48 - (k + 1)) 0 := by
  obtain ⟨m, hm⟩ : ∃ m, 48 - k = m + 1 := ⟨48 - k - 1, by omega⟩
  rw [List.set_append_right _ _ (by rw [Sha.sched_length]; exact Nat.le_refl _), Sha.sched_length, Nat.sub_self, hm, show 48 - (k + 1) = m by omega, List.replicate_succ, List.set_cons_zero]
  show _ = Sha.sched l k ++ [Sha.nextW (Sha.sched l k)] ++ _
  rw [List.append_assoc]
  rfl
theorem not32 {e : Nat} (h : e < 4294967296) : 4294967295 ^^^ e = 4294967295 - e := by
  apply Nat.eq_of_testBit_eq
  intro i
  have h1 : (4294967295 : Nat) = 2 ^ 32 - 1 := rfl
  have h2 : 4294967295 - e = 2 ^ 32 - (e + 1) := by omega
  rw [Nat.testBit_xor, h2, Nat.testBit_two_pow_sub_succ h, h1, Nat.testBit_two_pow_sub_one]
  by_cases hi : i < 32
  · simp [hi]
  · have h3 : e < 2 ^ i := Nat.lt_of_lt_of_le (show e < 2 ^ 32 from h) (Nat.pow_le_pow_right (by decide) (Nat.le_of_not_lt hi))
    have h4 : e.testBit i = false := Nat.testBit_lt_two_pow h3
    simp [hi, h4]
theorem one_val {U : Sha.V} {kv wv : Nat} (h : U.ok) : ((((U.h : Int) + bits .xor .u32 (bits .xor .u32 ((Sha.rotr U.e 6 : Nat) : Int) ((Sha.rotr U.e 11 : Nat) : Int)) ((Sha.rotr U.e 25 : Nat) : Int) + bits .xor .u32 (bits .and .u32 (U.e : Int) (U.f : Int)) (bits .and .u32 (bits .xor .u32 (if IntKind.u32.signed = true then -1 else IntKind.u32.max) (U.e : Int)) (U.g : Int)) + (kv : Int)) % 4294967296 + (wv : Int)) % 4294967296) = ((Sha.one U kv wv : Nat) : Int) := by
  have e1 := u32_xor_nat _ _ (Sha.xor_lt (Sha.rotr_lt (n := 6) h.e) (Sha.rotr_lt (n := 11) h.e)) (Sha.rotr_lt (n := 25) h.e)
  have e2 := u32_xor_nat _ _ (Sha.rotr_lt (n := 6) h.e) (Sha.rotr_lt (n := 11) h.e)
  have e3 := u32_and_nat _ _ h.e h.f
  have e4 := u32_xor_nat 4294967295 _ (by omega) h.e
  rw [not32 h.e] at e4
  have e5 := u32_and_nat (4294967295 - U.e) _ (by omega) h.g
  have e6 := u32_xor_nat _ _ (Sha.and_lt (a := U.e) h.f) (Sha.and_lt (a := 4294967295 - U.e) h.g)
  have e0 : (if IntKind.u32.signed = true then (-1 : Int) else IntKind.u32.max) = ((4294967295 : Nat) : Int) := rfl
  rw [e0, e2, e1, e3, e4, e5, e6]
  show _ = ((Sha.wadd (Sha.wadd (Sha.wadd (Sha.wadd U.h (Sha.t1 U.e)) (Sha.ch U.e U.f U.g)) kv) wv : Nat) : Int)
  unfold Sha.wadd
  show (((U.h : Int) + ((Sha.t1 U.e : Nat) : Int) + ((Sha.ch U.e U.f U.g : Nat) : Int) + (kv : Int)) % 4294967296 + (wv : Int)) % 4294967296 = _
  omega
theorem two_val {U : Sha.V} (h : U.ok) : ((bits .xor .u32 (bits .xor .u32 ((Sha.rotr U.a 2 : Nat) : Int) ((Sha.rotr U.a 13 : Nat) : Int)) ((Sha.rotr U.a 22 : Nat) : Int) + bits .xor .u32 (bits .xor .u32 (bits .and .u32 (U.a : Int) (U.b : Int)) (bits .and .u32 (U.a : Int) (U.c : Int))) (bits .and .u32 (U.b : Int) (U.c : Int))) % 4294967296) = ((Sha.two U : Nat) : Int) := by
  have e1 := u32_xor_nat _ _ (Sha.xor_lt (Sha.rotr_lt (n := 2) h.a) (Sha.rotr_lt (n := 13) h.a)) (Sha.rotr_lt (n := 22) h.a)
  have e2 := u32_xor_nat _ _ (Sha.rotr_lt (n := 2) h.a) (Sha.rotr_lt (n := 13) h.a)
  have e3 := u32_and_nat _ _ h.a h.b
  have e4 := u32_and_nat _ _ h.a h.c
  have e5 := u32_and_nat _ _ h.b h.c
  have e6 := u32_xor_nat _ _ (Sha.and_lt (a := U.a) h.b) (Sha.and_lt (a := U.a) h.c)
  have e7 := u32_xor_nat _ _ (Sha.xor_lt (Sha.and_lt (a := U.a) h.b) (Sha.and_lt (a := U.a) h.c)) (Sha.and_lt (a := U.b) h.c)
  rw [e2, e1, e3, e4, e5, e6, e7]
  show _ = ((Sha.wadd (Sha.t0 U.a) (Sha.maj U.a U.b U.c) : Nat) : Int)
  unfold Sha.wadd
  show (((Sha.t0 U.a : Nat) : Int) + ((Sha.maj U.a U.b U.c : Nat) : Int)) % 4294967296 = _
  omega
theorem eightFree {W : World} {g : Nat} {t : TypeId} {cs : Array Value} (h : Blk W g t cs) : W.frozen? ⟨g, 0, none⟩ = false ∧ W.frozen? ⟨g, 1, none⟩ = false ∧ W.frozen? ⟨g, 2, none⟩ = false ∧ W.frozen? ⟨g, 3, none⟩ = false ∧ W.frozen? ⟨g, 4, none⟩ = false ∧ W.frozen? ⟨g, 5, none⟩ = false ∧ W.frozen? ⟨g, 6, none⟩ = false ∧ W.frozen? ⟨g, 7, none⟩ = false :=
  ⟨h.free 0, h.free 1, h.free 2, h.free 3, h.free 4, h.free 5, h.free 6, h.free 7⟩
theorem vlist_lt {V : Sha.V} (h : V.ok) {k : Nat} (hk : k < V.list.length) : V.list[k] < 4294967296 := by
  have : ∀ x ∈ V.list, x < 4294967296 := by
    intro x hx
    simp only [Sha.V.list, List.mem_cons, List.not_mem_nil, or_false] at hx
    rcases hx with rfl | rfl | rfl | rfl | rfl | rfl | rfl | rfl
    · exact h.a
    · exact h.b
    · exact h.c
    · exact h.d
    · exact h.e
    · exact h.f
    · exact h.g
    · exact h.h
  exact this _ (List.getElem_mem hk)
theorem add_get {V U : Sha.V} {k : Nat} (hk : k < V.list.length) {h} : ((V.add U).list.take k ++ V.list.drop k)[k]'h = V.list[k] := by
  have hl : ((V.add U).list.take k).length = k := by rw [List.length_take]; have : (V.add U).list.length = V.list.length := rfl; omega
  rw [List.getElem_append_right (by omega)]
  simp only [hl, Nat.sub_self, List.getElem_drop, Nat.add_zero]
theorem add_next {V U : Sha.V} {k : Nat} (hk : k < 8) (h1 : k < V.list.length) (h2 : k < U.list.length) : ((V.add U).list.take k ++ V.list.drop k).set k (Sha.wadd (V.list[k]'h1) (U.list[k]'h2)) = (V.add U).list.take (k + 1) ++ V.list.drop (k + 1) := by
  match k, hk with
  | 0, _ | 1, _ | 2, _ | 3, _ | 4, _ | 5, _ | 6, _ | 7, _ => rfl
theorem keepW {W : World} {g i a b m : Nat} {v p q : Value} (ha : a ≠ i) (hb : b ≠ i) (h0 : W.cell? ⟨g, a, none⟩ = some p) (h1 : W.cell? ⟨g, b, none⟩ = some q) :
    ((W.drewN m).setCell ⟨g, i, none⟩ v).cell? ⟨g, a, none⟩ = some p ∧ ((W.drewN m).setCell ⟨g, i, none⟩ v).cell? ⟨g, b, none⟩ = some q :=
  ⟨(World.cell?_setCell_other (W.drewN m) ⟨g, i, none⟩ ⟨g, a, none⟩ v (by intro e; injection e with _ e; omega)).trans h0, (World.cell?_setCell_other (W.drewN m) ⟨g, i, none⟩ ⟨g, b, none⟩ v (by intro e; injection e with _ e; omega)).trans h1⟩
theorem keep4 {W : World} {g gb a b c d k : Nat} {v p q r s : Value} (hne : gb ≠ g) (h0 : W.drew.cell? ⟨gb, a, none⟩ = some p) (h1 : W.drew.cell? ⟨gb, b, none⟩ = some q) (h2 : W.drew.cell? ⟨gb, c, none⟩ = some r) (h3 : W.drew.cell? ⟨gb, d, none⟩ = some s) :
    (W.setCell ⟨g, k, none⟩ v).drew.cell? ⟨gb, a, none⟩ = some p ∧ (W.setCell ⟨g, k, none⟩ v).drew.cell? ⟨gb, b, none⟩ = some q ∧ (W.setCell ⟨g, k, none⟩ v).drew.cell? ⟨gb, c, none⟩ = some r ∧ (W.setCell ⟨g, k, none⟩ v).drew.cell? ⟨gb, d, none⟩ = some s := by
  have e : ∀ x, (W.setCell ⟨g, k, none⟩ v).drew.cell? ⟨gb, x, none⟩ = W.drew.cell? ⟨gb, x, none⟩ := fun x => World.cell?_setCell_other W ⟨g, k, none⟩ ⟨gb, x, none⟩ v (by intro e; injection e with e; exact hne e.symm)
  exact ⟨(e a).trans h0, (e b).trans h1, (e c).trans h2, (e d).trans h3⟩
theorem info8 : (Tryz.prog.info? 81).map (·.size) = some 8 := by kernel_rfl
end Go.Proofs.YtkmjjoffamdnfaaGreatDoor

/- byteorder.BEPutUint32: four bytes of a word, the greatest ahead. -/
namespace Go.Proofs.YtkmjjoffamdnfaaGreatDoor
open Go.RowKit
set_option maxRecDepth 100000
theorem byteSet {w : World} {g k n : Nat} {t : TypeId} {L : List UInt8} (h : Blk w g t (bvs L).toArray) {x : Int} (hx : x = ((n % 256 : Nat) : Int)) : Blk (w.setCell ⟨g, k, none⟩ (.int .u8 x)) g t (bvs (L.set k (UInt8.ofNat n))).toArray := by
  subst hx
  have h1 := h.set k (.int .u8 ((n % 256 : Nat) : Int))
  have e : (bvs L).set k (.int .u8 ((n % 256 : Nat) : Int)) = bvs (L.set k (UInt8.ofNat n)) := by
    unfold bvs
    rw [List.map_set]
    rfl
  rw [List.setIfInBounds_toArray, e] at h1
  exact h1
/-- a word's bytes laid at o -/
def put4 (L : List UInt8) (o x : Nat) : List UInt8 := (((L.set o (UInt8.ofNat (x / 16777216))).set (o + 1) (UInt8.ofNat (x / 65536))).set (o + 2) (UInt8.ofNat (x / 256))).set (o + 3) (UInt8.ofNat x)
theorem put4_length (L : List UInt8) (o x : Nat) : (put4 L o x).length = L.length := by simp [put4]
theorem byteLies {w : World} {g k : Nat} {t : TypeId} {L : List UInt8} (h : Blk w g t (bvs L).toArray) (hk : k < L.length) : w.cell? ⟨g, k, none⟩ = some (bv L[k]) := by
  rw [h.cell k]
  have := bvs_get L k hk
  simpa using this
set_option maxHeartbeats 1000000 in
theorem bePut32 {w : World} {g o n c x : Nat} {t : TypeId} {L : List UInt8} (h : Blk w g t (bvs L).toArray) (hn : 4 ≤ n) (ho : o + 4 ≤ L.length) (hx : x < 4294967296) :
    Calls Tryz.prog 138 #[.slice (some ⟨g, o, none⟩) n c, .int .u32 (x : Int)] w fun e w' => e = .returned (.tuple #[]) ∧ Blk w' g t (bvs (put4 L o x)).toArray ∧ w.grownBy w' (some g) := by
  have H := Lib.hid h
  obtain ⟨d0, c0⟩ : ∃ v, w.cell? ⟨g, o, none⟩ = some v := ⟨_, byteLies h (k := o) (by omega)⟩
  obtain ⟨d1, c1⟩ : ∃ v, w.cell? ⟨g, o + 1, none⟩ = some v := ⟨_, byteLies h (k := o + 1) (by omega)⟩
  obtain ⟨d2, c2⟩ : ∃ v, w.cell? ⟨g, o + 2, none⟩ = some v := ⟨_, byteLies h (k := o + 2) (by omega)⟩
  obtain ⟨d3, c3⟩ : ∃ v, w.cell? ⟨g, o + 3, none⟩ = some v := ⟨_, byteLies h (k := o + 3) (by omega)⟩
  have f0 := h.free o
  have f1 := h.free (o + 1)
  have f2 := h.free (o + 2)
  have f3 := h.free (o + 3)
  have hn0 : (4 : Int) ≤ (n : Int) := by omega
  have n0 : (0 : Int) < (n : Int) := by omega
  have n1 : (1 : Int) < (n : Int) := by omega
  have n2 : (2 : Int) < (n : Int) := by omega
  have n3 : (3 : Int) < (n : Int) := by omega
  clear h ho
  go_enter Tryz.func138, Tryz.ntmps138
  go_wp2_with fail
  have h1 := byteSet (k := o) (n := x / 16777216) H.out (x := (x : Int) / 16777216) (by omega)
  have h2 := byteSet (k := o + 1) (n := x / 65536) h1 (x := (x : Int) / 65536 % 256) (by omega)
  have h3 := byteSet (k := o + 2) (n := x / 256) h2 (x := (x : Int) / 256 % 256) (by omega)
  have h4 := byteSet (k := o + 3) (n := x) h3 (x := (x : Int) % 256) (by omega)
  have G := grown_setCell (grown_setCell (grown_setCell (grown_setCell (grown_refl w (some g)) (p := ⟨g, o, none⟩) (.inl rfl) (.int .u8 ((x : Int) / 16777216))) (p := ⟨g, o + 1, none⟩) (.inl rfl) (.int .u8 ((x : Int) / 65536 % 256))) (p := ⟨g, o + 2, none⟩) (.inl rfl) (.int .u8 ((x : Int) / 256 % 256))) (p := ⟨g, o + 3, none⟩) (.inl rfl) (.int .u8 ((x : Int) % 256))
  go_end0
  exact ⟨rfl, h4, G⟩
theorem bePutU32 {w : World} {g o n c x : Nat} {t : TypeId} {L : List UInt8} (h : Blk w g t (bvs L).toArray) (hn : 4 ≤ n) (ho : o + 4 ≤ L.length) (hx : x < 4294967296) :
    Calls Tryz.prog 135 #[.slice (some ⟨g, o, none⟩) n c, .int .u32 (x : Int)] w fun e w' => e = .returned (.tuple #[]) ∧ Blk w' g t (bvs (put4 L o x)).toArray ∧ w.grownBy w' (some g) := by
  have H := Lib.hid h
  clear h
  go_enter Tryz.func135, Tryz.ntmps135
  go_wp2_with fail
  refine (bePut32 (c := c) H.out hn ho hx).mono ?_
  rintro e w2 ⟨rfl, h2, hg⟩
  go_wp2_with fail
  go_end0
  exact ⟨rfl, h2, hg⟩
end Go.Proofs.YtkmjjoffamdnfaaGreatDoor

/- SHA2-256 with any sixty-four keys; no program. -/
namespace Go.Proofs.YtkmjjoffamdnfaaGreatDoor
namespace Sha
variable (K : List Nat)
def roundsK (ws : List Nat) : Nat → V → V
  | 0, v => v
  | i + 1, v => round (roundsK ws i v) (K.getD i 0) (ws.getD i 0)
def blockK (u : V) (b : List UInt8) : V := u.add (roundsK K (sched b 48) 64 u)
def blocksK : Nat → V → List UInt8 → V
  | 0, v, _ => v
  | n + 1, v, l => blocksK n (blockK K v (l.take 64)) (l.drop 64)
def sumK (l : List UInt8) : List UInt8 := (blocksK K ((padded l).length / 64) init (padded l)).out
theorem sumK_length (l : List UInt8) : (sumK K l).length = 32 := by simp [sumK, V.out]
theorem V.ok.roundsK {K : List Nat} {ws : List Nat} {v : V} (h : v.ok) : ∀ i, (Sha.roundsK K ws i v).ok
  | 0 => h
  | i + 1 => (V.ok.roundsK h i).round _ _
theorem blockK_ok (u : V) (b : List UInt8) : (blockK K u b).ok := V.ok.add _ _
theorem blocksK_ok : ∀ (n : Nat) {u : V} (_ : u.ok) (l : List UInt8), (blocksK K n u l).ok
  | 0, _, h, _ => h
  | n + 1, _, _, _ => blocksK_ok n (blockK_ok K _ _) _
/-- one block more, at the end -/
theorem blocksK_succ : ∀ (n : Nat) (u : V) (l : List UInt8), blocksK K (n + 1) u l = blockK K (blocksK K n u l) ((l.drop (64 * n)).take 64)
  | 0, u, l => rfl
  | n + 1, u, l => by
    show blocksK K (n + 1) (blockK K u (l.take 64)) (l.drop 64) = _
    rw [blocksK_succ n, List.drop_drop, show 64 + 64 * n = 64 * (n + 1) by omega]
    rfl
theorem blocksK_add : ∀ (m n : Nat) (u : V) (l : List UInt8), blocksK K (m + n) u l = blocksK K n (blocksK K m u l) (l.drop (64 * m))
  | 0, n, u, l => by rw [Nat.zero_add]; rfl
  | m + 1, n, u, l => by
    rw [show m + 1 + n = (m + n) + 1 by omega]
    show blocksK K (m + n) (blockK K u (l.take 64)) (l.drop 64) = _
    rw [blocksK_add m n, List.drop_drop, show 64 + 64 * m = 64 * (m + 1) by omega]
    rfl
theorem blocksK_take : ∀ (n : Nat) (u : V) (l : List UInt8) {k : Nat}, 64 * n ≤ k → blocksK K n u (l.take k) = blocksK K n u l
  | 0, _, _, _, _ => rfl
  | n + 1, u, l, k, h => by
    show blocksK K n (blockK K u ((l.take k).take 64)) ((l.take k).drop 64) = blocksK K n (blockK K u (l.take 64)) (l.drop 64)
    rw [List.take_take, Nat.min_eq_left (by omega), List.drop_take, blocksK_take n _ _ (by omega)]
end Sha
theorem sched_take {b : List UInt8} {n i : Nat} : ∀ {m : Nat}, n ≤ m → i < n + 16 → (Sha.sched b m).getD i 0 = (Sha.sched b n).getD i 0 := by
  intro m h hi
  induction m with
  | zero => obtain rfl : n = 0 := by omega
            rfl
  | succ m ih =>
    rcases Nat.lt_or_ge m n with h2 | h2
    · obtain rfl : n = m + 1 := by omega
      rfl
    · rw [← ih h2]
      show (Sha.sched b m ++ [_]).getD i 0 = _
      rw [List.getD_eq_getElem?_getD, List.getD_eq_getElem?_getD, List.getElem?_append_left (by rw [Sha.sched_length]; omega)]
/-- the first sixteen words -/
theorem sched_low {b : List UInt8} {i : Nat} (h : i < 16) : (Sha.sched b 48).getD i 0 = Sha.word b i := by
  rw [sched_take (n := 0) (by omega) (by omega)]
  show (Sha.words b 16).getD i 0 = _
  unfold Sha.words
  rw [List.getD_eq_getElem?_getD, List.getElem?_map, List.getElem?_range h]
  rfl
/-- each of the others -/
theorem sched_high {b : List UInt8} {k : Nat} (h : k < 48) : (Sha.sched b 48).getD (k + 16) 0 =
    Sha.wadd (Sha.wadd (Sha.wadd ((Sha.sched b 48).getD k 0) ((Sha.sched b 48).getD (k + 9) 0)) (Sha.s0 ((Sha.sched b 48).getD (k + 1) 0))) (Sha.s1 ((Sha.sched b 48).getD (k + 14) 0)) := by
  rw [sched_take (b := b) (n := k + 1) (i := k + 16) (by omega) (by omega)]
  rw [sched_take (b := b) (n := k) (i := k) (by omega) (by omega), sched_take (b := b) (n := k) (i := k + 9) (by omega) (by omega), sched_take (b := b) (n := k) (i := k + 1) (by omega) (by omega), sched_take (b := b) (n := k) (i := k + 14) (by omega) (by omega)]
  show (Sha.sched b k ++ [Sha.nextW (Sha.sched b k)]).getD (k + 16) 0 = _
  rw [List.getD_eq_getElem?_getD, List.getElem?_append_right (by rw [Sha.sched_length]; exact Nat.le_refl _), Sha.sched_length, Nat.sub_self]
  show Sha.nextW (Sha.sched b k) = _
  unfold Sha.nextW
  rw [Sha.sched_length, show k + 16 - 16 = k by omega, show k + 16 - 7 = k + 9 by omega, show k + 16 - 15 = k + 1 by omega, show k + 16 - 2 = k + 14 by omega]
theorem sched_all_small {b : List UInt8} (i : Nat) : (Sha.sched b 48).getD i 0 < 4294967296 := (Sha.sched_small b 48).getD i
/-- the library's order of the sum -/
theorem nextW_order (a b c d : Nat) : Sha.wadd (Sha.wadd (Sha.wadd a b) c) d = Sha.wadd (Sha.wadd (Sha.wadd d b) c) a := by
  unfold Sha.wadd; omega
end Go.Proofs.YtkmjjoffamdnfaaGreatDoor

/- The library's Digest: what it holds, Reset and New. -/
namespace Go.Proofs.YtkmjjoffamdnfaaGreatDoor
open Go.RowKit
set_option maxRecDepth 100000
/-- the cells of a digest behind its words -/
def digT (X : List UInt8) (nx len : Nat) : List Value := bvs X ++ [.int .i64 (nx : Int), .int .u64 (len : Int), .bool false]
/-- block g is a digest -/
def Dig (w : World) (g : Nat) (V : Sha.V) (X : List UInt8) (nx len : Nat) : Prop := X.length = 64 ∧ Blk w g 160 (u32s V.list ++ digT X nx len).toArray
section
variable {w : World} {g : Nat}
set_option maxHeartbeats 1000000 in
theorem digReset (h : Blk w g 160 Tryz.zeroCells160) :
    Calls Tryz.prog 79 #[.pointer (some ⟨g, 0, none⟩)] w fun e w' => e = .returned (.tuple #[]) ∧ Dig w' g Sha.init (List.replicate 64 0) 0 0 ∧ w.grownBy w' (some g) := by
  have c0 : w.cell? ⟨g, 0, none⟩ = some (.int .u32 0) := (h.cell 0).trans (show Tryz.zeroCells160[0]? = some (.int .u32 0) by kernel_rfl)
  have c1 : w.cell? ⟨g, 1, none⟩ = some (.int .u32 0) := (h.cell 1).trans (show Tryz.zeroCells160[1]? = some (.int .u32 0) by kernel_rfl)
  have c2 : w.cell? ⟨g, 2, none⟩ = some (.int .u32 0) := (h.cell 2).trans (show Tryz.zeroCells160[2]? = some (.int .u32 0) by kernel_rfl)
  have c3 : w.cell? ⟨g, 3, none⟩ = some (.int .u32 0) := (h.cell 3).trans (show Tryz.zeroCells160[3]? = some (.int .u32 0) by kernel_rfl)
  have c4 : w.cell? ⟨g, 4, none⟩ = some (.int .u32 0) := (h.cell 4).trans (show Tryz.zeroCells160[4]? = some (.int .u32 0) by kernel_rfl)
  have c5 : w.cell? ⟨g, 5, none⟩ = some (.int .u32 0) := (h.cell 5).trans (show Tryz.zeroCells160[5]? = some (.int .u32 0) by kernel_rfl)
  have c6 : w.cell? ⟨g, 6, none⟩ = some (.int .u32 0) := (h.cell 6).trans (show Tryz.zeroCells160[6]? = some (.int .u32 0) by kernel_rfl)
  have c7 : w.cell? ⟨g, 7, none⟩ = some (.int .u32 0) := (h.cell 7).trans (show Tryz.zeroCells160[7]? = some (.int .u32 0) by kernel_rfl)
  have c72 : w.cell? ⟨g, 72, none⟩ = some (.int .i64 0) := (h.cell 72).trans (show Tryz.zeroCells160[72]? = some (.int .i64 0) by kernel_rfl)
  have c73 : w.cell? ⟨g, 73, none⟩ = some (.int .u64 0) := (h.cell 73).trans (show Tryz.zeroCells160[73]? = some (.int .u64 0) by kernel_rfl)
  have c74 : w.cell? ⟨g, 74, none⟩ = some (.bool false) := (h.cell 74).trans (show Tryz.zeroCells160[74]? = some (.bool false) by kernel_rfl)
  have f0 := h.free 0
  have f1 := h.free 1
  have f2 := h.free 2
  have f3 := h.free 3
  have f4 := h.free 4
  have f5 := h.free 5
  have f6 := h.free 6
  have f7 := h.free 7
  have f72 := h.free 72
  have f73 := h.free 73
  have H := Lib.hid h
  clear h
  go_enter Tryz.func79, Tryz.ntmps79
  go_wp2_with fail
  go_end0
  have h := H.out
  have hb := (((((((((h.set 0 (.int .u32 1779033703)).set 1 (.int .u32 3144134277)).set 2 (.int .u32 1013904242)).set 3 (.int .u32 2773480762)).set 4 (.int .u32 1359893119)).set 5 (.int .u32 2600822924)).set 6 (.int .u32 528734635)).set 7 (.int .u32 1541459225)).set 72 (.int .i64 0)).set 73 (.int .u64 0)
  have hg := grown_setCell (grown_setCell (grown_setCell (grown_setCell (grown_setCell (grown_setCell (grown_setCell (grown_setCell (grown_setCell (grown_setCell (grown_refl w (some g)) (p := ⟨g, 0, none⟩) (.inl rfl) (.int .u32 1779033703)) (p := ⟨g, 1, none⟩) (.inl rfl) (.int .u32 3144134277)) (p := ⟨g, 2, none⟩) (.inl rfl) (.int .u32 1013904242)) (p := ⟨g, 3, none⟩) (.inl rfl) (.int .u32 2773480762)) (p := ⟨g, 4, none⟩) (.inl rfl) (.int .u32 1359893119)) (p := ⟨g, 5, none⟩) (.inl rfl) (.int .u32 2600822924)) (p := ⟨g, 6, none⟩) (.inl rfl) (.int .u32 528734635)) (p := ⟨g, 7, none⟩) (.inl rfl) (.int .u32 1541459225)) (p := ⟨g, 72, none⟩) (.inl rfl) (.int .i64 0)) (p := ⟨g, 73, none⟩) (.inl rfl) (.int .u64 0)
  refine ⟨rfl, ⟨rfl, ?_⟩, hg⟩
  have e : (((((((((((Tryz.zeroCells160.setIfInBounds 0 (.int .u32 1779033703)).setIfInBounds 1 (.int .u32 3144134277)).setIfInBounds 2 (.int .u32 1013904242)).setIfInBounds 3 (.int .u32 2773480762)).setIfInBounds 4 (.int .u32 1359893119)).setIfInBounds 5 (.int .u32 2600822924)).setIfInBounds 6 (.int .u32 528734635)).setIfInBounds 7 (.int .u32 1541459225)).setIfInBounds 72 (.int .i64 0)).setIfInBounds 73 (.int .u64 0))) = (u32s Sha.init.list ++ digT (List.replicate 64 0) 0 0).toArray := by kernel_rfl
  rw [← e]
  exact hb
theorem fipsNew (w : World) :
    Calls Tryz.prog 71 #[] w fun e w' => e = .returned (.pointer (some ⟨w.heap.size, 0, none⟩)) ∧ Dig w' w.heap.size Sha.init (List.replicate 64 0) 0 0 ∧ Below w.heap.size w w' := by
  have K := Lib.hid (Blk.new w 160 Tryz.zeroCells160)
  go_enter Tryz.func71, Tryz.ntmps71
  go_wp2_with fail
  refine (digReset K.out).mono ?_
  rintro e w2 ⟨rfl, hd, hg⟩
  have HD := Lib.hid hd
  have B := Lib.hid (below_grown (below_alloc w _) hg (fun k e => by injection e with e; omega))
  clear hd hg
  go_wp2_with fail
  go_ret
  exact ⟨rfl, HD.out, B.out⟩
end
end Go.Proofs.YtkmjjoffamdnfaaGreatDoor

/- What a digest has been fed: the plain steps of Write; no program. -/
namespace Go.Proofs.YtkmjjoffamdnfaaGreatDoor
namespace Sha
/-- the digest's words, row and numbers are those behind the bytes l -/
structure Fed (K : List Nat) (V : V) (X : List UInt8) (nx len : Nat) (l : List UInt8) : Prop where
  words : V = blocksK K (l.length / 64) init l
  cnt : nx = l.length % 64
  tot : len = l.length
  row : X.take nx = l.drop (64 * (l.length / 64))
  size : X.length = 64
variable {K : List Nat} {V : V} {X : List UInt8} {nx len : Nat} {l p : List UInt8}
theorem Fed.new : Fed K init (List.replicate 64 0) 0 0 [] := ⟨rfl, rfl, rfl, rfl, by simp⟩
/-- a row with bytes laid over its middle -/
def over (X : List UInt8) (o : Nat) (p : List UInt8) : List UInt8 := X.take o ++ (p ++ X.drop (o + p.length))
theorem over_length {o : Nat} (h : o + p.length ≤ X.length) : (over X o p).length = X.length := by unfold over; simp; omega
theorem over_take {o : Nat} (h : o ≤ X.length) : (over X o p).take (o + p.length) = X.take o ++ p := by
  unfold over
  rw [← List.append_assoc, List.take_append_of_le_length (by simp; omega), List.take_of_length_le (by simp; omega)]
/-- bytes that do not fill the row -/
theorem Fed.part (h : Fed K V X nx len l) (hp : nx + p.length < 64) : Fed K V (over X nx p) (nx + p.length) (len + p.length) (l ++ p) := by
  have hx := h.cnt
  have hs := h.size
  have e : (l ++ p).length / 64 = l.length / 64 := by rw [List.length_append]; omega
  have hq : 64 * (l.length / 64) ≤ l.length := by omega
  refine ⟨?_, by rw [List.length_append]; omega, by rw [List.length_append, h.tot], ?_, by rw [over_length (by omega)]; exact hs⟩
  · rw [e, h.words]
    have := blocksK_take K (l.length / 64) init (l ++ p) (k := l.length) (by omega)
    rw [List.take_left] at this
    exact this
  · rw [e, over_take (by omega), h.row, List.drop_append_of_le_length hq]
/-- bytes that fill the row -/
theorem Fed.full (h : Fed K V X nx len l) (hp : nx + p.length = 64) : Fed K (blockK K V (over X nx p)) (over X nx p) 0 (len + p.length) (l ++ p) := by
  have hx := h.cnt
  have hs := h.size
  have e : (l ++ p).length / 64 = l.length / 64 + 1 := by rw [List.length_append]; omega
  have hq : 64 * (l.length / 64) ≤ l.length := by omega
  have hov : over X nx p = (l ++ p).drop (64 * (l.length / 64)) := by
    have h1 := over_take (X := X) (p := p) (o := nx) (by omega)
    rw [h.row, ← List.drop_append_of_le_length hq, List.take_of_length_le (by rw [over_length (by omega)]; omega)] at h1
    exact h1
  refine ⟨?_, by rw [List.length_append]; omega, by rw [List.length_append, h.tot], ?_, by rw [over_length (by omega)]; exact hs⟩
  · rw [e, blocksK_succ]
    have := blocksK_take K (l.length / 64) init (l ++ p) (k := l.length) (by omega)
    rw [List.take_left] at this
    rw [← this, ← h.words, ← hov, List.take_of_length_le (by rw [over_length (by omega)]; omega)]
  · rw [List.take_zero, List.drop_of_length_le (by rw [List.length_append]; omega)]
/-- whole blocks behind an empty row -/
theorem Fed.blocks (h : Fed K V X 0 len l) (m : Nat) (hm : 64 * m ≤ p.length) : Fed K (blocksK K m V p) X 0 (len + 64 * m) (l ++ p.take (64 * m)) := by
  have hx := h.cnt
  have hl : (p.take (64 * m)).length = 64 * m := by rw [List.length_take]; omega
  have e : (l ++ p.take (64 * m)).length / 64 = l.length / 64 + m := by rw [List.length_append, hl]; omega
  refine ⟨?_, by rw [List.length_append, hl]; omega, by rw [List.length_append, hl, h.tot], ?_, h.size⟩
  · rw [e, blocksK_add]
    have h1 := blocksK_take K (l.length / 64) init (l ++ p.take (64 * m)) (k := l.length) (by omega)
    rw [List.take_left] at h1
    rw [← h1, ← h.words, show 64 * (l.length / 64) = l.length by omega, List.drop_left, blocksK_take K m V p (Nat.le_refl _)]
  · rw [List.take_zero, List.drop_of_length_le (by rw [List.length_append, hl]; omega)]
end Sha
end Go.Proofs.YtkmjjoffamdnfaaGreatDoor
