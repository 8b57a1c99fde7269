/- Rows of one's own: a byte written, a row begun with one byte; strings put together. -/
import Derived.Test.YteodhonipbdplaaGreatDoorMd01
import Derived.Test.YteodhonipbdplaaGreatDoorMd03
namespace Go.Proofs.YteodhonipbdplaaGreatDoor
open Go.RowKit
set_option maxRecDepth 100000
theorem Bs.at' {w : World} {B : Nat} {A : Option Addr} {n c k : Nat} {l : List UInt8} (h : Bs w B (.slice A n c) l) (hk : k < l.length) : ∃ g o, A = some ⟨g, o, none⟩ ∧ w.cell? ⟨g, o + k, none⟩ = some (.int .u8 ((l[k].toNat : Nat) : Int)) ∧ g < B := by
  obtain ⟨A', c', he, _, _, hc⟩ := h
  injection he with e1 e2 e3
  subst e1
  obtain ⟨g, o, rfl, hg, hc⟩ := hc (by omega)
  exact ⟨g, o, rfl, hc k hk, hg⟩

section
variable {w : World} {base : Nat} {A : Option Addr} {n c k : Nat} {l : List UInt8}
/-- a byte of a row of one's own: where it lies, and that it may be written -/
theorem Own.at' (h : Own w base (.slice A n c) l) (hk : k < l.length) : ∃ g, A = some ⟨g, 0, none⟩ ∧ base ≤ g ∧ w.cell? ⟨g, k, none⟩ = some (.int .u8 ((l[k].toNat : Nat) : Int)) ∧ w.frozen? ⟨g, k, none⟩ = false ∧
    ∀ (x : UInt8) (d : Int), d = (x.toNat : Int) → Own (w.setCell ⟨g, k, none⟩ (.int .u8 d)) base (.slice A n c) (l.set k x) := by
  have hc := h.bs
  unfold Own at h
  obtain ⟨h0, h1⟩ := h
  rcases h1 with ⟨e, hl⟩ | ⟨g, cap, cur, e, hb, hg, hn, hm, hs, ht⟩
  · rw [hl] at hk; omega
  · injection e with e1 e2 e3
    subst e1 e2 e3
    refine ⟨g, rfl, hb, ?_, by simp [World.frozen?, hg], fun x d hd => ?_⟩
    · obtain ⟨A', c', he, _, _, hc⟩ := hc
      injection he with e1 e2 e3
      obtain ⟨g', o', he, _, hcc⟩ := hc (by omega)
      rw [← e1] at he
      injection he with he
      injection he with he1 he2
      subst he1 he2
      have := hcc k hk
      rwa [Nat.zero_add] at this
    · subst hd
      refine ⟨by simp [bvs], .inr ⟨g, c, cur.setIfInBounds k (bv x), by simp, hb, ?_, by simpa using hn, hm, by simpa using hs, ?_⟩⟩
      · have h' : w.heap[g]? = some (.cells cur 5 (0, 0)) := hg
        show (w.setCell ⟨g, k, none⟩ (bv x)).heap[g]? = _
        simp [World.setCell, Array.getElem?_modify, h']
      · rw [Array.toList_setIfInBounds, List.length_set, List.take_set, ht]
        simp [bvs, List.map_set]
/-- a row of one byte -/
theorem Own.one (w : World) (base : Nat) (hb : base ≤ w.heap.size) (x : UInt8) {d : Int} (hd : d = (x.toNat : Int)) : Own (w.alloc (.cells #[.int .u8 d] 5)) base (.slice (some ⟨w.heap.size, 0, none⟩) 1 1) [x] := by
  subst hd
  exact ⟨rfl, .inr ⟨w.heap.size, 1, #[bv x], rfl, hb, heap_alloc_new w _, Nat.le_refl _, by unfold maxLen; omega, rfl, rfl⟩⟩
end
theorem strOf_append (a b : List UInt8) : strOf a ++ strOf b = strOf (a ++ b) := by
  apply ByteArray.ext
  simp [strOf]
theorem strOf_extract (l : List UInt8) (i j : Nat) : (strOf l).extract i j = strOf ((l.take j).drop i) := by
  apply ByteArray.ext
  apply Array.toList_inj.1
  simp [strOf, ByteArray.data_extract, List.drop_take]
theorem strOf_inj {a b : List UInt8} (h : strOf a = strOf b) : a = b := by
  have := congrArg ByteArray.toList h
  rwa [strOf_toList, strOf_toList] at this
end Go.Proofs.YteodhonipbdplaaGreatDoor

/- Values of SHA2-256's operations. -/
namespace Go.Proofs.YteodhonipbdplaaGreatDoor
open Go.RowKit
set_option maxRecDepth 100000
theorem wCell {w : World} {g k : Nat} {t : TypeId} {l : List Nat} (h : Blk w g t (u32s l).toArray) (hk : k < l.length) : w.cell? ⟨g, k, none⟩ = some (.int .u32 (l[k] : Int)) := by
  rw [h.cell]
  have := u32s_get hk
  simpa using this
theorem wSet {w : World} {g k n : Nat} {t : TypeId} {l : List Nat} (h : Blk w g t (u32s l).toArray) {x : Int} (hx : x = (n : Int)) : Blk (w.setCell ⟨g, k, none⟩ (.int .u32 x)) g t (u32s (l.set k n)).toArray := by
  subst hx
  have := h.set k (.int .u32 (n : Int))
  rw [List.setIfInBounds_toArray, u32s_set] at this
  exact this
theorem words_fill_len {l : List UInt8} {k : Nat} (h : k ≤ 64) : (Sha.words l k ++ List.replicate (64 - k) 0).length = 64 := by simp [Sha.words_length]; omega
theorem words_next {l : List UInt8} {k : Nat} (h : k < 64) : (Sha.words l k ++ List.replicate (64 - k) 0).set k (Sha.word l k) = Sha.words l (k + 1) ++ List.replicate (64 - (k + 1)) 0 := by
  obtain ⟨m, hm⟩ : ∃ m, 64 - k = m + 1 := ⟨64 - k - 1, by omega⟩
  rw [List.set_append_right _ _ (by rw [Sha.words_length]; exact Nat.le_refl _), Sha.words_length, Nat.sub_self, hm, show 64 - (k + 1) = m by omega, List.replicate_succ, List.set_cons_zero]
  have : Sha.words l (k + 1) = Sha.words l k ++ [Sha.word l k] := by simp [Sha.words, List.range_succ]
  rw [this, List.append_assoc]
  rfl
theorem word_or {d0 d1 d2 d3 : Nat} (h0 : d0 ≤ 255) (h1 : d1 ≤ 255) (h2 : d2 ≤ 255) (h3 : d3 ≤ 255) :
    bits .or .u32 (bits .or .u32 (bits .or .u32 ((d0 : Int) * 16777216) ((d1 : Int) * 65536)) ((d2 : Int) * 256)) (d3 : Int) = ((d0 * 16777216 + d1 * 65536 + d2 * 256 + d3 : Nat) : Int) := by
  have c1 : ((d0 * 16777216 : Nat) : Int) = (d0 : Int) * 16777216 := by simp
  have c2 : ((d1 * 65536 : Nat) : Int) = (d1 : Int) * 65536 := by simp
  have c3 : ((d2 * 256 : Nat) : Int) = (d2 : Int) * 256 := by simp
  have e1 := u32_or_nat (d0 * 16777216) (d1 * 65536) (by omega) (by omega)
  rw [nat_join 24 (d0 * 16777216) (d1 * 65536) (by omega) (by omega)] at e1
  have e2 := u32_or_nat (d0 * 16777216 + d1 * 65536) (d2 * 256) (by omega) (by omega)
  rw [nat_join 16 (d0 * 16777216 + d1 * 65536) (d2 * 256) (by omega) (by omega)] at e2
  have e3 := u32_or_nat (d0 * 16777216 + d1 * 65536 + d2 * 256) d3 (by omega) (by omega)
  rw [nat_join 8 (d0 * 16777216 + d1 * 65536 + d2 * 256) d3 (by omega) (by omega)] at e3
  rw [c1, c2] at e1
  rw [c3] at e2
  rw [e1, e2, e3]
theorem u32_wadd (a b : Nat) : IntKind.u32.wrap ((a : Int) + (b : Int)) = ((Sha.wadd a b : Nat) : Int) := by
  rw [IntKind.wrap_u32']
  unfold Sha.wadd
  omega
theorem mod_wadd (a b : Nat) : ((a : Int) + (b : Int)) % 4294967296 = ((Sha.wadd a b : Nat) : Int) := by
  unfold Sha.wadd
  omega
theorem sig_val {x a b c : Nat} (ha : a < 4294967296) (hb : b < 4294967296) (hc : x < 4294967296) (_hd : 0 < c) : bits .xor .u32 (bits .xor .u32 (a : Int) (b : Int)) ((x : Int) / (c : Int)) = ((a ^^^ b ^^^ x / c : Nat) : Int) := by
  have e : (x : Int) / (c : Int) = ((x / c : Nat) : Int) := by rw [Int.natCast_ediv]
  rw [e, u32_xor_nat a b ha hb, u32_xor_nat _ _ (Sha.xor_lt ha hb) (Nat.lt_of_le_of_lt (Nat.div_le_self _ _) hc)]
theorem next_val {a0 a9 a1 a14 : Nat} (m1 : a1 < 4294967296) (m14 : a14 < 4294967296) :
    IntKind.u32.wrap (IntKind.u32.wrap (IntKind.u32.wrap ((a0 : Int) + (a9 : Int)) + bits .xor .u32 (bits .xor .u32 ((Sha.rotr a1 7 : Nat) : Int) ((Sha.rotr a1 18 : Nat) : Int)) ((a1 : Int) / 8)) + bits .xor .u32 (bits .xor .u32 ((Sha.rotr a14 17 : Nat) : Int) ((Sha.rotr a14 19 : Nat) : Int)) ((a14 : Int) / 1024)) =
      ((Sha.wadd (Sha.wadd (Sha.wadd a0 a9) (Sha.s0 a1)) (Sha.s1 a14) : Nat) : Int) := by
  have e1 := sig_val (c := 8) (Sha.rotr_lt (n := 7) m1) (Sha.rotr_lt (n := 18) m1) m1 (by omega)
  have e2 := sig_val (c := 1024) (Sha.rotr_lt (n := 17) m14) (Sha.rotr_lt (n := 19) m14) m14 (by omega)
  rw [show (8 : Int) = ((8 : Nat) : Int) from rfl, show (1024 : Int) = ((1024 : Nat) : Int) from rfl, e1, e2, u32_wadd, u32_wadd, u32_wadd]
  rfl
theorem sched_fill {l : List UInt8} {k : Nat} (h : k < 48) : (Sha.sched l k ++ List.replicate (48 - k) 0).set (k + 16) (Sha.nextW (Sha.sched l k)) = Sha.sched l (k + 1) ++ List.replicate (48 - (k + 1)) 0 := by
  obtain ⟨m, hm⟩ : ∃ m, 48 - k = m + 1 := ⟨48 - k - 1, by omega⟩
  rw [List.set_append_right _ _ (by rw [Sha.sched_length]; exact Nat.le_refl _), Sha.sched_length, Nat.sub_self, hm, show 48 - (k + 1) = m by omega, List.replicate_succ, List.set_cons_zero]
  show _ = Sha.sched l k ++ [Sha.nextW (Sha.sched l k)] ++ _
  rw [List.append_assoc]
  rfl
theorem not32 {e : Nat} (h : e < 4294967296) : 4294967295 ^^^ e = 4294967295 - e := by
  apply Nat.eq_of_testBit_eq
  intro i
  have h1 : (4294967295 : Nat) = 2 ^ 32 - 1 := rfl
  have h2 : 4294967295 - e = 2 ^ 32 - (e + 1) := by omega
  rw [Nat.testBit_xor, h2, Nat.testBit_two_pow_sub_succ h, h1, Nat.testBit_two_pow_sub_one]
  by_cases hi : i < 32
  · simp [hi]
  · have h3 : e < 2 ^ i := Nat.lt_of_lt_of_le (show e < 2 ^ 32 from h) (Nat.pow_le_pow_right (by decide) (Nat.le_of_not_lt hi))
    have h4 : e.testBit i = false := Nat.testBit_lt_two_pow h3
    simp [hi, h4]
theorem one_val {U : Sha.V} {kv wv : Nat} (h : U.ok) : ((((U.h : Int) + bits .xor .u32 (bits .xor .u32 ((Sha.rotr U.e 6 : Nat) : Int) ((Sha.rotr U.e 11 : Nat) : Int)) ((Sha.rotr U.e 25 : Nat) : Int) + bits .xor .u32 (bits .and .u32 (U.e : Int) (U.f : Int)) (bits .and .u32 (bits .xor .u32 (if IntKind.u32.signed = true then -1 else IntKind.u32.max) (U.e : Int)) (U.g : Int)) + (kv : Int)) % 4294967296 + (wv : Int)) % 4294967296) = ((Sha.one U kv wv : Nat) : Int) := by
  have e1 := u32_xor_nat _ _ (Sha.xor_lt (Sha.rotr_lt (n := 6) h.e) (Sha.rotr_lt (n := 11) h.e)) (Sha.rotr_lt (n := 25) h.e)
  have e2 := u32_xor_nat _ _ (Sha.rotr_lt (n := 6) h.e) (Sha.rotr_lt (n := 11) h.e)
  have e3 := u32_and_nat _ _ h.e h.f
  have e4 := u32_xor_nat 4294967295 _ (by omega) h.e
  rw [not32 h.e] at e4
  have e5 := u32_and_nat (4294967295 - U.e) _ (by omega) h.g
  have e6 := u32_xor_nat _ _ (Sha.and_lt (a := U.e) h.f) (Sha.and_lt (a := 4294967295 - U.e) h.g)
  have e0 : (if IntKind.u32.signed = true then (-1 : Int) else IntKind.u32.max) = ((4294967295 : Nat) : Int) := rfl
  rw [e0, e2, e1, e3, e4, e5, e6]
  show _ = ((Sha.wadd (Sha.wadd (Sha.wadd (Sha.wadd U.h (Sha.t1 U.e)) (Sha.ch U.e U.f U.g)) kv) wv : Nat) : Int)
  unfold Sha.wadd
  show (((U.h : Int) + ((Sha.t1 U.e : Nat) : Int) + ((Sha.ch U.e U.f U.g : Nat) : Int) + (kv : Int)) % 4294967296 + (wv : Int)) % 4294967296 = _
  omega
theorem two_val {U : Sha.V} (h : U.ok) : ((bits .xor .u32 (bits .xor .u32 ((Sha.rotr U.a 2 : Nat) : Int) ((Sha.rotr U.a 13 : Nat) : Int)) ((Sha.rotr U.a 22 : Nat) : Int) + bits .xor .u32 (bits .xor .u32 (bits .and .u32 (U.a : Int) (U.b : Int)) (bits .and .u32 (U.a : Int) (U.c : Int))) (bits .and .u32 (U.b : Int) (U.c : Int))) % 4294967296) = ((Sha.two U : Nat) : Int) := by
  have e1 := u32_xor_nat _ _ (Sha.xor_lt (Sha.rotr_lt (n := 2) h.a) (Sha.rotr_lt (n := 13) h.a)) (Sha.rotr_lt (n := 22) h.a)
  have e2 := u32_xor_nat _ _ (Sha.rotr_lt (n := 2) h.a) (Sha.rotr_lt (n := 13) h.a)
  have e3 := u32_and_nat _ _ h.a h.b
  have e4 := u32_and_nat _ _ h.a h.c
  have e5 := u32_and_nat _ _ h.b h.c
  have e6 := u32_xor_nat _ _ (Sha.and_lt (a := U.a) h.b) (Sha.and_lt (a := U.a) h.c)
  have e7 := u32_xor_nat _ _ (Sha.xor_lt (Sha.and_lt (a := U.a) h.b) (Sha.and_lt (a := U.a) h.c)) (Sha.and_lt (a := U.b) h.c)
  rw [e2, e1, e3, e4, e5, e6, e7]
  show _ = ((Sha.wadd (Sha.t0 U.a) (Sha.maj U.a U.b U.c) : Nat) : Int)
  unfold Sha.wadd
  show (((Sha.t0 U.a : Nat) : Int) + ((Sha.maj U.a U.b U.c : Nat) : Int)) % 4294967296 = _
  omega
theorem eightFree {W : World} {g : Nat} {t : TypeId} {cs : Array Value} (h : Blk W g t cs) : W.frozen? ⟨g, 0, none⟩ = false ∧ W.frozen? ⟨g, 1, none⟩ = false ∧ W.frozen? ⟨g, 2, none⟩ = false ∧ W.frozen? ⟨g, 3, none⟩ = false ∧ W.frozen? ⟨g, 4, none⟩ = false ∧ W.frozen? ⟨g, 5, none⟩ = false ∧ W.frozen? ⟨g, 6, none⟩ = false ∧ W.frozen? ⟨g, 7, none⟩ = false :=
  ⟨h.free 0, h.free 1, h.free 2, h.free 3, h.free 4, h.free 5, h.free 6, h.free 7⟩
theorem vlist_lt {V : Sha.V} (h : V.ok) {k : Nat} (hk : k < V.list.length) : V.list[k] < 4294967296 := by
  have : ∀ x ∈ V.list, x < 4294967296 := by
    intro x hx
    simp only [Sha.V.list, List.mem_cons, List.not_mem_nil, or_false] at hx
    rcases hx with rfl | rfl | rfl | rfl | rfl | rfl | rfl | rfl
    · exact h.a
    · exact h.b
    · exact h.c
    · exact h.d
    · exact h.e
    · exact h.f
    · exact h.g
    · exact h.h
  exact this _ (List.getElem_mem hk)
theorem add_get {V U : Sha.V} {k : Nat} (hk : k < V.list.length) {h} : ((V.add U).list.take k ++ V.list.drop k)[k]'h = V.list[k] := by
  have hl : ((V.add U).list.take k).length = k := by rw [List.length_take]; have : (V.add U).list.length = V.list.length := rfl; omega
  rw [List.getElem_append_right (by omega)]
  simp only [hl, Nat.sub_self, List.getElem_drop, Nat.add_zero]
theorem add_next {V U : Sha.V} {k : Nat} (hk : k < 8) (h1 : k < V.list.length) (h2 : k < U.list.length) : ((V.add U).list.take k ++ V.list.drop k).set k (Sha.wadd (V.list[k]'h1) (U.list[k]'h2)) = (V.add U).list.take (k + 1) ++ V.list.drop (k + 1) := by
  match k, hk with
  | 0, _ | 1, _ | 2, _ | 3, _ | 4, _ | 5, _ | 6, _ | 7, _ => rfl
theorem keepW {W : World} {g i a b m : Nat} {v p q : Value} (ha : a ≠ i) (hb : b ≠ i) (h0 : W.cell? ⟨g, a, none⟩ = some p) (h1 : W.cell? ⟨g, b, none⟩ = some q) :
    ((W.drewN m).setCell ⟨g, i, none⟩ v).cell? ⟨g, a, none⟩ = some p ∧ ((W.drewN m).setCell ⟨g, i, none⟩ v).cell? ⟨g, b, none⟩ = some q :=
  ⟨(World.cell?_setCell_other (W.drewN m) ⟨g, i, none⟩ ⟨g, a, none⟩ v (by intro e; injection e with _ e; omega)).trans h0, (World.cell?_setCell_other (W.drewN m) ⟨g, i, none⟩ ⟨g, b, none⟩ v (by intro e; injection e with _ e; omega)).trans h1⟩
theorem keep4 {W : World} {g gb a b c d k : Nat} {v p q r s : Value} (hne : gb ≠ g) (h0 : W.drew.cell? ⟨gb, a, none⟩ = some p) (h1 : W.drew.cell? ⟨gb, b, none⟩ = some q) (h2 : W.drew.cell? ⟨gb, c, none⟩ = some r) (h3 : W.drew.cell? ⟨gb, d, none⟩ = some s) :
    (W.setCell ⟨g, k, none⟩ v).drew.cell? ⟨gb, a, none⟩ = some p ∧ (W.setCell ⟨g, k, none⟩ v).drew.cell? ⟨gb, b, none⟩ = some q ∧ (W.setCell ⟨g, k, none⟩ v).drew.cell? ⟨gb, c, none⟩ = some r ∧ (W.setCell ⟨g, k, none⟩ v).drew.cell? ⟨gb, d, none⟩ = some s := by
  have e : ∀ x, (W.setCell ⟨g, k, none⟩ v).drew.cell? ⟨gb, x, none⟩ = W.drew.cell? ⟨gb, x, none⟩ := fun x => World.cell?_setCell_other W ⟨g, k, none⟩ ⟨gb, x, none⟩ v (by intro e; injection e with e; exact hne e.symm)
  exact ⟨(e a).trans h0, (e b).trans h1, (e c).trans h2, (e d).trans h3⟩
theorem info8 : (Tryz.prog.info? 64).map (·.size) = some 8 := by kernel_rfl
end Go.Proofs.YteodhonipbdplaaGreatDoor
