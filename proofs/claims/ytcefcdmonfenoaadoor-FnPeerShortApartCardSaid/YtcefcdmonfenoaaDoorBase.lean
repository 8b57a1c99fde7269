/- Slices of bytes as lists of bytes in a world; rows of the call's own; the words that all contracts use. -/
import Derived.Test.YtcefcdmonfenoaaDoorChecked
import Derived.Test.YtcefcdmonfenoaaDoorWire
import Derived.WalkKit
import Derived.Lib.Hide
import Derived.BigQuiet
import Derived.Deep.QuietTactic
import Derived.Deep.AppendLies
import Derived.Deep.Draws
import Derived.Maps.AppendAt
import Derived.KernelRfl
namespace Go.Proofs.YtcefcdmonfenoaaDoor
open Go.RowKit

/-- A byte as a value; bytes as values. -/
abbrev bv (u : UInt8) : Value := .int .u8 (u.toNat : Int)
def bvs (l : List UInt8) : List Value := l.map bv
theorem bvs_length (l : List UInt8) : (bvs l).length = l.length := by simp [bvs]
theorem bvs_append (l m : List UInt8) : bvs (l ++ m) = bvs l ++ bvs m := by simp [bvs]
theorem bvs_get (l : List UInt8) (k : Nat) (h : k < l.length) : (bvs l)[k]? = some (bv l[k]) := by simp [bvs, h]
theorem bvs_one (l : List UInt8) : ∀ u ∈ bvs l, u.oneCell' = true := by
  intro u hu
  obtain ⟨x, _, rfl⟩ := List.mem_map.1 hu
  rfl
theorem bvs_inj {l m : List UInt8} (h : bvs l = bvs m) : l = m := by
  refine List.map_inj_right (f := bv) ?_ |>.1 h
  intro x y hxy
  have : (x.toNat : Int) = y.toNat := by injection hxy
  exact UInt8.toNat_inj.1 (by omega)

/-- The slice value v reads as the bytes l, below block B. -/
def Bs (w : World) (B : Nat) (v : Value) (l : List UInt8) : Prop :=
  ∃ A c, v = .slice A l.length c ∧ l.length ≤ c ∧ c ≤ 9223372036854775807 ∧ (0 < l.length → ∃ g o, A = some ⟨g, o, none⟩ ∧ g < B ∧ ∀ k, (h : k < l.length) → w.cell? ⟨g, o + k, none⟩ = some (bv l[k]))

/-- The slice value v is nil, or a row of the call's own from block 'base' on, and holds the bytes l. -/
def Own (w : World) (base : Nat) (v : Value) (l : List UInt8) : Prop := w.ownsRow base 5 1 v l.length (bvs l)

/-- v is not the nil slice. -/
def NN (v : Value) : Prop := ∃ a n c, v = .slice (some a) n c

/-- where the slice's block is, behind what may have moved it -/
def Moved (w : World) (v v' : Value) : Prop := v'.ownBlock = v.ownBlock ∨ ∃ g, v'.ownBlock = some g ∧ w.heap.size ≤ g

section
variable {w w' : World} {B B' : Nat} {v : Value} {l : List UInt8}

theorem Bs.keep (h : Bs w B v l) (hk : ∀ p : Addr, p.block < B → w'.cell? p = w.cell? p) : Bs w' B v l := by
  obtain ⟨A, c, rfl, h1, h2, h3⟩ := h
  refine ⟨A, c, rfl, h1, h2, fun hl => ?_⟩
  obtain ⟨g, o, rfl, hg, hc⟩ := h3 hl
  exact ⟨g, o, rfl, hg, fun k hk' => (hk _ hg).trans (hc k hk')⟩
theorem Bs.more (h : Bs w B v l) (hB : B ≤ B') : Bs w B' v l := by
  obtain ⟨A, c, rfl, h1, h2, h3⟩ := h
  refine ⟨A, c, rfl, h1, h2, fun hl => ?_⟩
  obtain ⟨g, o, rfl, hg, hc⟩ := h3 hl
  exact ⟨g, o, rfl, by omega, hc⟩
theorem Bs.below (h : Bs w B v l) (hb : Below B w w') : Bs w' B v l := h.keep fun _ hp => hb.cell hp
/-- below the heap's size, behind a step that leaves what was there -/
theorem Bs.step (h : Bs w w.heap.size v l) (hb : Below w.heap.size w w') : Bs w' w'.heap.size v l := (h.below hb).more hb.size
theorem Bs.drew (h : Bs w B v l) : Bs w.drew B v l := h
theorem Bs.drewN (h : Bs w B v l) (n : Nat) : Bs (w.drewN n) B v l := h
theorem Bs.alloc (h : Bs w B v l) (hB : B ≤ w.heap.size) (o : Obj) : Bs (w.alloc o) B v l := h.keep fun p hp => World.cell?_alloc_lt w o p (by omega)
theorem Bs.setCell (h : Bs w B v l) {p : Addr} (hB : B ≤ p.block) (u : Value) : Bs (w.setCell p u) B v l :=
  h.keep fun q hq => World.cell?_setCell_other w p q u (fun e => by subst e; omega)
theorem Bs.grown (h : Bs w B v l) {row : Option Nat} (hg : w.grownBy w' row) (hB : B ≤ w.heap.size) (hr : ∀ g, row = some g → B ≤ g) : Bs w' B v l :=
  h.keep fun p hp => World.cell?_of_block (hg.block p.block (by omega) (fun e => by have := hr _ e.symm; omega))
theorem Bs.nil (w : World) (B : Nat) (A : Option Addr) (c : Nat) (hc : c ≤ 9223372036854775807) : Bs w B (.slice A 0 c) [] := ⟨A, c, rfl, Nat.zero_le _, hc, fun h => absurd h (by simp)⟩
theorem Bs.nil0 (w : World) (B : Nat) : Bs w B (.slice none 0 0) [] := Bs.nil w B none 0 (by omega)
theorem Bs.len_le (h : Bs w B v l) : l.length ≤ 9223372036854775807 := by
  obtain ⟨A, c, rfl, h1, h2, h3⟩ := h; omega
theorem Bs.form (h : Bs w B v l) : ∃ A c, v = .slice A l.length c ∧ l.length ≤ c ∧ c ≤ 9223372036854775807 := by
  obtain ⟨A, c, rfl, h1, h2, h3⟩ := h; exact ⟨A, c, rfl, h1, h2⟩

/-- 'b[n:]', as the walk spells it -/
theorem Bs.cut {A : Option Addr} {n c k : Nat} (h : Bs w B (.slice A n c) l) (hk : k ≤ l.length) :
    Bs w B (.slice (if c = k then A else A.map (·.add k)) (n - k) (c - k)) (l.drop k) := by
  obtain ⟨A', c', he, h1, h2, h3⟩ := h
  injection he with e1 e2 e3
  subst e1 e2 e3
  refine ⟨_, _, by rw [List.length_drop], by simp; omega, by omega, fun hl => ?_⟩
  rw [List.length_drop] at hl
  obtain ⟨g, o, rfl, hg, hc⟩ := h3 (by omega)
  rw [if_neg (by omega)]
  by_cases h0 : k = 0
  · subst h0
    refine ⟨g, o, by simp [Addr.add], hg, fun j hj => ?_⟩
    have := hc j (by simpa using hj)
    simpa using this
  · refine ⟨g, o + k, by simp [Addr.add, h0], hg, fun j hj => ?_⟩
    rw [List.length_drop] at hj
    have := hc (k + j) (by omega)
    rw [Nat.add_assoc, this]
    simp
/-- 'b[:n]' -/
theorem Bs.front {A : Option Addr} {n c k : Nat} (h : Bs w B (.slice A n c) l) (hk : k ≤ l.length) : Bs w B (.slice A k c) (l.take k) := by
  obtain ⟨A', c', he, h1, h2, h3⟩ := h
  injection he with e1 e2 e3
  subst e1 e2 e3
  refine ⟨_, _, by rw [List.length_take, Nat.min_eq_left hk], by simp; omega, by omega, fun hl => ?_⟩
  rw [List.length_take] at hl
  obtain ⟨g, o, rfl, hg, hc⟩ := h3 (by omega)
  refine ⟨g, o, rfl, hg, fun j hj => ?_⟩
  rw [List.length_take] at hj
  rw [hc j (by omega)]
  simp

/-- a list of cells that was just laid in a block of its own -/
theorem Bs.new (w : World) (cs : Array Value) (m : List UInt8) (h : cs.toList = bvs m) (hm : m.length ≤ 9223372036854775807) (n c : Nat) (hn : n = m.length) (hc : c = m.length) :
    Bs (w.alloc (.cells cs 5)) (w.heap.size + 1) (.slice (some ⟨w.heap.size, 0, none⟩) n c) m := by
  subst hn hc
  refine ⟨_, _, rfl, Nat.le_refl _, hm, fun hl => ⟨w.heap.size, 0, rfl, by omega, fun k hk => ?_⟩⟩
  rw [Nat.zero_add, cell_of_row (w.alloc (.cells cs 5)) w.heap.size k cs 5 (0, 0) (heap_alloc_new w _)]
  have := bvs_get m k hk
  rw [← h] at this
  simpa using this
/-- the same, the block's number spelled as it comes -/
theorem Bs.newAt (w : World) (cs : Array Value) (m : List UInt8) (h : cs.toList = bvs m) (hm : m.length ≤ 9223372036854775807) (g n c : Nat) (hg : w.heap.size = g) (hn : n = m.length) (hc : c = m.length) :
    Bs (w.alloc (.cells cs 5)) (w.alloc (.cells cs 5)).heap.size (.slice (some ⟨g, 0, none⟩) n c) m := by
  subst hg
  exact (Bs.new w cs m h hm n c hn hc).more (by simp)
end

section
variable {w w' : World} {base : Nat} {v : Value} {l : List UInt8}
theorem Own.nil (w : World) (base : Nat) : Own w base (.slice none 0 0) [] := World.ownsRow_nil w base _ 1
theorem Own.made (w : World) (hb : base ≤ w.heap.size) : Own (w.alloc (.cells #[] 5)) base (.slice (some ⟨w.heap.size, 0, none⟩) 0 0) [] :=
  World.ownsRow_made w #[] 0 hb (by unfold maxLen; omega) rfl
theorem Own.bs (h : Own w base v l) : Bs w w.heap.size v l := by
  unfold Own at h
  rcases h.2 with ⟨rfl, h0⟩ | ⟨g, cap, cur, rfl, hbg, hg, hnc, hcm, hcs, ht⟩
  · rw [List.length_eq_zero_iff] at h0; subst h0; exact Bs.nil0 _ _
  · refine ⟨_, _, rfl, hnc, hcm, fun _ => ⟨g, 0, rfl, (Array.getElem?_eq_some_iff.1 hg).1, fun k hk => ?_⟩⟩
    have := h.cells (g := g) rfl k _ (bvs_get l k hk)
    rw [Addr.add] at this
    split at this
    · next h0 => subst h0; simpa using this
    · simpa using this
theorem Own.lt (h : Own w base v l) : ∀ k, v.ownBlock = some k → base ≤ k ∧ k < w.heap.size := World.ownsRow.lt h
theorem Own.kept {row : Option Nat} (h : Own w base v l) (hg : w.grownBy w' row) (hne : v.ownBlock = none ∨ v.ownBlock ≠ row) : Own w' base v l := World.ownsRow.kept h hg hne
theorem Own.alloc (h : Own w base v l) (o : Obj) : Own (w.alloc o) base v l := World.ownsRow.alloc h o
theorem Own.drew (h : Own w base v l) : Own w.drew base v l := h
theorem Own.drewN (h : Own w base v l) (n : Nat) : Own (w.drewN n) base v l := h
theorem Own.more {base' : Nat} (h : Own w base v l) (hb : base' ≤ base) : Own w base' v l := by
  unfold Own at h ⊢
  refine ⟨h.1, ?_⟩
  rcases h.2 with h2 | ⟨g, cap, cur, rfl, hbg, r⟩
  · exact .inl h2
  · exact .inr ⟨g, cap, cur, rfl, by omega, r⟩
/-- what lies below B, and was made below B, stays the call's own behind a step that turns nothing below B -/
theorem Own.below {B : Nat} (h : Own w base v l) (hv : ∀ k, v.ownBlock = some k → k < B) (hb : Below B w w') : Own w' base v l := by
  unfold Own at h ⊢
  refine ⟨h.1, ?_⟩
  rcases h.2 with h2 | ⟨g, cap, cur, rfl, hbg, hg, r⟩
  · exact .inl h2
  · exact .inr ⟨g, cap, cur, rfl, hbg, by rw [hb.block g (hv g rfl)]; exact hg, r⟩
/-- behind a step that turns nothing that was there -/
theorem Own.step (h : Own w base v l) (hb : Below w.heap.size w w') : Own w' base v l := h.below (fun k hk => (h.lt k hk).2) hb
theorem Own.form (h : Own w base v l) : (v = .slice none 0 0 ∧ l = []) ∨ ∃ g c, v = .slice (some ⟨g, 0, none⟩) l.length c ∧ base ≤ g ∧ g < w.heap.size ∧ l.length ≤ c ∧ c ≤ 9223372036854775807 := by
  unfold Own at h
  rcases h.2 with ⟨rfl, h0⟩ | ⟨g, cap, cur, rfl, hbg, hg, hnc, hcm, hcs, ht⟩
  · exact .inl ⟨rfl, List.length_eq_zero_iff.1 h0⟩
  · exact .inr ⟨g, cap, rfl, hbg, (Array.getElem?_eq_some_iff.1 hg).1, hnc, hcm⟩
/-- the blocks below 'base' stand behind an append onto a row of the call's own -/
theorem below_of_own (h : Own w base v l) (hg : w.grownBy w' v.ownBlock) (hb : base ≤ w.heap.size) : Below base w w' :=
  ⟨hg.os, hg.tape, hg.output, hg.size, fun k hk => hg.block k (by omega) (fun e => by have := (h.lt k e.symm).1; omega)⟩
theorem grown_alloc {row : Option Nat} {a w : World} (h : a.grownBy w row) (o : Obj) : a.grownBy (w.alloc o) row := h.trans (World.grownBy_alloc w o row)
theorem grown_refl (w : World) (row : Option Nat) : w.grownBy w row := ⟨rfl, rfl, rfl, Nat.le_refl _, fun _ _ _ => rfl⟩
theorem grown_of_below {w w' : World} (h : Below w.heap.size w w') (row : Option Nat) : w.grownBy w' row := ⟨h.os, h.tape, h.output, h.size, fun k hk _ => h.block k hk⟩
theorem Moved.refl (w : World) (v : Value) : Moved w v v := .inl rfl
theorem Moved.trans {w w' : World} {a b c : Value} (h : Moved w a b) (k : Moved w' b c) (hs : w.heap.size ≤ w'.heap.size) : Moved w a c := by
  rcases k with k | ⟨g, k, hg⟩
  · rcases h with h | ⟨g, h, hg⟩
    · exact .inl (k.trans h)
    · exact .inr ⟨g, k.trans h, hg⟩
  · exact .inr ⟨g, k, by omega⟩
/-- two steps on a row that moves -/
theorem grown_trans {a b c : World} {v v' : Value} (h : a.grownBy b v.ownBlock) (hm : Moved a v v') (k : b.grownBy c v'.ownBlock) : a.grownBy c v.ownBlock := by
  refine ⟨k.os.trans h.os, k.tape.trans h.tape, k.output.trans h.output, Nat.le_trans h.size k.size, fun i hi hne => ?_⟩
  refine (k.block i (Nat.lt_of_lt_of_le hi h.size) ?_).trans (h.block i hi hne)
  rcases hm with hm | ⟨g, hm, hg⟩
  · rw [hm]; exact hne
  · rw [hm]; intro e; injection e with e; omega
theorem NN.own (h : NN v) : v ≠ .slice none 0 0 := by rintro rfl; obtain ⟨a, n, c, h⟩ := h; cases h
theorem Own.nn (h : Own w base v l) (hv : v ≠ .slice none 0 0) : NN v := by
  rcases h.form with ⟨h, _⟩ | ⟨g, c, rfl, _⟩
  · exact absurd h hv
  · exact ⟨_, _, _, rfl⟩
theorem NN.of_len {w : World} {B : Nat} (h : Bs w B v l) (hl : 0 < l.length) : NN v := by
  obtain ⟨A, c, rfl, h1, h2, h3⟩ := h
  obtain ⟨g, o, rfl, _⟩ := h3 hl
  exact ⟨_, _, _, rfl⟩
end

theorem Tryd.info5 : (Tryd.prog.info? 5).map (fun i => (i.zero, i.size, i.bytes)) = some (some (.int .u8 0), 1, 1) := by kernel_rfl

/-- append of bytes onto a row of the call's own, whatever the source -/
theorem run_app {w : World} {base : Nat} {v x : Value} {l m : List UInt8} {B : Nat} (ty : TypeId) (hown : Own w base v l) (hx : Bs w B x m) (hlen : l.length + m.length ≤ 140737488355328) (hb : base ≤ w.heap.size) :
    ∃ v' w', (Builtin.append_ #[23, 23] ty #[v, x]).run Tryd.prog w = .ok v' w' ∧ Own w' base v' (l ++ m) ∧ w.grownBy w' v.ownBlock ∧ (NN v → NN v') ∧ Moved w v v' := by
  obtain ⟨i0, hi, hz0, hz1, hz2⟩ := info_parts Tryd.info5
  have hown' : w.ownsRow base 5 1 v l.length (bvs l) := hown
  obtain ⟨A, c, rfl, h1, h2, h3⟩ := hx
  by_cases hm : 0 < m.length
  · obtain ⟨g, o, rfl, hg, hc⟩ := h3 hm
    obtain ⟨v', w', hr, r1, r2, r3, r4⟩ := run_append_own_at (P := Tryd.prog) w base 23 ty 5 i0 (.int .u8 0) 1 1 Tryd.underlying23 hi hz0 hz1 hz2 rfl (by decide) v l.length (bvs l) hown'
      ⟨g, o, none⟩ m.length c (bvs m) (by rw [bvs_length, Nat.mul_one]) (fun j u hj => by
        have hjm : j < m.length := by
          have := (List.getElem?_eq_some_iff.1 hj).1
          rwa [bvs_length] at this
        rw [bvs_get m j hjm] at hj
        obtain rfl := Option.some.inj hj
        rw [Addr.add]
        split
        · next h0 => subst h0; exact hc 0 hjm
        · exact hc j hjm) (bvs_one m) (by unfold maxLen; omega) (by omega) hb
    refine ⟨v', w', hr, ?_, r2, fun hn => ?_, ?_⟩
    · unfold Own; rw [List.length_append, bvs_append]; exact r1
    · have hne : v' ≠ .slice none 0 0 := fun e => hn.own (r3.1 e).1
      have ho : Own w' base v' (l ++ m) := by unfold Own; rw [List.length_append, bvs_append]; exact r1
      exact ho.nn hne
    · rcases r4 with r4 | r4
      · exact .inl r4
      · exact .inr ⟨_, r4, Nat.le_refl _⟩
  · have h0 : m = [] := List.length_eq_zero_iff.1 (by omega)
    subst h0
    refine ⟨v, w, ?_, by simpa using hown, grown_refl w _, id, Moved.refl w v⟩
    rcases hown.form with ⟨rfl, rfl⟩ | ⟨g, c', rfl, _, _, hnc, _⟩
    · cases A <;> simp [Builtin.append_, run_underlying Tryd.underlying23, sizeOf, typeInfo, hi, Builtin.lenOf, Builtin.firstCells, loadCells, loadCellsFrom]
    · cases A <;> simp [Builtin.append_, run_underlying Tryd.underlying23, sizeOf, typeInfo, hi, Builtin.lenOf, Builtin.firstCells, loadCells, loadCellsFrom, hnc, storeCells]

/-- the same at the operation, for the walk: behind it 'intro v' w1 hown1 hg1 hnn1 hmv1' -/
theorem wpList_app {ops : Array Oper} {rest : List Oper} {o : Oper} {a : Act} {Q : Exit → Act → World → Prop} {w : World} (hgd : o.guard = none) (s x : Operand)
    (ho : o.op = .call { callee := .builtin .append, args := #[s, x], argTypes := #[23, 23] })
    {base : Nat} {v y : Value} {l m : List UInt8} {B : Nat} (hs : a.eval s = v) (hx : a.eval x = y) (hown : Own w base v l) (hy : Bs w B y m) (hlen : l.length + m.length ≤ 140737488355328) (hb : base ≤ w.heap.size)
    (h : ∀ v' w', Own w' base v' (l ++ m) → w.grownBy w' v.ownBlock → (NN v → NN v') → Moved w v v' → wpList Tryd.prog ops Q rest (a.put o.dst v') w') :
    wpList Tryd.prog ops Q (o :: rest) a w := by
  refine wpList_plain hgd fun K hK => ?_
  obtain ⟨v', w', hr, h2, h3, h4, h5⟩ := run_app o.type hown hy hlen hb
  unfold Oper.wp execOp
  simp only [ho, resolve, invoke, builtin, Sem.run_bind, Sem.run_pure, Result.andThen_ok, List.map_toArray, List.map_cons, List.map_nil, hs, hx, hr]
  exact hK _ _ (h v' w' h2 h3 h4 h5)

/-- 's[n:]' as one step: where it begins under one name -/
theorem slice_from {w : World} {B N c n : Nat} {A : Option Addr} {l : List UInt8} (h : Bs w B (.slice A N c) l) (hn : n ≤ N) :
    ∃ A', (∀ (W : World) (k : IntKind), (Instr.slice 23 (.slice A N c) (some (.int k (n : Int))) none none).run Tryd.prog W = .ok (.slice A' (N - n) (c - n)) W) ∧ Bs w B (.slice A' (N - n) (c - n)) (l.drop n) := by
  obtain ⟨A', c', he, h1, h2, h3⟩ := h
  injection he with e1 e2 e3
  subst e1 e2 e3
  refine ⟨_, fun W k => ?_, Bs.cut ⟨A, c, rfl, h1, h2, h3⟩ hn⟩
  obtain ⟨i0, hi, hz0, hz1, hz2⟩ := info_parts Tryd.info5
  have hs : Tryd.prog.elem 23 = 5 := by kernel_rfl
  have hu : Tryd.prog.underlying 23 = some (.slice (Tryd.prog.elem 23)) := by rw [hs]; exact Tryd.underlying23
  rw [run_slice_l W 23 A l.length c hu k n (by omega) (by omega)]
  simp [hs, sizeOf, typeInfo, sliced, hi, hz1]

end Go.Proofs.YtcefcdmonfenoaaDoor
