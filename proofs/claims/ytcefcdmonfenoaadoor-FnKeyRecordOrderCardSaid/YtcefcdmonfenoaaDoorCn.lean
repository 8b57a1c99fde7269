/- slices.Grow of nil and slices.Concat, of slices of slices of bytes. -/
import Derived.Test.YtcefcdmonfenoaaDoorRx
import Derived.Test.YtcefcdmonfenoaaDoorRo
import Derived.Test.YtcefcdmonfenoaaDoorRl
namespace Go.Proofs.YtcefcdmonfenoaaDoor
open Go.RowKit
set_option maxRecDepth 100000

/-- a list of lists, below block B -/
def Bsss (w : World) (B : Nat) (v : Value) (M : List (List (List UInt8))) : Prop :=
  ∃ A c, v = .slice A M.length c ∧ M.length ≤ c ∧ c ≤ 9223372036854775807 ∧ (0 < M.length → ∃ g o, A = some ⟨g, o, none⟩ ∧ g < B ∧ ∀ k, (h : k < M.length) → ∃ u, w.cell? ⟨g, o + k, none⟩ = some u ∧ Bss w B u M[k])
section
variable {w w' : World} {B B' : Nat} {v : Value} {M : List (List (List UInt8))}
theorem Bsss.keep (h : Bsss w B v M) (hk : ∀ p : Addr, p.block < B → w'.cell? p = w.cell? p) : Bsss w' B v M := by
  obtain ⟨A, c, rfl, h1, h2, h3⟩ := h
  refine ⟨A, c, rfl, h1, h2, fun hl => ?_⟩
  obtain ⟨g, o, rfl, hg, hc⟩ := h3 hl
  refine ⟨g, o, rfl, hg, fun k hk' => ?_⟩
  obtain ⟨u, hu, hb⟩ := hc k hk'
  exact ⟨u, (hk _ hg).trans hu, hb.keep hk⟩
theorem Bsss.more (h : Bsss w B v M) (hB : B ≤ B') : Bsss w B' v M := by
  obtain ⟨A, c, rfl, h1, h2, h3⟩ := h
  refine ⟨A, c, rfl, h1, h2, fun hl => ?_⟩
  obtain ⟨g, o, rfl, hg, hc⟩ := h3 hl
  refine ⟨g, o, rfl, by omega, fun k hk' => ?_⟩
  obtain ⟨u, hu, hb⟩ := hc k hk'
  exact ⟨u, hu, hb.more hB⟩
theorem Bsss.below (h : Bsss w B v M) (hb : Below B w w') : Bsss w' B v M := h.keep fun _ hp => hb.cell hp
theorem Bsss.step (h : Bsss w w.heap.size v M) (hb : Below w.heap.size w w') : Bsss w' w'.heap.size v M := (h.below hb).more hb.size
theorem Bsss.form (h : Bsss w B v M) : ∃ A c, v = .slice A M.length c ∧ M.length ≤ c ∧ c ≤ 9223372036854775807 := by
  obtain ⟨A, c, rfl, h1, h2, h3⟩ := h; exact ⟨A, c, rfl, h1, h2⟩
theorem Bsss.at_ {A : Option Addr} {n c k : Nat} (h : Bsss w B (.slice A n c) M) (hk : k < M.length) : ∃ g o u, A = some ⟨g, o, none⟩ ∧ g < B ∧ w.cell? ⟨g, o + k, none⟩ = some u ∧ Bss w B u M[k] := by
  obtain ⟨A', c', he, h1, h2, h3⟩ := h
  injection he with e1 e2 e3
  subst e1
  obtain ⟨g, o, rfl, hg, hc⟩ := h3 (by omega)
  obtain ⟨u, hu, hb⟩ := hc k hk
  exact ⟨g, o, u, rfl, hg, hu, hb⟩
theorem Bss.alloc {L : List (List UInt8)} (h : Bss w B v L) (hB : B ≤ w.heap.size) (o : Obj) : Bss (w.alloc o) B v L := h.keep fun p hp => World.cell?_alloc_lt w o p (by omega)
/-- values that read as lists, one by one -/
def AllBss (w : World) (B : Nat) : List Value → List (List (List UInt8)) → Prop
  | [], [] => True
  | u :: us, a :: ls => Bss w B u a ∧ AllBss w B us ls
  | _, _ => False
theorem AllBss.at_ {w : World} {B : Nat} : ∀ {us : List Value} {M : List (List (List UInt8))}, AllBss w B us M → ∀ k, (hk : k < M.length) → ∃ u, us[k]? = some u ∧ Bss w B u M[k]
  | [], [], _, k, hk => by simp at hk
  | u :: us, a :: ls, h, 0, _ => ⟨u, rfl, h.1⟩
  | u :: us, a :: ls, h, k + 1, hk => by
    obtain ⟨x, hx, hb⟩ := AllBss.at_ h.2 k (by simpa using hk)
    exact ⟨x, by simpa using hx, by simpa using hb⟩
theorem Bsss.lit (w : World) (t : TypeId) (us : List Value) (M : List (List (List UInt8))) (h : AllBss w w.heap.size us M) (hm : M.length ≤ 9223372036854775807) (g n c : Nat) (hg : w.heap.size = g) (hn : n = M.length) (hc : c = M.length) :
    Bsss (w.alloc (.cells us.toArray t)) (w.alloc (.cells us.toArray t)).heap.size (.slice (some ⟨g, 0, none⟩) n c) M := by
  subst hg hn hc
  refine ⟨_, _, rfl, Nat.le_refl _, hm, fun hl => ⟨w.heap.size, 0, rfl, by simp, fun k hk => ?_⟩⟩
  obtain ⟨u, hu, hb⟩ := h.at_ k hk
  refine ⟨u, ?_, (hb.alloc (Nat.le_refl _) _).more (by simp)⟩
  rw [Nat.zero_add, cell_of_row (w.alloc (.cells us.toArray t)) w.heap.size k us.toArray t (0, 0) (heap_alloc_new w _)]
  simpa using hu
end

section
variable {w w' : World} {B base : Nat} {v : Value} {L : List (List UInt8)} {us : List Value}
theorem AllBs.below : ∀ {us : List Value} {L : List (List UInt8)}, AllBs w B us L → Below B w w' → AllBs w' B us L
  | [], [], _, _ => trivial
  | _ :: _, _ :: _, h, hb => ⟨h.1.below hb, AllBs.below h.2 hb⟩
theorem AllBs.more {B' : Nat} (hB : B ≤ B') : ∀ {us : List Value} {L : List (List UInt8)}, AllBs w B us L → AllBs w B' us L
  | [], [], _ => trivial
  | _ :: _, _ :: _, h => ⟨h.1.more hB, AllBs.more hB h.2⟩
theorem AllBs.append : ∀ {us vs : List Value} {L M : List (List UInt8)}, AllBs w B us L → AllBs w B vs M → AllBs w B (us ++ vs) (L ++ M)
  | [], _, [], _, _, k => k
  | _ :: _, _, _ :: _, _, h, k => ⟨h.1, AllBs.append h.2 k⟩
theorem AllBs.one : ∀ {us : List Value} {L : List (List UInt8)}, AllBs w B us L → ∀ u ∈ us, u.oneCell' = true
  | [], [], _, u, hu => by simp at hu
  | x :: us, _ :: ls, h, u, hu => by
    rcases List.mem_cons.1 hu with rfl | hu
    · obtain ⟨A, c, rfl, _⟩ := h.1.form
      rfl
    · exact AllBs.one h.2 u hu
/-- a row of the call's own, its elements older -/
def RowBs (w : World) (base : Nat) (v : Value) (L : List (List UInt8)) : Prop := ∃ xs, RowX w base 23 v xs ∧ AllBs w base xs L
theorem RowBs.nil (w : World) (base : Nat) : RowBs w base (.slice none 0 0) [] := ⟨[], RowX.nil w base _, trivial⟩
theorem RowBs.step (h : RowBs w base v L) (hb : Below w.heap.size w w') (hB : base ≤ w.heap.size) : RowBs w' base v L := by
  obtain ⟨xs, h1, h2⟩ := h
  exact ⟨xs, h1.step hb, h2.below (hb.mono hB)⟩
theorem RowBs.bss (h : RowBs w base v L) (hB : base ≤ w.heap.size) : Bss w w.heap.size v L := by
  obtain ⟨xs, h1, h2⟩ := h
  have hl := h2.length
  obtain ⟨A, c, rfl, h3, h4, h5⟩ := h1.form
  refine ⟨A, c, by rw [hl], by omega, h4, fun hp => ?_⟩
  obtain ⟨g, rfl, hg, hgs, hc⟩ := h5 (by omega)
  refine ⟨g, 0, rfl, hgs, fun k hk => ?_⟩
  obtain ⟨u, hu, hb⟩ := h2.at_ k hk
  refine ⟨u, ?_, hb.more hB⟩
  rw [Nat.zero_add, hc k (by omega)]
  have := (List.getElem?_eq_some_iff.1 hu).2
  rw [this]
/-- the elements of a list, as values -/
theorem Bss.vals {g o n c : Nat} (h : Bss w B (.slice (some ⟨g, o, none⟩) n c) L) : ∃ us, AllBs w B us L ∧ ∀ j u, us[j]? = some u → w.cell? ⟨g, o + j, none⟩ = some u := by
  obtain ⟨A, c', he, h1, h2, h3⟩ := h
  injection he with e1 e2 e3
  subst e1
  clear h1 h2 e2 e3
  have hc : ∀ k, (h : k < L.length) → ∃ u, w.cell? ⟨g, o + k, none⟩ = some u ∧ Bs w B u L[k] := by
    intro k hk
    obtain ⟨g', o', he, _, hc⟩ := h3 (by omega)
    injection he with he
    injection he with e1 e2 e3
    subst e1 e2
    exact hc k hk
  clear h3
  induction L generalizing o with
  | nil => exact ⟨[], trivial, fun j u hj => by simp at hj⟩
  | cons a L ih =>
    obtain ⟨us, h1, h2⟩ := ih (o := o + 1) (fun k hk => by
      obtain ⟨u, hu, hb⟩ := hc (k + 1) (by simpa using hk)
      exact ⟨u, by rw [← hu]; congr 2; omega, by simpa using hb⟩)
    obtain ⟨u, hu, hb⟩ := hc 0 (by simp)
    refine ⟨u :: us, ⟨by simpa using hb, h1⟩, fun j x hj => ?_⟩
    cases j with
    | zero =>
      obtain rfl : u = x := by simpa using hj
      simpa using hu
    | succ j =>
      have := h2 j x (by simpa using hj)
      rw [← this]; congr 2; omega
end

theorem run_zerosL (w : World) (ty : TypeId) (m : Nat) (hm : 0 < m) (hb : m ≤ 1000000) :
    ∃ cap w', (Builtin.append_ #[47, 3] ty #[.slice none 0 0, .int .i64 (m : Int)]).run Tryd.prog w = .ok (.slice (some ⟨w.heap.size, 0, none⟩) m cap) w' ∧
      m ≤ cap ∧ cap ≤ 9223372036854775807 ∧ RowX w' w.heap.size 23 (.slice (some ⟨w.heap.size, 0, none⟩) 0 cap) [] ∧ Below w.heap.size w w' := by
  obtain ⟨i0, hi, hz0, hz1, hz2⟩ := info_parts Tryd.infoBs
  have hw : IntKind.i64.wrap (m : Int) = m := by rw [IntKind.wrap_i64]; omega
  have hw0 : IntKind.i64.wrap 0 = 0 := by rw [IntKind.wrap_i64]; rfl
  have hneg : ¬ ((m : Int) < 0) := by omega
  have hm0 : ¬ m = 0 := by omega
  have hbig : ¬ (281474976710656 < (m : Int) * 24) := by omega
  have h63 : ¬ (9223372036854775807 < (m : Int)) := by omega
  have hge := grownCap_ge w m 0 23
  have hcm : grownCap w m 0 23 ≤ maxLen := grownCap_le_maxLen w m 0 23 (by unfold maxLen; omega)
  have hfit : Builtin.nextslicecap m 0 * i0.bytes ≤ 281474976710656 := by
    have := growslice_fits (old := 0) (need := m) (bytes := i0.bytes) (by omega) (by rw [hz2]; omega)
    omega
  have h48 : ¬ (281474976710656 < Builtin.nextslicecap m 0 * i0.bytes) := by omega
  have hrun : (Builtin.append_ #[47, 3] ty #[.slice none 0 0, .int .i64 (m : Int)]).run Tryd.prog w =
      .ok (.slice (some ⟨w.heap.size, 0, none⟩) m (grownCap w m 0 23)) (w.drew.alloc (.cells (Builtin.zeroCells #[.slice none 0 0] m ++ Builtin.zeroCells #[.slice none 0 0] (grownCap w m 0 23 - m)) 23)) := by
    rw [hz2] at h48
    simp [Builtin.append_, run_underlying Tryd.underlying47, run_underlying Tryd.underlying3, sizeOf, typeInfo, zeroValue, hi, hz0, hz1, hz2, asInt, asIntOf, hw, hneg, hm0, hbig, h63, Question.forced, Builtin.firstCells, newRow, grownCap, Builtin.lenOf]
    rw [if_neg h48]
    rfl
  refine ⟨grownCap w m 0 23, _, hrun, hge, by unfold maxLen at hcm; exact hcm, ?_, ?_⟩
  · refine ⟨by simp, .inr ⟨w.heap.size, _, _, rfl, Nat.le_refl _, heap_alloc_new w.drew _, Nat.zero_le _, hcm, ?_, by simp⟩⟩
    simp only [Array.size_append, size_zeroCells]
    simp
    omega
  · exact ((below_refl w).drew).alloc (Nat.le_refl _) _

theorem wpList_zerosL {ops : Array Oper} {rest : List Oper} {o : Oper} {a : Act} {Q : Exit → Act → World → Prop} {w : World} (hgd : o.guard = none) (s x : Operand)
    (ho : o.op = .call { callee := .builtin .append, args := #[s, x], argTypes := #[47, 3] }) {m : Nat} (hs : a.eval s = .slice none 0 0) (hx : a.eval x = .int .i64 (m : Int)) (hm : 0 < m) (hb : m ≤ 1000000)
    (h : ∀ cap w', m ≤ cap → cap ≤ 9223372036854775807 → RowX w' w.heap.size 23 (.slice (some ⟨w.heap.size, 0, none⟩) 0 cap) [] → Below w.heap.size w w' → wpList Tryd.prog ops Q rest (a.put o.dst (.slice (some ⟨w.heap.size, 0, none⟩) m cap)) w') :
    wpList Tryd.prog ops Q (o :: rest) a w := by
  refine wpList_plain hgd fun K hK => ?_
  obtain ⟨cap, w', hr, h1, h2, h3, h4⟩ := run_zerosL w o.type m hm hb
  unfold Oper.wp execOp
  simp only [ho, resolve, invoke, builtin, Sem.run_bind, Sem.run_pure, Result.andThen_ok, List.map_toArray, List.map_cons, List.map_nil, hs, hx, hr]
  exact hK _ _ (h cap w' h1 h2 h3 h4)

/-- Grow(nil, n): a row of the call's own without elements -/
theorem growL (w : World) (n : Nat) (hn : n ≤ 1000000) :
    Calls Tryd.prog 80 #[.slice none 0 0, .int .i64 (n : Int)] w fun e w' => ∃ v', e = .returned v' ∧ RowX w' w.heap.size 23 v' [] ∧ Below w.heap.size w w' := by
  by_cases h0 : n = 0
  · subst h0
    go_enter Tryd.func80, Tryd.ntmps80
    go_wp2
    go_ret
    exact ⟨_, rfl, RowX.nil _ _ _, below_refl w⟩
  · have hp : 0 < n := by omega
    clear h0
    go_enter Tryd.func80, Tryd.ntmps80
    go_wp2_with (at_builtin; refine wpList_zerosL rfl _ _ rfl (by rfl) (by rfl) hp hn ?_; intro cap w1 hc hc63 ho hb; have Ho := Lib.hid ho; clear ho)
    go_ret
    exact ⟨_, rfl, Ho.out, hb⟩

theorem flatL_succ {α : Type} (L : List (List α)) (k : Nat) (h : k < L.length) : (L.take (k + 1)).flatten = (L.take k).flatten ++ L[k] := by
  rw [List.take_succ_eq_append_getElem h, List.flatten_append]; simp
theorem flatL_le {α : Type} (L : List (List α)) (k : Nat) : (L.take k).flatten.length ≤ L.flatten.length := by
  conv => rhs; rw [← List.take_append_drop k L, List.flatten_append, List.length_append]
  omega

/-- append(row, list...) -/
theorem run_appL {w : World} {base : Nat} {v x : Value} {L M : List (List UInt8)} (ty : TypeId) (hown : RowBs w base v L) (hx : Bss w base x M) (hlen : L.length + M.length ≤ 1000000) (hb : base ≤ w.heap.size) :
    ∃ v' w', (Builtin.append_ #[47, 47] ty #[v, x]).run Tryd.prog w = .ok v' w' ∧ RowBs w' base v' (L ++ M) ∧ Below base w w' := by
  obtain ⟨i0, hi, hz0, hz1, hz2⟩ := info_parts Tryd.infoBs
  obtain ⟨xs, hrow, hall⟩ := hown
  have hxl := hall.length
  have hX := hx
  obtain ⟨A, c, rfl, h1, h2, h3⟩ := hx
  by_cases hm : 0 < M.length
  · obtain ⟨g, o, rfl, hg, hc⟩ := h3 hm
    obtain ⟨us, hus, hcells⟩ := hX.vals
    have hul := hus.length
    obtain ⟨v', w', hr, r1, r2, r3, r4⟩ := run_append_own_at (P := Tryd.prog) w base 47 ty 23 i0 (.slice none 0 0) 1 24 Tryd.underlying47 hi hz0 hz1 hz2 rfl (by decide) v xs.length xs hrow
      ⟨g, o, none⟩ M.length c us (by omega) (fun j u hj => by
        have := hcells j u hj
        rw [Addr.add]
        split
        · next h0 => subst h0; exact this
        · exact this) hus.one (by unfold maxLen; omega) (by omega) hb
    have hr1 : RowX w' base 23 v' (xs ++ us) := by unfold RowX; rw [List.length_append, hul]; exact r1
    have hbe : Below base w w' := (Below.refl base w).grown r2 hb (fun k hk => (hrow.lt k hk).1)
    exact ⟨v', w', hr, ⟨xs ++ us, hr1, (hall.append hus).below hbe⟩, hbe⟩
  · have h0 : M = [] := List.length_eq_zero_iff.1 (by omega)
    subst h0
    refine ⟨v, w, ?_, by simpa using ⟨xs, hrow, hall⟩, (below_refl w).mono hb⟩
    rcases hrow.2 with ⟨rfl, h0⟩ | ⟨g, c', cs, rfl, _, _, hnc, _⟩
    · cases A <;> simp [Builtin.append_, run_underlying Tryd.underlying47, sizeOf, typeInfo, hi, Builtin.lenOf, Builtin.firstCells, loadCells, loadCellsFrom]
    · cases A <;> simp [Builtin.append_, run_underlying Tryd.underlying47, sizeOf, typeInfo, hi, Builtin.lenOf, Builtin.firstCells, loadCells, loadCellsFrom, hnc, storeCells]
theorem wpList_appL {ops : Array Oper} {rest : List Oper} {o : Oper} {a : Act} {Q : Exit → Act → World → Prop} {w : World} (hgd : o.guard = none) (s x : Operand)
    (ho : o.op = .call { callee := .builtin .append, args := #[s, x], argTypes := #[47, 47] })
    {base : Nat} {v y : Value} {L M : List (List UInt8)} (hs : a.eval s = v) (hx : a.eval x = y) (hown : RowBs w base v L) (hy : Bss w base y M) (hlen : L.length + M.length ≤ 1000000) (hb : base ≤ w.heap.size)
    (h : ∀ v' w', RowBs w' base v' (L ++ M) → Below base w w' → wpList Tryd.prog ops Q rest (a.put o.dst v') w') :
    wpList Tryd.prog ops Q (o :: rest) a w := by
  refine wpList_plain hgd fun K hK => ?_
  obtain ⟨v', w', hr, h2, h3⟩ := run_appL o.type hown hy hlen hb
  unfold Oper.wp execOp
  simp only [ho, resolve, invoke, builtin, Sem.run_bind, Sem.run_pure, Result.andThen_ok, List.map_toArray, List.map_cons, List.map_nil, hs, hx, hr]
  exact hK _ _ (h v' w' h2 h3)

set_option maxHeartbeats 1000000 in
theorem concatL {w : World} {v : Value} {L : List (List (List UInt8))} (h : Bsss w w.heap.size v L) (hlen : L.flatten.length ≤ 1000000) :
    Calls Tryd.prog 48 #[v] w fun e w' => ∃ v', e = .returned v' ∧ RowBs w' w.heap.size v' L.flatten ∧ Below w.heap.size w w' := by
  obtain ⟨A, c, rfl, hlc, hc63⟩ := h.form
  have H := Lib.hid h
  have Hlen := Lib.hid hlen
  clear h hlen
  generalize hN : L.length = N at *
  have HN := Lib.hid hN
  clear hN
  go_enter Tryd.func48, Tryd.ntmps48
  go_wp2
  go_loop [3, 11] (fun s i => ∃ k : Nat, k ≤ N ∧ i = .int .i64 k ∧ ∃ z : Nat, s = .int .i64 z ∧ Hid (z = (L.take k).flatten.length)) (fun _ i => N - (intOf i).toNat)
  case atStart => exact ⟨0, Nat.zero_le _, rfl, 0, rfl, rfl⟩
  case round =>
    obtain ⟨k, hk, rfl, z, rfl, hz⟩ := hrel
    have hz0 : z ≤ 1000000 := by have := flatL_le L k; have h1 := hz.out; have h2 := Hlen.out; omega
    by_cases hlt : k < N
    · have hkL : k < L.length := by rw [HN.out]; exact hlt
      obtain ⟨g, o, u, rfl, hg, hu, hb⟩ := H.out.at_ hkL
      obtain ⟨A1, c1, rfl, h1, h2⟩ := hb.form
      have hs : z + L[k].length ≤ 1000000 := by
        have := flatL_le L (k + 1); rw [flatL_succ L k hkL, List.length_append] at this; have h1 := hz.out; have h2 := Hlen.out; omega
      have Hs := Lib.hid (show z + L[k].length = (L.take (k + 1)).flatten.length by rw [flatL_succ L k hkL, List.length_append, ← hz.out])
      clear hb
      generalize L[k].length = M at *
      clear hkL
      go_wp2
      go_round
      case rel => exact ⟨k + 1, by omega, by go_num, z + M, by go_num, Hs⟩
      case measure => simp [intOf]; omega
    · obtain rfl : k = N := by omega
      have Hz := Lib.hid hz.out
      clear hlt hz
      go_wp2_with fail
      refine (growL w z hz0).mono ?_
      rintro e w1 ⟨v1, rfl, ho1, hb1⟩
      have Ho1 := Lib.hid (show RowBs w1 w.heap.size v1 [] from ⟨[], ho1, trivial⟩)
      have Hb1 := Lib.hid hb1
      clear ho1 hb1
      go_wp2_with fail
      go_loopw [6, 27] (fun s i wr => ∃ j : Nat, j ≤ k ∧ i = .int .i64 j ∧ Hid (RowBs wr w.heap.size s (L.take j).flatten) ∧ Hid (Below w.heap.size w wr)) (fun _ i _ => k - (intOf i).toNat)
      case atStart => exact ⟨0, Nat.zero_le _, rfl, Ho1, Hb1⟩
      case round =>
        obtain ⟨j, hj, rfl, ho, hb⟩ := hrel
        by_cases hlt : j < k
        · have hjL : j < L.length := by rw [HN.out]; exact hlt
          have HH := (H.out.below hb.out).at_ hjL
          obtain ⟨g, o, u, rfl, hg, hu, hbu⟩ := HH
          have Hbu := Lib.hid hbu
          have Hs := Lib.hid (flatL_succ L j hjL)
          have hs : (L.take j).flatten.length + L[j].length ≤ 1000000 := by
            have := flatL_le L (j + 1); rw [flatL_succ L j hjL, List.length_append] at this; have h2 := Hlen.out; omega
          clear hbu
          go_wp2_with (at_builtin; refine wpList_appL rfl _ _ rfl (by rfl) (by rfl) ho.out Hbu.out hs hb.out.size ?_; intro v2 w2 ho2 hb2)
          go_roundw
          case rel => exact ⟨j + 1, by omega, by go_num, by show RowBs _ _ _ _; rw [Hs.out]; exact ho2, hb.out.trans hb2⟩
          case measure => simp [intOf]; omega
        · obtain rfl : j = k := by omega
          go_wp2
          go_ret
          exact ⟨_, rfl, by have := ho.out; rw [← HN.out, List.take_length] at this; exact this, hb.out⟩
end Go.Proofs.YtcefcdmonfenoaaDoor
