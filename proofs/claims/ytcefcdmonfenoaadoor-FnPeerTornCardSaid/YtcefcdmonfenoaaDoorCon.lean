/- slices.Grow of nil and slices.Concat, of slices of bytes. -/
import Derived.Test.YtcefcdmonfenoaaDoorStd
namespace Go.Proofs.YtcefcdmonfenoaaDoor
open Go.RowKit
set_option maxRecDepth 100000

/-- the slice value v reads as a list of slices of bytes, below block B -/
def Bss (w : World) (B : Nat) (v : Value) (L : List (List UInt8)) : Prop :=
  ∃ A c, v = .slice A L.length c ∧ L.length ≤ c ∧ c ≤ 9223372036854775807 ∧ (0 < L.length → ∃ g o, A = some ⟨g, o, none⟩ ∧ g < B ∧ ∀ k, (h : k < L.length) → ∃ u, w.cell? ⟨g, o + k, none⟩ = some u ∧ Bs w B u L[k])

section
variable {w w' : World} {B B' : Nat} {v : Value} {L : List (List UInt8)}
theorem Bss.keep (h : Bss w B v L) (hk : ∀ p : Addr, p.block < B → w'.cell? p = w.cell? p) : Bss w' B v L := by
  obtain ⟨A, c, rfl, h1, h2, h3⟩ := h
  refine ⟨A, c, rfl, h1, h2, fun hl => ?_⟩
  obtain ⟨g, o, rfl, hg, hc⟩ := h3 hl
  refine ⟨g, o, rfl, hg, fun k hk' => ?_⟩
  obtain ⟨u, hu, hb⟩ := hc k hk'
  exact ⟨u, (hk _ hg).trans hu, hb.keep hk⟩
theorem Bss.more (h : Bss w B v L) (hB : B ≤ B') : Bss w B' v L := by
  obtain ⟨A, c, rfl, h1, h2, h3⟩ := h
  refine ⟨A, c, rfl, h1, h2, fun hl => ?_⟩
  obtain ⟨g, o, rfl, hg, hc⟩ := h3 hl
  refine ⟨g, o, rfl, by omega, fun k hk' => ?_⟩
  obtain ⟨u, hu, hb⟩ := hc k hk'
  exact ⟨u, hu, hb.more hB⟩
theorem Bss.below (h : Bss w B v L) (hb : Below B w w') : Bss w' B v L := h.keep fun _ hp => hb.cell hp
theorem Bss.step (h : Bss w w.heap.size v L) (hb : Below w.heap.size w w') : Bss w' w'.heap.size v L := (h.below hb).more hb.size
theorem Bss.drew (h : Bss w w.heap.size v L) : Bss w.drew w.drew.heap.size v L := h
theorem Bss.drewN' (h : Bss w w.heap.size v L) (n : Nat) : Bss (w.drewN n) (w.drewN n).heap.size v L := h
theorem Bss.drewN (h : Bss w B v L) (n : Nat) : Bss (w.drewN n) B v L := h
theorem Bss.form (h : Bss w B v L) : ∃ A c, v = .slice A L.length c ∧ L.length ≤ c ∧ c ≤ 9223372036854775807 := by
  obtain ⟨A, c, rfl, h1, h2, h3⟩ := h; exact ⟨A, c, rfl, h1, h2⟩
/-- element k -/
theorem Bss.at_ {A : Option Addr} {n c k : Nat} (h : Bss w B (.slice A n c) L) (hk : k < L.length) : ∃ g o u, A = some ⟨g, o, none⟩ ∧ g < B ∧ w.cell? ⟨g, o + k, none⟩ = some u ∧ Bs w B u L[k] := by
  obtain ⟨A', c', he, h1, h2, h3⟩ := h
  injection he with e1 e2 e3
  subst e1
  obtain ⟨g, o, rfl, hg, hc⟩ := h3 (by omega)
  obtain ⟨u, hu, hb⟩ := hc k hk
  exact ⟨g, o, u, rfl, hg, hu, hb⟩
/-- slices that were just laid in a block of their own -/
theorem Bss.newAt (w : World) (t : TypeId) (cs : Array Value) (L : List (List UInt8)) (h : ∀ k, (hk : k < L.length) → ∃ u, cs[k]? = some u ∧ Bs w w.heap.size u L[k]) (hm : L.length ≤ 9223372036854775807) (g n c : Nat) (hg : w.heap.size = g) (hn : n = L.length) (hc : c = L.length) :
    Bss (w.alloc (.cells cs t)) (w.alloc (.cells cs t)).heap.size (.slice (some ⟨g, 0, none⟩) n c) L := by
  subst hg hn hc
  refine ⟨_, _, rfl, Nat.le_refl _, hm, fun hl => ⟨w.heap.size, 0, rfl, by simp, fun k hk => ?_⟩⟩
  obtain ⟨u, hu, hb⟩ := h k hk
  refine ⟨u, ?_, (hb.alloc (Nat.le_refl _) _).more (by simp)⟩
  rw [Nat.zero_add, cell_of_row (w.alloc (.cells cs t)) w.heap.size k cs t (0, 0) (heap_alloc_new w _)]
  exact hu
end

/-- append(nil, zeros) -/
theorem run_zeros (w : World) (ty : TypeId) (m : Nat) (hm : 0 < m) (hb : m ≤ 140737488355328) :
    ∃ cap w', (Builtin.append_ #[23, 3] ty #[.slice none 0 0, .int .i64 (m : Int)]).run Tryd.prog w = .ok (.slice (some ⟨w.heap.size, 0, none⟩) m cap) w' ∧
      m ≤ cap ∧ cap ≤ 9223372036854775807 ∧ Own w' w.heap.size (.slice (some ⟨w.heap.size, 0, none⟩) 0 cap) [] ∧ Below w.heap.size w w' := by
  obtain ⟨i0, hi, hz0, hz1, hz2⟩ := info_parts Tryd.info5
  have hw : IntKind.i64.wrap (m : Int) = m := by rw [IntKind.wrap_i64]; omega
  have hw0 : IntKind.i64.wrap 0 = 0 := by rw [IntKind.wrap_i64]; rfl
  have hneg : ¬ ((m : Int) < 0) := by omega
  have hm0 : ¬ m = 0 := by omega
  have hbig : ¬ (281474976710656 < (m : Int)) := by omega
  have h63 : ¬ (9223372036854775807 < (m : Int)) := by omega
  have hge := grownCap_ge w m 0 5
  have hcm : grownCap w m 0 5 ≤ maxLen := grownCap_le_maxLen w m 0 5 (by unfold maxLen; omega)
  have hfit : Builtin.nextslicecap m 0 * i0.bytes ≤ 281474976710656 := by
    have := growslice_fits (old := 0) (need := m) (bytes := i0.bytes) (by omega) (by rw [hz2]; omega)
    omega
  have h48 : ¬ (281474976710656 < Builtin.nextslicecap m 0 * i0.bytes) := by omega
  have hrun : (Builtin.append_ #[23, 3] ty #[.slice none 0 0, .int .i64 (m : Int)]).run Tryd.prog w =
      .ok (.slice (some ⟨w.heap.size, 0, none⟩) m (grownCap w m 0 5)) (w.drew.alloc (.cells (Builtin.zeroCells #[.int .u8 0] m ++ Builtin.zeroCells #[.int .u8 0] (grownCap w m 0 5 - m)) 5)) := by
    rw [hz2, Nat.mul_one] at h48
    simp [Builtin.append_, run_underlying Tryd.underlying23, run_underlying Tryd.underlying3, sizeOf, typeInfo, zeroValue, hi, hz0, hz1, hz2, asInt, asIntOf, hw, hneg, hm0, hbig, h63, Question.forced, Builtin.firstCells, newRow, grownCap, Builtin.lenOf]
    rw [if_neg h48]
    rfl
  refine ⟨grownCap w m 0 5, _, hrun, hge, by unfold maxLen at hcm; exact hcm, ?_, ?_⟩
  · refine ⟨by simp [bvs], .inr ⟨w.heap.size, _, _, rfl, Nat.le_refl _, heap_alloc_new w.drew _, Nat.zero_le _, hcm, ?_, by simp [bvs]⟩⟩
    simp only [Array.size_append, size_zeroCells]
    simp
    omega
  · exact ((below_refl w).drew).alloc (Nat.le_refl _) _

theorem wpList_zeros {ops : Array Oper} {rest : List Oper} {o : Oper} {a : Act} {Q : Exit → Act → World → Prop} {w : World} (hgd : o.guard = none) (s x : Operand)
    (ho : o.op = .call { callee := .builtin .append, args := #[s, x], argTypes := #[23, 3] }) {m : Nat} (hs : a.eval s = .slice none 0 0) (hx : a.eval x = .int .i64 (m : Int)) (hm : 0 < m) (hb : m ≤ 140737488355328)
    (h : ∀ cap w', m ≤ cap → cap ≤ 9223372036854775807 → Own w' w.heap.size (.slice (some ⟨w.heap.size, 0, none⟩) 0 cap) [] → Below w.heap.size w w' → wpList Tryd.prog ops Q rest (a.put o.dst (.slice (some ⟨w.heap.size, 0, none⟩) m cap)) w') :
    wpList Tryd.prog ops Q (o :: rest) a w := by
  refine wpList_plain hgd fun K hK => ?_
  obtain ⟨cap, w', hr, h1, h2, h3, h4⟩ := run_zeros w o.type m hm hb
  unfold Oper.wp execOp
  simp only [ho, resolve, invoke, builtin, Sem.run_bind, Sem.run_pure, Result.andThen_ok, List.map_toArray, List.map_cons, List.map_nil, hs, hx, hr]
  exact hK _ _ (h cap w' h1 h2 h3 h4)

/-- Grow(nil, n): a row of the call's own without elements -/
theorem grow (w : World) (n : Nat) (hn : n ≤ 140737488355328) :
    Calls Tryd.prog 72 #[.slice none 0 0, .int .i64 (n : Int)] w fun e w' => Fresh w [] e w' := by
  by_cases h0 : n = 0
  · subst h0
    go_enter Tryd.func72, Tryd.ntmps72
    go_wp2
    go_ret
    exact ⟨_, rfl, Own.nil _ _, below_refl w⟩
  · have hp : 0 < n := by omega
    clear h0
    go_enter Tryd.func72, Tryd.ntmps72
    go_wp2_with (at_builtin; refine wpList_zeros rfl _ _ rfl (by rfl) (by rfl) hp hn ?_; intro cap w1 hc hc63 ho hb; have Ho := Lib.hid ho; clear ho)
    go_ret
    exact ⟨_, rfl, Ho.out, hb⟩

theorem flat_succ (L : List (List UInt8)) (k : Nat) (h : k < L.length) : (L.take (k + 1)).flatten = (L.take k).flatten ++ L[k] := by
  rw [List.take_succ_eq_append_getElem h, List.flatten_append]; simp
theorem flat_le (L : List (List UInt8)) (k : Nat) : (L.take k).flatten.length ≤ L.flatten.length := by
  conv => rhs; rw [← List.take_append_drop k L, List.flatten_append, List.length_append]
  omega

set_option maxHeartbeats 1000000 in
theorem concat {w : World} {v : Value} {L : List (List UInt8)} (h : Bss w w.heap.size v L) (hlen : L.flatten.length ≤ 140737488355328) :
    Calls Tryd.prog 32 #[v] w fun e w' => Fresh w L.flatten e w' := by
  obtain ⟨A, c, rfl, hlc, hc63⟩ := h.form
  have H := Lib.hid h
  have Hlen := Lib.hid hlen
  clear h hlen
  generalize hN : L.length = N at *
  have HN := Lib.hid hN
  clear hN
  go_enter Tryd.func32, Tryd.ntmps32
  go_wp2
  go_loop [3, 11] (fun s i => ∃ k : Nat, k ≤ N ∧ i = .int .i64 k ∧ ∃ z : Nat, s = .int .i64 z ∧ Hid (z = (L.take k).flatten.length)) (fun _ i => N - (intOf i).toNat)
  case atStart => exact ⟨0, Nat.zero_le _, rfl, 0, rfl, rfl⟩
  case round =>
    obtain ⟨k, hk, rfl, z, rfl, hz⟩ := hrel
    have hz0 : z ≤ 140737488355328 := by have := flat_le L k; have h1 := hz.out; have h2 := Hlen.out; omega
    by_cases hlt : k < N
    · have hkL : k < L.length := by rw [HN.out]; exact hlt
      obtain ⟨g, o, u, rfl, hg, hu, hb⟩ := H.out.at_ hkL
      obtain ⟨A1, c1, rfl, h1, h2⟩ := hb.form
      have hs : z + L[k].length ≤ 140737488355328 := by
        have := flat_le L (k + 1); rw [flat_succ L k hkL, List.length_append] at this; have h1 := hz.out; have h2 := Hlen.out; omega
      have Hs := Lib.hid (show z + L[k].length = (L.take (k + 1)).flatten.length by rw [flat_succ L k hkL, List.length_append, ← hz.out])
      clear hb
      generalize L[k].length = M at *
      clear hkL
      go_wp2
      go_round
      case rel => exact ⟨k + 1, by omega, by go_num, z + M, by go_num, Hs⟩
      case measure => simp [intOf]; omega
    · obtain rfl : k = N := by omega
      have Hz := Lib.hid hz.out
      clear hlt hz
      go_wp2_with fail
      refine (grow w z hz0).mono ?_
      rintro e w1 ⟨v1, rfl, ho1, hb1⟩
      have Ho1 := Lib.hid ho1
      have Hb1 := Lib.hid hb1
      clear ho1 hb1
      go_wp2_with fail
      go_loopw [6, 27] (fun s i wr => ∃ j : Nat, j ≤ k ∧ i = .int .i64 j ∧ Hid (Own wr w.heap.size s (L.take j).flatten) ∧ Hid (Below w.heap.size w wr)) (fun _ i _ => k - (intOf i).toNat)
      case atStart => exact ⟨0, Nat.zero_le _, rfl, Ho1, Hb1⟩
      case round =>
        obtain ⟨j, hj, rfl, ho, hb⟩ := hrel
        by_cases hlt : j < k
        · have hjL : j < L.length := by rw [HN.out]; exact hlt
          have HH := (H.out.step hb.out).at_ hjL
          obtain ⟨g, o, u, rfl, hg, hu, hbu⟩ := HH
          have Hbu := Lib.hid hbu
          have Hs := Lib.hid (flat_succ L j hjL)
          have hs : (L.take j).flatten.length + L[j].length ≤ 140737488355328 := by
            have := flat_le L (j + 1); rw [flat_succ L j hjL, List.length_append] at this; have h2 := Hlen.out; omega
          clear hbu
          go_wp2_with (at_builtin; refine wpList_app rfl _ _ rfl (by rfl) (by rfl) ho.out Hbu.out hs hb.out.size ?_; intro v2 w2 ho2 hg2 hn2 hm2)
          go_roundw
          case rel => exact ⟨j + 1, by omega, by go_num, by show Own _ _ _ _; rw [Hs.out]; exact ho2, hb.out.trans (below_of_own ho.out hg2 hb.out.size)⟩
          case measure => simp [intOf]; omega
        · obtain rfl : j = k := by omega
          go_wp2
          go_ret
          exact ⟨_, rfl, by have := ho.out; rw [← HN.out, List.take_length] at this; exact this, hb.out⟩
end Go.Proofs.YtcefcdmonfenoaaDoor
