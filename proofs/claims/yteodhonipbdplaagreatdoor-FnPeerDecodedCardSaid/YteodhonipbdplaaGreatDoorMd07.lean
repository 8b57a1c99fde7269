/- slices.Grow of nil and slices.Concat, of slices of bytes. -/
import Derived.Test.YteodhonipbdplaaGreatDoorMd01
import Derived.Test.YteodhonipbdplaaGreatDoorMd06
import Derived.Lib.ConvBytes
namespace Go.Proofs.YteodhonipbdplaaGreatDoor
open Go.RowKit
set_option maxRecDepth 100000

/-- the slice value v reads as a list of slices of bytes, below block B -/
def Bss (w : World) (B : Nat) (v : Value) (L : List (List UInt8)) : Prop :=
  ∃ A c, v = .slice A L.length c ∧ L.length ≤ c ∧ c ≤ 9223372036854775807 ∧ (0 < L.length → ∃ g o, A = some ⟨g, o, none⟩ ∧ g < B ∧ ∀ k, (h : k < L.length) → ∃ u, w.cell? ⟨g, o + k, none⟩ = some u ∧ Bs w B u L[k])

section
variable {w w' : World} {B B' : Nat} {v : Value} {L : List (List UInt8)}
theorem Bss.keep (h : Bss w B v L) (hk : ∀ p : Addr, p.block < B → w'.cell? p = w.cell? p) : Bss w' B v L := by
  obtain ⟨A, c, rfl, h1, h2, h3⟩ := h
  refine ⟨A, c, rfl, h1, h2, fun hl => ?_⟩
  obtain ⟨g, o, rfl, hg, hc⟩ := h3 hl
  refine ⟨g, o, rfl, hg, fun k hk' => ?_⟩
  obtain ⟨u, hu, hb⟩ := hc k hk'
  exact ⟨u, (hk _ hg).trans hu, hb.keep hk⟩
theorem Bss.more (h : Bss w B v L) (hB : B ≤ B') : Bss w B' v L := by
  obtain ⟨A, c, rfl, h1, h2, h3⟩ := h
  refine ⟨A, c, rfl, h1, h2, fun hl => ?_⟩
  obtain ⟨g, o, rfl, hg, hc⟩ := h3 hl
  refine ⟨g, o, rfl, by omega, fun k hk' => ?_⟩
  obtain ⟨u, hu, hb⟩ := hc k hk'
  exact ⟨u, hu, hb.more hB⟩
theorem Bss.below (h : Bss w B v L) (hb : Below B w w') : Bss w' B v L := h.keep fun _ hp => hb.cell hp
theorem Bss.step (h : Bss w w.heap.size v L) (hb : Below w.heap.size w w') : Bss w' w'.heap.size v L := (h.below hb).more hb.size
theorem Bss.drew (h : Bss w w.heap.size v L) : Bss w.drew w.drew.heap.size v L := h
theorem Bss.drewN' (h : Bss w w.heap.size v L) (n : Nat) : Bss (w.drewN n) (w.drewN n).heap.size v L := h
theorem Bss.drewN (h : Bss w B v L) (n : Nat) : Bss (w.drewN n) B v L := h
theorem Bss.form (h : Bss w B v L) : ∃ A c, v = .slice A L.length c ∧ L.length ≤ c ∧ c ≤ 9223372036854775807 := by
  obtain ⟨A, c, rfl, h1, h2, h3⟩ := h; exact ⟨A, c, rfl, h1, h2⟩
/-- element k -/
theorem Bss.at_ {A : Option Addr} {n c k : Nat} (h : Bss w B (.slice A n c) L) (hk : k < L.length) : ∃ g o u, A = some ⟨g, o, none⟩ ∧ g < B ∧ w.cell? ⟨g, o + k, none⟩ = some u ∧ Bs w B u L[k] := by
  obtain ⟨A', c', he, h1, h2, h3⟩ := h
  injection he with e1 e2 e3
  subst e1
  obtain ⟨g, o, rfl, hg, hc⟩ := h3 (by omega)
  obtain ⟨u, hu, hb⟩ := hc k hk
  exact ⟨g, o, u, rfl, hg, hu, hb⟩
/-- slices that were just laid in a block of their own -/
theorem Bss.newAt (w : World) (t : TypeId) (cs : Array Value) (L : List (List UInt8)) (h : ∀ k, (hk : k < L.length) → ∃ u, cs[k]? = some u ∧ Bs w w.heap.size u L[k]) (hm : L.length ≤ 9223372036854775807) (g n c : Nat) (hg : w.heap.size = g) (hn : n = L.length) (hc : c = L.length) :
    Bss (w.alloc (.cells cs t)) (w.alloc (.cells cs t)).heap.size (.slice (some ⟨g, 0, none⟩) n c) L := by
  subst hg hn hc
  refine ⟨_, _, rfl, Nat.le_refl _, hm, fun hl => ⟨w.heap.size, 0, rfl, by simp, fun k hk => ?_⟩⟩
  obtain ⟨u, hu, hb⟩ := h k hk
  refine ⟨u, ?_, (hb.alloc (Nat.le_refl _) _).more (by simp)⟩
  rw [Nat.zero_add, cell_of_row (w.alloc (.cells cs t)) w.heap.size k cs t (0, 0) (heap_alloc_new w _)]
  exact hu
end

/-- append(nil, zeros) -/
theorem run_zeros (w : World) (ty : TypeId) (m : Nat) (hm : 0 < m) (hb : m ≤ 140737488355328) :
    ∃ cap w', (Builtin.append_ #[23, 3] ty #[.slice none 0 0, .int .i64 (m : Int)]).run Tryz.prog w = .ok (.slice (some ⟨w.heap.size, 0, none⟩) m cap) w' ∧
      m ≤ cap ∧ cap ≤ 9223372036854775807 ∧ Own w' w.heap.size (.slice (some ⟨w.heap.size, 0, none⟩) 0 cap) [] ∧ Below w.heap.size w w' := by
  obtain ⟨i0, hi, hz0, hz1, hz2⟩ := info_parts Tryz.info5
  have hw : IntKind.i64.wrap (m : Int) = m := by rw [IntKind.wrap_i64]; omega
  have hw0 : IntKind.i64.wrap 0 = 0 := by rw [IntKind.wrap_i64]; rfl
  have hneg : ¬ ((m : Int) < 0) := by omega
  have hm0 : ¬ m = 0 := by omega
  have hbig : ¬ (281474976710656 < (m : Int)) := by omega
  have h63 : ¬ (9223372036854775807 < (m : Int)) := by omega
  have hge := grownCap_ge w m 0 5
  have hcm : grownCap w m 0 5 ≤ maxLen := grownCap_le_maxLen w m 0 5 (by unfold maxLen; omega)
  have hfit : Builtin.nextslicecap m 0 * i0.bytes ≤ 281474976710656 := by
    have := growslice_fits (old := 0) (need := m) (bytes := i0.bytes) (by omega) (by rw [hz2]; omega)
    omega
  have h48 : ¬ (281474976710656 < Builtin.nextslicecap m 0 * i0.bytes) := by omega
  have hrun : (Builtin.append_ #[23, 3] ty #[.slice none 0 0, .int .i64 (m : Int)]).run Tryz.prog w =
      .ok (.slice (some ⟨w.heap.size, 0, none⟩) m (grownCap w m 0 5)) (w.drew.alloc (.cells (Builtin.zeroCells #[.int .u8 0] m ++ Builtin.zeroCells #[.int .u8 0] (grownCap w m 0 5 - m)) 5)) := by
    rw [hz2, Nat.mul_one] at h48
    simp [Builtin.append_, run_underlying Tryz.underlying23, run_underlying Tryz.underlying3, sizeOf, typeInfo, zeroValue, hi, hz0, hz1, hz2, asInt, asIntOf, hw, hneg, hm0, hbig, h63, Question.forced, Builtin.firstCells, newRow, grownCap, Builtin.lenOf]
    rw [if_neg h48]
    rfl
  refine ⟨grownCap w m 0 5, _, hrun, hge, by unfold maxLen at hcm; exact hcm, ?_, ?_⟩
  · refine ⟨by simp [bvs], .inr ⟨w.heap.size, _, _, rfl, Nat.le_refl _, heap_alloc_new w.drew _, Nat.zero_le _, hcm, ?_, by simp [bvs]⟩⟩
    simp only [Array.size_append, size_zeroCells]
    simp
    omega
  · exact ((below_refl w).drew).alloc (Nat.le_refl _) _

theorem wpList_zeros {ops : Array Oper} {rest : List Oper} {o : Oper} {a : Act} {Q : Exit → Act → World → Prop} {w : World} (hgd : o.guard = none) (s x : Operand)
    (ho : o.op = .call { callee := .builtin .append, args := #[s, x], argTypes := #[23, 3] }) {m : Nat} (hs : a.eval s = .slice none 0 0) (hx : a.eval x = .int .i64 (m : Int)) (hm : 0 < m) (hb : m ≤ 140737488355328)
    (h : ∀ cap w', m ≤ cap → cap ≤ 9223372036854775807 → Own w' w.heap.size (.slice (some ⟨w.heap.size, 0, none⟩) 0 cap) [] → Below w.heap.size w w' → wpList Tryz.prog ops Q rest (a.put o.dst (.slice (some ⟨w.heap.size, 0, none⟩) m cap)) w') :
    wpList Tryz.prog ops Q (o :: rest) a w := by
  refine wpList_plain hgd fun K hK => ?_
  obtain ⟨cap, w', hr, h1, h2, h3, h4⟩ := run_zeros w o.type m hm hb
  unfold Oper.wp execOp
  simp only [ho, resolve, invoke, builtin, Sem.run_bind, Sem.run_pure, Result.andThen_ok, List.map_toArray, List.map_cons, List.map_nil, hs, hx, hr]
  exact hK _ _ (h cap w' h1 h2 h3 h4)

/-- Grow(nil, n): a row of the call's own without elements -/
theorem grow (w : World) (n : Nat) (hn : n ≤ 140737488355328) :
    Calls Tryz.prog 48 #[.slice none 0 0, .int .i64 (n : Int)] w fun e w' => Fresh w [] e w' := by
  by_cases h0 : n = 0
  · subst h0
    go_enter Tryz.func48, Tryz.ntmps48
    go_wp2
    go_ret
    exact ⟨_, rfl, Own.nil _ _, below_refl w⟩
  · have hp : 0 < n := by omega
    clear h0
    go_enter Tryz.func48, Tryz.ntmps48
    go_wp2_with (at_builtin; refine wpList_zeros rfl _ _ rfl (by rfl) (by rfl) hp hn ?_; intro cap w1 hc hc63 ho hb; have Ho := Lib.hid ho; clear ho)
    go_ret
    exact ⟨_, rfl, Ho.out, hb⟩

theorem flat_succ (L : List (List UInt8)) (k : Nat) (h : k < L.length) : (L.take (k + 1)).flatten = (L.take k).flatten ++ L[k] := by
  rw [List.take_succ_eq_append_getElem h, List.flatten_append]; simp
theorem flat_le (L : List (List UInt8)) (k : Nat) : (L.take k).flatten.length ≤ L.flatten.length := by
  conv => rhs; rw [← List.take_append_drop k L, List.flatten_append, List.length_append]
  omega

set_option maxHeartbeats 1000000 in
theorem concat {w : World} {v : Value} {L : List (List UInt8)} (h : Bss w w.heap.size v L) (hlen : L.flatten.length ≤ 140737488355328) :
    Calls Tryz.prog 28 #[v] w fun e w' => Fresh w L.flatten e w' := by
  obtain ⟨A, c, rfl, hlc, hc63⟩ := h.form
  have H := Lib.hid h
  have Hlen := Lib.hid hlen
  clear h hlen
  generalize hN : L.length = N at *
  have HN := Lib.hid hN
  clear hN
  go_enter Tryz.func28, Tryz.ntmps28
  go_wp2
  go_loop [3, 11] (fun s i => ∃ k : Nat, k ≤ N ∧ i = .int .i64 k ∧ ∃ z : Nat, s = .int .i64 z ∧ Hid (z = (L.take k).flatten.length)) (fun _ i => N - (intOf i).toNat)
  case atStart => exact ⟨0, Nat.zero_le _, rfl, 0, rfl, rfl⟩
  case round =>
    obtain ⟨k, hk, rfl, z, rfl, hz⟩ := hrel
    have hz0 : z ≤ 140737488355328 := by have := flat_le L k; have h1 := hz.out; have h2 := Hlen.out; omega
    by_cases hlt : k < N
    · have hkL : k < L.length := by rw [HN.out]; exact hlt
      obtain ⟨g, o, u, rfl, hg, hu, hb⟩ := H.out.at_ hkL
      obtain ⟨A1, c1, rfl, h1, h2⟩ := hb.form
      have hs : z + L[k].length ≤ 140737488355328 := by
        have := flat_le L (k + 1); rw [flat_succ L k hkL, List.length_append] at this; have h1 := hz.out; have h2 := Hlen.out; omega
      have Hs := Lib.hid (show z + L[k].length = (L.take (k + 1)).flatten.length by rw [flat_succ L k hkL, List.length_append, ← hz.out])
      clear hb
      generalize L[k].length = M at *
      clear hkL
      go_wp2
      go_round
      case rel => exact ⟨k + 1, by omega, by go_num, z + M, by go_num, Hs⟩
      case measure => simp [intOf]; omega
    · obtain rfl : k = N := by omega
      have Hz := Lib.hid hz.out
      clear hlt hz
      go_wp2_with fail
      refine (grow w z hz0).mono ?_
      rintro e w1 ⟨v1, rfl, ho1, hb1⟩
      have Ho1 := Lib.hid ho1
      have Hb1 := Lib.hid hb1
      clear ho1 hb1
      go_wp2_with fail
      go_loopw [6, 27] (fun s i wr => ∃ j : Nat, j ≤ k ∧ i = .int .i64 j ∧ Hid (Own wr w.heap.size s (L.take j).flatten) ∧ Hid (Below w.heap.size w wr)) (fun _ i _ => k - (intOf i).toNat)
      case atStart => exact ⟨0, Nat.zero_le _, rfl, Ho1, Hb1⟩
      case round =>
        obtain ⟨j, hj, rfl, ho, hb⟩ := hrel
        by_cases hlt : j < k
        · have hjL : j < L.length := by rw [HN.out]; exact hlt
          have HH := (H.out.step hb.out).at_ hjL
          obtain ⟨g, o, u, rfl, hg, hu, hbu⟩ := HH
          have Hbu := Lib.hid hbu
          have Hs := Lib.hid (flat_succ L j hjL)
          have hs : (L.take j).flatten.length + L[j].length ≤ 140737488355328 := by
            have := flat_le L (j + 1); rw [flat_succ L j hjL, List.length_append] at this; have h2 := Hlen.out; omega
          clear hbu
          go_wp2_with (at_builtin; refine wpList_app rfl _ _ rfl (by rfl) (by rfl) ho.out Hbu.out hs hb.out.size ?_; intro v2 w2 ho2 hg2 hn2 hm2)
          go_roundw
          case rel => exact ⟨j + 1, by omega, by go_num, by show Own _ _ _ _; rw [Hs.out]; exact ho2, hb.out.trans (below_of_own ho.out hg2 hb.out.size)⟩
          case measure => simp [intOf]; omega
        · obtain rfl : j = k := by omega
          go_wp2
          go_ret
          exact ⟨_, rfl, by have := ho.out; rw [← HN.out, List.take_length] at this; exact this, hb.out⟩
end Go.Proofs.YteodhonipbdplaaGreatDoor

/- Multihashes: unsigned varints and what they lead; no program. -/
namespace Go.Proofs.YteodhonipbdplaaGreatDoor
namespace Mh
/-- an unsigned varint in the shortest form, up to nine bytes: its number, and how many bytes -/
def uvGo : Nat → Nat → List UInt8 → Option (Nat × Nat)
  | _, _, [] => none
  | i, acc, b :: l => if 9 ≤ i ∨ (i = 8 ∧ 128 ≤ b.toNat) then none
    else if b.toNat < 128 then (if b.toNat = 0 ∧ 0 < i then none else some (acc + b.toNat * 2 ^ (7 * i), i + 1))
    else uvGo (i + 1) (acc + (b.toNat - 128) * 2 ^ (7 * i)) l
def uv (l : List UInt8) : Option (Nat × Nat) := uvGo 0 0 l
theorem uvGo_nil (i acc : Nat) : uvGo i acc [] = none := rfl
theorem uvGo_over {i acc : Nat} {b : UInt8} {l : List UInt8} (h : 9 ≤ i ∨ (i = 8 ∧ 128 ≤ b.toNat)) : uvGo i acc (b :: l) = none := by
  unfold uvGo; rw [if_pos h]
theorem uvGo_zero {i acc : Nat} {b : UInt8} {l : List UInt8} (h : ¬ (9 ≤ i ∨ (i = 8 ∧ 128 ≤ b.toNat))) (hb : b.toNat = 0) (hi : 0 < i) : uvGo i acc (b :: l) = none := by
  unfold uvGo; rw [if_neg h, if_pos (by omega), if_pos ⟨hb, hi⟩]
theorem uvGo_end {i acc : Nat} {b : UInt8} {l : List UInt8} (h : ¬ (9 ≤ i ∨ (i = 8 ∧ 128 ≤ b.toNat))) (hb : b.toNat < 128) (hz : ¬ (b.toNat = 0 ∧ 0 < i)) : uvGo i acc (b :: l) = some (acc + b.toNat * 2 ^ (7 * i), i + 1) := by
  unfold uvGo; rw [if_neg h, if_pos hb, if_neg hz]
theorem uvGo_next {i acc : Nat} {b : UInt8} {l : List UInt8} (h : ¬ (9 ≤ i ∨ (i = 8 ∧ 128 ≤ b.toNat))) (hb : ¬ b.toNat < 128) : uvGo i acc (b :: l) = uvGo (i + 1) (acc + (b.toNat - 128) * 2 ^ (7 * i)) l := by
  conv => lhs; unfold uvGo
  rw [if_neg h, if_neg hb]
theorem uvGo_some : ∀ {l : List UInt8} {i acc x n : Nat}, acc < 2 ^ (7 * i) → uvGo i acc l = some (x, n) → i < n ∧ n ≤ i + l.length ∧ n ≤ 9 ∧ x < 2 ^ (7 * n) := by
  intro l
  induction l with
  | nil => intro i acc x n _ h; cases h
  | cons b l ih =>
    intro i acc x n hacc h
    have hb := UInt8.toNat_lt b
    have hp : 0 < 2 ^ (7 * i) := Nat.pow_pos (by omega)
    have e7 : 2 ^ (7 * (i + 1)) = 2 ^ (7 * i) * 128 := by rw [Nat.mul_add, Nat.pow_add]
    unfold uvGo at h
    split at h
    · cases h
    · next h1 =>
      split at h
      · next h2 =>
        split at h
        · cases h
        · injection h with h
          injection h with e1 e2
          subst e1 e2
          refine ⟨by omega, by simp, by omega, ?_⟩
          rw [e7]
          have : b.toNat * 2 ^ (7 * i) ≤ 127 * 2 ^ (7 * i) := Nat.mul_le_mul_right _ (by omega)
          omega
      · next h2 =>
        have := ih (i := i + 1) (acc := acc + (b.toNat - 128) * 2 ^ (7 * i)) (by
          rw [e7]
          have : (b.toNat - 128) * 2 ^ (7 * i) ≤ 127 * 2 ^ (7 * i) := Nat.mul_le_mul_right _ (by omega)
          omega) h
        refine ⟨by omega, by simp; omega, this.2.2.1, this.2.2.2⟩
theorem uv_some {l : List UInt8} {x n : Nat} (h : uv l = some (x, n)) : 0 < n ∧ n ≤ l.length ∧ n ≤ 9 ∧ x < 2 ^ 63 := by
  obtain ⟨h1, h2, h3, h4⟩ := uvGo_some (by simp) h
  refine ⟨h1, by omega, h3, Nat.lt_of_lt_of_le h4 (Nat.pow_le_pow_right (by omega) (by omega))⟩
/-- what a multihash's bytes tell: how long it is, its number, its digest -/
def read (l : List UInt8) : Option (Nat × Nat × List UInt8) :=
  if l.length < 2 then none else
  match uv l with
  | none => none
  | some (code, n) => match uv (l.drop n) with
    | none => none
    | some (len, m) => if 2147483647 < len then none else if ((l.drop n).drop m).length < len then none else some (n + m + len, code, ((l.drop n).drop m).take len)
/-- bytes are a multihash -/
def ok (l : List UInt8) : Bool := match read l with
  | none => false
  | some (r, _, _) => decide (l.length = r)
section
variable {l : List UInt8} {code n len m : Nat}
theorem read_short (h : l.length < 2) : read l = none := by unfold read; rw [if_pos h]
theorem read_bad (h : ¬ l.length < 2) (h1 : uv l = none) : read l = none := by unfold read; rw [if_neg h, h1]
theorem read_bad2 (h : ¬ l.length < 2) (h1 : uv l = some (code, n)) (h2 : uv (l.drop n) = none) : read l = none := by unfold read; rw [if_neg h, h1]; simp only [h2]
theorem read_big (h : ¬ l.length < 2) (h1 : uv l = some (code, n)) (h2 : uv (l.drop n) = some (len, m)) (h3 : 2147483647 < len) : read l = none := by unfold read; rw [if_neg h, h1]; simp only [h2]; rw [if_pos h3]
theorem read_less (h : ¬ l.length < 2) (h1 : uv l = some (code, n)) (h2 : uv (l.drop n) = some (len, m)) (h3 : ¬ 2147483647 < len) (h4 : ((l.drop n).drop m).length < len) : read l = none := by unfold read; rw [if_neg h, h1]; simp only [h2]; rw [if_neg h3, if_pos h4]
theorem read_some (h : ¬ l.length < 2) (h1 : uv l = some (code, n)) (h2 : uv (l.drop n) = some (len, m)) (h3 : ¬ 2147483647 < len) (h4 : ¬ ((l.drop n).drop m).length < len) : read l = some (n + m + len, code, ((l.drop n).drop m).take len) := by unfold read; rw [if_neg h, h1]; simp only [h2]; rw [if_neg h3, if_neg h4]
end
end Mh
end Go.Proofs.YteodhonipbdplaaGreatDoor

/- The reference's PeerMade: a multihash by 32 bytes. -/
namespace Go.Proofs.YteodhonipbdplaaGreatDoor
open Go.RowKit
set_option maxRecDepth 100000
/-- what PeerMade comes to -/
def made (l : List UInt8) (k : Nat) : List UInt8 :=
  if k % 4 = 0 then [18, 32] ++ Sha.sum l else if k % 4 = 1 then [18, 32] ++ l else
  if k % 4 = 2 then [0, UInt8.ofNat ((l.headD 0).toNat % 33)] ++ l.take ((l.headD 0).toNat % 33) else [178, 144, 64, 16] ++ l.take 16
theorem sum_len (l : List UInt8) : (Sha.sum l).length = 32 := out_len _
section
variable {w : World}
theorem Own.lits (w : World) (base : Nat) (hb : base ≤ w.heap.size) (cs : Array Value) (l : List UInt8) (h : cs.toList = bvs l) (hm : l.length ≤ 1000000) (g n : Nat) (hg : w.heap.size = g) (hn : n = l.length) :
    Own (w.alloc (.cells cs 5)) base (.slice (some ⟨g, 0, none⟩) n n) l := by
  subst hg hn
  have hs : cs.size = l.length := by rw [← Array.length_toList, h, bvs_length]
  refine ⟨by simp [bvs], .inr ⟨w.heap.size, l.length, cs, by simp, hb, heap_alloc_new w _, by omega, ?_, by omega, ?_⟩⟩
  · unfold maxLen; omega
  · rw [Nat.mul_one, h, List.take_of_length_le]; rw [bvs_length]; omega
theorem Bs.ofRow (w : World) (t : TypeId) (l : List UInt8) (hm : l.length ≤ 9223372036854775807) (g n c : Nat) (hg : w.heap.size = g) (hn : n = l.length) (hc : c = l.length) :
    Bs (w.alloc (.cells (bvs l).toArray t)) (w.alloc (.cells (bvs l).toArray t)).heap.size (.slice (some ⟨g, 0, none⟩) n c) l := by
  subst hg hn hc
  refine ⟨_, _, rfl, Nat.le_refl _, hm, fun hl => ⟨w.heap.size, 0, rfl, by simp, fun k hk => ?_⟩⟩
  rw [Nat.zero_add, cell_of_row (w.alloc (.cells (bvs l).toArray t)) w.heap.size k _ t (0, 0) (heap_alloc_new w _)]
  have := bvs_get l k hk
  simpa using this
theorem Bs.ofBlk {w : World} {g : Nat} {t : TypeId} {l : List UInt8} {n : Nat} (hl : l.length = n) (h : Blk w g t (bvs l).toArray) (hm : l.length ≤ 9223372036854775807 := by omega) : Bs w w.heap.size (.slice (some ⟨g, 0, none⟩) n n) l := by
  subst hl
  refine ⟨_, _, rfl, Nat.le_refl _, hm, fun hl => ⟨g, 0, rfl, h.lt, fun k hk => ?_⟩⟩
  rw [Nat.zero_add, h.cell k]
  have := bvs_get l k hk
  simpa using this
theorem slice32 (W : World) (g m : Nat) (hm : m ≤ 32) : (Instr.sliceAt 22 (.pointer (some ⟨g, 0, none⟩)) none (some (.int .i64 (m : Int))) none).run Tryz.prog W = .ok (.slice (some ⟨g, 0, none⟩) m 32) W := by
  have ha : Tryz.prog.arrayLen 22 = 32 := by kernel_rfl
  have he : Tryz.prog.elem 22 = 5 := by kernel_rfl
  have hu : Tryz.prog.underlying 22 = some (.array (Tryz.prog.arrayLen 22) (Tryz.prog.elem 22)) := by rw [ha, he]; exact Tryz.underlying22
  obtain ⟨i0, hi, hz0, hz1, hz2⟩ := info_parts Tryz.info5
  rw [run_sliceAt_array_h W 22 ⟨g, 0, none⟩ hu .i64 (m : Int) (by omega) (by rw [ha]; omega), ha, he]
  simp [sizeOf, typeInfo, hi, hz1, slicedAt, Addr.add]
theorem sum_row (l : List UInt8) : (bvs (Sha.sum l)).toArray.size = 32 := by simp [bvs, sum_len]
theorem sum_one (l : List UInt8) : (bvs l).toArray.all (·.oneCell') = true := all_oneCell_toArray (fun u hu => by unfold bvs at hu; obtain ⟨_, _, rfl⟩ := List.mem_map.1 hu; rfl)
set_option maxHeartbeats 1000000 in
theorem peerMade0 (l : List UInt8) (hl : l.length = 32) (k : Nat) (hk : k ≤ 255) (h0 : k % 4 = 0) :
    Calls Tryz.prog 7 #[.agg (bvs l).toArray, .int .u8 (k : Int)] w fun e w' => Fresh w (made l k) e w' := by
  have HM := Lib.hid (show made l k = [18, 32] ++ Sha.sum l by unfold made; rw [if_pos h0])
  have H1 := Lib.hid (Bs.ofRow w 22 l (by omega) w.heap.size 32 32 rfl hl.symm hl.symm)
  have Hl6 := Lib.hid (show l.length ≤ 1000000 by omega)
  have q0 : ((k : Int) % 4 == 0) = true := by have : (k : Int) % 4 = 0 := by omega
                                              simpa using this
  clear hl h0
  go_enter Tryz.func7, Tryz.ntmps7
  go_wp2_with fail
  refine (shaSum H1.out Hl6.out).mono ?_
  rintro e wb ⟨rfl, hb⟩
  have hsz := hb.size
  have Bb := Lib.hid (hb.mono (show w.heap.size ≤ (w.alloc (.cells (bvs l).toArray 22)).heap.size by simp))
  have B0 := Lib.hid ((below_alloc w (.cells (bvs l).toArray 22)).trans Bb.out)
  have hsw := B0.out.size
  clear hb Bb hsz
  obtain ⟨S, hS⟩ : ∃ S, S = (bvs (Sha.sum l)).toArray := ⟨_, rfl⟩
  have HS := Lib.hid hS
  have hSs : S.size = 32 := by rw [hS]; exact sum_row l
  have HSs := Lib.hid hSs
  have Ho := Lib.hid (show S.all (·.oneCell') = true by rw [hS]; exact sum_one _)
  have Hi32 := Lib.hid (show (Tryz.prog.info? 22).map (·.size) = some S.size by rw [hSs]; exact info32)
  rw [← hS]
  clear hS hSs
  dsimp only
  rename_i hK
  refine hK _ _ ?_
  clear hK
  have K0 := Lib.hid (Blk.new wb 22 (#[.int .u8 0, .int .u8 0, .int .u8 0, .int .u8 0, .int .u8 0, .int .u8 0, .int .u8 0, .int .u8 0, .int .u8 0, .int .u8 0, .int .u8 0, .int .u8 0, .int .u8 0, .int .u8 0, .int .u8 0, .int .u8 0, .int .u8 0, .int .u8 0, .int .u8 0, .int .u8 0, .int .u8 0, .int .u8 0, .int .u8 0, .int .u8 0, .int .u8 0, .int .u8 0, .int .u8 0, .int .u8 0, .int .u8 0, .int .u8 0, .int .u8 0, .int .u8 0] : Array Value))
  have Ht := Lib.hid (show (wb.alloc (.cells (#[.int .u8 0, .int .u8 0, .int .u8 0, .int .u8 0, .int .u8 0, .int .u8 0, .int .u8 0, .int .u8 0, .int .u8 0, .int .u8 0, .int .u8 0, .int .u8 0, .int .u8 0, .int .u8 0, .int .u8 0, .int .u8 0, .int .u8 0, .int .u8 0, .int .u8 0, .int .u8 0, .int .u8 0, .int .u8 0, .int .u8 0, .int .u8 0, .int .u8 0, .int .u8 0, .int .u8 0, .int .u8 0, .int .u8 0, .int .u8 0, .int .u8 0, .int .u8 0] : Array Value) 22)).there wb.heap.size 0 S.size from K0.out.there (by rw [HSs.out]; rfl))
  have K1 := Lib.hid (show Blk ((wb.alloc (.cells (#[.int .u8 0, .int .u8 0, .int .u8 0, .int .u8 0, .int .u8 0, .int .u8 0, .int .u8 0, .int .u8 0, .int .u8 0, .int .u8 0, .int .u8 0, .int .u8 0, .int .u8 0, .int .u8 0, .int .u8 0, .int .u8 0, .int .u8 0, .int .u8 0, .int .u8 0, .int .u8 0, .int .u8 0, .int .u8 0, .int .u8 0, .int .u8 0, .int .u8 0, .int .u8 0, .int .u8 0, .int .u8 0, .int .u8 0, .int .u8 0, .int .u8 0, .int .u8 0] : Array Value) 22)).setCells wb.heap.size 0 S.toList) wb.heap.size 22 S from K0.out.over (vs := S.toList) (by rw [Array.length_toList, HSs.out]; rfl))
  have B1 := Lib.hid (show Below w.heap.size w ((wb.alloc (.cells (#[.int .u8 0, .int .u8 0, .int .u8 0, .int .u8 0, .int .u8 0, .int .u8 0, .int .u8 0, .int .u8 0, .int .u8 0, .int .u8 0, .int .u8 0, .int .u8 0, .int .u8 0, .int .u8 0, .int .u8 0, .int .u8 0, .int .u8 0, .int .u8 0, .int .u8 0, .int .u8 0, .int .u8 0, .int .u8 0, .int .u8 0, .int .u8 0, .int .u8 0, .int .u8 0, .int .u8 0, .int .u8 0, .int .u8 0, .int .u8 0, .int .u8 0, .int .u8 0] : Array Value) 22)).setCells wb.heap.size 0 S.toList) from below_grown (B0.out.alloc hsw _) (grown_setCells wb.heap.size S.toList 0 (grown_refl _ (some wb.heap.size))) (fun k e => by injection e with e; omega))
  have Hlt := Lib.hid (show wb.heap.size < ((wb.alloc (.cells (#[.int .u8 0, .int .u8 0, .int .u8 0, .int .u8 0, .int .u8 0, .int .u8 0, .int .u8 0, .int .u8 0, .int .u8 0, .int .u8 0, .int .u8 0, .int .u8 0, .int .u8 0, .int .u8 0, .int .u8 0, .int .u8 0, .int .u8 0, .int .u8 0, .int .u8 0, .int .u8 0, .int .u8 0, .int .u8 0, .int .u8 0, .int .u8 0, .int .u8 0, .int .u8 0, .int .u8 0, .int .u8 0, .int .u8 0, .int .u8 0, .int .u8 0, .int .u8 0] : Array Value) 22)).setCells wb.heap.size 0 S.toList).heap.size by have := K1.out.lt; exact this)
  clear K0
  generalize hgq : (wb.alloc (.cells (#[.int .u8 0, .int .u8 0, .int .u8 0, .int .u8 0, .int .u8 0, .int .u8 0, .int .u8 0, .int .u8 0, .int .u8 0, .int .u8 0, .int .u8 0, .int .u8 0, .int .u8 0, .int .u8 0, .int .u8 0, .int .u8 0, .int .u8 0, .int .u8 0, .int .u8 0, .int .u8 0, .int .u8 0, .int .u8 0, .int .u8 0, .int .u8 0, .int .u8 0, .int .u8 0, .int .u8 0, .int .u8 0, .int .u8 0, .int .u8 0, .int .u8 0, .int .u8 0] : Array Value) 22)).setCells wb.heap.size 0 S.toList = wd at K1 B1 Hlt
  have Hgq := Lib.hid hgq
  clear hgq
  have HB := Lib.hid (show Bs wd wd.heap.size (.slice (some ⟨wb.heap.size, 0, none⟩) 32 32) (Sha.sum l) from Bs.ofBlk (sum_len l) (by rw [← HS.out]; exact K1.out) (by rw [sum_len]; omega))
  have HO := Lib.hid (Own.lits wd w.heap.size B1.out.size #[.int .u8 18, .int .u8 32] [18, 32] (by simp [bvs, bv]) (by simp) wd.heap.size 2 rfl rfl)
  have hlen := Lib.hid (show ([18, 32] : List UInt8).length + (Sha.sum l).length ≤ 140737488355328 by rw [sum_len]; simp)
  have hsd := B1.out.size
  clear K1 HS
  go_wp2_with (first | ((refine wpList_store_mid rfl 22 _ _ (by rfl) wb.heap.size 0 S (by rfl) (by rfl) Ht.out Hi32.out Ho.out ?_; rw [Hgq.out]; clear Ht Hi32 Ho Hgq)) | (at_builtin; refine wpList_app rfl _ _ rfl (by rfl) (by rfl) HO.out (HB.out.alloc (Nat.le_refl _) _) hlen.out (by simp; omega) ?_; intro v' w3 ho hg hnn hmv; have HO2 := Lib.hid ho; have HB2 := Lib.hid ((B1.out.alloc hsd _).trans (below_of_own HO.out hg (by simp; omega))); clear ho hg hnn hmv))
  go_ret
  exact ⟨_, rfl, by rw [HM.out]; exact HO2.out, HB2.out⟩
set_option maxHeartbeats 1000000 in
theorem peerMade1 (l : List UInt8) (hl : l.length = 32) (k : Nat) (hk : k ≤ 255) (h0 : k % 4 = 1) :
    Calls Tryz.prog 7 #[.agg (bvs l).toArray, .int .u8 (k : Int)] w fun e w' => Fresh w (made l k) e w' := by
  have HM := Lib.hid (show made l k = [18, 32] ++ l by unfold made; rw [if_neg (by omega), if_pos h0])
  have HB := Lib.hid (Bs.ofRow w 22 l (by omega) w.heap.size 32 32 rfl hl.symm hl.symm)
  have hlen := Lib.hid (show ([18, 32] : List UInt8).length + l.length ≤ 140737488355328 by rw [hl]; simp)
  have q0 : ((k : Int) % 4 == 0) = false := by have : ¬ (k : Int) % 4 = 0 := by omega
                                               simpa using this
  have q1 : ((k : Int) % 4 == 1) = true := by have : (k : Int) % 4 = 1 := by omega
                                              simpa using this
  clear hl h0
  have B1 := Lib.hid (below_alloc w (.cells (bvs l).toArray 22))
  generalize hwd : w.alloc (.cells (bvs l).toArray 22) = wd at HB B1
  have Hwd := Lib.hid hwd
  clear hwd
  have HO := Lib.hid (Own.lits wd w.heap.size B1.out.size #[.int .u8 18, .int .u8 32] [18, 32] (by simp [bvs, bv]) (by simp) wd.heap.size 2 rfl rfl)
  have hsd := B1.out.size
  go_enter Tryz.func7, Tryz.ntmps7
  go_upto_region 1 with fail
  rw [Hwd.out]
  clear Hwd
  go_wp2_with ((at_builtin; refine wpList_app rfl _ _ rfl (by rfl) (by rfl) HO.out (HB.out.alloc (Nat.le_refl _) _) hlen.out (by simp; omega) ?_; intro v' w3 ho hg hnn hmv; have HO2 := Lib.hid ho; have HB2 := Lib.hid ((B1.out.alloc hsd _).trans (below_of_own HO.out hg (by simp; omega))); clear ho hg hnn hmv))
  go_ret
  exact ⟨_, rfl, by rw [HM.out]; exact HO2.out, HB2.out⟩
set_option maxHeartbeats 1000000 in
theorem peerMade2 (l : List UInt8) (hl : l.length = 32) (k : Nat) (hk : k ≤ 255) (h0 : k % 4 = 2) :
    Calls Tryz.prog 7 #[.agg (bvs l).toArray, .int .u8 (k : Int)] w fun e w' => Fresh w (made l k) e w' := by
  obtain ⟨x, hx⟩ : ∃ x, x = (l.headD 0).toNat := ⟨_, rfl⟩
  have hx255 : x ≤ 255 := by have := UInt8.toNat_lt (l.headD 0); omega
  have HM := Lib.hid (show made l k = [0, UInt8.ofNat (x % 33)] ++ l.take (x % 33) by unfold made; rw [if_neg (by omega), if_neg (by omega), if_pos h0, hx])
  obtain ⟨m, hm⟩ : ∃ m, m = x % 33 := ⟨_, rfl⟩
  rw [← hm] at HM
  have hm32 : m ≤ 32 := by omega
  have HB0 := Bs.ofRow w 22 l (by omega) w.heap.size 32 32 rfl hl.symm hl.symm
  have HC := Lib.hid (show (w.alloc (.cells (bvs l).toArray 22)).cell? ⟨w.heap.size, 0, none⟩ = some (.int .u8 (x : Int)) by
    rw [(Blk.new w 22 _).cell 0, List.getElem?_toArray, bvs_get l 0 (by omega), hx]
    cases l with
    | nil => simp at hl
    | cons a l => rfl)
  have HB := Lib.hid (HB0.front (k := m) (by omega))
  have hlen := Lib.hid (show ([0, UInt8.ofNat m] : List UInt8).length + (l.take m).length ≤ 140737488355328 by rw [List.length_take, hl]; simp; omega)
  have q0 : ((k : Int) % 4 == 0) = false := by have : ¬ (k : Int) % 4 = 0 := by omega
                                               simpa using this
  have q1 : ((k : Int) % 4 == 1) = false := by have : ¬ (k : Int) % 4 = 1 := by omega
                                               simpa using this
  have q2 : ((k : Int) % 4 == 2) = true := by have : (k : Int) % 4 = 2 := by omega
                                              simpa using this
  clear hl h0 hx HB0
  have B1 := Lib.hid (below_alloc w (.cells (bvs l).toArray 22))
  generalize hwd : w.alloc (.cells (bvs l).toArray 22) = wd at HB B1 HC
  have Hwd := Lib.hid hwd
  clear hwd
  have hC := HC.out
  clear HC
  have Hqm := Lib.hid (show (x : Int) % 33 = ((m : Nat) : Int) by omega)
  have qc : IntKind.u8.wrap ((m : Nat) : Int) = ((m : Nat) : Int) := by rw [IntKind.wrap_u8]; omega
  clear hm
  have HO := Lib.hid (Own.lits wd w.heap.size B1.out.size #[.int .u8 0, .int .u8 ((m : Nat) : Int)] [0, UInt8.ofNat m] (by simp [bvs, bv]; omega) (by simp) wd.heap.size 2 rfl rfl)
  have hsd := B1.out.size
  go_enter Tryz.func7, Tryz.ntmps7
  go_upto_region 1 with fail
  rw [Hwd.out]
  clear Hwd
  go_upto_region 9 with fail
  rw [Hqm.out]
  have hsl := fun W : World => slice32 W w.heap.size m hm32
  go_wp2_with ((at_builtin; refine wpList_app rfl _ _ rfl (by rfl) (by rfl) HO.out (HB.out.alloc (Nat.le_refl _) _) hlen.out (by simp; omega) ?_; intro v' w3 ho hg hnn hmv; have HO2 := Lib.hid ho; have HB2 := Lib.hid ((B1.out.alloc hsd _).trans (below_of_own HO.out hg (by simp; omega))); clear ho hg hnn hmv))
  go_ret
  exact ⟨_, rfl, by rw [HM.out]; exact HO2.out, HB2.out⟩
set_option maxHeartbeats 1000000 in
theorem peerMade3 (l : List UInt8) (hl : l.length = 32) (k : Nat) (hk : k ≤ 255) (h0 : k % 4 = 3) :
    Calls Tryz.prog 7 #[.agg (bvs l).toArray, .int .u8 (k : Int)] w fun e w' => Fresh w (made l k) e w' := by
  have HM := Lib.hid (show made l k = [[178, 144, 64, 16], l.take 16].flatten by unfold made; rw [if_neg (by omega), if_neg (by omega), if_neg (by omega)]; simp)
  have hlen := Lib.hid (show ([[178, 144, 64, 16], l.take 16] : List (List UInt8)).flatten.length ≤ 140737488355328 by simp; omega)
  have HB := (Bs.ofRow w 22 l (by omega) w.heap.size 32 32 rfl hl.symm hl.symm).front (k := 16) (by omega)
  have q0 : ((k : Int) % 4 == 0) = false := by have : ¬ (k : Int) % 4 = 0 := by omega
                                               simpa using this
  have q1 : ((k : Int) % 4 == 1) = false := by have : ¬ (k : Int) % 4 = 1 := by omega
                                               simpa using this
  have q2 : ((k : Int) % 4 == 2) = false := by have : ¬ (k : Int) % 4 = 2 := by omega
                                               simpa using this
  clear hl h0
  have B1 := Lib.hid (below_alloc w (.cells (bvs l).toArray 22))
  generalize hwd : w.alloc (.cells (bvs l).toArray 22) = wd at HB B1
  have Hwd := Lib.hid hwd
  clear hwd
  have h1 := Bs.newAt wd #[.int .u8 178, .int .u8 144, .int .u8 64, .int .u8 16] [178, 144, 64, 16] (by simp [bvs, bv]) (by simp) wd.heap.size 4 4 rfl rfl rfl
  have B2 := Lib.hid (B1.out.alloc B1.out.size (.cells #[.int .u8 178, .int .u8 144, .int .u8 64, .int .u8 16] 5))
  have h2 := HB.alloc (Nat.le_refl _) (.cells #[.int .u8 178, .int .u8 144, .int .u8 64, .int .u8 16] 5)
  generalize hwe : wd.alloc (.cells #[.int .u8 178, .int .u8 144, .int .u8 64, .int .u8 16] 5) = we at h1 h2 B2
  have hwz : wd.heap.size ≤ we.heap.size := by rw [← hwe]; simp
  have h3 := h2.more hwz
  have hew : we.heap.size = wd.heap.size + 1 := by rw [← hwe]; simp
  have Hwe := Lib.hid hwe
  clear hwe h2
  have HL := Lib.hid (Bss.newAt we 23 #[.slice (some ⟨wd.heap.size, 0, none⟩) 4 4, .slice (some ⟨w.heap.size, 0, none⟩) 16 32] [[178, 144, 64, 16], l.take 16] (by
    intro k hk
    match k, hk with
    | 0, _ => exact ⟨_, rfl, h1⟩
    | 1, _ => exact ⟨_, rfl, h3⟩) (by simp) we.heap.size 2 2 rfl rfl rfl)
  clear h1 h3 HB hwz
  rw [hew] at HL
  clear hew
  have B3 := Lib.hid (B2.out.alloc B2.out.size (.cells #[.slice (some ⟨wd.heap.size, 0, none⟩) 4 4, .slice (some ⟨w.heap.size, 0, none⟩) 16 32] 23))
  clear B1 B2
  go_enter Tryz.func7, Tryz.ntmps7
  go_upto_region 1 with fail
  rw [Hwd.out]
  clear Hwd
  go_wp2_with fail
  rw [Hwe.out]
  refine (concat HL.out hlen.out).mono ?_
  rintro e w3 ⟨v', rfl, ho, hb⟩
  have HO := Lib.hid (ho.more (base' := w.heap.size) B3.out.size)
  have HB2 := Lib.hid (B3.out.trans (hb.mono B3.out.size))
  clear ho hb HL B3 Hwe
  go_wp2_with fail
  go_ret
  exact ⟨_, rfl, by rw [HM.out]; exact HO.out, HB2.out⟩
theorem peerMade (w : World) (l : List UInt8) (hl : l.length = 32) (k : Nat) (hk : k ≤ 255) :
    Calls Tryz.prog 7 #[.agg (bvs l).toArray, .int .u8 (k : Int)] w fun e w' => Fresh w (made l k) e w' := by
  rcases (show k % 4 = 0 ∨ k % 4 = 1 ∨ k % 4 = 2 ∨ k % 4 = 3 by omega) with h | h | h | h
  · exact peerMade0 l hl k hk h
  · exact peerMade1 l hl k hk h
  · exact peerMade2 l hl k hk h
  · exact peerMade3 l hl k hk h
end
end Go.Proofs.YteodhonipbdplaaGreatDoor

/- What PeerMade comes to is a multihash; with a byte less, or more, it is none. -/
namespace Go.Proofs.YteodhonipbdplaaGreatDoor
theorem ok_two {a b : UInt8} (ha : a.toNat < 128) (hb : b.toNat < 128) (D : List UInt8) : Mh.ok (a :: b :: D) = decide (D.length = b.toNat) := by
  have h1 : Mh.uv (a :: b :: D) = some (a.toNat, 1) := by
    unfold Mh.uv; rw [Mh.uvGo_end (by omega) ha (by omega)]; simp
  have h2 : Mh.uv ((a :: b :: D).drop 1) = some (b.toNat, 1) := by
    show Mh.uv (b :: D) = _
    unfold Mh.uv; rw [Mh.uvGo_end (by omega) hb (by omega)]; simp
  have e : (((a :: b :: D).drop 1).drop 1) = D := rfl
  by_cases hl : D.length < b.toNat
  · unfold Mh.ok
    rw [Mh.read_less (by simp) h1 h2 (by omega) (by rw [e]; exact hl)]
    have : ¬ D.length = b.toNat := by omega
    simp [this]
  · unfold Mh.ok
    rw [Mh.read_some (by simp) h1 h2 (by omega) (by rw [e]; exact hl)]
    simp only [List.length_cons]
    congr 1
    apply propext
    omega
theorem ok_four (D : List UInt8) : Mh.ok (178 :: 144 :: 64 :: 16 :: D) = decide (D.length = 16) := by
  have h1 : Mh.uv (178 :: 144 :: 64 :: 16 :: D) = some (50 + 16 * 128 + 64 * 16384, 3) := by
    unfold Mh.uv
    rw [Mh.uvGo_next (by omega) (by decide), Mh.uvGo_next (by omega) (by decide), Mh.uvGo_end (by omega) (by decide) (by decide)]
    rfl
  have h2 : Mh.uv ((178 :: 144 :: 64 :: 16 :: D : List UInt8).drop 3) = some (16, 1) := by
    show Mh.uv (16 :: D) = _
    unfold Mh.uv; rw [Mh.uvGo_end (by omega) (by decide) (by omega)]; rfl
  have e : (((178 :: 144 :: 64 :: 16 :: D : List UInt8).drop 3).drop 1) = D := rfl
  by_cases hl : D.length < 16
  · unfold Mh.ok
    rw [Mh.read_less (by simp) h1 h2 (by omega) (by rw [e]; exact hl)]
    have : ¬ D.length = 16 := by omega
    simp [this]
  · unfold Mh.ok
    rw [Mh.read_some (by simp) h1 h2 (by omega) (by rw [e]; exact hl)]
    simp only [List.length_cons]
    congr 1
    apply propext
    omega
theorem torn_two {a b : UInt8} (ha : a.toNat < 128) (hb : b.toNat < 128) {D : List UInt8} (hD : D.length = b.toNat) {j : Nat} (hj : j < D.length + 2) : Mh.ok ((a :: b :: D).take j) = false := by
  match j, hj with
  | 0, _ => rfl
  | 1, _ => unfold Mh.ok; rw [Mh.read_short (by simp)]
  | j + 2, hj =>
    show Mh.ok (a :: b :: D.take j) = false
    rw [ok_two ha hb, List.length_take]
    have : ¬ min j D.length = b.toNat := by omega
    simp [this]
theorem torn_four {D : List UInt8} (hD : D.length = 16) {j : Nat} (hj : j < D.length + 4) : Mh.ok ((178 :: 144 :: 64 :: 16 :: D).take j) = false := by
  match j, hj with
  | 0, _ => rfl
  | 1, _ => unfold Mh.ok; rw [Mh.read_short (by simp)]
  | 2, _ => exact (by decide : Mh.ok [178, 144] = false)
  | 3, _ => exact (by decide : Mh.ok [178, 144, 64] = false)
  | j + 4, hj =>
    show Mh.ok (178 :: 144 :: 64 :: 16 :: D.take j) = false
    rw [ok_four, List.length_take]
    have : ¬ min j D.length = 16 := by omega
    simp [this]
section
variable {l : List UInt8} (hl : l.length = 32) (k : Nat)
include hl
theorem made_cases : (∃ a b : UInt8, ∃ D : List UInt8, made l k = a :: b :: D ∧ a.toNat < 128 ∧ b.toNat < 128 ∧ D.length = b.toNat ∧ D.length ≤ 32) ∨ ∃ D : List UInt8, made l k = 178 :: 144 :: 64 :: 16 :: D ∧ D.length = 16 := by
  unfold made
  split
  · exact .inl ⟨18, 32, Sha.sum l, rfl, by decide, by decide, by rw [sum_len]; rfl, by rw [sum_len]; omega⟩
  · split
    · exact .inl ⟨18, 32, l, rfl, by decide, by decide, by rw [hl]; rfl, by omega⟩
    · split
      · refine .inl ⟨0, UInt8.ofNat ((l.headD 0).toNat % 33), l.take ((l.headD 0).toNat % 33), rfl, by decide, ?_, ?_, by simp; omega⟩
        · rw [Wire.ofNat_toNat (by omega)]; omega
        · rw [Wire.ofNat_toNat (by omega), List.length_take]; omega
      · exact .inr ⟨l.take 16, rfl, by simp; omega⟩
theorem made_len : 2 ≤ (made l k).length ∧ (made l k).length ≤ 34 := by
  rcases made_cases hl k with ⟨a, b, D, e, _, _, h, h2⟩ | ⟨D, e, h⟩ <;> rw [e] <;> simp <;> omega
theorem made_ok : Mh.ok (made l k) = true := by
  rcases made_cases hl k with ⟨a, b, D, e, ha, hb, h, h2⟩ | ⟨D, e, h⟩
  · rw [e, ok_two ha hb]; simpa using h
  · rw [e, ok_four]; simpa using h
theorem made_torn {j : Nat} (hj : j < (made l k).length) : Mh.ok ((made l k).take j) = false := by
  rcases made_cases hl k with ⟨a, b, D, e, ha, hb, h, h2⟩ | ⟨D, e, h⟩ <;> rw [e] at hj ⊢
  · exact torn_two ha hb h hj
  · exact torn_four h hj
theorem made_more (x : UInt8) : Mh.ok (made l k ++ [x]) = false := by
  rcases made_cases hl k with ⟨a, b, D, e, ha, hb, h, h2⟩ | ⟨D, e, h⟩ <;> rw [e]
  · show Mh.ok (a :: b :: (D ++ [x])) = false
    rw [ok_two ha hb]
    have : ¬ (D ++ [x]).length = b.toNat := by simp; omega
    simpa using this
  · show Mh.ok (178 :: 144 :: 64 :: 16 :: (D ++ [x])) = false
    rw [ok_four]
    have : ¬ (D ++ [x]).length = 16 := by simp; omega
    simpa using this
end
end Go.Proofs.YteodhonipbdplaaGreatDoor

/- Package-level variables that hold errors. -/
namespace Go.Proofs.YteodhonipbdplaaGreatDoor
open Go.RowKit
/-- package-level variable g holds an error -/
def HasErr (w : World) (g : Nat) : Prop := ∃ t x, w.cell? ⟨g, 0, none⟩ = some (.iface t x)
theorem HasErr.below {w w' : World} {g B : Nat} (h : HasErr w g) (hb : Below B w w') (hg : g < B) : HasErr w' g := by
  obtain ⟨t, x, h⟩ := h; exact ⟨t, x, (hb.cell (p := ⟨g, 0, none⟩) hg).trans h⟩
theorem HasErr.step {w w' : World} {g : Nat} (h : HasErr w g) (hb : Below w.heap.size w w') : HasErr w' g := by
  obtain ⟨t, x, h⟩ := h
  exact ⟨t, x, (hb.cell (p := ⟨g, 0, none⟩) (World.block_lt_of_cell? w _ h)).trans h⟩
/-- an error that is not nil -/
def errAns (e : Ending) : Prop := ∃ t x, e = .returned (.iface t x)

end Go.Proofs.YteodhonipbdplaaGreatDoor

/- '[]byte(s)' of a string; strings as lists of bytes. -/
namespace Go.Proofs.YteodhonipbdplaaGreatDoor
open Go.RowKit
set_option maxRecDepth 100000

theorem below_freeze {B : Nat} {a w : World} (h : Below B a w) {p : Addr} (hp : B ≤ p.block) (n : Nat) : Below B a (w.freeze p n) := by
  unfold World.freeze
  split
  · exact h
  · refine ⟨h.os, h.tape, h.output, ?_, fun i hi => ?_⟩
    · have := h.size; simpa using this
    · have := h.block i hi
      have hne : p.block ≠ i := by omega
      simpa [Array.getElem?_modify, hne] using this
/-- '[]byte(s)' -/
theorem conv_bytes (w : World) (l : List UInt8) (hlen : l.length ≤ 140737488355328) {src : TypeId} {u : TypeDesc} (hs : Tryz.prog.underlying src = some u) :
    ∃ w1 c, (convert src 23 (.string (strOf l))).run Tryz.prog w = .ok (.slice (some ⟨w.heap.size, 0, none⟩) l.length c) w1 ∧ Bs w1 w1.heap.size (.slice (some ⟨w.heap.size, 0, none⟩) l.length c) l ∧ Below w.heap.size w w1 ∧ l.length ≤ c ∧ c ≤ 9223372036854775807 := by
  have hr := Lib.run_convert_string_bytes (P := Tryz.prog) w src 23 5 (strOf l) hs Tryz.underlying23 Tryz.underlying5
  rw [strOf_size] at hr
  have hge := grownCap_ge w l.length 0 5
  have hcm : grownCap w l.length 0 5 ≤ maxLen := grownCap_le_maxLen w l.length 0 5 (by unfold maxLen; omega)
  unfold maxLen at hcm
  refine ⟨_, _, hr, ⟨_, _, rfl, hge, hcm, fun hl => ⟨w.heap.size, 0, rfl, ?_, fun k hk => ?_⟩⟩, ?_, hge, hcm⟩
  · rw [Lib.bytesWorld_size]; omega
  · rw [Nat.zero_add, Lib.bytesWorld_cell _ _ _ _ (by rw [strOf_size]; exact hk), strOf_data]
    simp [bv, List.getD, hk]
  · exact below_freeze ((below_drew w).alloc (Nat.le_refl _) _) (by simp) _
end Go.Proofs.YteodhonipbdplaaGreatDoor
