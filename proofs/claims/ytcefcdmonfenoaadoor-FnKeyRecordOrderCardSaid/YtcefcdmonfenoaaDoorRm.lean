/- Rows of the call's own with elements of one cell; a record's addresses in memory. -/
import Derived.Test.YtcefcdmonfenoaaDoorRs
import Derived.Test.YtcefcdmonfenoaaDoorMem
import Derived.Test.YtcefcdmonfenoaaDoorWb
namespace Go.Proofs.YtcefcdmonfenoaaDoor
open Go.RowKit
set_option maxRecDepth 100000

/-- no byte among the cells -/
def NoU8 (cs : Array Value) : Prop := ∀ u ∈ cs.toList, ∀ n, u ≠ .int .u8 n
theorem Bs.keepU8 {w w' : World} {g B : Nat} {t : TypeId} {cs : Array Value} {v : Value} {l : List UInt8} (h : Bs w B v l) (hB : B ≤ w.heap.size) (hb : Blk w g t cs) (hn : NoU8 cs) (hg : w.grownBy w' (some g)) : Bs w' B v l := by
  refine h.keepRow hg hB ?_
  obtain ⟨A, c, rfl, h1, h2, h3⟩ := h
  rcases Nat.eq_zero_or_pos l.length with h0 | h0
  · exact .inl (List.length_eq_zero_iff.1 h0)
  · right; left
    obtain ⟨g', o, rfl, _, hc⟩ := h3 h0
    intro e
    have e' : g' = g := by simpa [Value.ownBlock] using e
    subst e'
    have h4 := hc 0 h0
    rw [hb.cell] at h4
    have hm := Array.mem_of_getElem? h4
    exact hn _ (by simpa using hm) _ rfl
theorem noU8_slice {v : Value} {w : World} {B : Nat} {l : List UInt8} (h : Bs w B v l) : ∀ n, v ≠ .int .u8 n := by
  obtain ⟨A, c, rfl, _⟩ := h.form
  intro n e; cases e

/-- a row of the call's own, each element one cell -/
def RowX (w : World) (base : Nat) (e : TypeId) (v : Value) (xs : List Value) : Prop := w.ownsRow base e 1 v xs.length xs
section
variable {w w' : World} {base : Nat} {e : TypeId} {v : Value} {xs : List Value}
theorem RowX.nil (w : World) (base : Nat) (e : TypeId) : RowX w base e (.slice none 0 0) [] := World.ownsRow_nil w base e 1
theorem RowX.lt (h : RowX w base e v xs) : ∀ k, v.ownBlock = some k → base ≤ k ∧ k < w.heap.size := World.ownsRow.lt h
theorem RowX.kept {row : Option Nat} (h : RowX w base e v xs) (hg : w.grownBy w' row) (hne : v.ownBlock = none ∨ v.ownBlock ≠ row) : RowX w' base e v xs := World.ownsRow.kept h hg hne
theorem RowX.alloc (h : RowX w base e v xs) (o : Obj) : RowX (w.alloc o) base e v xs := World.ownsRow.alloc h o
theorem RowX.drew (h : RowX w base e v xs) : RowX w.drew base e v xs := h
theorem RowX.drewN (h : RowX w base e v xs) (n : Nat) : RowX (w.drewN n) base e v xs := h
theorem RowX.step (h : RowX w base e v xs) (hb : Below w.heap.size w w') : RowX w' base e v xs := by
  unfold RowX at h ⊢
  refine ⟨h.1, ?_⟩
  rcases h.2 with h2 | ⟨g, cap, cur, rfl, hbg, hg, r⟩
  · exact .inl h2
  · exact .inr ⟨g, cap, cur, rfl, hbg, by rw [hb.block g (Array.getElem?_eq_some_iff.1 hg).1]; exact hg, r⟩
theorem RowX.form (h : RowX w base e v xs) : ∃ A c, v = .slice A xs.length c ∧ xs.length ≤ c ∧ c ≤ 9223372036854775807 ∧ (0 < xs.length → ∃ g, A = some ⟨g, 0, none⟩ ∧ base ≤ g ∧ g < w.heap.size ∧ ∀ k, (hk : k < xs.length) → w.cell? ⟨g, k, none⟩ = some xs[k]) := by
  have h' := h
  unfold RowX at h
  rcases h.2 with ⟨rfl, h0⟩ | ⟨g, cap, cur, rfl, hbg, hg, hnc, hcm, hcs, ht⟩
  · exact ⟨none, 0, by rw [h0], by omega, by omega, fun hp => by omega⟩
  · refine ⟨_, cap, rfl, hnc, by unfold maxLen at hcm; exact hcm, fun _ => ⟨g, rfl, hbg, (Array.getElem?_eq_some_iff.1 hg).1, fun k hk => ?_⟩⟩
    have := World.ownsRow.cells h' (g := g) rfl k xs[k] (List.getElem?_eq_getElem hk)
    rw [Addr.add] at this
    split at this
    · next h0 => subst h0; simpa using this
    · simpa using this
end

theorem RowX.sliceForm {w : World} {base : Nat} {e : TypeId} {v : Value} {xs : List Value} (h : RowX w base e v xs) : ∃ A n c, v = .slice A n c := by
  obtain ⟨A, c, rfl, _⟩ := h.form; exact ⟨_, _, _, rfl⟩
/-- append of one element, which lies in a block of its own -/
theorem wpList_app1 {ops : Array Oper} {rest : List Oper} {o : Oper} {a : Act} {Q : Exit → Act → World → Prop} {w : World} (hgd : o.guard = none) (s x : Operand) {t e : TypeId} {z : Value} {bs : Nat}
    (ho : o.op = .call { callee := .builtin .append, args := #[s, x], argTypes := #[t, t] }) (ht : Tryd.prog.underlying t = some (.slice e)) (hinf : (Tryd.prog.info? e).map (fun i => (i.zero, i.size, i.bytes)) = some (some z, 1, bs)) (hz : z.cells.size = 1)
    {base : Nat} {v : Value} {xs : List Value} {u : Value} {ad : Addr} {c : Nat} (hs : a.eval s = v) (hx : a.eval x = .slice (some ad) 1 c) (hown : RowX w base e v xs) (hc : w.cell? ad = some u) (h1 : u.oneCell' = true) (hlen : xs.length + 1 ≤ 1000000000000) (hby : bs ≤ 24) (hb : base ≤ w.heap.size)
    (h : ∀ v' w', RowX w' base e v' (xs ++ [u]) → w.grownBy w' v.ownBlock → Moved w v v' → wpList Tryd.prog ops Q rest (a.put o.dst v') w') :
    wpList Tryd.prog ops Q (o :: rest) a w := by
  obtain ⟨i0, hi, hz0, hz1, hz2⟩ := info_parts hinf
  refine wpList_append_own_at (P := Tryd.prog) w hgd s x t ho base e i0 z 1 bs ht hi hz0 hz1 hz2 hz (by decide) v xs.length xs hs hown ad 1 c [u] hx rfl ?_ ?_ ?_ ?_ hb ?_
  · intro j y hj
    match j, hj with
    | 0, hj =>
      obtain rfl : u = y := by simpa using hj
      simpa [Addr.add] using hc
    | j + 1, hj => simp at hj
  · intro y hy
    obtain rfl : y = u := by simpa using hy
    exact h1
  · unfold maxLen; omega
  · have : (xs.length + 1) * bs ≤ (xs.length + 1) * 24 := Nat.mul_le_mul_left _ hby
    omega
  · intro v' w' r1 r2 _ r4
    refine h v' w' ?_ r2 ?_
    · unfold RowX; rw [List.length_append]; exact r1
    · rcases r4 with r4 | r4
      · exact .inl r4
      · exact .inr ⟨_, r4, Nat.le_refl _⟩

/-- an address where it lies; 'row': a block that it does not share -/
def Adr (w : World) (base : Nat) (row : Option Nat) (u : Value) (a : List UInt8) : Prop :=
  ∃ ga A n c, u = .pointer (some ⟨ga, 0, none⟩) ∧ base ≤ ga ∧ some ga ≠ row ∧ Blk w ga 101 #[.slice A n c] ∧ Bs w w.heap.size (.slice A n c) a ∧ a.length ≤ 140737488355328 ∧ (a = [] ∨ (Value.slice A n c).ownBlock ≠ row ∨ row = none)
def AllAdr (w : World) (base : Nat) (row : Option Nat) : List Value → List (List UInt8) → Prop
  | [], [] => True
  | u :: us, a :: ls => Adr w base row u a ∧ AllAdr w base row us ls
  | _, _ => False

section
variable {w w' : World} {base : Nat} {row row' : Option Nat} {u v : Value} {a : List UInt8} {us : List Value} {L : List (List UInt8)} {g : Nat} {t : TypeId} {cs : Array Value}
theorem Adr.step (h : Adr w base row u a) (hb : Below w.heap.size w w') : Adr w' base row u a := by
  obtain ⟨ga, A, n, c, rfl, h1, h2, h3, h4, h5, h6⟩ := h
  exact ⟨ga, A, n, c, rfl, h1, h2, h3.step hb, h4.step hb, h5, h6⟩
theorem Adr.keepBlk (h : Adr w base row u a) (hb : Blk w g t cs) (hn : NoU8 cs) (hg : w.grownBy w' (some g)) (hB : g < base) : Adr w' base row u a := by
  obtain ⟨ga, A, n, c, rfl, h1, h2, h3, h4, h5, h6⟩ := h
  exact ⟨ga, A, n, c, rfl, h1, h2, h3.grown hg (fun e => by injection e with e; omega), (h4.keepU8 (Nat.le_refl _) hb hn hg).more hg.size, h5, h6⟩
/-- the row has grown, and perhaps moved -/
theorem Adr.rowed (h : Adr w base row u a) (hg : w.grownBy w' row) (hm : row' = row ∨ ∃ g, row' = some g ∧ w.heap.size ≤ g) : Adr w' base row' u a := by
  obtain ⟨ga, A, n, c, rfl, h1, h2, h3, h4, h5, h6⟩ := h
  have hlt := h3.lt
  refine ⟨ga, A, n, c, rfl, h1, ?_, h3.grown hg h2, (h4.keepRow hg (Nat.le_refl _) h6).more hg.size, h5, ?_⟩
  · rcases hm with rfl | ⟨g, rfl, hm⟩
    · exact h2
    · intro e; injection e with e; omega
  · rcases hm with rfl | ⟨g, rfl, hm⟩
    · exact h6
    · rcases Nat.eq_zero_or_pos a.length with h0 | h0
      · exact .inl (List.length_eq_zero_iff.1 h0)
      · right; left
        obtain ⟨A', c', he, _, _, hcell⟩ := h4
        injection he with e1 e2 e3
        subst e1
        obtain ⟨g', o, rfl, hg', _⟩ := hcell h0
        intro e
        have : g' = g := by simpa [Value.ownBlock] using e
        omega
theorem AllAdr.step : ∀ {us : List Value} {L : List (List UInt8)}, AllAdr w base row us L → Below w.heap.size w w' → AllAdr w' base row us L
  | [], [], _, _ => trivial
  | _ :: _, _ :: _, h, hb => ⟨h.1.step hb, AllAdr.step h.2 hb⟩
theorem AllAdr.keepBlk (hb : Blk w g t cs) (hn : NoU8 cs) (hg : w.grownBy w' (some g)) (hB : g < base) : ∀ {us : List Value} {L : List (List UInt8)}, AllAdr w base row us L → AllAdr w' base row us L
  | [], [], _ => trivial
  | _ :: _, _ :: _, h => ⟨h.1.keepBlk hb hn hg hB, AllAdr.keepBlk hb hn hg hB h.2⟩
theorem AllAdr.rowed (hg : w.grownBy w' row) (hm : row' = row ∨ ∃ g, row' = some g ∧ w.heap.size ≤ g) : ∀ {us : List Value} {L : List (List UInt8)}, AllAdr w base row us L → AllAdr w' base row' us L
  | [], [], _ => trivial
  | _ :: _, _ :: _, h => ⟨h.1.rowed hg hm, AllAdr.rowed hg hm h.2⟩
theorem AllAdr.length : ∀ {us : List Value} {L : List (List UInt8)}, AllAdr w base row us L → us.length = L.length
  | [], [], _ => rfl
  | _ :: _, _ :: _, h => by simp [AllAdr.length h.2]
theorem AllAdr.snoc : ∀ {us : List Value} {L : List (List UInt8)}, AllAdr w base row us L → Adr w base row u a → AllAdr w base row (us ++ [u]) (L ++ [a])
  | [], [], _, h => ⟨h, trivial⟩
  | _ :: _, _ :: _, h, k => ⟨h.1, AllAdr.snoc h.2 k⟩
theorem AllAdr.at_ : ∀ {us : List Value} {L : List (List UInt8)}, AllAdr w base row us L → ∀ k, (hk : k < L.length) → ∃ (h : k < us.length), Adr w base row us[k] L[k]
  | [], [], _, k, hk => by simp at hk
  | u :: us, a :: ls, h, 0, _ => ⟨by simp, h.1⟩
  | u :: us, a :: ls, h, k + 1, hk => by
    obtain ⟨h1, h2⟩ := AllAdr.at_ h.2 k (by simpa using hk)
    exact ⟨by simpa using h1, by simpa using h2⟩

/-- the slice value v reads as a list of addresses, all of the call's own -/
def AdsAt (base : Nat) (w : World) (v : Value) (L : List (List UInt8)) : Prop :=
  ∃ xs, RowX w base 99 v xs ∧ AllAdr w base v.ownBlock xs L
theorem AdsAt.nil (base : Nat) (w : World) : AdsAt base w (.slice none 0 0) [] := ⟨[], RowX.nil w base _, trivial⟩
theorem AdsAt.step (h : AdsAt base w v L) (hb : Below w.heap.size w w') : AdsAt base w' v L := by
  obtain ⟨xs, h1, h2⟩ := h; exact ⟨xs, h1.step hb, h2.step hb⟩
theorem AdsAt.keepBlk (h : AdsAt base w v L) (hb : Blk w g t cs) (hn : NoU8 cs) (hg : w.grownBy w' (some g)) (hB : g < base) : AdsAt base w' v L := by
  obtain ⟨xs, h1, h2⟩ := h
  refine ⟨xs, h1.kept hg ?_, h2.keepBlk hb hn hg hB⟩
  right
  intro e
  have := (h1.lt g e).1
  omega
theorem AdsAt.slice (h : AdsAt base w v L) : ∃ A c, v = .slice A L.length c ∧ L.length ≤ c ∧ c ≤ 9223372036854775807 := by
  obtain ⟨xs, h1, h2⟩ := h
  obtain ⟨A, c, rfl, a1, a2, _⟩ := h1.form
  rw [h2.length] at a1 ⊢
  exact ⟨A, c, rfl, a1, a2⟩
theorem AdsAt.at_ {A : Option Addr} {n c k : Nat} (h : AdsAt base w (.slice A n c) L) (hk : k < L.length) :
    ∃ g ga A' n' c', A = some ⟨g, 0, none⟩ ∧ w.cell? ⟨g, k, none⟩ = some (.pointer (some ⟨ga, 0, none⟩)) ∧ w.cell? ⟨ga, 0, none⟩ = some (.slice A' n' c') ∧ Bs w w.heap.size (.slice A' n' c') L[k] ∧ L[k].length ≤ 140737488355328 := by
  obtain ⟨xs, h1, h2⟩ := h
  obtain ⟨hx, ga, A', n', c', hu, _, _, hb, hbs, hl, _⟩ := h2.at_ k hk
  obtain ⟨A1, c1, he, _, _, hc⟩ := h1.form
  injection he with e1 e2 e3
  subst e1
  obtain ⟨g, rfl, _, _, hcell⟩ := hc (by omega)
  refine ⟨g, ga, A', n', c', rfl, ?_, hb.cell 0, hbs, hl⟩
  rw [hcell k hx, hu]
end
theorem Tryd.infoAI : (Tryd.prog.info? 99).map (fun i => (i.zero, i.size, i.bytes)) = some (some (.pointer none), 1, 8) := by kernel_rfl
theorem Tryd.infoBs : (Tryd.prog.info? 23).map (fun i => (i.zero, i.size, i.bytes)) = some (some (.slice none 0 0), 1, 24) := by kernel_rfl
end Go.Proofs.YtcefcdmonfenoaaDoor
