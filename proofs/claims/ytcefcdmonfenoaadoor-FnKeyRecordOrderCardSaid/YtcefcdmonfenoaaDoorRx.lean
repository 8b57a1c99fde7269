/- Appends of one element as steps of a region that draws; what a record's addresses become by one. -/
import Derived.Test.YtcefcdmonfenoaaDoorRw
import Derived.Test.YtcefcdmonfenoaaDoorCon
import Derived.Deep.RegionLaw
namespace Go.Proofs.YtcefcdmonfenoaaDoor
open Go.RowKit
set_option maxRecDepth 100000

/-- append of one element at the operation -/
theorem wp_app1 {o : Oper} {a : Act} {K : Act → World → Prop} {Q : Exit → Act → World → Prop} {w : World} (s x : Operand) {t e : TypeId} {z : Value} {bs : Nat}
    (ho : o.op = .call { callee := .builtin .append, args := #[s, x], argTypes := #[t, t] }) (ht : Tryd.prog.underlying t = some (.slice e)) (hinf : (Tryd.prog.info? e).map (fun i => (i.zero, i.size, i.bytes)) = some (some z, 1, bs)) (hz : z.cells.size = 1)
    {base : Nat} {v : Value} {xs : List Value} {u : Value} {ad : Addr} {c : Nat} (hs : a.eval s = v) (hx : a.eval x = .slice (some ad) 1 c) (hown : RowX w base e v xs) (hc : w.cell? ad = some u) (h1 : u.oneCell' = true) (hlen : xs.length + 1 ≤ 1000000000000) (hby : bs ≤ 24) (hb : base ≤ w.heap.size)
    (h : ∀ A n c w', RowX w' base e (.slice A n c) (xs ++ [u]) → w.grownBy w' v.ownBlock → Moved w v (.slice A n c) → K (a.put o.dst (.slice A n c)) w') : o.wp Tryd.prog a w K Q := by
  obtain ⟨i0, hi, hz0, hz1, hz2⟩ := info_parts hinf
  obtain ⟨v', w', hr, r1, r2, _, r4⟩ := run_append_own_at (P := Tryd.prog) w base t o.type e i0 z 1 bs ht hi hz0 hz1 hz2 hz (by decide) v xs.length xs hown ad 1 c [u] rfl (by
    intro j y hj
    match j, hj with
    | 0, hj =>
      obtain rfl : u = y := by simpa using hj
      simpa [Addr.add] using hc
    | j + 1, hj => simp at hj) (by
    intro y hy
    obtain rfl : y = u := by simpa using hy
    exact h1) (by unfold maxLen; omega) (by
    have : (xs.length + 1) * bs ≤ (xs.length + 1) * 24 := Nat.mul_le_mul_left _ hby
    omega) hb
  have hrow : RowX w' base e v' (xs ++ [u]) := by unfold RowX; rw [List.length_append]; exact r1
  obtain ⟨A, n, c', rfl⟩ := hrow.sliceForm
  unfold Oper.wp execOp
  simp only [ho, resolve, invoke, builtin, Sem.run_bind, Sem.run_pure, Result.andThen_ok, List.map_toArray, List.map_cons, List.map_nil, hs, hx, hr]
  refine h A n c' w' hrow r2 ?_
  rcases r4 with r4 | r4
  · exact .inl r4
  · exact .inr ⟨_, r4, Nat.le_refl _⟩
/-- .. as a step of a region that draws -/
theorem step_app1 {ops : Array Oper} {o : Oper} {a : Act} {K : Act → World → Prop} {Q : Exit → Act → World → Prop} {E : Prop} {w : World} (hgd : o.guard = none) (s x : Operand) {t e : TypeId} {z : Value} {bs : Nat}
    (ho : o.op = .call { callee := .builtin .append, args := #[s, x], argTypes := #[t, t] }) (ht : Tryd.prog.underlying t = some (.slice e)) (hinf : (Tryd.prog.info? e).map (fun i => (i.zero, i.size, i.bytes)) = some (some z, 1, bs)) (hz : z.cells.size = 1)
    {base : Nat} {v : Value} {xs : List Value} {u : Value} {ad : Addr} {c : Nat} (hs : a.eval s = v) (hx : a.eval x = .slice (some ad) 1 c) (hown : RowX w base e v xs) (hc : w.cell? ad = some u) (h1 : u.oneCell' = true) (hlen : xs.length + 1 ≤ 1000000000000) (hby : bs ≤ 24) (hb : base ≤ w.heap.size)
    (h : ∀ A n c w', RowX w' base e (.slice A n c) (xs ++ [u]) → w.grownBy w' v.ownBlock → Moved w v (.slice A n c) → K (a.put o.dst (.slice A n c)) w') :
    if Region.wanted o (yielded ops a.tmps) = true then Oper.wp Tryd.prog o a w K Q else E := by
  have hw : Region.wanted o (yielded ops a.tmps) = true := by simp [Region.wanted, hgd]
  rw [if_pos hw]
  exact wp_app1 s x ho ht hinf hz hs hx hown hc h1 hlen hby hb h

section
variable {W wr w1 w3 : World} {ge : Nat} {pid ads ads' : Value} {sq : Int} {l a : List UInt8} {L : List (List UInt8)} {xs : List Value} {A : Option Addr} {n c : Nat} {ob : Obj}
/-- an address of its own making, put behind the others, and stored in the record's block -/
theorem adsPush (hbk : Blk wr ge 98 #[pid, .int .u64 sq, ads]) (hp : Bs wr ge pid l) (hrow : RowX wr (ge + 1) 99 ads xs) (hall : AllAdr wr (ge + 1) ads.ownBlock xs L)
    (hbl : Below W.heap.size W wr) (hW : W.heap.size ≤ ge) (h1 : Below wr.heap.size wr w1) (ho : Own w1 wr.heap.size (.slice A n c) a) (hal : a.length ≤ 140737488355328) {ga : Nat} (hga : ga = w1.heap.size)
    (hrow' : RowX w3 (ge + 1) 99 ads' (xs ++ [.pointer (some ⟨ga, 0, none⟩)]))
    (hg : ((w1.alloc (.cells #[.slice A n c] 101)).alloc ob).grownBy w3 ads.ownBlock) (hm : Moved ((w1.alloc (.cells #[.slice A n c] 101)).alloc ob) ads ads') :
    Blk (w3.setCell ⟨ge, 2, none⟩ ads') ge 98 #[pid, .int .u64 sq, ads'] ∧ Bs (w3.setCell ⟨ge, 2, none⟩ ads') ge pid l ∧ AdsAt (ge + 1) (w3.setCell ⟨ge, 2, none⟩ ads') ads' (L ++ [a]) ∧ Below W.heap.size W (w3.setCell ⟨ge, 2, none⟩ ads') := by
  subst hga
  have hgl := hbk.lt
  have hn : NoU8 #[pid, .int .u64 sq, ads] := by
    obtain ⟨A1, c1, rfl, _⟩ := hp.form
    obtain ⟨A2, n2, c2, rfl⟩ := hrow.sliceForm
    exact noU8_rec
  have hlt := hrow.lt
  have hb1 := below_alloc w1 (.cells #[.slice A n c] 101)
  have hb2 := below_alloc (w1.alloc (.cells #[.slice A n c] 101)) ob
  have hnew := Blk.new w1 101 #[.slice A n c]
  have hs1 := h1.size
  have hadr : Adr (w1.alloc (.cells #[.slice A n c] 101)) (ge + 1) ads.ownBlock (.pointer (some ⟨w1.heap.size, 0, none⟩)) a := by
    refine ⟨w1.heap.size, A, n, c, rfl, by omega, ?_, hnew, ho.bs.step hb1, hal, ?_⟩
    · intro e
      have := (hlt _ e.symm).2
      omega
    · right
      cases hab : ads.ownBlock with
      | none => exact .inr rfl
      | some j =>
        left
        intro e
        have := (hlt j hab).2
        have := (ho.lt j e).1
        omega
  generalize w1.alloc (.cells #[.slice A n c] 101) = wa at *
  have hba : Below wr.heap.size wr (wa.alloc ob) := below_trans h1 (below_trans hb1 hb2)
  have hm' : ads'.ownBlock = ads.ownBlock ∨ ∃ k, ads'.ownBlock = some k ∧ (wa.alloc ob).heap.size ≤ k := hm
  have hne : ∀ k, ads.ownBlock = some k → ge ≠ k := fun k hk => by have := (hlt k hk).1; omega
  have hblk := (hbk.step hba).grown hg (fun e => hne ge e.symm rfl)
  have hge : ge ≤ (wa.alloc ob).heap.size := by have := hba.size; omega
  have hpid : Bs w3 ge pid l := (hp.below (hba.mono (by omega))).grown hg hge (fun k hk => by have := (hlt k hk).1; omega)
  have hall' := ((hall.step (below_trans h1 hb1)).snoc hadr).step hb2 |>.rowed hg hm'
  have hg2 : w3.grownBy (w3.setCell ⟨ge, 2, none⟩ ads') (some ge) := grown_setCell (grown_refl _ _) (.inl rfl) _
  have hads : AdsAt (ge + 1) w3 ads' (L ++ [a]) := ⟨_, hrow', hall'⟩
  have hge3 : ge ≤ w3.heap.size := Nat.le_trans hge hg.size
  refine ⟨hblk.set 2 _, hpid.keepU8 hge3 hblk hn hg2, hads.keepBlk hblk hn hg2 (by omega), ?_⟩
  have hb3 : Below W.heap.size W w3 := (hbl.trans (hba.mono hbl.size)).grown hg (Nat.le_trans hbl.size hba.size) (fun k hk => by have := (hlt k hk).1; omega)
  exact hb3.grown hg2 hb3.size (fun k hk => by injection hk with hk; omega)
end
end Go.Proofs.YtcefcdmonfenoaaDoor
