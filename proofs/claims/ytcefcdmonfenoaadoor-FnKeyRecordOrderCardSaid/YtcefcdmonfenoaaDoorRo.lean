/- impl.RecordOf. -/
import Derived.Test.YtcefcdmonfenoaaDoorRi
namespace Go.Proofs.YtcefcdmonfenoaaDoor
open Go.RowKit
set_option maxRecDepth 100000
attribute [local go_sem ↓] Go.wp_at_zero Go.wp_at_succ

/-- bytes that do not lie in a row -/
def BsO (w : World) (row : Option Nat) (u : Value) (a : List UInt8) : Prop := Bs w w.heap.size u a ∧ (a = [] ∨ u.ownBlock ≠ row ∨ row = none)
def AllBsO (w : World) (row : Option Nat) : List Value → List (List UInt8) → Prop
  | [], [] => True
  | u :: us, a :: ls => BsO w row u a ∧ AllBsO w row us ls
  | _, _ => False
section
variable {w w' : World} {row row' : Option Nat} {u : Value} {a : List UInt8} {g : Nat} {t : TypeId} {cs : Array Value}
theorem BsO.step (h : BsO w row u a) (hb : Below w.heap.size w w') : BsO w' row u a := ⟨h.1.step hb, h.2⟩
theorem BsO.keepBlk (h : BsO w row u a) (hb : Blk w g t cs) (hn : NoU8 cs) (hg : w.grownBy w' (some g)) : BsO w' row u a := ⟨(h.1.keepU8 (Nat.le_refl _) hb hn hg).more hg.size, h.2⟩
theorem BsO.rowed (h : BsO w row u a) (hg : w.grownBy w' row) (hm : row' = row ∨ ∃ g, row' = some g ∧ w.heap.size ≤ g) : BsO w' row' u a := by
  refine ⟨(h.1.keepRow hg (Nat.le_refl _) h.2).more hg.size, ?_⟩
  rcases hm with rfl | ⟨g, rfl, hm⟩
  · exact h.2
  · obtain ⟨A, c, rfl, _, _, hc⟩ := h.1
    rcases Nat.eq_zero_or_pos a.length with h0 | h0
    · exact .inl (List.length_eq_zero_iff.1 h0)
    · right; left
      obtain ⟨g', o, rfl, hg', _⟩ := hc h0
      intro e
      have : g' = g := by simpa [Value.ownBlock] using e
      omega
theorem AllBsO.step : ∀ {us : List Value} {L : List (List UInt8)}, AllBsO w row us L → Below w.heap.size w w' → AllBsO w' row us L
  | [], [], _, _ => trivial
  | _ :: _, _ :: _, h, hb => ⟨h.1.step hb, AllBsO.step h.2 hb⟩
theorem AllBsO.keepBlk (hb : Blk w g t cs) (hn : NoU8 cs) (hg : w.grownBy w' (some g)) : ∀ {us : List Value} {L : List (List UInt8)}, AllBsO w row us L → AllBsO w' row us L
  | [], [], _ => trivial
  | _ :: _, _ :: _, h => ⟨h.1.keepBlk hb hn hg, AllBsO.keepBlk hb hn hg h.2⟩
theorem AllBsO.rowed (hg : w.grownBy w' row) (hm : row' = row ∨ ∃ g, row' = some g ∧ w.heap.size ≤ g) : ∀ {us : List Value} {L : List (List UInt8)}, AllBsO w row us L → AllBsO w' row' us L
  | [], [], _ => trivial
  | _ :: _, _ :: _, h => ⟨h.1.rowed hg hm, AllBsO.rowed hg hm h.2⟩
theorem AllBsO.length : ∀ {us : List Value} {L : List (List UInt8)}, AllBsO w row us L → us.length = L.length
  | [], [], _ => rfl
  | _ :: _, _ :: _, h => by simp [AllBsO.length h.2]
theorem AllBsO.snoc : ∀ {us : List Value} {L : List (List UInt8)}, AllBsO w row us L → BsO w row u a → AllBsO w row (us ++ [u]) (L ++ [a])
  | [], [], _, h => ⟨h, trivial⟩
  | _ :: _, _ :: _, h, k => ⟨h.1, AllBsO.snoc h.2 k⟩
theorem AllBsO.at_ : ∀ {us : List Value} {L : List (List UInt8)}, AllBsO w row us L → ∀ k, (hk : k < L.length) → ∃ (h : k < us.length), BsO w row us[k] L[k]
  | [], [], _, k, hk => by simp at hk
  | u :: us, a :: ls, h, 0, _ => ⟨by simp, h.1⟩
  | u :: us, a :: ls, h, k + 1, hk => by
    obtain ⟨h1, h2⟩ := AllBsO.at_ h.2 k (by simpa using hk)
    exact ⟨by simpa using h1, by simpa using h2⟩
/-- a row of the call's own of slices of bytes -/
def BssO (base : Nat) (w : World) (v : Value) (L : List (List UInt8)) : Prop := ∃ xs, RowX w base 23 v xs ∧ AllBsO w v.ownBlock xs L
variable {base : Nat} {v : Value} {L : List (List UInt8)}
theorem BssO.nil (base : Nat) (w : World) : BssO base w (.slice none 0 0) [] := ⟨[], RowX.nil w base _, trivial⟩
theorem BssO.step (h : BssO base w v L) (hb : Below w.heap.size w w') : BssO base w' v L := by
  obtain ⟨xs, h1, h2⟩ := h; exact ⟨xs, h1.step hb, h2.step hb⟩
theorem BssO.keepBlk (h : BssO base w v L) (hb : Blk w g t cs) (hn : NoU8 cs) (hg : w.grownBy w' (some g)) (hB : g < base) : BssO base w' v L := by
  obtain ⟨xs, h1, h2⟩ := h
  exact ⟨xs, h1.kept hg (.inr fun e => by have := (h1.lt g e).1; omega), h2.keepBlk hb hn hg⟩
theorem BssO.bss (h : BssO base w v L) : Bss w w.heap.size v L := by
  obtain ⟨xs, h1, h2⟩ := h
  obtain ⟨A, c, rfl, a1, a2, hc⟩ := h1.form
  have hl := h2.length
  refine ⟨A, c, by rw [hl], by omega, a2, fun hp => ?_⟩
  obtain ⟨g, rfl, _, hg, hcell⟩ := hc (by omega)
  refine ⟨g, 0, rfl, hg, fun k hk => ?_⟩
  obtain ⟨hx, hb⟩ := h2.at_ k hk
  exact ⟨xs[k], by rw [Nat.zero_add]; exact hcell k hx, hb.1⟩
end
section
variable {W wr w1 w3 : World} {go : Nat} {p ads ads' x : Value} {sq : Int} {l a : List UInt8} {L : List (List UInt8)} {xs : List Value} {ob : Obj}
theorem bssPush (hbk : Blk wr go 49 #[p, .int .u64 sq, ads]) (hp : BsO wr ads.ownBlock p l) (hrow : RowX wr (go + 1) 23 ads xs) (hall : AllBsO wr ads.ownBlock xs L)
    (hbl : Below W.heap.size W wr) (hW : W.heap.size ≤ go) (h1 : Below wr.heap.size wr w1) (ho : Own w1 wr.heap.size x a)
    (hrow' : RowX w3 (go + 1) 23 ads' (xs ++ [x])) (hg : (w1.alloc ob).grownBy w3 ads.ownBlock) (hm : Moved (w1.alloc ob) ads ads') :
    Blk (w3.setCell ⟨go, 2, none⟩ ads') go 49 #[p, .int .u64 sq, ads'] ∧ BsO (w3.setCell ⟨go, 2, none⟩ ads') ads'.ownBlock p l ∧ BssO (go + 1) (w3.setCell ⟨go, 2, none⟩ ads') ads' (L ++ [a]) ∧ Below W.heap.size W (w3.setCell ⟨go, 2, none⟩ ads') := by
  have hgl := hbk.lt
  have hn : NoU8 #[p, .int .u64 sq, ads] := by
    obtain ⟨A1, c1, rfl, _⟩ := hp.1.form
    obtain ⟨A2, n2, c2, rfl⟩ := hrow.sliceForm
    exact noU8_rec
  have hlt := hrow.lt
  have hb2 := below_alloc w1 ob
  have hs1 := h1.size
  have hx : BsO w1 ads.ownBlock x a := by
    refine ⟨ho.bs, .inr ?_⟩
    cases hab : ads.ownBlock with
    | none => exact .inr rfl
    | some j =>
      left
      intro e
      have := (hlt j hab).2
      have := (ho.lt j e).1
      omega
  have hba : Below wr.heap.size wr (w1.alloc ob) := below_trans h1 hb2
  have hm' : ads'.ownBlock = ads.ownBlock ∨ ∃ k, ads'.ownBlock = some k ∧ (w1.alloc ob).heap.size ≤ k := hm
  have hne : ∀ k, ads.ownBlock = some k → go ≠ k := fun k hk => by have := (hlt k hk).1; omega
  have hblk := (hbk.step hba).grown hg (fun e => hne go e.symm rfl)
  have hpid := (hp.step hba).rowed hg hm'
  have hall' := ((hall.step h1).snoc hx).step hb2 |>.rowed hg hm'
  have hg2 : w3.grownBy (w3.setCell ⟨go, 2, none⟩ ads') (some go) := grown_setCell (grown_refl _ _) (.inl rfl) _
  have hads : BssO (go + 1) w3 ads' (L ++ [a]) := ⟨_, hrow', hall'⟩
  refine ⟨hblk.set 2 _, hpid.keepBlk hblk hn hg2, hads.keepBlk hblk hn hg2 (by omega), ?_⟩
  have hb3 : Below W.heap.size W w3 := (hbl.trans (hba.mono hbl.size)).grown hg (Nat.le_trans hbl.size hba.size) (fun k hk => by have := (hlt k hk).1; omega)
  exact hb3.grown hg2 hb3.size (fun k hk => by injection hk with hk; omega)
end

/-- what RecordOf answers -/
def RecOfAns (w : World) (l : List UInt8) (e : Ending) (w' : World) : Prop :=
  Below w.heap.size w w' ∧ ((recDec l = none ∧ ∃ v', e = .returned (.tuple #[v', .bool false]) ∧ RecVal w' w'.heap.size v' RV.none) ∨
    ∃ R v', recDec l = some R ∧ e = .returned (.tuple #[v', .bool true]) ∧ RecVal w' w'.heap.size v' R)
theorem threeCells {W : World} {g : Nat} {t : TypeId} {a b c : Value} (h : Blk W g t #[a, b, c]) : W.cell? ⟨g, 0, none⟩ = some a ∧ W.cell? ⟨g, 1, none⟩ = some b ∧ W.cell? ⟨g, 2, none⟩ = some c := ⟨h.cell 0, h.cell 1, h.cell 2⟩
theorem threeFree {W : World} {g : Nat} {t : TypeId} {cs : Array Value} (h : Blk W g t cs) : W.frozen? ⟨g, 0, none⟩ = false ∧ W.frozen? ⟨g, 1, none⟩ = false ∧ W.frozen? ⟨g, 2, none⟩ = false := ⟨h.free 0, h.free 1, h.free 2⟩
theorem storeThree {w : World} {g : Nat} {t : TypeId} {x0 x1 x2 : Value} (hb : Blk w g t #[x0, x1, x2]) (a b c : Value) :
    ∃ wF, Hid ((((w.setCell ⟨g, 0, none⟩ a).setCell ⟨g, 1, none⟩ b).setCell ⟨g, 2, none⟩ c) = wF) ∧ Blk wF g t #[a, b, c] ∧ w.grownBy wF (some g) := ⟨_, rfl, three_all hb⟩

theorem layNew (w : World) (t : TypeId) (cs : Array Value) : ∃ wF, Hid (w.alloc (.cells cs t) = wF) ∧ Blk wF w.heap.size t cs ∧ Below w.heap.size w wF := ⟨_, rfl, Blk.new w t cs, below_alloc w _⟩
theorem goOf {w : World} {g n : Nat} {t : TypeId} {cs : Array Value} (_h : Blk w g t cs) (hg : n ≤ g) : ∃ gC, g = gC ∧ n ≤ gC := ⟨g, rfl, hg⟩

section
variable {w : World} {v : Value} {l : List UInt8}
set_option maxHeartbeats 4000000 in
theorem recordOf (hv : Bs w w.heap.size v l) (he : RErr w) (hlen : l.length ≤ 1000000000) :
    Calls Tryd.prog 46 #[v] w fun e w' => RecOfAns w l e w' := by
  obtain ⟨A0, n0, c0, rfl⟩ := hid_exists_bs hv
  have Hv := Lib.hid hv
  have He := Lib.hid he
  clear hv he
  go_enter Tryd.func46, Tryd.ntmps46
  go_wp2_with fail
  have ba := below_alloc w (.cells #[.slice none 0 0, .int .u64 0, .slice none 0 0] 49)
  have bb := below_alloc (w.alloc (.cells #[.slice none 0 0, .int .u64 0, .slice none 0 0] 49)) (.cells #[.slice none 0 0, .int .u64 0, .slice none 0 0] 98)
  have bA := Lib.hid ((Blk.new w 49 #[.slice none 0 0, .int .u64 0, .slice none 0 0]).step bb)
  have bB := Lib.hid (Blk.new (w.alloc (.cells #[.slice none 0 0, .int .u64 0, .slice none 0 0] 49)) 98 #[.slice none 0 0, .int .u64 0, .slice none 0 0])
  have B0 := Lib.hid (below_trans ba bb)
  have hgB : (w.alloc (.cells #[.slice none 0 0, .int .u64 0, .slice none 0 0] 49)).heap.size = w.heap.size + 1 := by simp
  rw [hgB] at bB
  replace Hv := Lib.hid (Hv.out.step B0.out)
  obtain ⟨gA, hgA⟩ : ∃ gA, gA = w.heap.size := ⟨_, rfl⟩
  obtain ⟨gB, hgB'⟩ : ∃ gB, gB = w.heap.size + 1 := ⟨_, rfl⟩
  rw [← hgB'] at bB ⊢
  rw [← hgA] at bA ⊢
  have hAB : gA < gB := by omega
  have HgA := Lib.hid hgA
  clear ba bb hgB hgA hgB'
  generalize (w.alloc (.cells #[.slice none 0 0, .int .u64 0, .slice none 0 0] 49)).alloc (.cells #[.slice none 0 0, .int .u64 0, .slice none 0 0] 98) = wB at *
  refine (bytesClone Hv.out (by omega)).mono ?_
  rintro e w1 ⟨v1, rfl, ho1, hb⟩
  have Hv1 := Lib.hid ho1.bs
  replace bA := Lib.hid (bA.out.step hb)
  replace bB := Lib.hid (bB.out.step hb)
  have B1 := Lib.hid (below_trans B0.out hb)
  clear ho1 hb Hv
  go_wp2_with fail
  refine (recUnmarshal bB.out Hv1.out (He.out.step B1.out) hlen).mono ?_
  rintro e w2 ⟨pid, sq, ads, hb2, hg2, hans⟩
  have hltA := bA.out.lt
  replace bA := Lib.hid (bA.out.grown hg2 (fun e => by injection e with e; omega))
  have B2 := Lib.hid (below_grown B1.out hg2 (fun g e => by injection e with e; have := HgA.out; omega))
  have bB2 := Lib.hid hb2
  clear hb2 Hv1 bB B0
  obtain ⟨a0, a1, a2⟩ := threeCells bA.out
  obtain ⟨f0, f1, f2⟩ := threeFree bA.out
  rcases hans with ⟨hd, te, xe, rfl⟩ | ⟨R, hd, rfl, hrep⟩
  · have Hd := Lib.hid hd
    clear hd hg2
    go_wp2_with fail
    obtain ⟨wF, hwF, bF, gF⟩ := storeThree bA.out (.slice none 0 0) (.int .u64 0) (.slice none 0 0)
    rw [hwF.out]
    have BF := Lib.hid (below_grown B2.out gF (fun g e => by injection e with e; have := HgA.out; omega))
    obtain ⟨y0, y1, y2⟩ := threeCells bF
    refine bodyPost_ret (by simp [results, Tryd.results46, go_sem, y0, y1, y2]; rfl) rfl ?_
    exact ⟨BF.out, .inl ⟨Hd.out, _, rfl, _, _, rfl, Bs.nil0 _ _, ⟨none, 0, rfl, Nat.le_refl _, by omega, fun h => absurd h (by simp [RV.none])⟩⟩⟩
  · obtain ⟨Ap, np, cp, rfl⟩ := hid_exists_bs hrep.pid
    obtain ⟨Aa, ca, hadf, hca, hca2⟩ := hrep.ads.slice
    obtain ⟨na, hna⟩ : ∃ na, na = R.addrs.length := ⟨_, rfl⟩
    rw [← hna] at hadf hca
    subst hadf
    have Hna := Lib.hid hna
    have hna9 : na ≤ 1000000000 := by rw [hna]; exact hrep.al
    have Hd := Lib.hid hd
    have X1 := Lib.hid hrep.pid
    have L1 := Lib.hid hrep.pl
    have Hads := Lib.hid hrep.ads
    have Hsq := Lib.hid hrep.sq
    have Hrep := Lib.hid hrep
    clear hd hg2 hrep a0 a1 a2 f0 f1 f2 hna
    go_wp2_with fail
    have bBd := Lib.hid bB2.out.drew
    have hltB := bB2.out.lt
    have HC := Lib.hid (show ∀ W, Below w2.heap.size w2 W → Calls Tryd.prog 22 #[.slice Ap np cp] W fun e w' => Fresh W R.peer e w' from fun W hW => bytesClone (X1.out.step hW) L1.out)
    go_region_held3 (fun W => W.cell? ⟨gB, 0, none⟩ = some (.slice Ap np cp) ∧ W.cell? ⟨gB, 1, none⟩ = some (.int .u64 sq)) (with_reducible first | exact recHeld bBd.out | exact recHeld b1.out | exact recHeld (b1.out.alloc _) | exact recHeld (bB2.out.alloc _).drew | (rw [hwF.out]; exact recHeld b6.out)) (first
      | (go_at_call 22; (with_reducible refine (HC.out _ (by with_reducible first | exact below_drew w2 | exact (below_alloc w2 _).drew)).mono ?_); rintro e w3 ⟨x1, rfl, ho, hb⟩; (try (with_reducible have bC := Lib.hid ((Blk.new w2 49 #[.slice none 0 0, .int .u64 0, .slice none 0 0]).drew.step hb))); (have B3 := Lib.hid (show Below w2.heap.size w2 w3 by (with_reducible first | exact below_trans (below_drew w2) hb | exact below_trans (below_alloc w2 _).drew hb))); have Y1 := Lib.hid ho.bs; obtain ⟨P1, q1, r1, rfl⟩ := hid_exists_bs Y1.out; have b1 := Lib.hid (bB2.out.step B3.out); clear ho hb; have hs3 := B3.out.size; have hdr : w2.drew.heap.size = w2.heap.size := rfl;
          (first
            | (obtain ⟨wF, hwF, bF, gF⟩ := storeThree bC.out (.slice P1 q1 r1) (.int .u64 sq) (.slice none 0 0); obtain ⟨k0, k1, k2⟩ := threeCells bC.out; obtain ⟨m0, m1, m2⟩ := threeFree bC.out; have B6 := Lib.hid (below_grown B3.out gF (fun g e => by injection e with e; omega)); have b6 := Lib.hid (b1.out.grown gF (fun e => by injection e with e; omega)); replace Y1 := Lib.hid ((Y1.out.keepU8 (Nat.le_refl _) bC.out noU8_rec gF).more gF.size); have HbF := Lib.hid bF; clear gF bF)
            | (obtain ⟨wF, hwF, bF, gF⟩ := layNew w3 49 #[.slice P1 q1 r1, .int .u64 sq, .slice none 0 0]; have B6 := Lib.hid (below_trans B3.out gF); have b6 := Lib.hid (b1.out.step gF); replace Y1 := Lib.hid (Y1.out.step gF); have HbF := Lib.hid bF; clear gF bF))))
    all_goals
      rw [hwF.out]
      obtain ⟨go, hgo, hC⟩ := goOf HbF.out (show w2.heap.size ≤ _ by omega)
      rw [hgo] at HbF ⊢
      replace b6 := Lib.hid b6.out
      have c2B : wF.cell? ⟨gB, 2, none⟩ = some (.slice Aa na ca) := b6.out.cell 2
      have HP0 := Lib.hid (show BsO wF none (.slice P1 q1 r1) R.peer from ⟨Y1.out, .inr (.inr rfl)⟩)
      have hCG := hC
      clear HC bBd bB2 X1 b1 B3 hwF hgo Y1 hs3 hdr
      try clear k0 k1 k2 m0 m1 m2 bC
      go_wp2_with fail
      go_loopw [22] (fun i wr => ∃ (k : Nat) (ads : Value), k ≤ na ∧ i = .int .i64 (k : Int) ∧ Hid (Blk wr go 49 #[.slice P1 q1 r1, .int .u64 sq, ads]) ∧ Hid (BsO wr ads.ownBlock (.slice P1 q1 r1) R.peer) ∧ Hid (BssO (go + 1) wr ads (R.addrs.take k)) ∧ Hid (Below w2.heap.size w2 wr)) (fun i _ => na - (intOf i).toNat)
      case atStart => exact ⟨0, _, Nat.zero_le _, rfl, HbF, HP0, BssO.nil _ _, B6⟩
      case round =>
        clear HbF HP0 B6 b6 c2B
        obtain ⟨k, ads, hk, rfl, hblk, hpid, hads, hbel⟩ := hrel
        obtain ⟨xs, hrow, hall⟩ := hads.out
        obtain ⟨Ad, nd, cd, rfl⟩ := hrow.sliceForm
        have Hrow := Lib.hid hrow
        have Hall := Lib.hid hall
        have hxl : xs.length + 1 ≤ 1000000000000 := by have := hall.length; have : (R.addrs.take k).length ≤ k := List.length_take_le _ _; omega
        clear hrow hall
        by_cases hlt : k < na
        · have hkL : k < R.addrs.length := by have := Hna.out; omega
          obtain ⟨gr, ga, A', n', c', rfl, hc1, hc2, hbs, hl⟩ := (Hads.out.step hbel.out).at_ hkL
          have Hbs := Lib.hid hbs
          have Hl := Lib.hid hl
          have Htk := Lib.hid (show R.addrs.take (k + 1) = R.addrs.take k ++ [R.addrs[k]] from List.take_succ_eq_append_getElem hkL)
          clear hbs hl
          go_wp2_with fail
          have a0 := hblk.out.drew.cell 2
          simp only [List.getElem?_toArray, List.getElem?_cons_zero, List.getElem?_cons_succ] at a0
          have hz := hblk.out.lt
          go_region_law (first
            | (refine step_app1 (by rfl) _ _ (by rfl) Tryd.underlying47 Tryd.infoBs rfl (u := .slice P3 q3 r3) (by rfl) (by rfl) (Hrow3.out.alloc _) (by simp [World.cell?_alloc_at]) rfl hxl (by omega) (by have := hs3; simp; omega) ?_; intro A9 n9 c9 w5 hrow5 hg5 hm5; have hb5 := (hb4.out.alloc _).grown hg5 (fun e => by have := (Hrow.out.lt go e.symm).1; omega); have f5 := hb5.free 2; have d5 : w5.cell? ⟨go, 2, none⟩ = some (.slice Ad nd cd) := hb5.cell 2; have HP := Lib.hid (bssPush hblk.out hpid.out Hrow.out Hall.out hbel.out hCG hbl3.out Ho3.out hrow5 hg5 hm5); clear hb5 hrow5 hg5 hm5)
            | (go_simp; go_at_call 22; (with_reducible refine (bytesClone (Hbs.out.step (below_drew wr)) Hl.out).mono ?_); rintro e w4 ⟨x3, rfl, ho, hb⟩; replace hb := below_trans (below_drew wr) hb; have Ho3 := Lib.hid (show Own w4 wr.heap.size x3 R.addrs[k] from ho); obtain ⟨P3, q3, r3, rfl⟩ := hid_exists_bs Ho3.out.bs; have hb4 := Lib.hid (hblk.out.step hb); have hbl3 := Lib.hid hb; have Hrow3 := Lib.hid (Hrow.out.step hb); have hs3 := hb.size; have a3 : w4.cell? ⟨go, 2, none⟩ = some (.slice Ad nd cd) := hb4.out.cell 2; have a4 : (w4.alloc (.cells #[.slice P3 q3 r3] 23)).cell? ⟨go, 2, none⟩ = some (.slice Ad nd cd) := (hb4.out.alloc _).cell 2; clear ho hb; go_wp2_with fail))
          all_goals
            have e1 := Lib.hid HP.out.1
            have e2 := Lib.hid HP.out.2.1
            have e3 := Lib.hid (show BssO (go + 1) _ _ (R.addrs.take (k + 1)) by rw [Htk.out]; exact HP.out.2.2.1)
            have e4 := Lib.hid HP.out.2.2.2
            clear HP
            go_wp2_with fail
            go_roundw
            case rel => exact ⟨k + 1, _, by omega, by go_num, e1, e2, e3, e4⟩
            case measure => simp [intOf]; omega
        · obtain rfl : k = na := by omega
          have Hbss := Lib.hid (show BssO (go + 1) wr (.slice Ad nd cd) R.addrs by have := hads.out; rw [Hna.out, List.take_length] at this; exact this)
          clear hads Hrow Hall
          have HA := Lib.hid (bA.out.step hbel.out)
          obtain ⟨x0, x1, x2⟩ := threeCells hblk.out
          obtain ⟨a0, a1, a2⟩ := threeCells HA.out
          obtain ⟨f0, f1, f2⟩ := threeFree HA.out
          go_wp2_with fail
          obtain ⟨wG, hwG, bG, gG⟩ := storeThree HA.out (.slice P1 q1 r1) (.int .u64 sq) (.slice Ad nd cd)
          rw [hwG.out]
          have BG := Lib.hid (below_grown (below_trans B2.out hbel.out) gG (fun g e => by injection e with e; have := HgA.out; omega))
          have Z1 := Lib.hid ((hpid.out.keepBlk HA.out noU8_rec gG).1)
          have Z2 := Lib.hid (show Bss wG wG.heap.size (.slice Ad nd cd) R.addrs from (Hbss.out.keepBlk HA.out noU8_rec gG (by omega)).bss)
          obtain ⟨y0, y1, y2⟩ := threeCells bG
          refine bodyPost_ret (by simp [results, Tryd.results46, go_sem, y0, y1, y2]; rfl) rfl ?_
          refine ⟨BG.out, .inr ⟨R, _, Hd.out, rfl, ?_⟩⟩
          rw [Hsq.out]
          exact ⟨_, _, rfl, Z1.out, Z2.out⟩
end
end Go.Proofs.YtcefcdmonfenoaaDoor
