/- peer/pb: PeerRecord.Unmarshal. (Printed by gen_ra.py.) -/
import Derived.Test.YtcefcdmonfenoaaDoorRa
namespace Go.Proofs.YtcefcdmonfenoaaDoor
open Go.RowKit
set_option maxRecDepth 100000

theorem noU8_rec {A1 A2 : Option Addr} {n1 c1 n2 c2 : Nat} {x : Int} : NoU8 #[.slice A1 n1 c1, .int .u64 x, .slice A2 n2 c2] := by
  intro u hu k e
  subst e
  simp at hu
theorem noIf_rec {A1 A2 : Option Addr} {n1 c1 n2 c2 : Nat} {x : Int} : NoIf #[.slice A1 n1 c1, .int .u64 x, .slice A2 n2 c2] := by
  intro u hu t y e
  subst e
  simp at hu

/-- a record where it lies -/
structure RRep (base : Nat) (w : World) (pid : Value) (sq : Int) (ads : Value) (s : RV) : Prop where
  pid : Bs w w.heap.size pid s.peer
  sq : sq = (s.seq : Int)
  sl : s.seq < 18446744073709551616
  pl : s.peer.length ≤ 140737488355328
  ads : AdsAt base w ads s.addrs
  al : s.addrs.length ≤ 1000000000
/-- what Unmarshal leaves -/
def RUnm (w : World) (g : Nat) (l : List UInt8) (e : Ending) (w' : World) : Prop :=
  ∃ pid sq ads, Blk w' g 98 #[pid, .int .u64 sq, ads] ∧ w.grownBy w' (some g) ∧ ((recDec l = none ∧ errAns e) ∨ ∃ s, recDec l = some s ∧ e = .returned .nilIface ∧ RRep w.heap.size w' pid sq ads s)

/-- the loop's relation -/
structure RRel (w : World) (N g : Nat) (R : Option RV) (wr : World) (A' : Option Addr) (N' c' : Nat) (l' : List UInt8) (pid : Value) (sq : Int) (ads : Value) (s' : RV) : Prop where
  blk : Blk wr g 98 #[pid, .int .u64 sq, ads]
  own : Own wr w.heap.size pid s'.peer
  sq : sq = (s'.seq : Int)
  sl : s'.seq < 18446744073709551616
  pl : s'.peer.length ≤ N
  hads : AdsAt w.heap.size wr ads s'.addrs
  off : pid.ownBlock = none ∨ pid.ownBlock ≠ ads.ownBlock ∨ ads.ownBlock = none
  al : s'.addrs.length + N' ≤ N
  grown : w.grownBy wr (some g)
  gl : g < w.heap.size
  bs0 : Bs w w.heap.size (.slice A' N' c') l'
  len : l'.length = N'
  le : N' ≤ N
  run : recRun s' l' = R

section
variable {w wr wx : World} {N g : Nat} {R : Option RV} {A' : Option Addr} {N' c' : Nat} {l' : List UInt8} {pid ads v : Value} {sq : Int} {s' : RV} {d : List UInt8} {t : TypeId} {cs : Array Value} {A3 : Option Addr} {N3 c3 : Nat} {l3 : List UInt8}
theorem Own.sliceForm {base : Nat} {l : List UInt8} (h : Own w base v l) : ∃ A n c, v = .slice A n c := by
  rcases h.form with ⟨rfl, _⟩ | ⟨g, c, rfl, _⟩ <;> exact ⟨_, _, _, rfl⟩
theorem RRel.noU8 (H : RRel w N g R wr A' N' c' l' pid sq ads s') : NoU8 #[pid, .int .u64 sq, ads] := by
  obtain ⟨A, n, c, rfl⟩ := H.own.sliceForm
  obtain ⟨A2, c2, rfl, _⟩ := H.hads.slice
  exact noU8_rec
theorem RRel.bs (H : RRel w N g R wr A' N' c' l' pid sq ads s') (hb : Blk w g t cs) (hn : NoU8 cs) : Bs wr wr.heap.size (.slice A' N' c') l' := (H.bs0.keepU8 (Nat.le_refl _) hb hn H.grown).more H.grown.size
theorem RRel.errs (H : RRel w N g R wr A' N' c' l' pid sq ads s') (hb : Blk w g t cs) (hn : NoIf cs) (he : RErr w) : RErr wr := he.keepF hb hn H.grown
theorem RRel.stepB (H : RRel w N g R wr A' N' c' l' pid sq ads s') (hb : Below wr.heap.size wr wx) : RRel w N g R wx A' N' c' l' pid sq ads s' :=
  ⟨H.blk.step hb, H.own.step hb, H.sq, H.sl, H.pl, H.hads.step hb, H.off, H.al, grown_step H.grown hb, H.gl, H.bs0, H.len, H.le, H.run⟩
theorem RRel.rest (H : RRel w N g R wr A' N' c' l' pid sq ads s') (hb : Bs w w.heap.size (.slice A3 N3 c3) l3) (hl : l3.length = N3) (hle : N3 ≤ N') (hr : recRun s' l3 = R) : RRel w N g R wr A3 N3 c3 l3 pid sq ads s' :=
  ⟨H.blk, H.own, H.sq, H.sl, H.pl, H.hads, H.off, by have := H.al; omega, H.grown, H.gl, hb, hl, Nat.le_trans hle H.le, hr⟩
/-- a new ID is stored -/
theorem RRel.putPeer (H : RRel w N g R wr A' N' c' l' pid sq ads s') (hbl : Below wr.heap.size wr wx) (hv : Own wx wr.heap.size v d) (hd : d.length ≤ N) (hb : Bs w w.heap.size (.slice A3 N3 c3) l3) (hl : l3.length = N3) (hle : N3 ≤ N') (hr : recRun { s' with peer := d } l3 = R) :
    RRel w N g R (wx.setCell ⟨g, 0, none⟩ v) A3 N3 c3 l3 v sq ads { s' with peer := d } := by
  have H1 := H.stepB hbl
  have hg : wx.grownBy (wx.setCell ⟨g, 0, none⟩ v) (some g) := grown_setCell (grown_refl _ _) (.inl rfl) _
  have hgl := H.gl
  have hsz := H.grown.size
  refine ⟨H1.blk.set 0 _, (hv.more hsz).kept hg (.inr fun e => ?_), H.sq, H.sl, hd, H1.hads.keepBlk H1.blk H1.noU8 hg H.gl, ?_, by have := H.al; show s'.addrs.length + N3 ≤ N; omega, H1.grown.trans hg, H.gl, hb, hl, Nat.le_trans hle H.le, hr⟩
  · have := (hv.lt g e).1; omega
  · cases hvb : v.ownBlock with
    | none => exact .inl rfl
    | some k =>
      right
      have hk := (hv.lt k hvb).1
      cases hab : ads.ownBlock with
      | none => exact .inr rfl
      | some j =>
        left
        obtain ⟨xs, hrow, _⟩ := H.hads
        have := (hrow.lt j hab).2
        intro e; injection e with e; omega
theorem RRel.putSeq (H : RRel w N g R wr A' N' c' l' pid sq ads s') {x : Nat} (hx : x < 18446744073709551616) (hb : Bs w w.heap.size (.slice A3 N3 c3) l3) (hl : l3.length = N3) (hle : N3 ≤ N') (hr : recRun { s' with seq := x } l3 = R) :
    RRel w N g R (wr.setCell ⟨g, 1, none⟩ (.int .u64 (x : Int))) A3 N3 c3 l3 pid (x : Int) ads { s' with seq := x } := by
  have hg : wr.grownBy (wr.setCell ⟨g, 1, none⟩ (.int .u64 (x : Int))) (some g) := grown_setCell (grown_refl _ _) (.inl rfl) _
  have hgl := H.gl
  refine ⟨H.blk.set 1 _, H.own.kept hg ?_, rfl, hx, H.pl, H.hads.keepBlk H.blk H.noU8 hg H.gl, H.off, by have := H.al; show s'.addrs.length + N3 ≤ N; omega, H.grown.trans hg, H.gl, hb, hl, Nat.le_trans hle H.le, hr⟩
  right
  intro e
  have := (H.own.lt g e).1
  omega
/-- an address has been put behind the others -/
theorem RRel.push (H : RRel w N g R wr A' N' c' l' pid sq ads s') {u ads' : Value} {a : List UInt8} {xs : List Value} {ob : Obj} (hall : AllAdr wr w.heap.size ads.ownBlock xs s'.addrs) (hu : Adr wr w.heap.size ads.ownBlock u a)
    (hrow : RowX wx w.heap.size 99 ads' (xs ++ [u])) (hg : (wr.alloc ob).grownBy wx ads.ownBlock) (hm : Moved (wr.alloc ob) ads ads')
    (hlt : ∀ k, ads.ownBlock = some k → w.heap.size ≤ k) (hb : Bs w w.heap.size (.slice A3 N3 c3) l3) (hl : l3.length = N3) (hle : N3 < N') (hr : recRun { s' with addrs := s'.addrs ++ [a] } l3 = R) :
    RRel w N g R (wx.setCell ⟨g, 2, none⟩ ads') A3 N3 c3 l3 pid sq ads' { s' with addrs := s'.addrs ++ [a] } := by
  have hba := below_alloc wr ob
  have hgl := H.gl
  have hm' : ads'.ownBlock = ads.ownBlock ∨ ∃ k, ads'.ownBlock = some k ∧ (wr.alloc ob).heap.size ≤ k := hm
  have H1 := H.stepB hba
  have hnone : ∀ k, ads.ownBlock = some k → g ≠ k := fun k hk => by have := hlt k hk; omega
  have hblk : Blk wx g 98 #[pid, .int .u64 sq, ads] := H1.blk.grown hg (fun e => hnone g e.symm rfl)
  have hpid : Own wx w.heap.size pid s'.peer := by
    refine H1.own.kept hg ?_
    rcases H.off with h | h | h
    · exact .inl h
    · exact .inr h
    · cases hpb : pid.ownBlock with
      | none => exact .inl rfl
      | some k => right; rw [h]; simp
  have hall' := ((hall.step hba).snoc (hu.step hba)).rowed hg hm'
  have hg2 : wx.grownBy (wx.setCell ⟨g, 2, none⟩ ads') (some g) := grown_setCell (grown_refl _ _) (.inl rfl) _
  have hslice : ∃ A n c, ads = .slice A n c := by obtain ⟨A2, c2, rfl, _⟩ := H.hads.slice; exact ⟨_, _, _, rfl⟩
  have hn : NoU8 #[pid, .int .u64 sq, ads] := H.noU8
  have hads : AdsAt w.heap.size wx ads' (s'.addrs ++ [a]) := ⟨_, hrow, hall'⟩
  have hwr : w.grownBy wx (some g) := by
    refine ⟨hg.os.trans H1.grown.os, hg.tape.trans H1.grown.tape, hg.output.trans H1.grown.output, Nat.le_trans H1.grown.size hg.size, fun i hi hne => (hg.block i (Nat.lt_of_lt_of_le hi H1.grown.size) ?_).trans (H1.grown.block i hi hne)⟩
    intro e
    have := hlt i e.symm
    omega
  refine ⟨hblk.set 2 _, hpid.kept hg2 (.inr fun e => by have := (hpid.lt g e).1; omega), H.sq, H.sl, H.pl, hads.keepBlk hblk hn hg2 H.gl, ?_, ?_, hwr.trans hg2, H.gl, hb, hl, by have := H.le; omega, hr⟩
  · rcases hm' with hm' | ⟨k, hm', hk⟩
    · rw [hm']; exact H.off
    · cases hpb : pid.ownBlock with
      | none => exact .inl rfl
      | some j =>
        right; left
        rw [hm']
        intro e; injection e with e
        have := (H1.own.lt j hpb).2
        omega
  · have := H.al
    show (s'.addrs ++ [a]).length + N3 ≤ N
    rw [List.length_append]
    simp
    omega
theorem RRel.bad {l : List UInt8} {u : TypeId} {x : Value} (H : RRel w N g R wr A' N' c' l' pid sq ads s') (h : recDec l = none) (hb : Below wr.heap.size wr wx) : RUnm w g l (.returned (.iface u x)) wx :=
  ⟨pid, sq, ads, H.blk.step hb, grown_step H.grown hb, .inl ⟨h, ⟨u, x, rfl⟩⟩⟩
theorem RRel.ok {l : List UInt8} (H : RRel w N g R wr A' 0 c' l' pid sq ads s') (hf : recDec l = R) (hN : N ≤ 1000000000) : RUnm w g l (.returned .nilIface) wr := by
  refine ⟨pid, sq, ads, H.blk, H.grown, .inr ⟨s', ?_, rfl, ⟨H.own.bs, H.sq, H.sl, by have := H.pl; omega, H.hads, by have := H.al; omega⟩⟩⟩
  rw [hf, ← H.run, List.length_eq_zero_iff.1 H.len, recRun_nil]
/-- an address has been read into a block of its own -/
theorem RRel.adr (H : RRel w N g R wr A' N' c' l' pid sq ads s') {ob : Obj} {ga : Nat} (hga : ga = wr.heap.size) {A : Option Addr} {n c : Nat} {a : List UInt8} (hb : Blk wx ga 101 #[.slice A n c]) (hg : (wr.alloc ob).grownBy wx (some ga)) (ho : Own wx (wr.alloc ob).heap.size (.slice A n c) a) (hl : a.length ≤ 140737488355328) :
    Below wr.heap.size wr wx ∧ Adr wx w.heap.size ads.ownBlock (.pointer (some ⟨ga, 0, none⟩)) a := by
  subst hga
  have hsz := H.grown.size
  have hsa : (wr.alloc ob).heap.size = wr.heap.size + 1 := by simp
  refine ⟨below_of_new (below_alloc wr ob) (Nat.le_refl _) hg, ⟨wr.heap.size, A, n, c, rfl, hsz, ?_, hb, ho.bs, hl, ?_⟩⟩
  · cases hab : ads.ownBlock with
    | none => simp
    | some j =>
      obtain ⟨xs, hrow, _⟩ := H.hads
      have := (hrow.lt j hab).2
      intro e; injection e with e; omega
  · right
    cases hab : ads.ownBlock with
    | none => exact .inr rfl
    | some j =>
      left
      obtain ⟨xs, hrow, _⟩ := H.hads
      have h1 := (hrow.lt j hab).2
      intro e
      have := (ho.lt j e).1
      omega
end

/-- three cells stored into a block of three -/
theorem three_all {w : World} {g : Nat} {t : TypeId} {x0 x1 x2 a b c : Value} (hb : Blk w g t #[x0, x1, x2]) :
    Blk (((w.setCell ⟨g, 0, none⟩ a).setCell ⟨g, 1, none⟩ b).setCell ⟨g, 2, none⟩ c) g t #[a, b, c] ∧ w.grownBy (((w.setCell ⟨g, 0, none⟩ a).setCell ⟨g, 1, none⟩ b).setCell ⟨g, 2, none⟩ c) (some g) := by
  have h1 := ((hb.set 0 a).set 1 b).set 2 c
  have g1 := grown_setCell (grown_refl w (some g)) (p := ⟨g, 0, none⟩) (.inl rfl) a
  have g2 := grown_setCell g1 (p := ⟨g, 1, none⟩) (.inl rfl) b
  have g3 := grown_setCell g2 (p := ⟨g, 2, none⟩) (.inl rfl) c
  exact ⟨h1, g3⟩

section
variable {w : World} {g : Nat} {v : Value} {l : List UInt8}
set_option maxHeartbeats 4000000 in
theorem recUnmarshal (hb : Blk w g 98 #[.slice none 0 0, .int .u64 0, .slice none 0 0]) (hv : Bs w w.heap.size v l) (he : RErr w) (hlen : l.length ≤ 1000000000) :
    Calls Tryd.prog 79 #[.pointer (some ⟨g, 0, none⟩), v] w fun e w' => RUnm w g l e w' := by
  obtain ⟨A0, c0, rfl, hlc, hc63⟩ := hv.form
  have Hb0 := Lib.hid hb
  have Hu0 := Lib.hid (noU8_rec (A1 := none) (A2 := none) (n1 := 0) (c1 := 0) (n2 := 0) (c2 := 0) (x := 0))
  have Hf0 := Lib.hid (noIf_rec (A1 := none) (A2 := none) (n1 := 0) (c1 := 0) (n2 := 0) (c2 := 0) (x := 0))
  have Herr := Lib.hid he
  obtain ⟨hb3, hg3⟩ := three_all (a := .slice none 0 0) (b := .int .u64 0) (c := .slice none 0 0) hb
  have c00 := hb.cell 0
  have c01 := hb.cell 1
  have c02 := hb.cell 2
  simp only [List.getElem?_toArray, List.getElem?_cons_zero, List.getElem?_cons_succ] at c00 c01 c02
  have f0 := hb.free 0
  have f1 := hb.free 1
  have f2 := hb.free 2
  generalize hR : recDec l = R at *
  generalize hN : l.length = N at *
  have HfR := Lib.hid hR
  have HN := Lib.hid hN
  have HR := Lib.hid (show RRel w N g R _ A0 N c0 l (.slice none 0 0) 0 (.slice none 0 0) RV.none from ⟨hb3, Own.nil _ _, rfl, by show (0 : Nat) < _; omega, Nat.zero_le _, AdsAt.nil _ _, .inl rfl, by show 0 + N ≤ N; omega, hg3, hb.lt, hv, hN, Nat.le_refl _, hR⟩)
  clear hR hN hv hb he hb3 hg3
  go_enter Tryd.func79, Tryd.ntmps79
  go_wp2
  go_loopw [1] (fun b wr => ∃ (A' : Option Addr) (N' c' : Nat) (l' : List UInt8) (pid : Value) (sq : Int) (ads : Value) (s' : RV), b = .slice A' N' c' ∧ Hid (RRel w N g R wr A' N' c' l' pid sq ads s')) (fun b _ => lenOf b)
  case atStart => exact ⟨A0, N, c0, l, _, _, _, RV.none, rfl, HR⟩
  case round =>
    clear HR c00 c01 c02 f0 f1 f2
    obtain ⟨A', N', c', l', pid, sq, ads, s', rfl, H⟩ := hrel
    have hle := H.out.le
    obtain ⟨Ap, np, cp, rfl⟩ := H.out.own.sliceForm
    obtain ⟨Aa, ca, hads, _, _⟩ := H.out.hads.slice
    obtain ⟨na, hna⟩ : ∃ na, na = s'.addrs.length := ⟨_, rfl⟩
    rw [← hna] at hads
    clear hna
    subst hads
    by_cases hz : N' = 0
    · subst hz
      go_wp2
      go_ret
      exact H.out.ok HfR.out hlen
    · skip
      have hpos : 0 < N' := by omega
      clear hz
      have Hlen : Hid (0 < l'.length) := by have := H.out.len; show 0 < l'.length; omega
      have Hbs := Lib.hid (H.out.bs Hb0.out Hu0.out)
      have He := Lib.hid (H.out.errs Hb0.out Hf0.out Herr.out)
      rcases hct : Wire.ctag l' with ⟨a, b, cn⟩
      have hbc := Wire.ctag_facts hct
      rw [H.out.len] at hbc
      have Hct := Lib.hid hct
      clear hct
      have hc63' : c' ≤ 9223372036854775807 ∧ N' ≤ c' := by
        obtain ⟨A1, c1, he, h1, h2⟩ := H.out.bs0.form
        rw [H.out.len] at he h1
        injection he with e1 e2 e3
        omega
      obtain ⟨hc63', hlc'⟩ := hc63'
      by_cases hn : cn < 0
      · go_wp2_with (first | (go_at_call 95; refine (consumeTag Hbs.out Hct.out).mono ?_; rintro e w' ⟨rfl, rfl⟩) | (go_at_call 96; refine (parseError He.out.p (by assumption) (by omega)).mono ?_; rintro e w' ⟨⟨t, x, rfl⟩, rfl⟩))
        go_ret
        exact H.out.bad (by rw [HfR.out, ← H.out.run]; exact recRun_torn Hct.out Hlen.out hn) (below_refl _)
      obtain ⟨n1, rfl⟩ := Int.eq_ofNat_of_zero_le (show 0 ≤ cn by omega)
      have hnN : n1 ≤ N' := by omega
      have hn0 : 0 < n1 := by omega
      obtain ⟨ha1, ha2, hb0, hb7⟩ : 1 ≤ a ∧ a ≤ 2147483647 ∧ 0 ≤ b ∧ b ≤ 7 := by omega
      clear hbc
      by_cases hfar : 536870911 < a
      · obtain ⟨t, x, herr⟩ := He.out.num
        go_wp2_with (go_at_call 95; refine (consumeTag Hbs.out Hct.out).mono ?_; rintro e w' ⟨rfl, rfl⟩)
        go_ret
        exact H.out.bad (by rw [HfR.out, ← H.out.run]; exact recRun_far Hct.out Hlen.out hfar) (below_refl _)
      obtain ⟨A2, hsl, hcut0⟩ := slice_from H.out.bs0 hnN
      have Hcut0 := Lib.hid hcut0
      have Hcut := Lib.hid ((hcut0.keepU8 (Nat.le_refl _) Hb0.out Hu0.out H.out.grown).more H.out.grown.size)
      clear hcut0
      have Hl1 : Hid ((l'.drop n1).length = N' - n1) := by show _ = _; rw [List.length_drop, H.out.len]
      have Hfar := Lib.hid hfar
      by_cases hk1 : a = 1 ∧ b = 2
      · obtain ⟨rfl, rfl⟩ := hk1
        rcases hcv : Wire.cbytes (l'.drop n1) with ⟨d, m⟩
        have hm := Wire.cbytes_bounds (l'.drop n1)
        rw [hcv] at hm
        rw [Hl1.out] at hm
        simp only [] at hm
        have Hcv := Lib.hid hcv
        clear hcv
        by_cases hm0 : m < 0
        · have hm3 : -3 ≤ m := by omega
          clear hm
          go_wp2_with (first | (go_at_call 95; refine (consumeTag Hbs.out Hct.out).mono ?_; rintro e w' ⟨rfl, rfl⟩) | (go_at_call 97; refine (consumeBytes Hcut.out Hcv.out).mono ?_; rintro e w' ⟨⟨vd, rfl, hvd⟩, rfl⟩; have Hvd := Lib.hid hvd; clear hvd) | (go_at_call 96; refine (parseError He.out.p (by assumption) (by omega)).mono ?_; rintro e w' ⟨⟨t, x, rfl⟩, rfl⟩))
          go_ret
          exact H.out.bad (by rw [HfR.out, ← H.out.run]; exact recRun_peer_bad Hct.out Hlen.out Hcv.out hm0) (below_refl _)
        · obtain ⟨m, rfl⟩ := Int.eq_ofNat_of_zero_le (show 0 ≤ m by omega)
          have hmN : m ≤ N' - n1 := by omega
          have hdl : d.length ≤ N' - n1 := by omega
          obtain ⟨A3, hsl2, hcut2⟩ := slice_from Hcut0.out hmN
          have Hcut2 := Lib.hid hcut2
          have Hl2 : Hid (((l'.drop n1).drop m).length = N' - n1 - m) := by show _ = _; rw [List.length_drop, Hl1.out]
          clear hcut2 hm
          go_wp2_with (first
            | (go_at_call 95; refine (consumeTag Hbs.out Hct.out).mono ?_; rintro e w' ⟨rfl, rfl⟩)
            | (go_at_call 97; refine (consumeBytes Hcut.out Hcv.out).mono ?_; rintro e w' ⟨⟨vd, rfl, hvd⟩, rfl⟩; have Hvd := Lib.hid hvd; clear hvd)
            | (at_builtin; refine wpList_app rfl _ _ rfl (by rfl) (by rfl) (Own.made _ (Nat.le_refl _)) (Hvd.out.alloc (Nat.le_refl _) _) (by simp; omega) (by simp) ?_; intro v' w1 ho hg hnn hmv; obtain ⟨a2, n2, c2, rfl⟩ := hnn ⟨_, _, _, rfl⟩; have hbl := Lib.hid (below_grown (below_alloc wr _) hg (fun g e => by simp [Value.ownBlock] at e; omega)); have H1 := Lib.hid (H.out.blk.step hbl.out); have Hn := Lib.hid (show Own w1 wr.heap.size (.slice (some a2) n2 c2) d by (have := ho; rw [List.nil_append] at this; exact this)); have f1 := H1.out.free 0; have c1' : w1.cell? ⟨g, 0, none⟩ = some (.slice Ap np cp) := H1.out.cell 0; clear ho hg hnn hmv))
          have Hrun := Lib.hid (show recRun { s' with peer := d } ((l'.drop n1).drop m) = R by rw [← H.out.run]; exact (recRun_peer Hct.out Hlen.out Hcv.out).symm)
          go_roundw
          case rel => exact ⟨A3, _, _, _, _, _, _, _, rfl, (show RRel w N g R _ _ _ _ _ _ _ _ _ from H.out.putPeer hbl.out Hn.out (by omega) Hcut2.out Hl2.out (by omega) Hrun.out)⟩
          case measure => simp [lenOf]; omega
      by_cases hk2 : a = 2 ∧ b = 0
      · obtain ⟨rfl, rfl⟩ := hk2
        clear hk1
        rcases hcv : Wire.cvar (l'.drop n1) with ⟨x, m⟩
        obtain ⟨hx, _, hm, hm3⟩ := cvar_facts hcv
        rw [Hl1.out] at hm
        have Hcv := Lib.hid hcv
        clear hcv
        by_cases hm0 : m < 0
        · clear hx
          go_wp2_with (first | (go_at_call 95; refine (consumeTag Hbs.out Hct.out).mono ?_; rintro e w' ⟨rfl, rfl⟩) | (go_at_call 98; refine (consumeVarint' Hcut.out Hcv.out).mono ?_; rintro e w' ⟨rfl, rfl⟩) | (go_at_call 96; refine (parseError He.out.p (by assumption) (by omega)).mono ?_; rintro e w' ⟨⟨t, x, rfl⟩, rfl⟩))
          go_ret
          exact H.out.bad (by rw [HfR.out, ← H.out.run]; exact recRun_seq_bad Hct.out Hlen.out Hcv.out hm0) (below_refl _)
        · obtain ⟨m, rfl⟩ := Int.eq_ofNat_of_zero_le (show 0 ≤ m by omega)
          have hmN : m ≤ N' - n1 := by omega
          have Hx := Lib.hid hx
          obtain ⟨A3, hsl2, hcut2⟩ := slice_from Hcut0.out hmN
          have Hcut2 := Lib.hid hcut2
          have Hl2 : Hid (((l'.drop n1).drop m).length = N' - n1 - m) := by show _ = _; rw [List.length_drop, Hl1.out]
          have f1 := H.out.blk.free 1
          have c1 : wr.cell? ⟨g, 1, none⟩ = some (.int .u64 sq) := H.out.blk.cell 1
          clear hcut2 hx hm hm3
          go_wp2_with (first | (go_at_call 95; refine (consumeTag Hbs.out Hct.out).mono ?_; rintro e w' ⟨rfl, rfl⟩) | (go_at_call 98; refine (consumeVarint' Hcut.out Hcv.out).mono ?_; rintro e w' ⟨rfl, rfl⟩))
          have Hrun := Lib.hid (show recRun { s' with seq := x } ((l'.drop n1).drop m) = R by rw [← H.out.run]; exact (recRun_seq Hct.out Hlen.out Hcv.out).symm)
          go_roundw
          case rel => exact ⟨A3, _, _, _, _, _, _, _, rfl, (show RRel w N g R _ _ _ _ _ _ _ _ _ from H.out.putSeq Hx.out Hcut2.out Hl2.out (by omega) Hrun.out)⟩
          case measure => simp [lenOf]; omega
      by_cases hk3 : a = 3 ∧ b = 2
      · obtain ⟨rfl, rfl⟩ := hk3
        clear hk1 hk2
        rcases hcv : Wire.cbytes (l'.drop n1) with ⟨d, m⟩
        have hm := Wire.cbytes_bounds (l'.drop n1)
        rw [hcv] at hm
        rw [Hl1.out] at hm
        simp only [] at hm
        have Hcv := Lib.hid hcv
        clear hcv
        by_cases hm0 : m < 0
        · have hm3 : -3 ≤ m := by omega
          clear hm
          go_wp2_with (first | (go_at_call 95; refine (consumeTag Hbs.out Hct.out).mono ?_; rintro e w' ⟨rfl, rfl⟩) | (go_at_call 97; refine (consumeBytes Hcut.out Hcv.out).mono ?_; rintro e w' ⟨⟨vd, rfl, hvd⟩, rfl⟩; have Hvd := Lib.hid hvd; clear hvd) | (go_at_call 96; refine (parseError He.out.p (by assumption) (by omega)).mono ?_; rintro e w' ⟨⟨t, x, rfl⟩, rfl⟩))
          go_ret
          exact H.out.bad (by rw [HfR.out, ← H.out.run]; exact recRun_addr_bad Hct.out Hlen.out Hcv.out hm0) (below_refl _)
        · obtain ⟨m, rfl⟩ := Int.eq_ofNat_of_zero_le (show 0 ≤ m by omega)
          have hmN : m ≤ N' - n1 := by omega
          have hdl : d.length ≤ N' - n1 := by omega
          obtain ⟨A3, hsl2, hcut2⟩ := slice_from Hcut0.out hmN
          have Hcut2 := Lib.hid hcut2
          have Hl2 : Hid (((l'.drop n1).drop m).length = N' - n1 - m) := by show _ = _; rw [List.length_drop, Hl1.out]
          clear hcut2 hm
          go_wp2_with (first | (go_at_call 95; refine (consumeTag Hbs.out Hct.out).mono ?_; rintro e w' ⟨rfl, rfl⟩) | (go_at_call 97; refine (consumeBytes Hcut.out Hcv.out).mono ?_; rintro e w' ⟨⟨vd, rfl, hvd⟩, rfl⟩; have Hvd := Lib.hid hvd; clear hvd))
          have hba := below_alloc wr (.cells #[.slice none 0 0] 101)
          refine (addrUnmarshal (Blk.new wr 101 #[.slice none 0 0]) (Hvd.out.step hba) (He.out.step hba) (by omega)).mono ?_
          rintro e w2 ⟨Ax, nx, cx, hbx, hgx, hans⟩
          have hbl := Lib.hid (below_of_new hba (Nat.le_refl _) hgx)
          clear hba
          rcases hans with ⟨hr, t, x, rfl⟩ | ⟨ax, hr, rfl, hox, hlx⟩
          · have Hr := Lib.hid hr
            clear hr hbx hgx
            go_wp2_with fail
            go_ret
            exact H.out.bad (by rw [HfR.out, ← H.out.run]; exact recRun_addr_none Hct.out Hlen.out Hcv.out Hr.out) hbl.out
          · obtain ⟨_, hadr⟩ := H.out.adr rfl hbx hgx hox (by omega)
            have Hadr := Lib.hid hadr
            have H2 := Lib.hid (H.out.stepB hbl.out)
            have Hrun := Lib.hid (show recRun { s' with addrs := s'.addrs ++ [ax] } ((l'.drop n1).drop m) = R by rw [← H.out.run]; exact (recRun_addr Hct.out Hlen.out Hcv.out hr).symm)
            clear hr hbx hgx hox hlx hadr
            obtain ⟨xs, hrow, hall⟩ := H2.out.hads
            have Hrow := Lib.hid hrow
            have Hall := Lib.hid hall
            have hxl : xs.length + 1 ≤ 1000000000000 := by have := hall.length; have := H2.out.al; omega
            have c2 : w2.cell? ⟨g, 2, none⟩ = some (.slice Aa na ca) := H2.out.blk.cell 2
            have f2 := H2.out.blk.free 2
            clear hrow hall
            go_wp2_with (at_builtin; refine wpList_app1 rfl _ _ rfl Tryd.underlying96 Tryd.infoAI rfl (u := .pointer (some ⟨wr.heap.size, 0, none⟩)) (by rfl) (by rfl) (Hrow.out.alloc _) (by simp [World.cell?_alloc_at]) rfl hxl (by omega) (by have := H2.out.grown.size; simp; omega) ?_; intro v3 w3 hrow3 hg3 hm3; obtain ⟨A9, n9, c9, rfl⟩ := hrow3.sliceForm; have H3 := Lib.hid (H2.out.push Hall.out Hadr.out hrow3 hg3 hm3 (fun k hk => (Hrow.out.lt k hk).1) Hcut2.out Hl2.out (by omega) Hrun.out); have hb3 := (H2.out.blk.alloc _).grown hg3 (fun e => by have := (Hrow.out.lt g e.symm).1; have := H2.out.gl; omega); have f3 := hb3.free 2; have c3' : w3.cell? ⟨g, 2, none⟩ = some (.slice Aa na ca) := hb3.cell 2; clear hb3 hrow3 hg3 hm3)
            go_roundw
            case rel => exact ⟨A3, _, _, _, _, _, _, _, rfl, H3⟩
            case measure => simp [lenOf]; omega
      have hm := fval_bounds a b (l'.drop n1)
      rw [Hl1.out] at hm
      generalize hfv : fval a b (l'.drop n1) = m at *
      have Hfv := Lib.hid hfv
      have hcase : (a = 1 ∧ b ≠ 2) ∨ (a = 2 ∧ b ≠ 0) ∨ (a = 3 ∧ b ≠ 2) ∨ (a ≠ 1 ∧ a ≠ 2 ∧ a ≠ 3) := by omega
      clear hfv hk1 hk2 hk3
      rcases hcase with ⟨rfl, hb⟩ | ⟨rfl, hb⟩ | ⟨rfl, hb⟩ | ⟨hx1, hx2, hx3⟩
      · have e1 := i8_ne hb
        by_cases hm0 : m < 0
        · have hm6 : -6 ≤ m := by omega
          clear hm
          go_wp2_with (first | (go_at_call 95; refine (consumeTag Hbs.out Hct.out).mono ?_; rintro e w' ⟨rfl, rfl⟩) | (go_at_call 100; refine (consumeFieldValue Hcut.out (by assumption) (by assumption) Hfv.out).mono ?_; rintro e w' ⟨rfl, nq, rfl⟩) | (go_at_call 96; refine (parseError (He.out.p.step (below_drewN (below_refl _) nq)) (by assumption) (by assumption)).mono ?_; rintro e w' ⟨⟨t, x, rfl⟩, rfl⟩))
          go_ret
          exact H.out.bad (by rw [HfR.out, ← H.out.run]; exact recRun_skip_bad Hct.out Hlen.out (by have := Hfar.out; omega) (by omega) (by omega) (by omega) Hfv.out hm0) (below_drewN (below_refl _) nq)
        · obtain ⟨m, rfl⟩ := Int.eq_ofNat_of_zero_le (show 0 ≤ m by omega)
          have hmN : m ≤ N' - n1 := by omega
          obtain ⟨A3, hsl2, hcut2⟩ := slice_from Hcut0.out hmN
          have Hcut2 := Lib.hid hcut2
          have Hl2 : Hid (((l'.drop n1).drop m).length = N' - n1 - m) := by show _ = _; rw [List.length_drop, Hl1.out]
          clear hcut2 hm
          go_wp2_with (first | (go_at_call 95; refine (consumeTag Hbs.out Hct.out).mono ?_; rintro e w' ⟨rfl, rfl⟩) | (go_at_call 100; refine (consumeFieldValue Hcut.out (by assumption) (by assumption) Hfv.out).mono ?_; rintro e w' ⟨rfl, nq, rfl⟩))
          have Hrun := Lib.hid (show recRun s' ((l'.drop n1).drop m) = R by rw [← H.out.run]; exact (recRun_skip Hct.out Hlen.out (by have := Hfar.out; omega) (by omega) (by omega) (by omega) Hfv.out).symm)
          go_roundw
          case rel => exact ⟨A3, _, _, _, _, _, _, s', rfl, (show RRel w N g R _ _ _ _ _ _ _ _ _ from (H.out.stepB (below_drewN (below_refl wr) nq)).rest Hcut2.out Hl2.out (by omega) Hrun.out)⟩
          case measure => simp [lenOf]; omega
      · have e1 := i8_ne hb
        by_cases hm0 : m < 0
        · have hm6 : -6 ≤ m := by omega
          clear hm
          go_wp2_with (first | (go_at_call 95; refine (consumeTag Hbs.out Hct.out).mono ?_; rintro e w' ⟨rfl, rfl⟩) | (go_at_call 100; refine (consumeFieldValue Hcut.out (by assumption) (by assumption) Hfv.out).mono ?_; rintro e w' ⟨rfl, nq, rfl⟩) | (go_at_call 96; refine (parseError (He.out.p.step (below_drewN (below_refl _) nq)) (by assumption) (by assumption)).mono ?_; rintro e w' ⟨⟨t, x, rfl⟩, rfl⟩))
          go_ret
          exact H.out.bad (by rw [HfR.out, ← H.out.run]; exact recRun_skip_bad Hct.out Hlen.out (by have := Hfar.out; omega) (by omega) (by omega) (by omega) Hfv.out hm0) (below_drewN (below_refl _) nq)
        · obtain ⟨m, rfl⟩ := Int.eq_ofNat_of_zero_le (show 0 ≤ m by omega)
          have hmN : m ≤ N' - n1 := by omega
          obtain ⟨A3, hsl2, hcut2⟩ := slice_from Hcut0.out hmN
          have Hcut2 := Lib.hid hcut2
          have Hl2 : Hid (((l'.drop n1).drop m).length = N' - n1 - m) := by show _ = _; rw [List.length_drop, Hl1.out]
          clear hcut2 hm
          go_wp2_with (first | (go_at_call 95; refine (consumeTag Hbs.out Hct.out).mono ?_; rintro e w' ⟨rfl, rfl⟩) | (go_at_call 100; refine (consumeFieldValue Hcut.out (by assumption) (by assumption) Hfv.out).mono ?_; rintro e w' ⟨rfl, nq, rfl⟩))
          have Hrun := Lib.hid (show recRun s' ((l'.drop n1).drop m) = R by rw [← H.out.run]; exact (recRun_skip Hct.out Hlen.out (by have := Hfar.out; omega) (by omega) (by omega) (by omega) Hfv.out).symm)
          go_roundw
          case rel => exact ⟨A3, _, _, _, _, _, _, s', rfl, (show RRel w N g R _ _ _ _ _ _ _ _ _ from (H.out.stepB (below_drewN (below_refl wr) nq)).rest Hcut2.out Hl2.out (by omega) Hrun.out)⟩
          case measure => simp [lenOf]; omega
      · have e1 := i8_ne hb
        by_cases hm0 : m < 0
        · have hm6 : -6 ≤ m := by omega
          clear hm
          go_wp2_with (first | (go_at_call 95; refine (consumeTag Hbs.out Hct.out).mono ?_; rintro e w' ⟨rfl, rfl⟩) | (go_at_call 100; refine (consumeFieldValue Hcut.out (by assumption) (by assumption) Hfv.out).mono ?_; rintro e w' ⟨rfl, nq, rfl⟩) | (go_at_call 96; refine (parseError (He.out.p.step (below_drewN (below_refl _) nq)) (by assumption) (by assumption)).mono ?_; rintro e w' ⟨⟨t, x, rfl⟩, rfl⟩))
          go_ret
          exact H.out.bad (by rw [HfR.out, ← H.out.run]; exact recRun_skip_bad Hct.out Hlen.out (by have := Hfar.out; omega) (by omega) (by omega) (by omega) Hfv.out hm0) (below_drewN (below_refl _) nq)
        · obtain ⟨m, rfl⟩ := Int.eq_ofNat_of_zero_le (show 0 ≤ m by omega)
          have hmN : m ≤ N' - n1 := by omega
          obtain ⟨A3, hsl2, hcut2⟩ := slice_from Hcut0.out hmN
          have Hcut2 := Lib.hid hcut2
          have Hl2 : Hid (((l'.drop n1).drop m).length = N' - n1 - m) := by show _ = _; rw [List.length_drop, Hl1.out]
          clear hcut2 hm
          go_wp2_with (first | (go_at_call 95; refine (consumeTag Hbs.out Hct.out).mono ?_; rintro e w' ⟨rfl, rfl⟩) | (go_at_call 100; refine (consumeFieldValue Hcut.out (by assumption) (by assumption) Hfv.out).mono ?_; rintro e w' ⟨rfl, nq, rfl⟩))
          have Hrun := Lib.hid (show recRun s' ((l'.drop n1).drop m) = R by rw [← H.out.run]; exact (recRun_skip Hct.out Hlen.out (by have := Hfar.out; omega) (by omega) (by omega) (by omega) Hfv.out).symm)
          go_roundw
          case rel => exact ⟨A3, _, _, _, _, _, _, s', rfl, (show RRel w N g R _ _ _ _ _ _ _ _ _ from (H.out.stepB (below_drewN (below_refl wr) nq)).rest Hcut2.out Hl2.out (by omega) Hrun.out)⟩
          case measure => simp [lenOf]; omega
      · have e1 := i8_ne hx1
        have e2 := i8_ne hx2
        have e3 := i8_ne hx3
        by_cases hm0 : m < 0
        · have hm6 : -6 ≤ m := by omega
          clear hm
          go_wp2_with (first | (go_at_call 95; refine (consumeTag Hbs.out Hct.out).mono ?_; rintro e w' ⟨rfl, rfl⟩) | (go_at_call 100; refine (consumeFieldValue Hcut.out (by assumption) (by assumption) Hfv.out).mono ?_; rintro e w' ⟨rfl, nq, rfl⟩) | (go_at_call 96; refine (parseError (He.out.p.step (below_drewN (below_refl _) nq)) (by assumption) (by assumption)).mono ?_; rintro e w' ⟨⟨t, x, rfl⟩, rfl⟩))
          go_ret
          exact H.out.bad (by rw [HfR.out, ← H.out.run]; exact recRun_skip_bad Hct.out Hlen.out (by have := Hfar.out; omega) (by omega) (by omega) (by omega) Hfv.out hm0) (below_drewN (below_refl _) nq)
        · obtain ⟨m, rfl⟩ := Int.eq_ofNat_of_zero_le (show 0 ≤ m by omega)
          have hmN : m ≤ N' - n1 := by omega
          obtain ⟨A3, hsl2, hcut2⟩ := slice_from Hcut0.out hmN
          have Hcut2 := Lib.hid hcut2
          have Hl2 : Hid (((l'.drop n1).drop m).length = N' - n1 - m) := by show _ = _; rw [List.length_drop, Hl1.out]
          clear hcut2 hm
          go_wp2_with (first | (go_at_call 95; refine (consumeTag Hbs.out Hct.out).mono ?_; rintro e w' ⟨rfl, rfl⟩) | (go_at_call 100; refine (consumeFieldValue Hcut.out (by assumption) (by assumption) Hfv.out).mono ?_; rintro e w' ⟨rfl, nq, rfl⟩))
          have Hrun := Lib.hid (show recRun s' ((l'.drop n1).drop m) = R by rw [← H.out.run]; exact (recRun_skip Hct.out Hlen.out (by have := Hfar.out; omega) (by omega) (by omega) (by omega) Hfv.out).symm)
          go_roundw
          case rel => exact ⟨A3, _, _, _, _, _, _, s', rfl, (show RRel w N g R _ _ _ _ _ _ _ _ _ from (H.out.stepB (below_drewN (below_refl wr) nq)).rest Hcut2.out Hl2.out (by omega) Hrun.out)⟩
          case measure => simp [lenOf]; omega
end
end Go.Proofs.YtcefcdmonfenoaaDoor
