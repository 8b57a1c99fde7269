/- peer/pb: AddressInfo.unmarshal. (Printed by gen_ra.py.) -/
import Derived.Test.YtcefcdmonfenoaaDoorRm
import Derived.Test.YtcefcdmonfenoaaDoorWc
namespace Go.Proofs.YtcefcdmonfenoaaDoor
open Go.RowKit
set_option maxRecDepth 100000

/-- the errors that the readers of records hand out -/
structure RErr (w : World) : Prop where
  p : PErr w
  num : HasErr w 0
section
variable {w w' : World} {g : Nat} {t : TypeId} {cs : Array Value}
theorem RErr.step (h : RErr w) (hb : Below w.heap.size w w') : RErr w' := ⟨h.p.step hb, h.num.step hb⟩
theorem HasErr.keepF {e : Nat} (h : HasErr w e) (hb : Blk w g t cs) (hn : ∀ u ∈ cs.toList, ∀ t x, u ≠ .iface t x) (hg : w.grownBy w' (some g)) : HasErr w' e := by
  obtain ⟨t', x, hc⟩ := h
  refine ⟨t', x, hg.cell hc ?_⟩
  intro e'
  have e' : e = g := by simpa using e'
  subst e'
  rw [hb.cell] at hc
  exact hn _ (by simpa using Array.mem_of_getElem? hc) _ _ rfl
def NoIf (cs : Array Value) : Prop := ∀ u ∈ cs.toList, ∀ t x, u ≠ .iface t x
theorem PErr.keepF (h : PErr w) (hb : Blk w g t cs) (hn : NoIf cs) (hg : w.grownBy w' (some g)) : PErr w' :=
  ⟨h.eof.keepF hb hn hg, h.num.keepF hb hn hg, h.over.keepF hb hn hg, h.reserved.keepF hb hn hg, h.group.keepF hb hn hg, h.parse.keepF hb hn hg⟩
theorem RErr.keepF (h : RErr w) (hb : Blk w g t cs) (hn : NoIf cs) (hg : w.grownBy w' (some g)) : RErr w' := ⟨h.p.keepF hb hn hg, h.num.keepF hb hn hg⟩
end
theorem noU8_one (A : Option Addr) (n c : Nat) : NoU8 #[.slice A n c] := by
  intro u hu k e
  subst e
  simp at hu
theorem noIf_one (A : Option Addr) (n c : Nat) : NoIf #[.slice A n c] := by
  intro u hu t x e
  subst e
  simp at hu

/-- what the address's reader leaves: its block holds nil or a row of the call's own -/
def AddrAns (w : World) (g : Nat) (l : List UInt8) (e : Ending) (w' : World) : Prop :=
  ∃ A n c, Blk w' g 101 #[.slice A n c] ∧ w.grownBy w' (some g) ∧ ((addrRun [] l = none ∧ errAns e) ∨ ∃ a, addrRun [] l = some a ∧ e = .returned .nilIface ∧ Own w' w.heap.size (.slice A n c) a ∧ a.length ≤ l.length)

structure ARel (w : World) (N g : Nat) (R : Option (List UInt8)) (wr : World) (A' : Option Addr) (N' c' : Nat) (l' : List UInt8) (A : Option Addr) (n c : Nat) (s' : List UInt8) : Prop where
  blk : Blk wr g 101 #[.slice A n c]
  own : Own wr w.heap.size (.slice A n c) s'
  sl : s'.length ≤ N
  grown : w.grownBy wr (some g)
  gl : g < w.heap.size
  bs0 : Bs w w.heap.size (.slice A' N' c') l'
  len : l'.length = N'
  le : N' ≤ N
  run : addrRun s' l' = R
section
variable {w wr wx : World} {N g : Nat} {R : Option (List UInt8)} {A' : Option Addr} {N' c' : Nat} {l' : List UInt8} {A A2 : Option Addr} {n c n2 c2 : Nat} {s' d : List UInt8} {t : TypeId} {cs : Array Value}
theorem ARel.bs (H : ARel w N g R wr A' N' c' l' A n c s') (hb : Blk w g t cs) (hn : NoU8 cs) : Bs wr wr.heap.size (.slice A' N' c') l' := (H.bs0.keepU8 (Nat.le_refl _) hb hn H.grown).more H.grown.size
theorem ARel.errs (H : ARel w N g R wr A' N' c' l' A n c s') (hb : Blk w g t cs) (hn : NoIf cs) (he : RErr w) : RErr wr := he.keepF hb hn H.grown
theorem ARel.stepB (H : ARel w N g R wr A' N' c' l' A n c s') (hb : Below wr.heap.size wr wx) : ARel w N g R wx A' N' c' l' A n c s' :=
  ⟨H.blk.step hb, H.own.step hb, H.sl, grown_step H.grown hb, H.gl, H.bs0, H.len, H.le, H.run⟩
theorem ARel.rest {A3 : Option Addr} {N3 c3 : Nat} {l3 : List UInt8} (H : ARel w N g R wr A' N' c' l' A n c s') (hb : Bs w w.heap.size (.slice A3 N3 c3) l3) (hl : l3.length = N3) (hle : N3 ≤ N') (hr : addrRun s' l3 = R) : ARel w N g R wr A3 N3 c3 l3 A n c s' :=
  ⟨H.blk, H.own, H.sl, H.grown, H.gl, hb, hl, Nat.le_trans hle H.le, hr⟩
theorem ARel.put {A3 : Option Addr} {N3 c3 : Nat} {l3 : List UInt8} (H : ARel w N g R wr A' N' c' l' A n c s') (hv : Own wr w.heap.size (.slice A2 n2 c2) d) (hd : d.length ≤ N) (hb : Bs w w.heap.size (.slice A3 N3 c3) l3) (hl : l3.length = N3) (hle : N3 ≤ N') (hr : addrRun d l3 = R) :
    ARel w N g R (wr.setCell ⟨g, 0, none⟩ (.slice A2 n2 c2)) A3 N3 c3 l3 A2 n2 c2 d := by
  have hg : wr.grownBy (wr.setCell ⟨g, 0, none⟩ (.slice A2 n2 c2)) (some g) := grown_setCell (grown_refl _ _) (.inl rfl) _
  refine ⟨H.blk.set 0 _, hv.kept hg (.inr fun e => ?_), hd, H.grown.trans hg, H.gl, hb, hl, Nat.le_trans hle H.le, hr⟩
  have := (hv.lt g e).1
  have := H.gl
  omega
theorem ARel.ok {l : List UInt8} (H : ARel w N g R wr A' 0 c' l' A n c s') (hf : addrRun [] l = R) (hl : l.length = N) : AddrAns w g l (.returned .nilIface) wr := by
  refine ⟨A, n, c, H.blk, H.grown, .inr ⟨s', ?_, rfl, H.own, by rw [hl]; exact H.sl⟩⟩
  rw [hf, ← H.run, List.length_eq_zero_iff.1 H.len, addrRun_nil]
theorem ARel.bad {l : List UInt8} {u : TypeId} {x : Value} (H : ARel w N g R wr A' N' c' l' A n c s') (h : addrRun [] l = none) (hb : Below wr.heap.size wr wx) : AddrAns w g l (.returned (.iface u x)) wx :=
  ⟨A, n, c, H.blk.step hb, grown_step H.grown hb, .inl ⟨h, ⟨u, x, rfl⟩⟩⟩
end

section
variable {w : World} {g : Nat} {v : Value} {l : List UInt8}
set_option maxHeartbeats 4000000 in
theorem addrUnmarshal (hb : Blk w g 101 #[.slice none 0 0]) (hv : Bs w w.heap.size v l) (he : RErr w) (hlen : l.length ≤ 140737488355328) :
    Calls Tryd.prog 99 #[.pointer (some ⟨g, 0, none⟩), v] w fun e w' => AddrAns w g l e w' := by
  obtain ⟨A0, c0, rfl, hlc, hc63⟩ := hv.form
  have Hb0 := Lib.hid hb
  have Hu0 := Lib.hid (noU8_one none 0 0)
  have Hf0 := Lib.hid (noIf_one none 0 0)
  have Herr := Lib.hid he
  generalize hR : addrRun [] l = R at *
  generalize hN : l.length = N at *
  have HfR := Lib.hid hR
  have HN := Lib.hid hN
  have HR := Lib.hid (show ARel w N g R w A0 N c0 l none 0 0 [] from ⟨hb, Own.nil _ _, Nat.zero_le _, grown_refl _ _, hb.lt, hv, hN, Nat.le_refl _, hR⟩)
  clear hR hN hv hb he
  go_enter Tryd.func99, Tryd.ntmps99
  go_wp2
  go_loopw [1] (fun b wr => ∃ (A' : Option Addr) (N' c' : Nat) (l' : List UInt8) (A : Option Addr) (n c : Nat) (s' : List UInt8), b = .slice A' N' c' ∧ Hid (ARel w N g R wr A' N' c' l' A n c s')) (fun b _ => lenOf b)
  case atStart => exact ⟨A0, N, c0, l, none, 0, 0, [], rfl, HR⟩
  case round =>
    clear HR
    obtain ⟨A', N', c', l', A, n, c, s', rfl, H⟩ := hrel
    have hle := H.out.le
    by_cases hz : N' = 0
    · subst hz
      go_wp2
      go_ret
      exact H.out.ok HfR.out HN.out
    · skip
      have hpos : 0 < N' := by omega
      clear hz
      have Hlen : Hid (0 < l'.length) := by have := H.out.len; show 0 < l'.length; omega
      have Hbs := Lib.hid (H.out.bs Hb0.out Hu0.out)
      have He := Lib.hid (H.out.errs Hb0.out Hf0.out Herr.out)
      rcases hct : Wire.ctag l' with ⟨a, b, cn⟩
      have hbc := Wire.ctag_facts hct
      rw [H.out.len] at hbc
      have Hct := Lib.hid hct
      clear hct
      have hc63' : c' ≤ 9223372036854775807 ∧ N' ≤ c' := by
        obtain ⟨A1, c1, he, h1, h2⟩ := H.out.bs0.form
        rw [H.out.len] at he h1
        injection he with e1 e2 e3
        omega
      obtain ⟨hc63', hlc'⟩ := hc63'
      by_cases hn : cn < 0
      · go_wp2_with (first | (go_at_call 95; refine (consumeTag Hbs.out Hct.out).mono ?_; rintro e w' ⟨rfl, rfl⟩) | (go_at_call 96; refine (parseError He.out.p (by assumption) (by omega)).mono ?_; rintro e w' ⟨⟨t, x, rfl⟩, rfl⟩))
        go_ret
        exact H.out.bad (by rw [HfR.out, ← H.out.run]; exact addrRun_torn Hct.out Hlen.out hn) (below_refl _)
      obtain ⟨n1, rfl⟩ := Int.eq_ofNat_of_zero_le (show 0 ≤ cn by omega)
      have hnN : n1 ≤ N' := by omega
      have hn0 : 0 < n1 := by omega
      obtain ⟨ha1, ha2, hb0, hb7⟩ : 1 ≤ a ∧ a ≤ 2147483647 ∧ 0 ≤ b ∧ b ≤ 7 := by omega
      clear hbc
      by_cases hfar : 536870911 < a
      · obtain ⟨t, x, herr⟩ := He.out.num
        go_wp2_with (go_at_call 95; refine (consumeTag Hbs.out Hct.out).mono ?_; rintro e w' ⟨rfl, rfl⟩)
        go_ret
        exact H.out.bad (by rw [HfR.out, ← H.out.run]; exact addrRun_far Hct.out Hlen.out hfar) (below_refl _)
      obtain ⟨A2, hsl, hcut0⟩ := slice_from H.out.bs0 hnN
      have Hcut0 := Lib.hid hcut0
      have Hcut := Lib.hid ((hcut0.keepU8 (Nat.le_refl _) Hb0.out Hu0.out H.out.grown).more H.out.grown.size)
      clear hcut0
      have Hl1 : Hid ((l'.drop n1).length = N' - n1) := by show _ = _; rw [List.length_drop, H.out.len]
      have Hfar := Lib.hid hfar
      have f0 := H.out.blk.free 0
      have cc0 : wr.cell? ⟨g, 0, none⟩ = some (.slice A n c) := H.out.blk.cell 0
      by_cases hk1 : a = 1 ∧ b = 2
      · obtain ⟨rfl, rfl⟩ := hk1
        rcases hcv : Wire.cbytes (l'.drop n1) with ⟨d, m⟩
        have hm := Wire.cbytes_bounds (l'.drop n1)
        rw [hcv] at hm
        rw [Hl1.out] at hm
        simp only [] at hm
        have Hcv := Lib.hid hcv
        clear hcv
        by_cases hm0 : m < 0
        · have hm3 : -3 ≤ m := by omega
          clear hm
          go_wp2_with (first | (go_at_call 95; refine (consumeTag Hbs.out Hct.out).mono ?_; rintro e w' ⟨rfl, rfl⟩) | (go_at_call 97; refine (consumeBytes Hcut.out Hcv.out).mono ?_; rintro e w' ⟨⟨vd, rfl, hvd⟩, rfl⟩; have Hvd := Lib.hid hvd; clear hvd) | (go_at_call 96; refine (parseError He.out.p (by assumption) (by omega)).mono ?_; rintro e w' ⟨⟨t, x, rfl⟩, rfl⟩))
          go_ret
          exact H.out.bad (by rw [HfR.out, ← H.out.run]; exact addrRun_bad Hct.out Hlen.out Hcv.out hm0) (below_refl _)
        · obtain ⟨m, rfl⟩ := Int.eq_ofNat_of_zero_le (show 0 ≤ m by omega)
          have hmN : m ≤ N' - n1 := by omega
          have hdl : d.length ≤ N' - n1 := by omega
          obtain ⟨A3, hsl2, hcut2⟩ := slice_from Hcut0.out hmN
          have Hcut2 := Lib.hid hcut2
          have Hl2 : Hid (((l'.drop n1).drop m).length = N' - n1 - m) := by show _ = _; rw [List.length_drop, Hl1.out]
          clear hcut2 hm
          go_wp2_with (first
            | (go_at_call 95; refine (consumeTag Hbs.out Hct.out).mono ?_; rintro e w' ⟨rfl, rfl⟩)
            | (go_at_call 97; refine (consumeBytes Hcut.out Hcv.out).mono ?_; rintro e w' ⟨⟨vd, rfl, hvd⟩, rfl⟩; have Hvd := Lib.hid hvd; clear hvd)
            | (at_builtin; refine wpList_app rfl _ _ rfl (by rfl) (by rfl) (Own.made _ (Nat.le_refl _)) (Hvd.out.alloc (Nat.le_refl _) _) (by simp; omega) (by simp) ?_; intro v' w1 ho hg hnn hmv; obtain ⟨a2, n2, c2, rfl⟩ := hnn ⟨_, _, _, rfl⟩; have hbl := Lib.hid (below_grown (below_alloc wr _) hg (fun g e => by simp [Value.ownBlock] at e; omega)); have H1 := Lib.hid (H.out.stepB hbl.out); have Hn := Lib.hid (show Own w1 w.heap.size (.slice (some a2) n2 c2) d by (have := ho.more (base' := w.heap.size) H.out.grown.size; rw [List.nil_append] at this; exact this)); have f1 := H1.out.blk.free 0; have c1' : w1.cell? ⟨g, 0, none⟩ = some (.slice A n c) := H1.out.blk.cell 0; clear ho hg hnn hmv))
          have Hrun := Lib.hid (show addrRun d ((l'.drop n1).drop m) = R by rw [← H.out.run]; exact (addrRun_put Hct.out Hlen.out Hcv.out).symm)
          go_roundw
          case rel => exact ⟨A3, _, _, _, some a2, n2, c2, d, rfl, (show ARel w N g R _ _ _ _ _ _ _ _ _ from H1.out.put Hn.out (by omega) Hcut2.out Hl2.out (by omega) Hrun.out)⟩
          case measure => simp [lenOf]; omega
      have hm := fval_bounds a b (l'.drop n1)
      rw [Hl1.out] at hm
      generalize hfv : fval a b (l'.drop n1) = m at *
      have Hfv := Lib.hid hfv
      have hcase : (a = 1 ∧ b ≠ 2) ∨ a ≠ 1 := by omega
      clear hfv hk1
      rcases hcase with ⟨rfl, hb⟩ | hx1
      · have e1 := i8_ne hb
        by_cases hm0 : m < 0
        · have hm6 : -6 ≤ m := by omega
          clear hm
          go_wp2_with (first | (go_at_call 95; refine (consumeTag Hbs.out Hct.out).mono ?_; rintro e w' ⟨rfl, rfl⟩) | (go_at_call 100; refine (consumeFieldValue Hcut.out (by assumption) (by assumption) Hfv.out).mono ?_; rintro e w' ⟨rfl, nq, rfl⟩) | (go_at_call 96; refine (parseError (He.out.p.step (below_drewN (below_refl _) nq)) (by assumption) (by assumption)).mono ?_; rintro e w' ⟨⟨t, x, rfl⟩, rfl⟩))
          go_ret
          exact H.out.bad (by rw [HfR.out, ← H.out.run]; exact addrRun_skip_bad Hct.out Hlen.out (by have := Hfar.out; omega) (by omega) Hfv.out hm0) (below_drewN (below_refl _) nq)
        · obtain ⟨m, rfl⟩ := Int.eq_ofNat_of_zero_le (show 0 ≤ m by omega)
          have hmN : m ≤ N' - n1 := by omega
          obtain ⟨A3, hsl2, hcut2⟩ := slice_from Hcut0.out hmN
          have Hcut2 := Lib.hid hcut2
          have Hl2 : Hid (((l'.drop n1).drop m).length = N' - n1 - m) := by show _ = _; rw [List.length_drop, Hl1.out]
          clear hcut2 hm
          go_wp2_with (first | (go_at_call 95; refine (consumeTag Hbs.out Hct.out).mono ?_; rintro e w' ⟨rfl, rfl⟩) | (go_at_call 100; refine (consumeFieldValue Hcut.out (by assumption) (by assumption) Hfv.out).mono ?_; rintro e w' ⟨rfl, nq, rfl⟩))
          have Hrun := Lib.hid (show addrRun s' ((l'.drop n1).drop m) = R by rw [← H.out.run]; exact (addrRun_skip Hct.out Hlen.out (by have := Hfar.out; omega) (by omega) Hfv.out).symm)
          go_roundw
          case rel => exact ⟨A3, _, _, _, A, n, c, s', rfl, (show ARel w N g R _ _ _ _ _ _ _ _ _ from (H.out.stepB (below_drewN (below_refl wr) nq)).rest Hcut2.out Hl2.out (by omega) Hrun.out)⟩
          case measure => simp [lenOf]; omega
      · have e1 := i8_ne hx1
        by_cases hm0 : m < 0
        · have hm6 : -6 ≤ m := by omega
          clear hm
          go_wp2_with (first | (go_at_call 95; refine (consumeTag Hbs.out Hct.out).mono ?_; rintro e w' ⟨rfl, rfl⟩) | (go_at_call 100; refine (consumeFieldValue Hcut.out (by assumption) (by assumption) Hfv.out).mono ?_; rintro e w' ⟨rfl, nq, rfl⟩) | (go_at_call 96; refine (parseError (He.out.p.step (below_drewN (below_refl _) nq)) (by assumption) (by assumption)).mono ?_; rintro e w' ⟨⟨t, x, rfl⟩, rfl⟩))
          go_ret
          exact H.out.bad (by rw [HfR.out, ← H.out.run]; exact addrRun_skip_bad Hct.out Hlen.out (by have := Hfar.out; omega) (by omega) Hfv.out hm0) (below_drewN (below_refl _) nq)
        · obtain ⟨m, rfl⟩ := Int.eq_ofNat_of_zero_le (show 0 ≤ m by omega)
          have hmN : m ≤ N' - n1 := by omega
          obtain ⟨A3, hsl2, hcut2⟩ := slice_from Hcut0.out hmN
          have Hcut2 := Lib.hid hcut2
          have Hl2 : Hid (((l'.drop n1).drop m).length = N' - n1 - m) := by show _ = _; rw [List.length_drop, Hl1.out]
          clear hcut2 hm
          go_wp2_with (first | (go_at_call 95; refine (consumeTag Hbs.out Hct.out).mono ?_; rintro e w' ⟨rfl, rfl⟩) | (go_at_call 100; refine (consumeFieldValue Hcut.out (by assumption) (by assumption) Hfv.out).mono ?_; rintro e w' ⟨rfl, nq, rfl⟩))
          have Hrun := Lib.hid (show addrRun s' ((l'.drop n1).drop m) = R by rw [← H.out.run]; exact (addrRun_skip Hct.out Hlen.out (by have := Hfar.out; omega) (by omega) Hfv.out).symm)
          go_roundw
          case rel => exact ⟨A3, _, _, _, A, n, c, s', rfl, (show ARel w N g R _ _ _ _ _ _ _ _ _ from (H.out.stepB (below_drewN (below_refl wr) nq)).rest Hcut2.out Hl2.out (by omega) Hrun.out)⟩
          case measure => simp [lenOf]; omega
end
end Go.Proofs.YtcefcdmonfenoaaDoor
