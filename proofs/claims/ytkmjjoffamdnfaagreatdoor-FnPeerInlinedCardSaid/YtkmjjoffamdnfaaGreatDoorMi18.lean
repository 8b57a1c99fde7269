/- crypto/pb: key.merge reads a message over what is there. -/
import Derived.Test.YtkmjjoffamdnfaaGreatDoorMi01
import Derived.Test.YtkmjjoffamdnfaaGreatDoorMi17
import Derived.Deep.RegionHeld3
import Derived.Deep.RegionWith
import Derived.Deep.DrawnRows
import Derived.Lib.ConvBytes
namespace Go.Proofs.YtkmjjoffamdnfaaGreatDoor
open Go.RowKit
set_option maxRecDepth 100000

/-- the errors that the readers of keys hand out -/
structure CErr (w : World) : Prop where
  p : PErr w
  num : HasErr w 5
  req : HasErr w 2
theorem CErr.step {w w' : World} (h : CErr w) (hb : Below w.heap.size w w') : CErr w' := ⟨h.p.step hb, h.num.step hb, h.req.step hb⟩
theorem HasErr.keepBlk {w w' : World} {e g : Nat} {t : TypeId} {cs : Array Value} (h : HasErr w e) (hb : Blk w g t cs) (hn : ∀ u ∈ cs.toList, ∀ t x, u ≠ .iface t x) (hg : w.grownBy w' (some g)) : HasErr w' e := by
  obtain ⟨t', x, hc⟩ := h
  refine ⟨t', x, hg.cell hc ?_⟩
  intro e'
  have e' : e = g := by simpa using e'
  subst e'
  rw [hb.cell] at hc
  exact hn _ (by simpa using Array.mem_of_getElem? hc) _ _ rfl
def NoIface (cs : Array Value) : Prop := ∀ u ∈ cs.toList, ∀ t x, u ≠ .iface t x
theorem noIface_key (p A : Option Addr) (n c : Nat) : NoIface #[.pointer p, .slice A n c] := by
  intro u hu t x e
  subst e
  simp at hu
theorem PErr.keepBlk {w w' : World} {g : Nat} {t : TypeId} {cs : Array Value} (h : PErr w) (hb : Blk w g t cs) (hn : NoIface cs) (hg : w.grownBy w' (some g)) : PErr w' :=
  ⟨h.eof.keepBlk hb hn hg, h.num.keepBlk hb hn hg, h.over.keepBlk hb hn hg, h.reserved.keepBlk hb hn hg, h.group.keepBlk hb hn hg, h.parse.keepBlk hb hn hg⟩
theorem CErr.keepBlk {w w' : World} {g : Nat} {t : TypeId} {cs : Array Value} (h : CErr w) (hb : Blk w g t cs) (hn : NoIface cs) (hg : w.grownBy w' (some g)) : CErr w' :=
  ⟨h.p.keepBlk hb hn hg, h.num.keepBlk hb hn hg, h.req.keepBlk hb hn hg⟩

/-- two cells stored into a block of two -/
theorem two_set {w : World} {g : Nat} {t : TypeId} {x y a b : Value} (hb : Blk w g t #[x, y]) :
    Blk ((w.setCell ⟨g, 0, none⟩ a).setCell ⟨g, 1, none⟩ b) g t #[a, b] ∧ w.grownBy ((w.setCell ⟨g, 0, none⟩ a).setCell ⟨g, 1, none⟩ b) (some g) := by
  have h1 := hb.set 0 a
  have h2 := h1.set 1 b
  have g1 := grown_setCell (grown_refl w (some g)) (p := ⟨g, 0, none⟩) (.inl rfl) a
  have g2 := grown_setCell g1 (p := ⟨g, 1, none⟩) (.inl rfl) b
  exact ⟨h2, g2⟩

/-- what merge leaves -/
def MergeAns (w : World) (g : Nat) (t : TypeId) (s : KS) (l : List UInt8) (e : Ending) (w' : World) : Prop :=
  ∃ p A n c, Blk w' g t #[.pointer p, .slice A n c] ∧ w.grownBy w' (some g) ∧ ((keyRun s l = none ∧ errAns e) ∨ ∃ s', keyRun s l = some s' ∧ e = .returned .nilIface ∧ KRep w' (.pointer p) (.slice A n c) s')

/-- the loop's relation -/
structure MRel (w : World) (N : Nat) (g : Nat) (R : Option KS) (wr : World) (A' : Option Addr) (N' c' : Nat) (l' : List UInt8) (p A : Option Addr) (n c : Nat) (s' : KS) : Prop where
  bs : Bs wr wr.heap.size (.slice A' N' c') l'
  len : l'.length = N'
  le : N' ≤ N
  blk : Blk wr g 85 #[.pointer p, .slice A n c]
  rep : KRep wr (.pointer p) (.slice A n c) s'
  grown : w.grownBy wr (some g)
  run : keyRun s' l' = R
  errs : CErr wr

section
variable {w wr wx : World} {N g : Nat} {R : Option KS} {A' A3 : Option Addr} {N' c' N3 c3 : Nat} {l' l3 : List UInt8} {p A p3 A2 : Option Addr} {n c n2 c2 : Nat} {s' s3 : KS}
theorem MRel.noInt (H : MRel w N g R wr A' N' c' l' p A n c s') : ∀ u ∈ (#[.pointer p, .slice A n c] : Array Value).toList, NoInt u := H.rep.noInt
/-- a round's end: the block of the key alone, and what is new, has turned -/
theorem MRel.next (H : MRel w N g R wr A' N' c' l' p A n c s') (hg : wr.grownBy wx (some g)) (hb : Blk wx g 85 #[.pointer p3, .slice A2 n2 c2]) (hk : KRep wx (.pointer p3) (.slice A2 n2 c2) s3)
    (hv : Bs wr wr.heap.size (.slice A3 N3 c3) l3) (hl : l3.length = N3) (hN : N3 ≤ N') (hr : keyRun s3 l3 = R) : MRel w N g R wx A3 N3 c3 l3 p3 A2 n2 c2 s3 :=
  ⟨hv.keepBlk H.blk H.noInt hg, hl, Nat.le_trans hN H.le, hb, hk, H.grown.trans hg, hr, H.errs.keepBlk H.blk (noIface_key _ _ _ _) hg⟩
theorem MRel.nil (H : MRel w N g R wr A' 0 c' l' p A n c s') : R = some s' := by
  rw [← H.run, List.length_eq_zero_iff.1 H.len, keyRun_nil]
theorem MRel.ok {s : KS} {l : List UInt8} (H : MRel w N g R wr A' N' c' l' p A n c s') (hf : keyRun s l = R) (hR : R = some s') : MergeAns w g 85 s l (.returned .nilIface) wr :=
  ⟨p, A, n, c, H.blk, H.grown, .inr ⟨s', hf.trans hR, rfl, H.rep⟩⟩
theorem MRel.bad {s : KS} {l : List UInt8} {t : TypeId} {x : Value} (H : MRel w N g R wr A' N' c' l' p A n c s') (hf : keyRun s l = R) (hR : keyRun s' l' = none) (hg : Below wr.heap.size wr wx) : MergeAns w g 85 s l (.returned (.iface t x)) wx :=
  ⟨p, A, n, c, H.blk.step hg, grown_step H.grown hg, .inl ⟨hf.trans (H.run.symm.trans hR), ⟨t, x, rfl⟩⟩⟩
end

theorem keyMerge {w : World} {g : Nat} {p A : Option Addr} {n c : Nat} {s : KS} {v : Value} {l : List UInt8} (hb : Blk w g 85 #[.pointer p, .slice A n c]) (hk : KRep w (.pointer p) (.slice A n c) s)
    (hv : Bs w w.heap.size v l) (he : CErr w) (hlen : l.length ≤ 140737488355328) :
    Calls Tryz.prog 55 #[.pointer (some ⟨g, 0, none⟩), v] w fun e w' => MergeAns w g 85 s l e w' := by
  obtain ⟨A0, c0, rfl, hlc, hc63⟩ := hv.form
  generalize hR : keyRun s l = R at *
  generalize hN : l.length = N at *
  have HR := Lib.hid (show MRel w N g R w A0 N c0 l p A n c s from ⟨hv, hN, Nat.le_refl _, hb, hk, grown_refl w _, hR, he⟩)
  have HfR := Lib.hid hR
  clear hR hN hv hb hk he
  go_enter Tryz.func55, Tryz.ntmps55
  go_wp2
  go_loopw [1] (fun b wr => ∃ (A' : Option Addr) (N' c' : Nat) (l' : List UInt8) (p A : Option Addr) (n c : Nat) (s' : KS), b = .slice A' N' c' ∧ Hid (MRel w N g R wr A' N' c' l' p A n c s')) (fun b _ => lenOf b)
  case atStart => exact ⟨A0, N, c0, l, p, A, n, c, s, rfl, HR⟩
  case round =>
    clear HR
    obtain ⟨A', N', c', l', p, A, n, c, s', rfl, H⟩ := hrel
    have hle := H.out.le
    by_cases hz : N' = 0
    · subst hz
      go_wp2
      go_ret
      exact H.out.ok HfR.out H.out.nil
    · have hpos : 0 < N' := by omega
      clear hz
      have Hlen : Hid (0 < l'.length) := by have := H.out.len; show 0 < l'.length; omega
      rcases hct : Wire.ctag l' with ⟨a, b, cn⟩
      have hbc := Wire.ctag_facts hct
      rw [H.out.len] at hbc
      have Hct := Lib.hid hct
      clear hct
      have hc63' : c' ≤ 9223372036854775807 ∧ N' ≤ c' := by
        obtain ⟨A1, c1, he, h1, h2⟩ := H.out.bs.form
        rw [H.out.len] at he h1
        injection he with e1 e2 e3
        omega
      obtain ⟨hc63', hlc'⟩ := hc63'
      by_cases hn : cn < 0
      · go_wp2_with (first | (go_at_call 63; refine (consumeTag H.out.bs Hct.out).mono ?_; rintro e w' ⟨rfl, rfl⟩) | (go_at_call 64; refine (parseError H.out.errs.p (by assumption) (by omega)).mono ?_; rintro e w' ⟨⟨t, x, rfl⟩, rfl⟩))
        go_ret
        exact H.out.bad HfR.out (keyRun_torn Hct.out Hlen.out hn) (below_refl _)
      · obtain ⟨n1, rfl⟩ := Int.eq_ofNat_of_zero_le (show 0 ≤ cn by omega)
        have hnN : n1 ≤ N' := by omega
        have hn0 : 0 < n1 := by omega
        obtain ⟨ha1, ha2, hb0, hb7⟩ : 1 ≤ a ∧ a ≤ 2147483647 ∧ 0 ≤ b ∧ b ≤ 7 := by omega
        clear hbc
        by_cases hfar : 536870911 < a
        · obtain ⟨t, x, herr⟩ := H.out.errs.num
          go_wp2_with (go_at_call 63; refine (consumeTag H.out.bs Hct.out).mono ?_; rintro e w' ⟨rfl, rfl⟩)
          go_ret
          exact H.out.bad HfR.out (keyRun_far Hct.out Hlen.out hfar) (below_refl _)
        · obtain ⟨A2, hsl, hcut⟩ := slice_from H.out.bs hnN
          have Hcut := Lib.hid hcut
          clear hcut
          have Hl1 : Hid ((l'.drop n1).length = N' - n1) := by show _ = _; rw [List.length_drop, H.out.len]
          have f0 := H.out.blk.free 0
          have c0 : wr.cell? ⟨g, 0, none⟩ = some (.pointer p) := H.out.blk.cell 0
          have f1 := H.out.blk.free 1
          have c1 : wr.cell? ⟨g, 1, none⟩ = some (.slice A n c) := H.out.blk.cell 1
          by_cases hk1 : a = 1 ∧ b = 0
          · obtain ⟨rfl, rfl⟩ := hk1
            rcases hcv : Wire.cvar (l'.drop n1) with ⟨x, m⟩
            obtain ⟨hx, _, hm, hm3⟩ := cvar_facts hcv
            rw [Hl1.out] at hm
            have Hcv := Lib.hid hcv
            clear hcv
            by_cases hm0 : m < 0
            · clear hx
              go_wp2_with (first | (go_at_call 63; refine (consumeTag H.out.bs Hct.out).mono ?_; rintro e w' ⟨rfl, rfl⟩) | (go_at_call 65; refine (consumeVarint' Hcut.out Hcv.out).mono ?_; rintro e w' ⟨rfl, rfl⟩) | (go_at_call 64; refine (parseError H.out.errs.p (by assumption) (by omega)).mono ?_; rintro e w' ⟨⟨t, x, rfl⟩, rfl⟩))
              go_ret
              exact H.out.bad HfR.out (keyRun_kind_bad Hct.out Hlen.out Hcv.out hm0) (below_refl _)
            · obtain ⟨m, rfl⟩ := Int.eq_ofNat_of_zero_le (show 0 ≤ m by omega)
              have hmN : m ≤ N' - n1 := by omega
              obtain ⟨A3, hsl2, hcut2⟩ := slice_from Hcut.out hmN
              have Hcut2 := Lib.hid hcut2
              clear hcut2 hx hm hm3
              go_wp2_with (first | (go_at_call 63; refine (consumeTag H.out.bs Hct.out).mono ?_; rintro e w' ⟨rfl, rfl⟩) | (go_at_call 65; refine (consumeVarint' Hcut.out Hcv.out).mono ?_; rintro e w' ⟨rfl, rfl⟩) | (go_at_call 28; refine (enum _ _).mono ?_; rintro e w1 ⟨gk, rfl, hck, hbl⟩; have hb1 := Lib.hid (H.out.blk.step hbl); have f0' := hb1.out.free 0; have c0' : w1.cell? ⟨g, 0, none⟩ = some (.pointer p) := hb1.out.cell 0))
              go_roundw
              case rel =>
                have hgn : gk ≠ g := by
                  rintro rfl
                  rw [c0'] at hck; cases hck
                refine ⟨A3, _, _, _, some ⟨gk, 0, none⟩, A, n, c, { s' with kind := some (wrap32 x) }, rfl, H.out.next (grown_setCell (grown_of_below hbl _) (.inl rfl) _) (hb1.out.set 0 _) ⟨?_, ?_⟩ Hcut2.out ?_ (by omega) ?_⟩
                · exact ⟨gk, rfl, by rw [World.cell?_setCell_other _ _ _ _ (by first | (simp; done) | (simp; omega))]; exact hck⟩
                · exact (H.out.rep.2.step hbl).keepBlk hb1.out H.out.noInt (grown_setCell (grown_refl _ _) (.inl rfl) _)
                · rw [List.length_drop, Hl1.out]
                · rw [← H.out.run]; exact (keyRun_kind Hct.out Hlen.out Hcv.out).symm
              case measure => simp [lenOf]; omega
          · by_cases hk2 : a = 2 ∧ b = 2
            · obtain ⟨rfl, rfl⟩ := hk2
              clear hk1
              rcases hcv : Wire.cbytes (l'.drop n1) with ⟨d, m⟩
              have hm := Wire.cbytes_bounds (l'.drop n1)
              rw [hcv] at hm
              rw [Hl1.out] at hm
              simp only [] at hm
              have Hcv := Lib.hid hcv
              clear hcv
              by_cases hm0 : m < 0
              · have hm3 : -3 ≤ m := by omega
                clear hm
                go_wp2_with (first | (go_at_call 63; refine (consumeTag H.out.bs Hct.out).mono ?_; rintro e w' ⟨rfl, rfl⟩) | (go_at_call 66; refine (consumeBytes Hcut.out Hcv.out).mono ?_; rintro e w' ⟨⟨v', rfl, _⟩, rfl⟩) | (go_at_call 64; refine (parseError H.out.errs.p (by assumption) (by omega)).mono ?_; rintro e w' ⟨⟨t, x, rfl⟩, rfl⟩))
                go_ret
                exact H.out.bad HfR.out (keyRun_data_bad Hct.out Hlen.out Hcv.out hm0) (below_refl _)
              · obtain ⟨m, rfl⟩ := Int.eq_ofNat_of_zero_le (show 0 ≤ m by omega)
                have hmN : m ≤ N' - n1 := by omega
                have hdl : d.length ≤ N' - n1 := by omega
                obtain ⟨A3, hsl2, hcut2⟩ := slice_from Hcut.out hmN
                have Hcut2 := Lib.hid hcut2
                clear hcut2 hm
                go_wp2_with (first
                  | (go_at_call 63; refine (consumeTag H.out.bs Hct.out).mono ?_; rintro e w' ⟨rfl, rfl⟩)
                  | (go_at_call 66; refine (consumeBytes Hcut.out Hcv.out).mono ?_; rintro e w' ⟨⟨vd, rfl, hvd⟩, rfl⟩; have Hvd := Lib.hid hvd; clear hvd)
                  | (at_builtin; refine wpList_app rfl _ _ rfl (by rfl) (by rfl) (Own.made _ (Nat.le_refl _)) (Hvd.out.alloc (Nat.le_refl _) _) (by simp; omega) (by simp) ?_; intro v' w1 ho hg hnn hmv; obtain ⟨a2, n2, c2, rfl⟩ := hnn ⟨_, _, _, rfl⟩; have hbl := Lib.hid (below_grown (below_alloc wr _) hg (fun g e => by simp [Value.ownBlock] at e; omega)); have hb1 := Lib.hid (H.out.blk.step hbl.out); have f1' := hb1.out.free 1; have c1' : w1.cell? ⟨g, 1, none⟩ = some (.slice A n c) := hb1.out.cell 1))
                go_roundw
                case rel =>
                  have hni : ∀ u ∈ (#[.pointer p, .slice A n c] : Array Value).toList, NoInt u := H.out.noInt
                  have hsc := grown_setCell (grown_refl w1 (some g)) (p := ⟨g, 1, none⟩) (.inl rfl) (.slice (some a2) n2 c2)
                  refine ⟨A3, _, _, _, p, some a2, n2, c2, { s' with data := some d }, rfl, H.out.next (grown_setCell (grown_of_below hbl.out _) (.inl rfl) _) (hb1.out.set 1 _) ⟨?_, ?_⟩ Hcut2.out ?_ (by omega) ?_⟩
                  · exact (H.out.rep.1.step hbl.out).keepBlk hb1.out hni hsc
                  · refine ⟨?_, ⟨_, _, _, rfl⟩, by omega⟩
                    have := ho.bs
                    rw [List.nil_append] at this
                    exact this.keepBlk hb1.out hni hsc
                  · rw [List.length_drop, Hl1.out]
                  · rw [← H.out.run]; exact (keyRun_data Hct.out Hlen.out Hcv.out).symm
                case measure => simp [lenOf]; omega
            · have hm := fval_bounds a b (l'.drop n1)
              rw [Hl1.out] at hm
              generalize hfv : fval a b (l'.drop n1) = m at *
              have Hfv := Lib.hid hfv
              have Hfar := Lib.hid hfar
              have hcase : (a = 1 ∧ b ≠ 0) ∨ (a = 2 ∧ b ≠ 2) ∨ (a ≠ 1 ∧ a ≠ 2) := by omega
              clear hfv hk1 hk2
              rcases hcase with ⟨rfl, hb⟩ | ⟨rfl, hb⟩ | ⟨hx1, hx2⟩
              · have e1 := i8_ne hb
                by_cases hm0 : m < 0
                · have hm6 : -6 ≤ m := by omega
                  clear hm
                  go_wp2_with (first
                    | (go_at_call 63; refine (consumeTag H.out.bs Hct.out).mono ?_; rintro e w' ⟨rfl, rfl⟩)
                    | (go_at_call 67; refine (consumeFieldValue Hcut.out (by assumption) (by assumption) Hfv.out).mono ?_; rintro e w' ⟨rfl, nq, rfl⟩)
                    | (go_at_call 64; refine (parseError (H.out.errs.p.step (below_drewN (below_refl _) nq)) (by assumption) (by assumption)).mono ?_; rintro e w' ⟨⟨t, x, rfl⟩, rfl⟩))
                  go_ret
                  exact H.out.bad HfR.out (keyRun_skip_bad Hct.out Hlen.out (by have := Hfar.out; omega) (by omega) (by omega) Hfv.out hm0) (below_drewN (below_refl _) nq)
                · obtain ⟨m, rfl⟩ := Int.eq_ofNat_of_zero_le (show 0 ≤ m by omega)
                  have hmN : m ≤ N' - n1 := by omega
                  obtain ⟨A3, hsl2, hcut2⟩ := slice_from Hcut.out hmN
                  have Hcut2 := Lib.hid hcut2
                  clear hcut2 hm
                  go_wp2_with (first
                    | (go_at_call 63; refine (consumeTag H.out.bs Hct.out).mono ?_; rintro e w' ⟨rfl, rfl⟩)
                    | (go_at_call 67; refine (consumeFieldValue Hcut.out (by assumption) (by assumption) Hfv.out).mono ?_; rintro e w' ⟨rfl, nq, rfl⟩))
                  go_roundw
                  case rel =>
                    have hbl := below_drewN (below_refl wr) nq
                    exact ⟨A3, _, _, _, p, A, n, c, s', rfl, H.out.next (grown_of_below hbl _) (H.out.blk.step hbl) (H.out.rep.step hbl) Hcut2.out (by rw [List.length_drop, Hl1.out]) (by omega) (by rw [← H.out.run]; exact (keyRun_skip Hct.out Hlen.out (by have := Hfar.out; omega) (by omega) (by omega) Hfv.out).symm)⟩
                  case measure => simp [lenOf]; omega
              · have e1 := i8_ne hb
                by_cases hm0 : m < 0
                · have hm6 : -6 ≤ m := by omega
                  clear hm
                  go_wp2_with (first
                    | (go_at_call 63; refine (consumeTag H.out.bs Hct.out).mono ?_; rintro e w' ⟨rfl, rfl⟩)
                    | (go_at_call 67; refine (consumeFieldValue Hcut.out (by assumption) (by assumption) Hfv.out).mono ?_; rintro e w' ⟨rfl, nq, rfl⟩)
                    | (go_at_call 64; refine (parseError (H.out.errs.p.step (below_drewN (below_refl _) nq)) (by assumption) (by assumption)).mono ?_; rintro e w' ⟨⟨t, x, rfl⟩, rfl⟩))
                  go_ret
                  exact H.out.bad HfR.out (keyRun_skip_bad Hct.out Hlen.out (by have := Hfar.out; omega) (by omega) (by omega) Hfv.out hm0) (below_drewN (below_refl _) nq)
                · obtain ⟨m, rfl⟩ := Int.eq_ofNat_of_zero_le (show 0 ≤ m by omega)
                  have hmN : m ≤ N' - n1 := by omega
                  obtain ⟨A3, hsl2, hcut2⟩ := slice_from Hcut.out hmN
                  have Hcut2 := Lib.hid hcut2
                  clear hcut2 hm
                  go_wp2_with (first
                    | (go_at_call 63; refine (consumeTag H.out.bs Hct.out).mono ?_; rintro e w' ⟨rfl, rfl⟩)
                    | (go_at_call 67; refine (consumeFieldValue Hcut.out (by assumption) (by assumption) Hfv.out).mono ?_; rintro e w' ⟨rfl, nq, rfl⟩))
                  go_roundw
                  case rel =>
                    have hbl := below_drewN (below_refl wr) nq
                    exact ⟨A3, _, _, _, p, A, n, c, s', rfl, H.out.next (grown_of_below hbl _) (H.out.blk.step hbl) (H.out.rep.step hbl) Hcut2.out (by rw [List.length_drop, Hl1.out]) (by omega) (by rw [← H.out.run]; exact (keyRun_skip Hct.out Hlen.out (by have := Hfar.out; omega) (by omega) (by omega) Hfv.out).symm)⟩
                  case measure => simp [lenOf]; omega
              · have e1 := i8_ne hx1
                have e2 := i8_ne hx2
                by_cases hm0 : m < 0
                · have hm6 : -6 ≤ m := by omega
                  clear hm
                  go_wp2_with (first
                    | (go_at_call 63; refine (consumeTag H.out.bs Hct.out).mono ?_; rintro e w' ⟨rfl, rfl⟩)
                    | (go_at_call 67; refine (consumeFieldValue Hcut.out (by assumption) (by assumption) Hfv.out).mono ?_; rintro e w' ⟨rfl, nq, rfl⟩)
                    | (go_at_call 64; refine (parseError (H.out.errs.p.step (below_drewN (below_refl _) nq)) (by assumption) (by assumption)).mono ?_; rintro e w' ⟨⟨t, x, rfl⟩, rfl⟩))
                  go_ret
                  exact H.out.bad HfR.out (keyRun_skip_bad Hct.out Hlen.out (by have := Hfar.out; omega) (by omega) (by omega) Hfv.out hm0) (below_drewN (below_refl _) nq)
                · obtain ⟨m, rfl⟩ := Int.eq_ofNat_of_zero_le (show 0 ≤ m by omega)
                  have hmN : m ≤ N' - n1 := by omega
                  obtain ⟨A3, hsl2, hcut2⟩ := slice_from Hcut.out hmN
                  have Hcut2 := Lib.hid hcut2
                  clear hcut2 hm
                  go_wp2_with (first
                    | (go_at_call 63; refine (consumeTag H.out.bs Hct.out).mono ?_; rintro e w' ⟨rfl, rfl⟩)
                    | (go_at_call 67; refine (consumeFieldValue Hcut.out (by assumption) (by assumption) Hfv.out).mono ?_; rintro e w' ⟨rfl, nq, rfl⟩))
                  go_roundw
                  case rel =>
                    have hbl := below_drewN (below_refl wr) nq
                    exact ⟨A3, _, _, _, p, A, n, c, s', rfl, H.out.next (grown_of_below hbl _) (H.out.blk.step hbl) (H.out.rep.step hbl) Hcut2.out (by rw [List.length_drop, Hl1.out]) (by omega) (by rw [← H.out.run]; exact (keyRun_skip Hct.out Hlen.out (by have := Hfar.out; omega) (by omega) (by omega) Hfv.out).symm)⟩
                  case measure => simp [lenOf]; omega
end Go.Proofs.YtkmjjoffamdnfaaGreatDoor

/- crypto/pb: marshal, required, and the methods of PublicKey and PrivateKey. -/
namespace Go.Proofs.YtkmjjoffamdnfaaGreatDoor
open Go.RowKit
set_option maxRecDepth 100000

/-- a kind as it stands on the wire -/
def kindNum (k : Int) : Nat := (k % 18446744073709551616).toNat
theorem kindNum_lt (k : Int) : kindNum k < 2 ^ 64 := by unfold kindNum; omega
theorem kindNum_of (k : Int) : 0 ≤ IntKind.u64.wrap k ∧ IntKind.u64.wrap k < 18446744073709551616 ∧ (IntKind.u64.wrap k).toNat = kindNum k := by
  unfold kindNum
  rw [IntKind.wrap_u64]
  omega
/-- a key's message -/
def keyEnc (k : Int) (d : List UInt8) : List UInt8 := 8 :: (Wire.venc (kindNum k) ++ 18 :: lenEnc d)

/-- bytes and no error -/
def BytesOk (w : World) (l : List UInt8) (e : Ending) (w' : World) : Prop := ∃ v', e = .returned (.tuple #[v', .nilIface]) ∧ Own w' w.heap.size v' l ∧ Below w.heap.size w w' ∧ NN v'

theorem keyMarshal {w : World} {g gk : Nat} {t : TypeId} {A : Option Addr} {n c : Nat} {k : Int} {d : List UInt8} (hb : Blk w g t #[.pointer (some ⟨gk, 0, none⟩), .slice A n c])
    (hk : w.cell? ⟨gk, 0, none⟩ = some (.int .i32 k)) (hd : Bs w w.heap.size (.slice A n c) d) (hn : NN (.slice A n c)) (hlen : d.length ≤ 140737488000000) (hk1 : -2147483648 ≤ k) (hk2 : k ≤ 2147483647) :
    Calls Tryz.prog 42 #[.pointer (some ⟨g, 0, none⟩)] w fun e w' => BytesOk w (keyEnc k d) e w' := by
  obtain ⟨a, n', c', he⟩ := hn
  injection he with e1 e2 e3
  subst e1 e2 e3
  have Hb := Lib.hid hb
  have Hd := Lib.hid hd
  have hnd : n = d.length := by
    obtain ⟨A', c', he, _⟩ := hd
    injection he with e1 e2 e3
  clear hd hb
  have c0 : w.cell? ⟨g, 0, none⟩ = some (.pointer (some ⟨gk, 0, none⟩)) := Hb.out.cell 0
  have c1 : w.cell? ⟨g, 1, none⟩ = some (.slice (some a) n c) := Hb.out.cell 1
  have hq := eql_nil
  have Hnd := Lib.hid hnd
  clear hnd
  go_enter Tryz.func42, Tryz.ntmps42
  go_wp2_with fail
  refine (appendTag (Own.nil w w.heap.size) (Nat.le_refl _) (by unfold TagOk; omega) (by simp)).mono ?_
  rintro e w1 ⟨v1, rfl, ho1, hg1, hn1, hm1⟩
  have hbl1 := Lib.hid (below_of_own (Own.nil w w.heap.size) hg1 (Nat.le_refl _))
  have c0' : w1.cell? ⟨g, 0, none⟩ = some (.pointer (some ⟨gk, 0, none⟩)) := (Hb.out.step hbl1.out).cell 0
  have hk' : w1.cell? ⟨gk, 0, none⟩ = some (.int .i32 k) := (hbl1.out.cell (p := ⟨gk, 0, none⟩) (World.block_lt_of_cell? w _ hk)).trans hk
  go_wp2_with fail
  refine (appendVarint ho1 hbl1.out.size _ (kindNum_of k).1 (kindNum_of k).2.1 (by simp)).mono ?_
  rintro e w2 ⟨v2, rfl, ho2, hg2, hn2, hm2⟩
  rw [(kindNum_of k).2.2] at ho2
  have hbl2 := Lib.hid (hbl1.out.trans (below_of_own ho1 hg2 hbl1.out.size))
  go_wp2_with fail
  have h10 : (Wire.venc (kindNum k)).length ≤ 10 := Wire.venc_length_u64 (kindNum_lt k)
  refine (appendTag ho2 hbl2.out.size (by unfold TagOk; omega) (by simp; omega)).mono ?_
  rintro e w3 ⟨v3, rfl, ho3, hg3, hn3, hm3⟩
  have hbl3 := Lib.hid (hbl2.out.trans (below_of_own ho2 hg3 hbl2.out.size))
  have c1' : w3.cell? ⟨g, 1, none⟩ = some (.slice (some a) n c) := (Hb.out.step hbl3.out).cell 1
  have Hd3 := Lib.hid (Hd.out.below hbl3.out)
  go_wp2_with fail
  refine (appendBytes ho3 hbl3.out.size Hd3.out hbl3.out.size (fun g e => (ho3.lt g e).1) (by simp; omega)).mono ?_
  rintro e w4 ⟨v4, rfl, ho4, hg4, hn4, hm4⟩
  have hbl4 := Lib.hid (hbl3.out.trans (below_of_own ho3 hg4 hbl3.out.size))
  go_wp2_with fail
  go_ret2
  exact ⟨v4, rfl, by have := ho4; simpa [keyEnc, List.append_assoc] using this, hbl4.out, hn4⟩
end Go.Proofs.YtkmjjoffamdnfaaGreatDoor

/- crypto/pb: required, and the methods of PublicKey and PrivateKey. -/
namespace Go.Proofs.YtkmjjoffamdnfaaGreatDoor
open Go.RowKit
set_option maxRecDepth 100000

/-- both fields are there -/
def KS.full (s : KS) : Bool := s.kind.isSome && s.data.isSome
def ReqAns (s : KS) (e : Ending) : Prop := (s.full = true ∧ e = .returned .nilIface) ∨ (s.full = false ∧ errAns e)

theorem DataAt.some_form {w : World} {dv : Value} {d : List UInt8} (h : DataAt w dv (some d)) : ∃ a n c, dv = .slice (some a) n c := h.2.1

theorem keyRequired {w : World} {g : Nat} {t : TypeId} {p A : Option Addr} {n c : Nat} {s : KS} (hb : Blk w g t #[.pointer p, .slice A n c]) (hk : KRep w (.pointer p) (.slice A n c) s) (he : CErr w) :
    Calls Tryz.prog 56 #[.pointer (some ⟨g, 0, none⟩)] w fun e w' => ReqAns s e ∧ w = w' := by
  obtain ⟨kind, data⟩ := s
  obtain ⟨hk1, hk2⟩ := hk
  obtain ⟨t', x, herr⟩ := he.req
  have c0 : w.cell? ⟨g, 0, none⟩ = some (.pointer p) := hb.cell 0
  have c1 : w.cell? ⟨g, 1, none⟩ = some (.slice A n c) := hb.cell 1
  have hq := eql_nil
  clear hb he
  cases kind with
  | none =>
    injection (show Value.pointer p = .pointer none from hk1) with hk1
    subst hk1
    clear hk2
    go_enter Tryz.func56, Tryz.ntmps56
    go_wp2
    go_ret
    exact ⟨.inr ⟨rfl, _, _, rfl⟩, rfl⟩
  | some k =>
    obtain ⟨gk, he, hck⟩ := hk1
    injection he with he
    subst he
    clear hck
    cases data with
    | none =>
      injection (show Value.slice A n c = .slice none 0 0 from hk2) with e1 e2 e3
      subst e1 e2 e3
      clear hk2
      go_enter Tryz.func56, Tryz.ntmps56
      go_wp2
      go_ret
      exact ⟨.inr ⟨rfl, _, _, rfl⟩, rfl⟩
    | some d =>
      obtain ⟨a, n', c', he⟩ := hk2.some_form
      injection he with e1 e2 e3
      subst e1 e2 e3
      clear hk2
      go_enter Tryz.func56, Tryz.ntmps56
      go_wp2
      go_ret
      exact ⟨.inl ⟨rfl, rfl⟩, rfl⟩

section
variable {w : World} {g : Nat} {t : TypeId} {p A : Option Addr} {n c : Nat} {s : KS} {v : Value} {l : List UInt8}

theorem pubMerge_fin {w2 : World} {p2 A2 : Option Addr} {n2 c2 : Nat} (hbg : Blk w2 g t #[.pointer p, .slice A n c]) (hni : ∀ u ∈ (#[.pointer p, .slice A n c] : Array Value).toList, NoInt u) (hbl : Below w.heap.size w w2) (e : Ending)
    (hh : (keyRun s l = none ∧ errAns e) ∨ ∃ s', keyRun s l = some s' ∧ e = .returned .nilIface ∧ KRep w2 (.pointer p2) (.slice A2 n2 c2) s') :
    MergeAns w g t s l e ((w2.setCell ⟨g, 0, none⟩ (.pointer p2)).setCell ⟨g, 1, none⟩ (.slice A2 n2 c2)) := by
  obtain ⟨h1, h2⟩ := two_set (a := .pointer p2) (b := .slice A2 n2 c2) hbg
  refine ⟨p2, A2, n2, c2, h1, (grown_of_below hbl _).trans h2, ?_⟩
  rcases hh with hh | ⟨s', r1, r2, r3⟩
  · exact .inl hh
  · exact .inr ⟨s', r1, r2, r3.keepBlk hbg hni h2⟩

theorem pubMerge (hb : Blk w g t #[.pointer p, .slice A n c]) (hk : KRep w (.pointer p) (.slice A n c) s) (hv : Bs w w.heap.size v l) (he : CErr w) (hlen : l.length ≤ 140737488355328) :
    Calls Tryz.prog 43 #[.pointer (some ⟨g, 0, none⟩), v] w fun e w' => MergeAns w g t s l e w' := by
  have Hb := Lib.hid hb
  have c0 : w.cell? ⟨g, 0, none⟩ = some (.pointer p) := hb.cell 0
  have c1 : w.cell? ⟨g, 1, none⟩ = some (.slice A n c) := hb.cell 1
  have Hni := Lib.hid hk.noInt
  have hba := below_alloc w (.cells #[.pointer p, .slice A n c] 85)
  have Hc := Lib.hid (keyMerge (w := w.alloc (.cells #[.pointer p, .slice A n c] 85)) (Blk.new w _ _) (hk.step hba) (hv.step hba) (he.step hba) hlen)
  have Hba := Lib.hid hba
  clear hba hb hk hv he
  go_enter Tryz.func43, Tryz.ntmps43
  go_wp2_with fail
  refine Hc.out.mono ?_
  rintro e w2 ⟨p2, A2, n2, c2, hb2, hg2, hans⟩
  have hbl := Lib.hid (below_of_new Hba.out (Nat.le_refl _) hg2)
  have Hb2 := Lib.hid hb2
  have k0 : w2.cell? ⟨w.heap.size, 0, none⟩ = some (.pointer p2) := hb2.cell 0
  have k1 : w2.cell? ⟨w.heap.size, 1, none⟩ = some (.slice A2 n2 c2) := hb2.cell 1
  have Hbg := Lib.hid (Hb.out.step hbl.out)
  have f0 := Hbg.out.free 0
  have f1 := Hbg.out.free 1
  have c0' : w2.cell? ⟨g, 0, none⟩ = some (.pointer p) := Hbg.out.cell 0
  have c1' : w2.cell? ⟨g, 1, none⟩ = some (.slice A n c) := Hbg.out.cell 1
  have Hans := Lib.hid hans
  clear hans hb2 Hc
  have Fin := Lib.hid (pubMerge_fin (s := s) (l := l) Hbg.out Hni.out hbl.out (p2 := p2) (A2 := A2) (n2 := n2) (c2 := c2))
  rcases Hans.out with ⟨hr, te, xe, rfl⟩ | ⟨s', hr, rfl, hrep⟩
  · have Hr := Lib.hid hr
    clear hr
    go_wp2_with fail
    go_ret
    exact Fin.out _ (.inl ⟨Hr.out, _, _, rfl⟩)
  · have Hr := Lib.hid hr
    clear hr
    go_wp2_with fail
    go_ret
    exact Fin.out _ (.inr ⟨s', Hr.out, rfl, hrep⟩)

theorem pubRequired (hb : Blk w g t #[.pointer p, .slice A n c]) (hk : KRep w (.pointer p) (.slice A n c) s) (he : CErr w) :
    Calls Tryz.prog 44 #[.pointer (some ⟨g, 0, none⟩)] w fun e w' => ReqAns s e ∧ Below w.heap.size w w' := by
  have c0 : w.cell? ⟨g, 0, none⟩ = some (.pointer p) := hb.cell 0
  have c1 : w.cell? ⟨g, 1, none⟩ = some (.slice A n c) := hb.cell 1
  have hba := below_alloc w (.cells #[.pointer p, .slice A n c] 85)
  have Hc := Lib.hid (keyRequired (w := w.alloc (.cells #[.pointer p, .slice A n c] 85)) (Blk.new w _ _) (hk.step hba) (he.step hba))
  clear hba hb hk he
  go_enter Tryz.func44, Tryz.ntmps44
  go_wp2_with fail
  refine Hc.out.mono ?_
  rintro e w2 ⟨hans, rfl⟩
  have Hans := Lib.hid hans
  clear hans
  rcases Hans.out with ⟨hf, rfl⟩ | ⟨hf, te, xe, rfl⟩
  · go_wp2_with fail
    go_ret
    exact ⟨Hans.out, below_alloc w _⟩
  · go_wp2_with fail
    go_ret
    exact ⟨Hans.out, below_alloc w _⟩
end
end Go.Proofs.YtkmjjoffamdnfaaGreatDoor

/- crypto/pb: Unmarshal, Marshal, GetType. -/
namespace Go.Proofs.YtkmjjoffamdnfaaGreatDoor
open Go.RowKit
set_option maxRecDepth 100000

/-- what bytes tell as a key's message -/
def keyDec (l : List UInt8) : Option (Int × List UInt8) :=
  match keyRun KS.none l with
  | some ⟨some k, some d⟩ => some (k, d)
  | _ => none

/-- what Unmarshal leaves -/
def UnmAns (w : World) (g : Nat) (t : TypeId) (l : List UInt8) (e : Ending) (w' : World) : Prop :=
  ∃ p A n c, Blk w' g t #[.pointer p, .slice A n c] ∧ w.grownBy w' (some g) ∧ ((keyDec l = none ∧ errAns e) ∨ ∃ k d, keyDec l = some (k, d) ∧ e = .returned .nilIface ∧ KRep w' (.pointer p) (.slice A n c) ⟨some k, some d⟩)

theorem keyDec_none {l : List UInt8} (h : keyRun KS.none l = none) : keyDec l = none := by unfold keyDec; rw [h]
theorem keyDec_some {l : List UInt8} {s : KS} (h : keyRun KS.none l = some s) (hf : s.full = true) : ∃ k d, s = ⟨some k, some d⟩ ∧ keyDec l = some (k, d) := by
  obtain ⟨kind, data⟩ := s
  cases kind with
  | none => simp [KS.full] at hf
  | some k => cases data with
    | none => simp [KS.full] at hf
    | some d => exact ⟨k, d, rfl, by unfold keyDec; rw [h]⟩
theorem keyDec_part {l : List UInt8} {s : KS} (h : keyRun KS.none l = some s) (hf : s.full = false) : keyDec l = none := by
  obtain ⟨kind, data⟩ := s
  unfold keyDec; rw [h]
  cases kind with
  | none => rfl
  | some k => cases data with
    | none => rfl
    | some d => simp [KS.full] at hf

section
variable {w : World} {g : Nat} {t : TypeId} {p A : Option Addr} {n c : Nat} {s : KS} {v : Value} {l : List UInt8}

theorem pubUnmarshal (hb : Blk w g t #[.pointer p, .slice A n c]) (hv : Bs w w.heap.size v l) (he : CErr w) (hlen : l.length ≤ 140737488355328) :
    Calls Tryz.prog 31 #[.pointer (some ⟨g, 0, none⟩), v] w fun e w' => UnmAns w g t l e w' := by
  obtain ⟨hb1, hg1⟩ := two_set (a := .pointer none) (b := .slice none 0 0) hb
  have hni : ∀ u ∈ (#[.pointer p, .slice A n c] : Array Value).toList, NoInt u := by
    intro u hu
    simp at hu
    rcases hu with rfl | rfl
    · exact noInt_ptr _
    · exact noInt_slice _ _ _
  have Hc := Lib.hid (pubMerge (l := l) hb1 (KRep.nil _) (hv.keepBlk hb hni hg1) (he.keepBlk hb (noIface_key _ _ _ _) hg1) hlen)
  have He := Lib.hid (he.keepBlk hb (noIface_key _ _ _ _) hg1)
  have Hg1 := Lib.hid hg1
  have Hb1 := Lib.hid hb1
  have c0 : w.cell? ⟨g, 0, none⟩ = some (.pointer p) := hb.cell 0
  have c1 : w.cell? ⟨g, 1, none⟩ = some (.slice A n c) := hb.cell 1
  have f0 := hb.free 0
  have f1 := hb.free 1
  clear hb hb1 hg1 hv he hni
  go_enter Tryz.func31, Tryz.ntmps31
  go_wp2_with fail
  refine Hc.out.mono ?_
  rintro e w2 ⟨p2, A2, n2, c2, hb2, hg2, hans⟩
  have Hb2 := Lib.hid hb2
  have Hg2 := Lib.hid (Hg1.out.trans hg2)
  have He2 := Lib.hid (He.out.keepBlk Hb1.out (noIface_key _ _ _ _) hg2)
  clear hb2 hg2 Hc
  rcases hans with ⟨hr, te, xe, rfl⟩ | ⟨s', hr, rfl, hrep⟩
  · have Hr := Lib.hid hr
    clear hr
    go_wp2_with fail
    go_ret
    exact ⟨p2, A2, n2, c2, Hb2.out, Hg2.out, .inl ⟨keyDec_none Hr.out, _, _, rfl⟩⟩
  · have Hr := Lib.hid hr
    have Hrep := Lib.hid hrep
    clear hr hrep
    go_wp2_with fail
    refine (pubRequired Hb2.out Hrep.out He2.out).mono ?_
    rintro e w3 ⟨hans, hbl⟩
    have Hbl := Lib.hid hbl
    clear hbl
    rcases hans with ⟨hf, rfl⟩ | ⟨hf, te, xe, rfl⟩
    · have Hf := Lib.hid hf
      clear hf
      go_wp2_with fail
      go_ret
      obtain ⟨k, d, rfl, hd⟩ := keyDec_some Hr.out Hf.out
      exact ⟨p2, A2, n2, c2, Hb2.out.step Hbl.out, grown_step Hg2.out Hbl.out, .inr ⟨k, d, hd, rfl, Hrep.out.step Hbl.out⟩⟩
    · have Hf := Lib.hid hf
      clear hf
      go_wp2_with fail
      go_ret
      exact ⟨p2, A2, n2, c2, Hb2.out.step Hbl.out, grown_step Hg2.out Hbl.out, .inl ⟨keyDec_part Hr.out Hf.out, _, _, rfl⟩⟩


theorem getType {k : Int} {d : Option (List UInt8)} (hb : Blk w g t #[.pointer p, .slice A n c]) (hk : KRep w (.pointer p) (.slice A n c) ⟨some k, d⟩) :
    Calls Tryz.prog 32 #[.pointer (some ⟨g, 0, none⟩)] w fun e w' => e = .returned (.int .i32 k) ∧ w = w' := by
  have c0 : w.cell? ⟨g, 0, none⟩ = some (.pointer p) := hb.cell 0
  obtain ⟨gk, he, hck⟩ := hk.1
  injection he with he
  subst he
  clear hb hk
  go_enter Tryz.func32, Tryz.ntmps32
  go_wp2
  go_ret
  exact ⟨rfl, rfl⟩

theorem pubMarshal {gk : Nat} {k : Int} {d : List UInt8} (hb : Blk w g t #[.pointer (some ⟨gk, 0, none⟩), .slice A n c]) (hk : w.cell? ⟨gk, 0, none⟩ = some (.int .i32 k)) (hd : Bs w w.heap.size (.slice A n c) d) (hn : NN (.slice A n c))
    (hlen : d.length ≤ 140737488000000) (hk1 : -2147483648 ≤ k) (hk2 : k ≤ 2147483647) :
    Calls Tryz.prog 30 #[.pointer (some ⟨g, 0, none⟩)] w fun e w' => BytesOk w (keyEnc k d) e w' := by
  have hba := below_alloc w (.cells #[.pointer (some ⟨gk, 0, none⟩), .slice A n c] 85)
  have Hc := Lib.hid (keyMarshal (w := w.alloc (.cells #[.pointer (some ⟨gk, 0, none⟩), .slice A n c] 85)) (Blk.new w _ _) ((hba.cell (p := ⟨gk, 0, none⟩) (World.block_lt_of_cell? w _ hk)).trans hk) (hd.step hba) hn hlen hk1 hk2)
  have Hba := Lib.hid hba
  have c0 : w.cell? ⟨g, 0, none⟩ = some (.pointer (some ⟨gk, 0, none⟩)) := hb.cell 0
  have c1 : w.cell? ⟨g, 1, none⟩ = some (.slice A n c) := hb.cell 1
  clear hba hb hd hn
  go_enter Tryz.func30, Tryz.ntmps30
  go_wp2_with fail
  refine Hc.out.mono ?_
  rintro e w2 ⟨v', rfl, ho, hbl, hnn⟩
  go_wp2_with fail
  go_ret2
  exact ⟨v', rfl, ho.more (by simp), below_trans Hba.out hbl, hnn⟩

end
end Go.Proofs.YtkmjjoffamdnfaaGreatDoor

/- impl: KeyBytes, SecretBytes, KeyOf, SecretOf. -/
namespace Go.Proofs.YtkmjjoffamdnfaaGreatDoor
open Go.RowKit
set_option maxRecDepth 100000
attribute [local go_sem ↓] Go.wp_at_zero Go.wp_at_succ

/-- bytes and 'true' -/
def BytesTrue (w : World) (l : List UInt8) (e : Ending) (w' : World) : Prop := ∃ v', e = .returned (.tuple #[v', .bool true]) ∧ Own w' w.heap.size v' l ∧ Below w.heap.size w w' ∧ NN v'

section
variable {w : World} {v : Value} {l : List UInt8} {k : Int}

theorem keyBytes (hv : Bs w w.heap.size v l) (hlen : l.length ≤ 140737488000000) (hk1 : -2147483648 ≤ k) (hk2 : k ≤ 2147483647) :
    Calls Tryz.prog 16 #[.int .i32 k, v] w fun e w' => BytesTrue w (keyEnc k l) e w' := by
  have Hv := Lib.hid hv
  clear hv
  go_enter Tryz.func16, Tryz.ntmps16
  go_wp2_with fail
  refine (enum _ _).mono ?_
  rintro e w1 ⟨gk, rfl, hck, hbl1⟩
  have Hbl1 := Lib.hid hbl1
  have Hck := Lib.hid hck
  clear hbl1 hck
  go_wp2_with fail
  refine (present (Hv.out.step Hbl1.out) (by omega)).mono ?_
  rintro e w2 ⟨v2, rfl, ho2, hbl2, hnn⟩
  obtain ⟨a, n, c, rfl⟩ := hnn
  have Hbl2 := Lib.hid (below_trans Hbl1.out hbl2)
  have Hck2 := Lib.hid ((hbl2.cell (p := ⟨gk, 0, none⟩) (World.block_lt_of_cell? w1 _ Hck.out)).trans Hck.out)
  have Hd2 := Lib.hid ho2.bs
  clear ho2 hbl2
  go_wp2_with fail
  have hba := below_alloc w2 (.cells #[.pointer (some ⟨gk, 0, none⟩), .slice (some a) n c] 62)
  refine (pubMarshal (w := w2.alloc (.cells #[.pointer (some ⟨gk, 0, none⟩), .slice (some a) n c] 62)) (Blk.new w2 _ _) ((hba.cell (p := ⟨gk, 0, none⟩) (World.block_lt_of_cell? w2 _ Hck2.out)).trans Hck2.out) (Hd2.out.step hba) ⟨_, _, _, rfl⟩ hlen hk1 hk2).mono ?_
  rintro e w3 ⟨v3, rfl, ho3, hbl3, hnn3⟩
  have Hbl3 := Lib.hid (below_trans (below_trans Hbl2.out hba) hbl3)
  have Ho3 := Lib.hid ho3
  have hsz := Hbl2.out.size
  clear hba hbl3 ho3
  go_wp2_with fail
  go_quiet (fail)
  go_wp2
  go_ret2
  exact ⟨v3, rfl, (Ho3.out.more (by simp; omega)).drewN _, below_drewN Hbl3.out _, hnn3⟩


/-- what KeyOf answers -/
def KeyOfAns (w : World) (l : List UInt8) (e : Ending) (w' : World) : Prop :=
  Below w.heap.size w w' ∧ ((keyDec l = none ∧ e = .returned (.tuple #[.int .i32 0, .slice none 0 0, .bool false])) ∨
    ∃ k d v', keyDec l = some (k, d) ∧ e = .returned (.tuple #[.int .i32 k, v', .bool true]) ∧ Bs w' w'.heap.size v' d ∧ d.length ≤ 140737488355328)

theorem keyOf (hv : Bs w w.heap.size v l) (he : CErr w) (hlen : l.length ≤ 140737488355328) :
    Calls Tryz.prog 17 #[v] w fun e w' => KeyOfAns w l e w' := by
  have Hv := Lib.hid hv
  have He := Lib.hid he
  clear hv he
  go_enter Tryz.func17, Tryz.ntmps17
  go_wp2_with fail
  have hba := below_alloc w (.cells #[.pointer none, .slice none 0 0] 62)
  refine (bytesClone (w := w.alloc (.cells #[.pointer none, .slice none 0 0] 62)) (Hv.out.step hba) hlen).mono ?_
  rintro e w1 ⟨v1, rfl, ho1, hbl1⟩
  have Hb1 := Lib.hid ((Blk.new w 62 #[.pointer none, .slice none 0 0]).step hbl1)
  have Hbl1 := Lib.hid (below_trans hba hbl1)
  have Hv1 := Lib.hid ho1.bs
  clear hba hbl1 ho1
  go_wp2_with fail
  refine (pubUnmarshal Hb1.out Hv1.out (He.out.step Hbl1.out) hlen).mono ?_
  rintro e w2 ⟨p2, A2, n2, c2, hb2, hg2, hans⟩
  have Hb2 := Lib.hid hb2
  have Hbl2 := Lib.hid (below_grown Hbl1.out hg2 (fun g e => by injection e with e; omega))
  clear hb2 hg2
  rcases hans with ⟨hd, te, xe, rfl⟩ | ⟨k, d, hd, rfl, hrep⟩
  · have Hd := Lib.hid hd
    clear hd
    go_wp2_with fail
    go_ret3
    exact ⟨Hbl2.out, .inl ⟨Hd.out, rfl⟩⟩
  · have Hd := Lib.hid hd
    have Hrep := Lib.hid hrep
    clear hd hrep
    go_wp2_with fail
    have c1 : w2.cell? ⟨w.heap.size, 1, none⟩ = some (.slice A2 n2 c2) := Hb2.out.cell 1
    have HG : ∀ W, Below w2.heap.size w2 W → Calls Tryz.prog 32 #[.pointer (some ⟨w.heap.size, 0, none⟩)] W fun e w' => e = .returned (.int .i32 k) ∧ W = w' := fun W hW => getType (Hb2.out.step hW) (Hrep.out.step hW)
    have HC : ∀ W, Below w2.heap.size w2 W → Calls Tryz.prog 9 #[.slice A2 n2 c2] W fun e w' => Fresh W d e w' := fun W hW => bytesClone (Hrep.out.2.1.step hW) Hrep.out.2.2.2
    have HG' := Lib.hid HG
    have HC' := Lib.hid HC
    clear HG HC
    go_region_with (first
      | (go_at_call 32; refine (HG'.out _ (by first | exact below_refl _ | exact below_drewN (below_refl _) _ | exact (below_refl _).drew | assumption | exact below_trans (below_drewN (below_refl _) _) (by assumption) | exact below_trans (below_refl _).drew (by assumption))).mono ?_; rintro e w' ⟨rfl, rfl⟩)
      | (go_at_call 9; refine (HC'.out _ (by first | exact below_refl _ | exact below_drewN (below_refl _) _ | exact (below_refl _).drew)).mono ?_; rintro e w' ⟨v', rfl, ho, hbl⟩))
    all_goals
      go_wp2
      go_ret3
      have hbl3 := below_trans Hbl2.out (below_trans (below_refl w2).drew hbl)
      exact ⟨hbl3, .inr ⟨k, d, v', Hd.out, rfl, ho.bs, Hrep.out.2.2.2⟩⟩

end
end Go.Proofs.YtkmjjoffamdnfaaGreatDoor

/- '[]byte(s)' of a string; strings as lists of bytes. -/
namespace Go.Proofs.YtkmjjoffamdnfaaGreatDoor
open Go.RowKit
set_option maxRecDepth 100000

theorem below_freeze {B : Nat} {a w : World} (h : Below B a w) {p : Addr} (hp : B ≤ p.block) (n : Nat) : Below B a (w.freeze p n) := by
  unfold World.freeze
  split
  · exact h
  · refine ⟨h.os, h.tape, h.output, ?_, fun i hi => ?_⟩
    · have := h.size; simpa using this
    · have := h.block i hi
      have hne : p.block ≠ i := by omega
      simpa [Array.getElem?_modify, hne] using this
/-- '[]byte(s)' -/
theorem conv_bytes (w : World) (l : List UInt8) (hlen : l.length ≤ 140737488355328) {src : TypeId} {u : TypeDesc} (hs : Tryz.prog.underlying src = some u) :
    ∃ w1 c, (convert src 22 (.string (strOf l))).run Tryz.prog w = .ok (.slice (some ⟨w.heap.size, 0, none⟩) l.length c) w1 ∧ Bs w1 w1.heap.size (.slice (some ⟨w.heap.size, 0, none⟩) l.length c) l ∧ Below w.heap.size w w1 ∧ l.length ≤ c ∧ c ≤ 9223372036854775807 := by
  have hr := Lib.run_convert_string_bytes (P := Tryz.prog) w src 22 5 (strOf l) hs Tryz.underlying22 Tryz.underlying5
  rw [strOf_size] at hr
  have hge := grownCap_ge w l.length 0 5
  have hcm : grownCap w l.length 0 5 ≤ maxLen := grownCap_le_maxLen w l.length 0 5 (by unfold maxLen; omega)
  unfold maxLen at hcm
  refine ⟨_, _, hr, ⟨_, _, rfl, hge, hcm, fun hl => ⟨w.heap.size, 0, rfl, ?_, fun k hk => ?_⟩⟩, ?_, hge, hcm⟩
  · rw [Lib.bytesWorld_size]; omega
  · rw [Nat.zero_add, Lib.bytesWorld_cell _ _ _ _ (by rw [strOf_size]; exact hk), strOf_data]
    simp [bv, List.getD, hk]
  · exact below_freeze ((below_drew w).alloc (Nat.le_refl _) _) (by simp) _
end Go.Proofs.YtkmjjoffamdnfaaGreatDoor
