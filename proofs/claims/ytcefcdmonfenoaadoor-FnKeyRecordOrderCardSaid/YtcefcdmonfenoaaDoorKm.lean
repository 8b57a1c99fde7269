/- crypto/pb: key.merge reads a message over what is there. -/
import Derived.Test.YtcefcdmonfenoaaDoorKs
namespace Go.Proofs.YtcefcdmonfenoaaDoor
open Go.RowKit
set_option maxRecDepth 100000

/-- the errors that the readers of keys hand out -/
structure CErr (w : World) : Prop where
  p : PErr w
  num : HasErr w 3
  req : HasErr w 2
theorem CErr.step {w w' : World} (h : CErr w) (hb : Below w.heap.size w w') : CErr w' := ⟨h.p.step hb, h.num.step hb, h.req.step hb⟩
theorem HasErr.keepBlk {w w' : World} {e g : Nat} {t : TypeId} {cs : Array Value} (h : HasErr w e) (hb : Blk w g t cs) (hn : ∀ u ∈ cs.toList, ∀ t x, u ≠ .iface t x) (hg : w.grownBy w' (some g)) : HasErr w' e := by
  obtain ⟨t', x, hc⟩ := h
  refine ⟨t', x, hg.cell hc ?_⟩
  intro e'
  have e' : e = g := by simpa using e'
  subst e'
  rw [hb.cell] at hc
  exact hn _ (by simpa using Array.mem_of_getElem? hc) _ _ rfl
def NoIface (cs : Array Value) : Prop := ∀ u ∈ cs.toList, ∀ t x, u ≠ .iface t x
theorem noIface_key (p A : Option Addr) (n c : Nat) : NoIface #[.pointer p, .slice A n c] := by
  intro u hu t x e
  subst e
  simp at hu
theorem PErr.keepBlk {w w' : World} {g : Nat} {t : TypeId} {cs : Array Value} (h : PErr w) (hb : Blk w g t cs) (hn : NoIface cs) (hg : w.grownBy w' (some g)) : PErr w' :=
  ⟨h.eof.keepBlk hb hn hg, h.num.keepBlk hb hn hg, h.over.keepBlk hb hn hg, h.reserved.keepBlk hb hn hg, h.group.keepBlk hb hn hg, h.parse.keepBlk hb hn hg⟩
theorem CErr.keepBlk {w w' : World} {g : Nat} {t : TypeId} {cs : Array Value} (h : CErr w) (hb : Blk w g t cs) (hn : NoIface cs) (hg : w.grownBy w' (some g)) : CErr w' :=
  ⟨h.p.keepBlk hb hn hg, h.num.keepBlk hb hn hg, h.req.keepBlk hb hn hg⟩

/-- two cells stored into a block of two -/
theorem two_set {w : World} {g : Nat} {t : TypeId} {x y a b : Value} (hb : Blk w g t #[x, y]) :
    Blk ((w.setCell ⟨g, 0, none⟩ a).setCell ⟨g, 1, none⟩ b) g t #[a, b] ∧ w.grownBy ((w.setCell ⟨g, 0, none⟩ a).setCell ⟨g, 1, none⟩ b) (some g) := by
  have h1 := hb.set 0 a
  have h2 := h1.set 1 b
  have g1 := grown_setCell (grown_refl w (some g)) (p := ⟨g, 0, none⟩) (.inl rfl) a
  have g2 := grown_setCell g1 (p := ⟨g, 1, none⟩) (.inl rfl) b
  exact ⟨h2, g2⟩

/-- what merge leaves -/
def MergeAns (w : World) (g : Nat) (t : TypeId) (s : KS) (l : List UInt8) (e : Ending) (w' : World) : Prop :=
  ∃ p A n c, Blk w' g t #[.pointer p, .slice A n c] ∧ w.grownBy w' (some g) ∧ ((keyRun s l = none ∧ errAns e) ∨ ∃ s', keyRun s l = some s' ∧ e = .returned .nilIface ∧ KRep w' (.pointer p) (.slice A n c) s')

/-- the loop's relation -/
structure MRel (w : World) (N : Nat) (g : Nat) (R : Option KS) (wr : World) (A' : Option Addr) (N' c' : Nat) (l' : List UInt8) (p A : Option Addr) (n c : Nat) (s' : KS) : Prop where
  bs : Bs wr wr.heap.size (.slice A' N' c') l'
  len : l'.length = N'
  le : N' ≤ N
  blk : Blk wr g 118 #[.pointer p, .slice A n c]
  rep : KRep wr (.pointer p) (.slice A n c) s'
  grown : w.grownBy wr (some g)
  run : keyRun s' l' = R
  errs : CErr wr

section
variable {w wr wx : World} {N g : Nat} {R : Option KS} {A' A3 : Option Addr} {N' c' N3 c3 : Nat} {l' l3 : List UInt8} {p A p3 A2 : Option Addr} {n c n2 c2 : Nat} {s' s3 : KS}
theorem MRel.noInt (H : MRel w N g R wr A' N' c' l' p A n c s') : ∀ u ∈ (#[.pointer p, .slice A n c] : Array Value).toList, NoInt u := H.rep.noInt
/-- a round's end: the block of the key alone, and what is new, has turned -/
theorem MRel.next (H : MRel w N g R wr A' N' c' l' p A n c s') (hg : wr.grownBy wx (some g)) (hb : Blk wx g 118 #[.pointer p3, .slice A2 n2 c2]) (hk : KRep wx (.pointer p3) (.slice A2 n2 c2) s3)
    (hv : Bs wr wr.heap.size (.slice A3 N3 c3) l3) (hl : l3.length = N3) (hN : N3 ≤ N') (hr : keyRun s3 l3 = R) : MRel w N g R wx A3 N3 c3 l3 p3 A2 n2 c2 s3 :=
  ⟨hv.keepBlk H.blk H.noInt hg, hl, Nat.le_trans hN H.le, hb, hk, H.grown.trans hg, hr, H.errs.keepBlk H.blk (noIface_key _ _ _ _) hg⟩
theorem MRel.nil (H : MRel w N g R wr A' 0 c' l' p A n c s') : R = some s' := by
  rw [← H.run, List.length_eq_zero_iff.1 H.len, keyRun_nil]
theorem MRel.ok {s : KS} {l : List UInt8} (H : MRel w N g R wr A' N' c' l' p A n c s') (hf : keyRun s l = R) (hR : R = some s') : MergeAns w g 118 s l (.returned .nilIface) wr :=
  ⟨p, A, n, c, H.blk, H.grown, .inr ⟨s', hf.trans hR, rfl, H.rep⟩⟩
theorem MRel.bad {s : KS} {l : List UInt8} {t : TypeId} {x : Value} (H : MRel w N g R wr A' N' c' l' p A n c s') (hf : keyRun s l = R) (hR : keyRun s' l' = none) (hg : Below wr.heap.size wr wx) : MergeAns w g 118 s l (.returned (.iface t x)) wx :=
  ⟨p, A, n, c, H.blk.step hg, grown_step H.grown hg, .inl ⟨hf.trans (H.run.symm.trans hR), ⟨t, x, rfl⟩⟩⟩
end

theorem keyMerge {w : World} {g : Nat} {p A : Option Addr} {n c : Nat} {s : KS} {v : Value} {l : List UInt8} (hb : Blk w g 118 #[.pointer p, .slice A n c]) (hk : KRep w (.pointer p) (.slice A n c) s)
    (hv : Bs w w.heap.size v l) (he : CErr w) (hlen : l.length ≤ 140737488355328) :
    Calls Tryd.prog 93 #[.pointer (some ⟨g, 0, none⟩), v] w fun e w' => MergeAns w g 118 s l e w' := by
  obtain ⟨A0, c0, rfl, hlc, hc63⟩ := hv.form
  generalize hR : keyRun s l = R at *
  generalize hN : l.length = N at *
  have HR := Lib.hid (show MRel w N g R w A0 N c0 l p A n c s from ⟨hv, hN, Nat.le_refl _, hb, hk, grown_refl w _, hR, he⟩)
  have HfR := Lib.hid hR
  clear hR hN hv hb hk he
  go_enter Tryd.func93, Tryd.ntmps93
  go_wp2
  go_loopw [1] (fun b wr => ∃ (A' : Option Addr) (N' c' : Nat) (l' : List UInt8) (p A : Option Addr) (n c : Nat) (s' : KS), b = .slice A' N' c' ∧ Hid (MRel w N g R wr A' N' c' l' p A n c s')) (fun b _ => lenOf b)
  case atStart => exact ⟨A0, N, c0, l, p, A, n, c, s, rfl, HR⟩
  case round =>
    clear HR
    obtain ⟨A', N', c', l', p, A, n, c, s', rfl, H⟩ := hrel
    have hle := H.out.le
    by_cases hz : N' = 0
    · subst hz
      go_wp2
      go_ret
      exact H.out.ok HfR.out H.out.nil
    · have hpos : 0 < N' := by omega
      clear hz
      have Hlen : Hid (0 < l'.length) := by have := H.out.len; show 0 < l'.length; omega
      rcases hct : Wire.ctag l' with ⟨a, b, cn⟩
      have hbc := Wire.ctag_facts hct
      rw [H.out.len] at hbc
      have Hct := Lib.hid hct
      clear hct
      have hc63' : c' ≤ 9223372036854775807 ∧ N' ≤ c' := by
        obtain ⟨A1, c1, he, h1, h2⟩ := H.out.bs.form
        rw [H.out.len] at he h1
        injection he with e1 e2 e3
        omega
      obtain ⟨hc63', hlc'⟩ := hc63'
      by_cases hn : cn < 0
      · go_wp2_with (first | (go_at_call 95; refine (consumeTag H.out.bs Hct.out).mono ?_; rintro e w' ⟨rfl, rfl⟩) | (go_at_call 96; refine (parseError H.out.errs.p (by assumption) (by omega)).mono ?_; rintro e w' ⟨⟨t, x, rfl⟩, rfl⟩))
        go_ret
        exact H.out.bad HfR.out (keyRun_torn Hct.out Hlen.out hn) (below_refl _)
      · obtain ⟨n1, rfl⟩ := Int.eq_ofNat_of_zero_le (show 0 ≤ cn by omega)
        have hnN : n1 ≤ N' := by omega
        have hn0 : 0 < n1 := by omega
        obtain ⟨ha1, ha2, hb0, hb7⟩ : 1 ≤ a ∧ a ≤ 2147483647 ∧ 0 ≤ b ∧ b ≤ 7 := by omega
        clear hbc
        by_cases hfar : 536870911 < a
        · obtain ⟨t, x, herr⟩ := H.out.errs.num
          go_wp2_with (go_at_call 95; refine (consumeTag H.out.bs Hct.out).mono ?_; rintro e w' ⟨rfl, rfl⟩)
          go_ret
          exact H.out.bad HfR.out (keyRun_far Hct.out Hlen.out hfar) (below_refl _)
        · obtain ⟨A2, hsl, hcut⟩ := slice_from H.out.bs hnN
          have Hcut := Lib.hid hcut
          clear hcut
          have Hl1 : Hid ((l'.drop n1).length = N' - n1) := by show _ = _; rw [List.length_drop, H.out.len]
          have f0 := H.out.blk.free 0
          have c0 : wr.cell? ⟨g, 0, none⟩ = some (.pointer p) := H.out.blk.cell 0
          have f1 := H.out.blk.free 1
          have c1 : wr.cell? ⟨g, 1, none⟩ = some (.slice A n c) := H.out.blk.cell 1
          by_cases hk1 : a = 1 ∧ b = 0
          · obtain ⟨rfl, rfl⟩ := hk1
            rcases hcv : Wire.cvar (l'.drop n1) with ⟨x, m⟩
            obtain ⟨hx, _, hm, hm3⟩ := cvar_facts hcv
            rw [Hl1.out] at hm
            have Hcv := Lib.hid hcv
            clear hcv
            by_cases hm0 : m < 0
            · clear hx
              go_wp2_with (first | (go_at_call 95; refine (consumeTag H.out.bs Hct.out).mono ?_; rintro e w' ⟨rfl, rfl⟩) | (go_at_call 98; refine (consumeVarint' Hcut.out Hcv.out).mono ?_; rintro e w' ⟨rfl, rfl⟩) | (go_at_call 96; refine (parseError H.out.errs.p (by assumption) (by omega)).mono ?_; rintro e w' ⟨⟨t, x, rfl⟩, rfl⟩))
              go_ret
              exact H.out.bad HfR.out (keyRun_kind_bad Hct.out Hlen.out Hcv.out hm0) (below_refl _)
            · obtain ⟨m, rfl⟩ := Int.eq_ofNat_of_zero_le (show 0 ≤ m by omega)
              have hmN : m ≤ N' - n1 := by omega
              obtain ⟨A3, hsl2, hcut2⟩ := slice_from Hcut.out hmN
              have Hcut2 := Lib.hid hcut2
              clear hcut2 hx hm hm3
              go_wp2_with (first | (go_at_call 95; refine (consumeTag H.out.bs Hct.out).mono ?_; rintro e w' ⟨rfl, rfl⟩) | (go_at_call 98; refine (consumeVarint' Hcut.out Hcv.out).mono ?_; rintro e w' ⟨rfl, rfl⟩) | (go_at_call 65; refine (enum _ _).mono ?_; rintro e w1 ⟨gk, rfl, hck, hbl⟩; have hb1 := Lib.hid (H.out.blk.step hbl); have f0' := hb1.out.free 0; have c0' : w1.cell? ⟨g, 0, none⟩ = some (.pointer p) := hb1.out.cell 0))
              go_roundw
              case rel =>
                have hgn : gk ≠ g := by
                  rintro rfl
                  rw [c0'] at hck; cases hck
                refine ⟨A3, _, _, _, some ⟨gk, 0, none⟩, A, n, c, { s' with kind := some (wrap32 x) }, rfl, H.out.next (grown_setCell (grown_of_below hbl _) (.inl rfl) _) (hb1.out.set 0 _) ⟨?_, ?_⟩ Hcut2.out ?_ (by omega) ?_⟩
                · exact ⟨gk, rfl, by rw [World.cell?_setCell_other _ _ _ _ (by first | (simp; done) | (simp; omega))]; exact hck⟩
                · exact (H.out.rep.2.step hbl).keepBlk hb1.out H.out.noInt (grown_setCell (grown_refl _ _) (.inl rfl) _)
                · rw [List.length_drop, Hl1.out]
                · rw [← H.out.run]; exact (keyRun_kind Hct.out Hlen.out Hcv.out).symm
              case measure => simp [lenOf]; omega
          · by_cases hk2 : a = 2 ∧ b = 2
            · obtain ⟨rfl, rfl⟩ := hk2
              clear hk1
              rcases hcv : Wire.cbytes (l'.drop n1) with ⟨d, m⟩
              have hm := Wire.cbytes_bounds (l'.drop n1)
              rw [hcv] at hm
              rw [Hl1.out] at hm
              simp only [] at hm
              have Hcv := Lib.hid hcv
              clear hcv
              by_cases hm0 : m < 0
              · have hm3 : -3 ≤ m := by omega
                clear hm
                go_wp2_with (first | (go_at_call 95; refine (consumeTag H.out.bs Hct.out).mono ?_; rintro e w' ⟨rfl, rfl⟩) | (go_at_call 97; refine (consumeBytes Hcut.out Hcv.out).mono ?_; rintro e w' ⟨⟨v', rfl, _⟩, rfl⟩) | (go_at_call 96; refine (parseError H.out.errs.p (by assumption) (by omega)).mono ?_; rintro e w' ⟨⟨t, x, rfl⟩, rfl⟩))
                go_ret
                exact H.out.bad HfR.out (keyRun_data_bad Hct.out Hlen.out Hcv.out hm0) (below_refl _)
              · obtain ⟨m, rfl⟩ := Int.eq_ofNat_of_zero_le (show 0 ≤ m by omega)
                have hmN : m ≤ N' - n1 := by omega
                have hdl : d.length ≤ N' - n1 := by omega
                obtain ⟨A3, hsl2, hcut2⟩ := slice_from Hcut.out hmN
                have Hcut2 := Lib.hid hcut2
                clear hcut2 hm
                go_wp2_with (first
                  | (go_at_call 95; refine (consumeTag H.out.bs Hct.out).mono ?_; rintro e w' ⟨rfl, rfl⟩)
                  | (go_at_call 97; refine (consumeBytes Hcut.out Hcv.out).mono ?_; rintro e w' ⟨⟨vd, rfl, hvd⟩, rfl⟩; have Hvd := Lib.hid hvd; clear hvd)
                  | (at_builtin; refine wpList_app rfl _ _ rfl (by rfl) (by rfl) (Own.made _ (Nat.le_refl _)) (Hvd.out.alloc (Nat.le_refl _) _) (by simp; omega) (by simp) ?_; intro v' w1 ho hg hnn hmv; obtain ⟨a2, n2, c2, rfl⟩ := hnn ⟨_, _, _, rfl⟩; have hbl := Lib.hid (below_grown (below_alloc wr _) hg (fun g e => by simp [Value.ownBlock] at e; omega)); have hb1 := Lib.hid (H.out.blk.step hbl.out); have f1' := hb1.out.free 1; have c1' : w1.cell? ⟨g, 1, none⟩ = some (.slice A n c) := hb1.out.cell 1))
                go_roundw
                case rel =>
                  have hni : ∀ u ∈ (#[.pointer p, .slice A n c] : Array Value).toList, NoInt u := H.out.noInt
                  have hsc := grown_setCell (grown_refl w1 (some g)) (p := ⟨g, 1, none⟩) (.inl rfl) (.slice (some a2) n2 c2)
                  refine ⟨A3, _, _, _, p, some a2, n2, c2, { s' with data := some d }, rfl, H.out.next (grown_setCell (grown_of_below hbl.out _) (.inl rfl) _) (hb1.out.set 1 _) ⟨?_, ?_⟩ Hcut2.out ?_ (by omega) ?_⟩
                  · exact (H.out.rep.1.step hbl.out).keepBlk hb1.out hni hsc
                  · refine ⟨?_, ⟨_, _, _, rfl⟩, by omega⟩
                    have := ho.bs
                    rw [List.nil_append] at this
                    exact this.keepBlk hb1.out hni hsc
                  · rw [List.length_drop, Hl1.out]
                  · rw [← H.out.run]; exact (keyRun_data Hct.out Hlen.out Hcv.out).symm
                case measure => simp [lenOf]; omega
            · have hm := fval_bounds a b (l'.drop n1)
              rw [Hl1.out] at hm
              generalize hfv : fval a b (l'.drop n1) = m at *
              have Hfv := Lib.hid hfv
              have Hfar := Lib.hid hfar
              have hcase : (a = 1 ∧ b ≠ 0) ∨ (a = 2 ∧ b ≠ 2) ∨ (a ≠ 1 ∧ a ≠ 2) := by omega
              clear hfv hk1 hk2
              rcases hcase with ⟨rfl, hb⟩ | ⟨rfl, hb⟩ | ⟨hx1, hx2⟩
              · have e1 := i8_ne hb
                by_cases hm0 : m < 0
                · have hm6 : -6 ≤ m := by omega
                  clear hm
                  go_wp2_with (first
                    | (go_at_call 95; refine (consumeTag H.out.bs Hct.out).mono ?_; rintro e w' ⟨rfl, rfl⟩)
                    | (go_at_call 100; refine (consumeFieldValue Hcut.out (by assumption) (by assumption) Hfv.out).mono ?_; rintro e w' ⟨rfl, nq, rfl⟩)
                    | (go_at_call 96; refine (parseError (H.out.errs.p.step (below_drewN (below_refl _) nq)) (by assumption) (by assumption)).mono ?_; rintro e w' ⟨⟨t, x, rfl⟩, rfl⟩))
                  go_ret
                  exact H.out.bad HfR.out (keyRun_skip_bad Hct.out Hlen.out (by have := Hfar.out; omega) (by omega) (by omega) Hfv.out hm0) (below_drewN (below_refl _) nq)
                · obtain ⟨m, rfl⟩ := Int.eq_ofNat_of_zero_le (show 0 ≤ m by omega)
                  have hmN : m ≤ N' - n1 := by omega
                  obtain ⟨A3, hsl2, hcut2⟩ := slice_from Hcut.out hmN
                  have Hcut2 := Lib.hid hcut2
                  clear hcut2 hm
                  go_wp2_with (first
                    | (go_at_call 95; refine (consumeTag H.out.bs Hct.out).mono ?_; rintro e w' ⟨rfl, rfl⟩)
                    | (go_at_call 100; refine (consumeFieldValue Hcut.out (by assumption) (by assumption) Hfv.out).mono ?_; rintro e w' ⟨rfl, nq, rfl⟩))
                  go_roundw
                  case rel =>
                    have hbl := below_drewN (below_refl wr) nq
                    exact ⟨A3, _, _, _, p, A, n, c, s', rfl, H.out.next (grown_of_below hbl _) (H.out.blk.step hbl) (H.out.rep.step hbl) Hcut2.out (by rw [List.length_drop, Hl1.out]) (by omega) (by rw [← H.out.run]; exact (keyRun_skip Hct.out Hlen.out (by have := Hfar.out; omega) (by omega) (by omega) Hfv.out).symm)⟩
                  case measure => simp [lenOf]; omega
              · have e1 := i8_ne hb
                by_cases hm0 : m < 0
                · have hm6 : -6 ≤ m := by omega
                  clear hm
                  go_wp2_with (first
                    | (go_at_call 95; refine (consumeTag H.out.bs Hct.out).mono ?_; rintro e w' ⟨rfl, rfl⟩)
                    | (go_at_call 100; refine (consumeFieldValue Hcut.out (by assumption) (by assumption) Hfv.out).mono ?_; rintro e w' ⟨rfl, nq, rfl⟩)
                    | (go_at_call 96; refine (parseError (H.out.errs.p.step (below_drewN (below_refl _) nq)) (by assumption) (by assumption)).mono ?_; rintro e w' ⟨⟨t, x, rfl⟩, rfl⟩))
                  go_ret
                  exact H.out.bad HfR.out (keyRun_skip_bad Hct.out Hlen.out (by have := Hfar.out; omega) (by omega) (by omega) Hfv.out hm0) (below_drewN (below_refl _) nq)
                · obtain ⟨m, rfl⟩ := Int.eq_ofNat_of_zero_le (show 0 ≤ m by omega)
                  have hmN : m ≤ N' - n1 := by omega
                  obtain ⟨A3, hsl2, hcut2⟩ := slice_from Hcut.out hmN
                  have Hcut2 := Lib.hid hcut2
                  clear hcut2 hm
                  go_wp2_with (first
                    | (go_at_call 95; refine (consumeTag H.out.bs Hct.out).mono ?_; rintro e w' ⟨rfl, rfl⟩)
                    | (go_at_call 100; refine (consumeFieldValue Hcut.out (by assumption) (by assumption) Hfv.out).mono ?_; rintro e w' ⟨rfl, nq, rfl⟩))
                  go_roundw
                  case rel =>
                    have hbl := below_drewN (below_refl wr) nq
                    exact ⟨A3, _, _, _, p, A, n, c, s', rfl, H.out.next (grown_of_below hbl _) (H.out.blk.step hbl) (H.out.rep.step hbl) Hcut2.out (by rw [List.length_drop, Hl1.out]) (by omega) (by rw [← H.out.run]; exact (keyRun_skip Hct.out Hlen.out (by have := Hfar.out; omega) (by omega) (by omega) Hfv.out).symm)⟩
                  case measure => simp [lenOf]; omega
              · have e1 := i8_ne hx1
                have e2 := i8_ne hx2
                by_cases hm0 : m < 0
                · have hm6 : -6 ≤ m := by omega
                  clear hm
                  go_wp2_with (first
                    | (go_at_call 95; refine (consumeTag H.out.bs Hct.out).mono ?_; rintro e w' ⟨rfl, rfl⟩)
                    | (go_at_call 100; refine (consumeFieldValue Hcut.out (by assumption) (by assumption) Hfv.out).mono ?_; rintro e w' ⟨rfl, nq, rfl⟩)
                    | (go_at_call 96; refine (parseError (H.out.errs.p.step (below_drewN (below_refl _) nq)) (by assumption) (by assumption)).mono ?_; rintro e w' ⟨⟨t, x, rfl⟩, rfl⟩))
                  go_ret
                  exact H.out.bad HfR.out (keyRun_skip_bad Hct.out Hlen.out (by have := Hfar.out; omega) (by omega) (by omega) Hfv.out hm0) (below_drewN (below_refl _) nq)
                · obtain ⟨m, rfl⟩ := Int.eq_ofNat_of_zero_le (show 0 ≤ m by omega)
                  have hmN : m ≤ N' - n1 := by omega
                  obtain ⟨A3, hsl2, hcut2⟩ := slice_from Hcut.out hmN
                  have Hcut2 := Lib.hid hcut2
                  clear hcut2 hm
                  go_wp2_with (first
                    | (go_at_call 95; refine (consumeTag H.out.bs Hct.out).mono ?_; rintro e w' ⟨rfl, rfl⟩)
                    | (go_at_call 100; refine (consumeFieldValue Hcut.out (by assumption) (by assumption) Hfv.out).mono ?_; rintro e w' ⟨rfl, nq, rfl⟩))
                  go_roundw
                  case rel =>
                    have hbl := below_drewN (below_refl wr) nq
                    exact ⟨A3, _, _, _, p, A, n, c, s', rfl, H.out.next (grown_of_below hbl _) (H.out.blk.step hbl) (H.out.rep.step hbl) Hcut2.out (by rw [List.length_drop, Hl1.out]) (by omega) (by rw [← H.out.run]; exact (keyRun_skip Hct.out Hlen.out (by have := Hfar.out; omega) (by omega) (by omega) Hfv.out).symm)⟩
                  case measure => simp [lenOf]; omega
end Go.Proofs.YtcefcdmonfenoaaDoor
