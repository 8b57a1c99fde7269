/- record/pb: Envelope.Unmarshal. (Printed by gen_eu.py.) -/
import Derived.Test.YtcefcdmonfenoaaDoorEm
namespace Go.Proofs.YtcefcdmonfenoaaDoor
open Go.RowKit
set_option maxRecDepth 100000

/-- four cells stored into a block of four -/
theorem four_set {w : World} {g : Nat} {t : TypeId} {x0 x1 x2 x3 a b c d : Value} (hb : Blk w g t #[x0, x1, x2, x3]) :
    Blk ((((w.setCell ⟨g, 0, none⟩ a).setCell ⟨g, 1, none⟩ b).setCell ⟨g, 2, none⟩ c).setCell ⟨g, 3, none⟩ d) g t #[a, b, c, d] ∧ w.grownBy ((((w.setCell ⟨g, 0, none⟩ a).setCell ⟨g, 1, none⟩ b).setCell ⟨g, 2, none⟩ c).setCell ⟨g, 3, none⟩ d) (some g) := by
  have h1 := hb.set 0 a
  have h2 := h1.set 1 b
  have h3 := h2.set 2 c
  have h4 := h3.set 3 d
  have g1 := grown_setCell (grown_refl w (some g)) (p := ⟨g, 0, none⟩) (.inl rfl) a
  have g2 := grown_setCell g1 (p := ⟨g, 1, none⟩) (.inl rfl) b
  have g3 := grown_setCell g2 (p := ⟨g, 2, none⟩) (.inl rfl) c
  have g4 := grown_setCell g3 (p := ⟨g, 3, none⟩) (.inl rfl) d
  exact ⟨h4, g4⟩

theorem i32_ne {a b : Int} (h : a ≠ b) : (a != b) = true := by simpa using h

/-- the loop's relation -/
structure ERel (w : World) (N g : Nat) (R : Option ES) (wr : World) (A' : Option Addr) (N' c' : Nat) (l' : List UInt8) (pk : Option Addr) (ty pay sig : Value) (s' : ES) : Prop where
  m : EMem w g wr pk ty pay sig s'
  bs : Bs wr wr.heap.size (.slice A' N' c') l'
  len : l'.length = N'
  le : N' ≤ N
  run : envRun s' l' = R

theorem hid_exists_bs {w : World} {B : Nat} {v : Value} {l : List UInt8} (h : Bs w B v l) : ∃ A n c, v = .slice A n c := by obtain ⟨A, c, rfl, _⟩ := h.form; exact ⟨_, _, _, rfl⟩

section
variable {w : World} {g : Nat} {v : Value} {l : List UInt8}

set_option maxHeartbeats 4000000 in
theorem envUnmarshal (hb : Blk w g 110 #[.pointer none, .slice none 0 0, .slice none 0 0, .slice none 0 0]) (hv : Bs w w.heap.size v l) (he : EErr w) (hlen : l.length ≤ 140737488355328) :
    Calls Tryd.prog 83 #[.pointer (some ⟨g, 0, none⟩), v] w fun e w' => EUnm w g l e w' := by
  obtain ⟨A0, c0, rfl, hlc, hc63⟩ := hv.form
  have hni : ∀ u ∈ (#[.pointer none, .slice none 0 0, .slice none 0 0, .slice none 0 0] : Array Value).toList, NoInt u := (ERep.nil 0 w).noInt
  have hnf : NoIface #[.pointer none, .slice none 0 0, .slice none 0 0, .slice none 0 0] := (ERep.nil 0 w).noIface
  obtain ⟨hb4, hg4⟩ := four_set (a := .pointer none) (b := .slice none 0 0) (c := .slice none 0 0) (d := .slice none 0 0) hb
  have M0 : EMem w g _ none (.slice none 0 0) (.slice none 0 0) (.slice none 0 0) ES.none := ⟨hb4, ERep.nil _ _, hg4, hb.lt, he.keepBlk hb hnf hg4⟩
  have V0 := hv.keepBlk hb hni hg4
  have c00 := hb.cell 0
  have c01 := hb.cell 1
  have c02 := hb.cell 2
  have c03 := hb.cell 3
  simp only [List.getElem?_toArray, List.getElem?_cons_zero, List.getElem?_cons_succ] at c00 c01 c02 c03
  have f0 := hb.free 0
  have f1 := hb.free 1
  have f2 := hb.free 2
  have f3 := hb.free 3
  generalize hR : envRun ES.none l = R at *
  generalize hN : l.length = N at *
  have HfR := Lib.hid hR
  have HR := Lib.hid (show ERel w N g R _ A0 N c0 l none (.slice none 0 0) (.slice none 0 0) (.slice none 0 0) ES.none from ⟨M0, V0, hN, Nat.le_refl _, hR⟩)
  clear hR hN hv hb he M0 V0 hb4 hg4 hni hnf
  go_enter Tryd.func83, Tryd.ntmps83
  go_wp2
  go_loopw [1] (fun b wr => ∃ (A' : Option Addr) (N' c' : Nat) (l' : List UInt8) (pk : Option Addr) (ty pay sig : Value) (s' : ES), b = .slice A' N' c' ∧ Hid (ERel w N g R wr A' N' c' l' pk ty pay sig s')) (fun b _ => lenOf b)
  case atStart => exact ⟨A0, N, c0, l, none, _, _, _, ES.none, rfl, HR⟩
  case round =>
    clear HR c00 c01 c02 c03 f0 f1 f2 f3
    obtain ⟨A', N', c', l', pk, ty, pay, sig, s', rfl, H⟩ := hrel
    have hle := H.out.le
    obtain ⟨Aty, nty, cty, rfl⟩ := hid_exists_bs H.out.m.rep.ty
    obtain ⟨Apay, npay, cpay, rfl⟩ := hid_exists_bs H.out.m.rep.pay
    obtain ⟨Asig, nsig, csig, rfl⟩ := hid_exists_bs H.out.m.rep.sig
    have c0 : wr.cell? ⟨g, 0, none⟩ = some (.pointer pk) := H.out.m.blk.cell 0
    have f0 := H.out.m.blk.free 0
    by_cases hz : N' = 0
    · subst hz
      have hfin : R = some s' := by rw [← H.out.run, List.length_eq_zero_iff.1 H.out.len, envRun_nil]
      cases hkey : s'.key with
      | none =>
        have hpk : pk = none := by have := H.out.m.rep.key; rw [hkey] at this; exact this
        subst hpk
        go_wp2
        go_ret
        refine ⟨_, _, _, _, H.out.m.blk, H.out.m.grown, .inr ⟨s', ⟨false, 0, [], s'.ty, s'.pay, s'.sig⟩, ?_, ?_, rfl, H.out.m.rep⟩⟩
        · unfold envDec; rw [HfR.out, hfin]; obtain ⟨k1, k2, k3, k4⟩ := s'; cases hkey; rfl
        · obtain ⟨k1, k2, k3, k4⟩ := s'; cases hkey; rfl
      | some ks =>
        have hkey' := H.out.m.rep.key
        rw [hkey] at hkey'
        obtain ⟨gk, p, A, n, c, rfl, hB, hbk, hrk⟩ := hkey'
        have Hbk := Lib.hid hbk
        have Hrk := Lib.hid hrk
        have Hfin := Lib.hid hfin
        have Hkey := Lib.hid hkey
        clear hbk hrk hfin hkey
        go_wp2_with fail
        refine (pubRequired Hbk.out Hrk.out H.out.m.errs.c).mono ?_
        rintro e w2 ⟨hans, hbl⟩
        have H2 := Lib.hid (H.out.m.step hbl)
        rcases hans with ⟨hf, rfl⟩ | ⟨hf, t, x, rfl⟩
        · have Hf := Lib.hid hf
          clear hf hbl
          go_wp2_with fail
          go_ret
          obtain ⟨kind, data⟩ := ks
          obtain ⟨k1, k2, k3, k4⟩ := s'
          have hkk := Hkey.out
          simp only [] at hkk
          subst hkk
          cases kind with
          | none => exact absurd Hf.out (by simp [KS.full])
          | some kk => cases data with
            | none => exact absurd Hf.out (by simp [KS.full])
            | some dd => exact ⟨_, _, _, _, H2.out.blk, H2.out.grown, .inr ⟨_, ⟨true, kk, dd, k2, k3, k4⟩, by unfold envDec; rw [HfR.out, Hfin.out]; rfl, rfl, rfl, H2.out.rep⟩⟩
        · have Hf := Lib.hid hf
          clear hf hbl
          go_wp2_with fail
          go_ret
          refine ⟨_, _, _, _, H2.out.blk, H2.out.grown, .inl ⟨?_, ⟨t, x, rfl⟩⟩⟩
          obtain ⟨kind, data⟩ := ks
          obtain ⟨k1, k2, k3, k4⟩ := s'
          have hkk := Hkey.out
          simp only [] at hkk
          subst hkk
          unfold envDec; rw [HfR.out, Hfin.out]
          cases kind with
          | none => rfl
          | some kk => cases data with
            | none => rfl
            | some dd => exact absurd Hf.out (by simp [KS.full])
    · have hpos : 0 < N' := by omega
      clear hz
      have Hlen : Hid (0 < l'.length) := by have := H.out.len; show 0 < l'.length; omega
      rcases hct : Wire.ctag l' with ⟨a, b, cn⟩
      have hbc := Wire.ctag_facts hct
      rw [H.out.len] at hbc
      have Hct := Lib.hid hct
      clear hct
      have hc63' : c' ≤ 9223372036854775807 ∧ N' ≤ c' := by
        obtain ⟨A1, c1, he, h1, h2⟩ := H.out.bs.form
        rw [H.out.len] at he h1
        injection he with e1 e2 e3
        omega
      obtain ⟨hc63', hlc'⟩ := hc63'
      by_cases hn : cn < 0
      · go_wp2_with (first | (go_at_call 95; refine (consumeTag H.out.bs Hct.out).mono ?_; rintro e w' ⟨rfl, rfl⟩) | (go_at_call 96; refine (parseError H.out.m.errs.c.p (by assumption) (by omega)).mono ?_; rintro e w' ⟨⟨t, x, rfl⟩, rfl⟩))
        go_ret
        exact H.out.m.bad (by rw [HfR.out, ← H.out.run]; exact envRun_torn Hct.out Hlen.out hn) (below_refl _)
      · obtain ⟨n1, rfl⟩ := Int.eq_ofNat_of_zero_le (show 0 ≤ cn by omega)
        have hnN : n1 ≤ N' := by omega
        have hn0 : 0 < n1 := by omega
        obtain ⟨ha1, ha2, hb0, hb7⟩ : 1 ≤ a ∧ a ≤ 2147483647 ∧ 0 ≤ b ∧ b ≤ 7 := by omega
        clear hbc
        by_cases hfar : 536870911 < a
        · obtain ⟨t, x, herr⟩ := H.out.m.errs.num
          go_wp2_with (go_at_call 95; refine (consumeTag H.out.bs Hct.out).mono ?_; rintro e w' ⟨rfl, rfl⟩)
          go_ret
          exact H.out.m.bad (by rw [HfR.out, ← H.out.run]; exact envRun_far Hct.out Hlen.out hfar) (below_refl _)
        · obtain ⟨A2, hsl, hcut⟩ := slice_from H.out.bs hnN
          have Hcut := Lib.hid hcut
          clear hcut
          have Hl1 : Hid ((l'.drop n1).length = N' - n1) := by show _ = _; rw [List.length_drop, H.out.len]
          have Hfar := Lib.hid hfar
          by_cases hown : b = 2 ∧ (a = 1 ∨ a = 2 ∨ a = 3 ∨ a = 5)
          · obtain ⟨rfl, ha⟩ := hown
            clear hfar
            rcases hcv : Wire.cbytes (l'.drop n1) with ⟨d, m⟩
            have hm := Wire.cbytes_bounds (l'.drop n1)
            rw [hcv] at hm
            rw [Hl1.out] at hm
            simp only [] at hm
            have Hcv := Lib.hid hcv
            clear hcv
            by_cases hm0 : m < 0
            · have hm3 : -3 ≤ m := by omega
              clear hm
              have Hbad := Lib.hid (show envRun ES.none l = none by rw [HfR.out, ← H.out.run]; exact envRun_bytes_bad Hct.out ha Hlen.out Hcv.out hm0)
              rcases ha with rfl | rfl | rfl | rfl
              · go_wp2_with (first | (go_at_call 95; refine (consumeTag H.out.bs Hct.out).mono ?_; rintro e w' ⟨rfl, rfl⟩) | (go_at_call 97; refine (consumeBytes Hcut.out Hcv.out).mono ?_; rintro e w' ⟨⟨vd, rfl, hvd⟩, rfl⟩; have Hvd := Lib.hid hvd; clear hvd) | (go_at_call 96; refine (parseError H.out.m.errs.c.p (by assumption) (by omega)).mono ?_; rintro e w' ⟨⟨t, x, rfl⟩, rfl⟩))
                go_ret
                exact H.out.m.bad Hbad.out (below_refl _)
              · go_wp2_with (first | (go_at_call 95; refine (consumeTag H.out.bs Hct.out).mono ?_; rintro e w' ⟨rfl, rfl⟩) | (go_at_call 97; refine (consumeBytes Hcut.out Hcv.out).mono ?_; rintro e w' ⟨⟨vd, rfl, hvd⟩, rfl⟩; have Hvd := Lib.hid hvd; clear hvd) | (go_at_call 96; refine (parseError H.out.m.errs.c.p (by assumption) (by omega)).mono ?_; rintro e w' ⟨⟨t, x, rfl⟩, rfl⟩))
                go_ret
                exact H.out.m.bad Hbad.out (below_refl _)
              · go_wp2_with (first | (go_at_call 95; refine (consumeTag H.out.bs Hct.out).mono ?_; rintro e w' ⟨rfl, rfl⟩) | (go_at_call 97; refine (consumeBytes Hcut.out Hcv.out).mono ?_; rintro e w' ⟨⟨vd, rfl, hvd⟩, rfl⟩; have Hvd := Lib.hid hvd; clear hvd) | (go_at_call 96; refine (parseError H.out.m.errs.c.p (by assumption) (by omega)).mono ?_; rintro e w' ⟨⟨t, x, rfl⟩, rfl⟩))
                go_ret
                exact H.out.m.bad Hbad.out (below_refl _)
              · go_wp2_with (first | (go_at_call 95; refine (consumeTag H.out.bs Hct.out).mono ?_; rintro e w' ⟨rfl, rfl⟩) | (go_at_call 97; refine (consumeBytes Hcut.out Hcv.out).mono ?_; rintro e w' ⟨⟨vd, rfl, hvd⟩, rfl⟩; have Hvd := Lib.hid hvd; clear hvd) | (go_at_call 96; refine (parseError H.out.m.errs.c.p (by assumption) (by omega)).mono ?_; rintro e w' ⟨⟨t, x, rfl⟩, rfl⟩))
                go_ret
                exact H.out.m.bad Hbad.out (below_refl _)
            · obtain ⟨m, rfl⟩ := Int.eq_ofNat_of_zero_le (show 0 ≤ m by omega)
              have hmN : m ≤ N' - n1 := by omega
              have hdl : d.length ≤ N' - n1 := by omega
              obtain ⟨A3, hsl2, hcut2⟩ := slice_from Hcut.out hmN
              have Hcut2 := Lib.hid hcut2
              have Hl2 : Hid (((l'.drop n1).drop m).length = N' - n1 - m) := by show _ = _; rw [List.length_drop, Hl1.out]
              clear hcut2 hm
              rcases ha with rfl | rfl | rfl | rfl
              · cases hkey : s'.key with
                | none =>
                  have hpk : pk = none := by have := H.out.m.rep.key; rw [hkey] at this; exact this
                  subst hpk
                  have Hkey := Lib.hid hkey
                  clear hkey
                  go_wp2_with (first
                    | (go_at_call 95; refine (consumeTag H.out.bs Hct.out).mono ?_; rintro e w' ⟨rfl, rfl⟩)
                    | (go_at_call 97; refine (consumeBytes Hcut.out Hcv.out).mono ?_; rintro e w' ⟨⟨vd, rfl, hvd⟩, rfl⟩; have Hvd := Lib.hid hvd; clear hvd)
                    | (at_builtin; refine wpList_app rfl _ _ rfl (by rfl) (by rfl) (Own.made _ (Nat.le_refl _)) (Hvd.out.alloc (Nat.le_refl _) _) (by simp; omega) (by simp) ?_; intro v' w1 ho hg hnn hmv; obtain ⟨a2, n2, c2, rfl⟩ := hnn ⟨_, _, _, rfl⟩; have hbl := Lib.hid (below_grown (below_alloc wr _) hg (fun g e => by simp [Value.ownBlock] at e; omega)); have H1 := Lib.hid (H.out.m.step hbl.out); have Hn := Lib.hid (show Bs w1 w1.heap.size (.slice (some a2) n2 c2) d by (have := ho.bs; rw [List.nil_append] at this; exact this)); have Hr := Lib.hid (Hcut2.out.step hbl.out); clear ho hg hnn hmv; have HA := Lib.hid (H1.out.step (below_alloc w1 (.cells #[.pointer none, .slice none 0 0] 89))); have c0w : w1.cell? ⟨g, 0, none⟩ = some (.pointer none) := H1.out.blk.cell 0; have f0w := H1.out.blk.free 0; have c0a : (w1.alloc (.cells #[.pointer none, .slice none 0 0] 89)).cell? ⟨g, 0, none⟩ = some (.pointer none) := HA.out.blk.cell 0; have f0a := HA.out.blk.free 0; have HK := Lib.hid (H1.out.keyNew rfl rfl); have Hnk := Lib.hid (HA.out.bs_set (Hn.out.step (below_alloc w1 (.cells #[.pointer none, .slice none 0 0] 89))) 0 (.pointer (some ⟨w1.heap.size, 0, none⟩))); have Hrk := Lib.hid (HA.out.bs_set (Hr.out.step (below_alloc w1 (.cells #[.pointer none, .slice none 0 0] 89))) 0 (.pointer (some ⟨w1.heap.size, 0, none⟩))); have c0b : ((w1.alloc (.cells #[.pointer none, .slice none 0 0] 89)).setCell ⟨g, 0, none⟩ (.pointer (some ⟨w1.heap.size, 0, none⟩))).cell? ⟨g, 0, none⟩ = some (.pointer (some ⟨w1.heap.size, 0, none⟩)) := HK.out.blk.cell 0))
                  refine (HK.out.merge (k := KS.none) rfl Hnk.out (by omega)).mono ?_
                  have Hb2 := Hrk
                  clear c0b c0a f0a c0w f0w HA Hnk Hrk Hr Hn H1 hbl
                  rintro e w2 (⟨h1, ⟨t, x, rfl⟩, h3, h4⟩ | ⟨k', h1, rfl, h3, h4⟩)
                  · have Hbad := Lib.hid (show envRun ES.none l = none by rw [HfR.out, ← H.out.run]; exact envRun_put_bad Hct.out (.inl rfl) Hlen.out Hcv.out (by show (keyRun (s'.key.getD KS.none) d).map _ = none; rw [Hkey.out]; show (keyRun KS.none d).map _ = none; rw [h1]; rfl))
                    have H3 := Lib.hid h3
                    have H4 := Lib.hid h4
                    clear h1 h3 h4
                    go_wp2_with fail
                    go_ret
                    exact EUnm.bad Hbad.out H4.out H3.out
                  · have Hrun := Lib.hid (show envRun { s' with key := some k' } ((l'.drop n1).drop m) = R by rw [← H.out.run]; exact (envRun_put Hct.out (.inl rfl) Hlen.out Hcv.out (by show (keyRun (s'.key.getD KS.none) d).map _ = _; rw [Hkey.out]; show (keyRun KS.none d).map _ = _; rw [h1]; rfl)).symm)
                    have H3 := Lib.hid h3
                    have H4 := Lib.hid (h4 _ _ Hb2.out)
                    clear h1 h3 h4
                    go_wp2_with fail
                    go_roundw
                    case rel => exact ⟨A3, _, _, _, _, _, _, _, _, rfl, (show ERel w N g R _ _ _ _ _ _ _ _ _ _ from ⟨H3.out, H4.out, Hl2.out, by omega, Hrun.out⟩)⟩
                    case measure => simp [lenOf]; omega
                | some ks =>
                  have Hkey := Lib.hid hkey
                  obtain ⟨ak, rfl⟩ : ∃ ak, pk = some ak := by
                    have h := H.out.m.rep.key
                    rw [hkey] at h
                    obtain ⟨gk, _, _, _, _, h, _⟩ := h
                    exact ⟨_, h⟩
                  clear hkey
                  go_wp2_with (first
                    | (go_at_call 95; refine (consumeTag H.out.bs Hct.out).mono ?_; rintro e w' ⟨rfl, rfl⟩)
                    | (go_at_call 97; refine (consumeBytes Hcut.out Hcv.out).mono ?_; rintro e w' ⟨⟨vd, rfl, hvd⟩, rfl⟩; have Hvd := Lib.hid hvd; clear hvd)
                    | (at_builtin; refine wpList_app rfl _ _ rfl (by rfl) (by rfl) (Own.made _ (Nat.le_refl _)) (Hvd.out.alloc (Nat.le_refl _) _) (by simp; omega) (by simp) ?_; intro v' w1 ho hg hnn hmv; obtain ⟨a2, n2, c2, rfl⟩ := hnn ⟨_, _, _, rfl⟩; have hbl := Lib.hid (below_grown (below_alloc wr _) hg (fun g e => by simp [Value.ownBlock] at e; omega)); have H1 := Lib.hid (H.out.m.step hbl.out); have Hn := Lib.hid (show Bs w1 w1.heap.size (.slice (some a2) n2 c2) d by (have := ho.bs; rw [List.nil_append] at this; exact this)); have Hr := Lib.hid (Hcut2.out.step hbl.out); clear ho hg hnn hmv; have c0w : w1.cell? ⟨g, 0, none⟩ = some (.pointer (some ak)) := H1.out.blk.cell 0))
                  refine (H1.out.merge (k := ks) Hkey.out Hn.out (by omega)).mono ?_
                  have Hb2 := Hr
                  clear c0w Hr Hn H1 hbl
                  rintro e w2 (⟨h1, ⟨t, x, rfl⟩, h3, h4⟩ | ⟨k', h1, rfl, h3, h4⟩)
                  · have Hbad := Lib.hid (show envRun ES.none l = none by rw [HfR.out, ← H.out.run]; exact envRun_put_bad Hct.out (.inl rfl) Hlen.out Hcv.out (by show (keyRun (s'.key.getD KS.none) d).map _ = none; rw [Hkey.out]; show (keyRun ks d).map _ = none; rw [h1]; rfl))
                    have H3 := Lib.hid h3
                    have H4 := Lib.hid h4
                    clear h1 h3 h4
                    go_wp2_with fail
                    go_ret
                    exact EUnm.bad Hbad.out H4.out H3.out
                  · have Hrun := Lib.hid (show envRun { s' with key := some k' } ((l'.drop n1).drop m) = R by rw [← H.out.run]; exact (envRun_put Hct.out (.inl rfl) Hlen.out Hcv.out (by show (keyRun (s'.key.getD KS.none) d).map _ = _; rw [Hkey.out]; show (keyRun ks d).map _ = _; rw [h1]; rfl)).symm)
                    have H3 := Lib.hid h3
                    have H4 := Lib.hid (h4 _ _ Hb2.out)
                    clear h1 h3 h4
                    go_wp2_with fail
                    go_roundw
                    case rel => exact ⟨A3, _, _, _, _, _, _, _, _, rfl, (show ERel w N g R _ _ _ _ _ _ _ _ _ _ from ⟨H3.out, H4.out, Hl2.out, by omega, Hrun.out⟩)⟩
                    case measure => simp [lenOf]; omega
              · go_wp2_with (first
                  | (go_at_call 95; refine (consumeTag H.out.bs Hct.out).mono ?_; rintro e w' ⟨rfl, rfl⟩)
                  | (go_at_call 97; refine (consumeBytes Hcut.out Hcv.out).mono ?_; rintro e w' ⟨⟨vd, rfl, hvd⟩, rfl⟩; have Hvd := Lib.hid hvd; clear hvd)
                  | (at_builtin; refine wpList_app rfl _ _ rfl (by rfl) (by rfl) (Own.made _ (Nat.le_refl _)) (Hvd.out.alloc (Nat.le_refl _) _) (by simp; omega) (by simp) ?_; intro v' w1 ho hg hnn hmv; obtain ⟨a2, n2, c2, rfl⟩ := hnn ⟨_, _, _, rfl⟩; have hbl := Lib.hid (below_grown (below_alloc wr _) hg (fun g e => by simp [Value.ownBlock] at e; omega)); have H1 := Lib.hid (H.out.m.step hbl.out); have Hn := Lib.hid (show Bs w1 w1.heap.size (.slice (some a2) n2 c2) d by (have := ho.bs; rw [List.nil_append] at this; exact this)); have Hr := Lib.hid (Hcut2.out.step hbl.out); clear ho hg hnn hmv; have fi := H1.out.blk.free 1; have ci := H1.out.blk.cell 1; simp only [List.getElem?_toArray, List.getElem?_cons_zero, List.getElem?_cons_succ] at ci))
                have Hrun := Lib.hid (show envRun { s' with ty := d } ((l'.drop n1).drop m) = R by rw [← H.out.run]; exact (envRun_put Hct.out (.inr (.inl rfl)) Hlen.out Hcv.out rfl).symm)
                go_roundw
                case rel => exact ⟨A3, _, _, _, _, _, _, _, _, rfl, (show ERel w N g R _ _ _ _ _ _ _ _ _ _ from ⟨H1.out.set1 Hn.out (by omega), H1.out.bs_set Hr.out _ _, Hl2.out, by omega, Hrun.out⟩)⟩
                case measure => simp [lenOf]; omega
              · go_wp2_with (first
                  | (go_at_call 95; refine (consumeTag H.out.bs Hct.out).mono ?_; rintro e w' ⟨rfl, rfl⟩)
                  | (go_at_call 97; refine (consumeBytes Hcut.out Hcv.out).mono ?_; rintro e w' ⟨⟨vd, rfl, hvd⟩, rfl⟩; have Hvd := Lib.hid hvd; clear hvd)
                  | (at_builtin; refine wpList_app rfl _ _ rfl (by rfl) (by rfl) (Own.made _ (Nat.le_refl _)) (Hvd.out.alloc (Nat.le_refl _) _) (by simp; omega) (by simp) ?_; intro v' w1 ho hg hnn hmv; obtain ⟨a2, n2, c2, rfl⟩ := hnn ⟨_, _, _, rfl⟩; have hbl := Lib.hid (below_grown (below_alloc wr _) hg (fun g e => by simp [Value.ownBlock] at e; omega)); have H1 := Lib.hid (H.out.m.step hbl.out); have Hn := Lib.hid (show Bs w1 w1.heap.size (.slice (some a2) n2 c2) d by (have := ho.bs; rw [List.nil_append] at this; exact this)); have Hr := Lib.hid (Hcut2.out.step hbl.out); clear ho hg hnn hmv; have fi := H1.out.blk.free 2; have ci := H1.out.blk.cell 2; simp only [List.getElem?_toArray, List.getElem?_cons_zero, List.getElem?_cons_succ] at ci))
                have Hrun := Lib.hid (show envRun { s' with pay := d } ((l'.drop n1).drop m) = R by rw [← H.out.run]; exact (envRun_put Hct.out (.inr (.inr (.inl rfl))) Hlen.out Hcv.out rfl).symm)
                go_roundw
                case rel => exact ⟨A3, _, _, _, _, _, _, _, _, rfl, (show ERel w N g R _ _ _ _ _ _ _ _ _ _ from ⟨H1.out.set2 Hn.out (by omega), H1.out.bs_set Hr.out _ _, Hl2.out, by omega, Hrun.out⟩)⟩
                case measure => simp [lenOf]; omega
              · go_wp2_with (first
                  | (go_at_call 95; refine (consumeTag H.out.bs Hct.out).mono ?_; rintro e w' ⟨rfl, rfl⟩)
                  | (go_at_call 97; refine (consumeBytes Hcut.out Hcv.out).mono ?_; rintro e w' ⟨⟨vd, rfl, hvd⟩, rfl⟩; have Hvd := Lib.hid hvd; clear hvd)
                  | (at_builtin; refine wpList_app rfl _ _ rfl (by rfl) (by rfl) (Own.made _ (Nat.le_refl _)) (Hvd.out.alloc (Nat.le_refl _) _) (by simp; omega) (by simp) ?_; intro v' w1 ho hg hnn hmv; obtain ⟨a2, n2, c2, rfl⟩ := hnn ⟨_, _, _, rfl⟩; have hbl := Lib.hid (below_grown (below_alloc wr _) hg (fun g e => by simp [Value.ownBlock] at e; omega)); have H1 := Lib.hid (H.out.m.step hbl.out); have Hn := Lib.hid (show Bs w1 w1.heap.size (.slice (some a2) n2 c2) d by (have := ho.bs; rw [List.nil_append] at this; exact this)); have Hr := Lib.hid (Hcut2.out.step hbl.out); clear ho hg hnn hmv; have fi := H1.out.blk.free 3; have ci := H1.out.blk.cell 3; simp only [List.getElem?_toArray, List.getElem?_cons_zero, List.getElem?_cons_succ] at ci))
                have Hrun := Lib.hid (show envRun { s' with sig := d } ((l'.drop n1).drop m) = R by rw [← H.out.run]; exact (envRun_put Hct.out (.inr (.inr (.inr rfl))) Hlen.out Hcv.out rfl).symm)
                go_roundw
                case rel => exact ⟨A3, _, _, _, _, _, _, _, _, rfl, (show ERel w N g R _ _ _ _ _ _ _ _ _ _ from ⟨H1.out.set3 Hn.out (by omega), H1.out.bs_set Hr.out _ _, Hl2.out, by omega, Hrun.out⟩)⟩
                case measure => simp [lenOf]; omega
          · have hm := fval_bounds a b (l'.drop n1)
            rw [Hl1.out] at hm
            generalize hfv : fval a b (l'.drop n1) = m at *
            have Hfv := Lib.hid hfv
            have hcase : b ≠ 2 ∨ (b = 2 ∧ a ≠ 1 ∧ a ≠ 2 ∧ a ≠ 3 ∧ a ≠ 5) := by omega
            clear hfv hown
            rcases hcase with hb | ⟨rfl, hx1, hx2, hx3, hx5⟩
            · have e1 := i8_ne hb
              by_cases hm0 : m < 0
              · have hm6 : -6 ≤ m := by omega
                clear hm
                go_wp2_with (first | (go_at_call 95; refine (consumeTag H.out.bs Hct.out).mono ?_; rintro e w' ⟨rfl, rfl⟩) | (go_at_call 100; refine (consumeFieldValue Hcut.out (by assumption) (by assumption) Hfv.out).mono ?_; rintro e w' ⟨rfl, nq, rfl⟩) | (go_at_call 96; refine (parseError (H.out.m.errs.c.p.step (below_drewN (below_refl _) nq)) (by assumption) (by assumption)).mono ?_; rintro e w' ⟨⟨t, x, rfl⟩, rfl⟩))
                go_ret
                exact H.out.m.bad (by rw [HfR.out, ← H.out.run]; exact envRun_skip_bad Hct.out Hlen.out (by have := Hfar.out; omega) (by omega) Hfv.out hm0) (below_drewN (below_refl _) nq)
              · obtain ⟨m, rfl⟩ := Int.eq_ofNat_of_zero_le (show 0 ≤ m by omega)
                have hmN : m ≤ N' - n1 := by omega
                obtain ⟨A3, hsl2, hcut2⟩ := slice_from Hcut.out hmN
                have Hcut2 := Lib.hid hcut2
                have Hl2 : Hid (((l'.drop n1).drop m).length = N' - n1 - m) := by show _ = _; rw [List.length_drop, Hl1.out]
                clear hcut2 hm
                go_wp2_with (first | (go_at_call 95; refine (consumeTag H.out.bs Hct.out).mono ?_; rintro e w' ⟨rfl, rfl⟩) | (go_at_call 100; refine (consumeFieldValue Hcut.out (by assumption) (by assumption) Hfv.out).mono ?_; rintro e w' ⟨rfl, nq, rfl⟩))
                have Hrun := Lib.hid (show envRun s' ((l'.drop n1).drop m) = R by rw [← H.out.run]; exact (envRun_skip Hct.out Hlen.out (by have := Hfar.out; omega) (by omega) Hfv.out).symm)
                go_roundw
                case rel =>
                  have hbl := below_drewN (below_refl wr) nq
                  exact ⟨A3, _, _, _, _, _, _, _, _, rfl, (show ERel w N g R _ _ _ _ _ _ _ _ _ _ from ⟨H.out.m.step hbl, Hcut2.out.step hbl, Hl2.out, by omega, Hrun.out⟩)⟩
                case measure => simp [lenOf]; omega
            · have e1 := i32_ne hx1
              have e2 := i32_ne hx2
              have e3 := i32_ne hx3
              have e5 := i32_ne hx5
              by_cases hm0 : m < 0
              · have hm6 : -6 ≤ m := by omega
                clear hm
                go_wp2_with (first | (go_at_call 95; refine (consumeTag H.out.bs Hct.out).mono ?_; rintro e w' ⟨rfl, rfl⟩) | (go_at_call 100; refine (consumeFieldValue Hcut.out (by assumption) (by assumption) Hfv.out).mono ?_; rintro e w' ⟨rfl, nq, rfl⟩) | (go_at_call 96; refine (parseError (H.out.m.errs.c.p.step (below_drewN (below_refl _) nq)) (by assumption) (by assumption)).mono ?_; rintro e w' ⟨⟨t, x, rfl⟩, rfl⟩))
                go_ret
                exact H.out.m.bad (by rw [HfR.out, ← H.out.run]; exact envRun_skip_bad Hct.out Hlen.out (by have := Hfar.out; omega) (by omega) Hfv.out hm0) (below_drewN (below_refl _) nq)
              · obtain ⟨m, rfl⟩ := Int.eq_ofNat_of_zero_le (show 0 ≤ m by omega)
                have hmN : m ≤ N' - n1 := by omega
                obtain ⟨A3, hsl2, hcut2⟩ := slice_from Hcut.out hmN
                have Hcut2 := Lib.hid hcut2
                have Hl2 : Hid (((l'.drop n1).drop m).length = N' - n1 - m) := by show _ = _; rw [List.length_drop, Hl1.out]
                clear hcut2 hm
                go_wp2_with (first | (go_at_call 95; refine (consumeTag H.out.bs Hct.out).mono ?_; rintro e w' ⟨rfl, rfl⟩) | (go_at_call 100; refine (consumeFieldValue Hcut.out (by assumption) (by assumption) Hfv.out).mono ?_; rintro e w' ⟨rfl, nq, rfl⟩))
                have Hrun := Lib.hid (show envRun s' ((l'.drop n1).drop m) = R by rw [← H.out.run]; exact (envRun_skip Hct.out Hlen.out (by have := Hfar.out; omega) (by omega) Hfv.out).symm)
                go_roundw
                case rel =>
                  have hbl := below_drewN (below_refl wr) nq
                  exact ⟨A3, _, _, _, _, _, _, _, _, rfl, (show ERel w N g R _ _ _ _ _ _ _ _ _ _ from ⟨H.out.m.step hbl, Hcut2.out.step hbl, Hl2.out, by omega, Hrun.out⟩)⟩
                case measure => simp [lenOf]; omega
end
end Go.Proofs.YtcefcdmonfenoaaDoor
