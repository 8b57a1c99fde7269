/- crypto/pb: Unmarshal, Marshal, GetType. -/
import Derived.Test.YtcefcdmonfenoaaDoorKq
namespace Go.Proofs.YtcefcdmonfenoaaDoor
open Go.RowKit
set_option maxRecDepth 100000

/-- what bytes tell as a key's message -/
def keyDec (l : List UInt8) : Option (Int × List UInt8) :=
  match keyRun KS.none l with
  | some ⟨some k, some d⟩ => some (k, d)
  | _ => none

/-- what Unmarshal leaves -/
def UnmAns (w : World) (g : Nat) (t : TypeId) (l : List UInt8) (e : Ending) (w' : World) : Prop :=
  ∃ p A n c, Blk w' g t #[.pointer p, .slice A n c] ∧ w.grownBy w' (some g) ∧ ((keyDec l = none ∧ errAns e) ∨ ∃ k d, keyDec l = some (k, d) ∧ e = .returned .nilIface ∧ KRep w' (.pointer p) (.slice A n c) ⟨some k, some d⟩)

theorem keyDec_none {l : List UInt8} (h : keyRun KS.none l = none) : keyDec l = none := by unfold keyDec; rw [h]
theorem keyDec_some {l : List UInt8} {s : KS} (h : keyRun KS.none l = some s) (hf : s.full = true) : ∃ k d, s = ⟨some k, some d⟩ ∧ keyDec l = some (k, d) := by
  obtain ⟨kind, data⟩ := s
  cases kind with
  | none => simp [KS.full] at hf
  | some k => cases data with
    | none => simp [KS.full] at hf
    | some d => exact ⟨k, d, rfl, by unfold keyDec; rw [h]⟩
theorem keyDec_part {l : List UInt8} {s : KS} (h : keyRun KS.none l = some s) (hf : s.full = false) : keyDec l = none := by
  obtain ⟨kind, data⟩ := s
  unfold keyDec; rw [h]
  cases kind with
  | none => rfl
  | some k => cases data with
    | none => rfl
    | some d => simp [KS.full] at hf

section
variable {w : World} {g : Nat} {t : TypeId} {p A : Option Addr} {n c : Nat} {s : KS} {v : Value} {l : List UInt8}

theorem pubUnmarshal (hb : Blk w g t #[.pointer p, .slice A n c]) (hv : Bs w w.heap.size v l) (he : CErr w) (hlen : l.length ≤ 140737488355328) :
    Calls Tryd.prog 70 #[.pointer (some ⟨g, 0, none⟩), v] w fun e w' => UnmAns w g t l e w' := by
  obtain ⟨hb1, hg1⟩ := two_set (a := .pointer none) (b := .slice none 0 0) hb
  have hni : ∀ u ∈ (#[.pointer p, .slice A n c] : Array Value).toList, NoInt u := by
    intro u hu
    simp at hu
    rcases hu with rfl | rfl
    · exact noInt_ptr _
    · exact noInt_slice _ _ _
  have Hc := Lib.hid (pubMerge (l := l) hb1 (KRep.nil _) (hv.keepBlk hb hni hg1) (he.keepBlk hb (noIface_key _ _ _ _) hg1) hlen)
  have He := Lib.hid (he.keepBlk hb (noIface_key _ _ _ _) hg1)
  have Hg1 := Lib.hid hg1
  have Hb1 := Lib.hid hb1
  have c0 : w.cell? ⟨g, 0, none⟩ = some (.pointer p) := hb.cell 0
  have c1 : w.cell? ⟨g, 1, none⟩ = some (.slice A n c) := hb.cell 1
  have f0 := hb.free 0
  have f1 := hb.free 1
  clear hb hb1 hg1 hv he hni
  go_enter Tryd.func70, Tryd.ntmps70
  go_wp2_with fail
  refine Hc.out.mono ?_
  rintro e w2 ⟨p2, A2, n2, c2, hb2, hg2, hans⟩
  have Hb2 := Lib.hid hb2
  have Hg2 := Lib.hid (Hg1.out.trans hg2)
  have He2 := Lib.hid (He.out.keepBlk Hb1.out (noIface_key _ _ _ _) hg2)
  clear hb2 hg2 Hc
  rcases hans with ⟨hr, te, xe, rfl⟩ | ⟨s', hr, rfl, hrep⟩
  · have Hr := Lib.hid hr
    clear hr
    go_wp2_with fail
    go_ret
    exact ⟨p2, A2, n2, c2, Hb2.out, Hg2.out, .inl ⟨keyDec_none Hr.out, _, _, rfl⟩⟩
  · have Hr := Lib.hid hr
    have Hrep := Lib.hid hrep
    clear hr hrep
    go_wp2_with fail
    refine (pubRequired Hb2.out Hrep.out He2.out).mono ?_
    rintro e w3 ⟨hans, hbl⟩
    have Hbl := Lib.hid hbl
    clear hbl
    rcases hans with ⟨hf, rfl⟩ | ⟨hf, te, xe, rfl⟩
    · have Hf := Lib.hid hf
      clear hf
      go_wp2_with fail
      go_ret
      obtain ⟨k, d, rfl, hd⟩ := keyDec_some Hr.out Hf.out
      exact ⟨p2, A2, n2, c2, Hb2.out.step Hbl.out, grown_step Hg2.out Hbl.out, .inr ⟨k, d, hd, rfl, Hrep.out.step Hbl.out⟩⟩
    · have Hf := Lib.hid hf
      clear hf
      go_wp2_with fail
      go_ret
      exact ⟨p2, A2, n2, c2, Hb2.out.step Hbl.out, grown_step Hg2.out Hbl.out, .inl ⟨keyDec_part Hr.out Hf.out, _, _, rfl⟩⟩

theorem privUnmarshal (hb : Blk w g t #[.pointer p, .slice A n c]) (hv : Bs w w.heap.size v l) (he : CErr w) (hlen : l.length ≤ 140737488355328) :
    Calls Tryd.prog 76 #[.pointer (some ⟨g, 0, none⟩), v] w fun e w' => UnmAns w g t l e w' := by
  have hba := below_alloc w (.cells #[.pointer none, .slice none 0 0] 118)
  have Hc := Lib.hid (keyMerge (w := w.alloc (.cells #[.pointer none, .slice none 0 0] 118)) (Blk.new w _ _) (KRep.nil _) (hv.step hba) (he.step hba) hlen)
  have hni : ∀ u ∈ (#[.pointer p, .slice A n c] : Array Value).toList, NoInt u := by
    intro u hu
    simp at hu
    rcases hu with rfl | rfl
    · exact noInt_ptr _
    · exact noInt_slice _ _ _
  have Hni := Lib.hid hni
  have Hba := Lib.hid hba
  have Hb := Lib.hid hb
  have He := Lib.hid he
  clear hba hb hv he hni
  go_enter Tryd.func76, Tryd.ntmps76
  go_wp2_with fail
  refine Hc.out.mono ?_
  rintro e w2 ⟨p2, A2, n2, c2, hb2, hg2, hans⟩
  have hbl := below_of_new Hba.out (Nat.le_refl _) hg2
  have Hbg := Lib.hid (Hb.out.step hbl)
  obtain ⟨hb3, hg3⟩ := two_set (a := .pointer p2) (b := .slice A2 n2 c2) Hbg.out
  have Hb3 := Lib.hid hb3
  have Hg3 := Lib.hid ((grown_of_below hbl (some g)).trans hg3)
  have He3 := Lib.hid ((He.out.step hbl).keepBlk Hbg.out (noIface_key _ _ _ _) hg3)
  have hgn : w.heap.size ≠ g := by have := Hb.out.lt; omega
  have Hbk3 := Lib.hid (hb2.grown hg3 (by simpa using hgn))
  have k0 : w2.cell? ⟨w.heap.size, 0, none⟩ = some (.pointer p2) := hb2.cell 0
  have k1 : w2.cell? ⟨w.heap.size, 1, none⟩ = some (.slice A2 n2 c2) := hb2.cell 1
  have f0 := Hbg.out.free 0
  have f1 := Hbg.out.free 1
  have c0' : w2.cell? ⟨g, 0, none⟩ = some (.pointer p) := Hbg.out.cell 0
  have c1' : w2.cell? ⟨g, 1, none⟩ = some (.slice A n c) := Hbg.out.cell 1
  have Hg3' := Lib.hid hg3
  clear hb2 hg2 Hc hb3 hg3 hgn hbl
  rcases hans with ⟨hr, te, xe, rfl⟩ | ⟨s', hr, rfl, hrep⟩
  · have Hr := Lib.hid hr
    clear hr
    go_wp2_with fail
    go_ret
    exact ⟨p2, A2, n2, c2, Hb3.out, Hg3.out, .inl ⟨keyDec_none Hr.out, _, _, rfl⟩⟩
  · have Hr := Lib.hid hr
    have Hrep := Lib.hid (hrep.keepBlk Hbg.out Hni.out Hg3'.out)
    clear hr hrep
    go_wp2_with fail
    refine (keyRequired Hbk3.out Hrep.out He3.out).mono ?_
    rintro e w3 ⟨hans, rfl⟩
    rcases hans with ⟨hf, rfl⟩ | ⟨hf, te, xe, rfl⟩
    · have Hf := Lib.hid hf
      clear hf
      go_wp2_with fail
      go_ret
      obtain ⟨k, d, rfl, hd⟩ := keyDec_some Hr.out Hf.out
      exact ⟨p2, A2, n2, c2, Hb3.out, Hg3.out, .inr ⟨k, d, hd, rfl, Hrep.out⟩⟩
    · have Hf := Lib.hid hf
      clear hf
      go_wp2_with fail
      go_ret
      exact ⟨p2, A2, n2, c2, Hb3.out, Hg3.out, .inl ⟨keyDec_part Hr.out Hf.out, _, _, rfl⟩⟩

theorem getType {k : Int} {d : Option (List UInt8)} (hb : Blk w g t #[.pointer p, .slice A n c]) (hk : KRep w (.pointer p) (.slice A n c) ⟨some k, d⟩) :
    Calls Tryd.prog 71 #[.pointer (some ⟨g, 0, none⟩)] w fun e w' => e = .returned (.int .i32 k) ∧ w = w' := by
  have c0 : w.cell? ⟨g, 0, none⟩ = some (.pointer p) := hb.cell 0
  obtain ⟨gk, he, hck⟩ := hk.1
  injection he with he
  subst he
  clear hb hk
  go_enter Tryd.func71, Tryd.ntmps71
  go_wp2
  go_ret
  exact ⟨rfl, rfl⟩

theorem pubMarshal {gk : Nat} {k : Int} {d : List UInt8} (hb : Blk w g t #[.pointer (some ⟨gk, 0, none⟩), .slice A n c]) (hk : w.cell? ⟨gk, 0, none⟩ = some (.int .i32 k)) (hd : Bs w w.heap.size (.slice A n c) d) (hn : NN (.slice A n c))
    (hlen : d.length ≤ 140737488000000) (hk1 : -2147483648 ≤ k) (hk2 : k ≤ 2147483647) :
    Calls Tryd.prog 67 #[.pointer (some ⟨g, 0, none⟩)] w fun e w' => BytesOk w (keyEnc k d) e w' := by
  have hba := below_alloc w (.cells #[.pointer (some ⟨gk, 0, none⟩), .slice A n c] 118)
  have Hc := Lib.hid (keyMarshal (w := w.alloc (.cells #[.pointer (some ⟨gk, 0, none⟩), .slice A n c] 118)) (Blk.new w _ _) ((hba.cell (p := ⟨gk, 0, none⟩) (World.block_lt_of_cell? w _ hk)).trans hk) (hd.step hba) hn hlen hk1 hk2)
  have Hba := Lib.hid hba
  have c0 : w.cell? ⟨g, 0, none⟩ = some (.pointer (some ⟨gk, 0, none⟩)) := hb.cell 0
  have c1 : w.cell? ⟨g, 1, none⟩ = some (.slice A n c) := hb.cell 1
  clear hba hb hd hn
  go_enter Tryd.func67, Tryd.ntmps67
  go_wp2_with fail
  refine Hc.out.mono ?_
  rintro e w2 ⟨v', rfl, ho, hbl, hnn⟩
  go_wp2_with fail
  go_ret2
  exact ⟨v', rfl, ho.more (by simp), below_trans Hba.out hbl, hnn⟩

theorem privMarshal {gk : Nat} {k : Int} {d : List UInt8} (hb : Blk w g t #[.pointer (some ⟨gk, 0, none⟩), .slice A n c]) (hk : w.cell? ⟨gk, 0, none⟩ = some (.int .i32 k)) (hd : Bs w w.heap.size (.slice A n c) d) (hn : NN (.slice A n c))
    (hlen : d.length ≤ 140737488000000) (hk1 : -2147483648 ≤ k) (hk2 : k ≤ 2147483647) :
    Calls Tryd.prog 77 #[.pointer (some ⟨g, 0, none⟩)] w fun e w' => BytesOk w (keyEnc k d) e w' := by
  have hba := below_alloc w (.cells #[.pointer (some ⟨gk, 0, none⟩), .slice A n c] 118)
  have Hc := Lib.hid (keyMarshal (w := w.alloc (.cells #[.pointer (some ⟨gk, 0, none⟩), .slice A n c] 118)) (Blk.new w _ _) ((hba.cell (p := ⟨gk, 0, none⟩) (World.block_lt_of_cell? w _ hk)).trans hk) (hd.step hba) hn hlen hk1 hk2)
  have Hba := Lib.hid hba
  have c0 : w.cell? ⟨g, 0, none⟩ = some (.pointer (some ⟨gk, 0, none⟩)) := hb.cell 0
  have c1 : w.cell? ⟨g, 1, none⟩ = some (.slice A n c) := hb.cell 1
  clear hba hb hd hn
  go_enter Tryd.func77, Tryd.ntmps77
  go_wp2_with fail
  refine Hc.out.mono ?_
  rintro e w2 ⟨v', rfl, ho, hbl, hnn⟩
  go_wp2_with fail
  go_ret2
  exact ⟨v', rfl, ho.more (by simp), below_trans Hba.out hbl, hnn⟩
end
end Go.Proofs.YtcefcdmonfenoaaDoor
