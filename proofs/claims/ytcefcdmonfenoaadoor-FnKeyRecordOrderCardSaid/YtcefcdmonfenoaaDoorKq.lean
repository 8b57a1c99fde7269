/- crypto/pb: required, and the methods of PublicKey and PrivateKey. -/
import Derived.Test.YtcefcdmonfenoaaDoorKp
namespace Go.Proofs.YtcefcdmonfenoaaDoor
open Go.RowKit
set_option maxRecDepth 100000

/-- both fields are there -/
def KS.full (s : KS) : Bool := s.kind.isSome && s.data.isSome
def ReqAns (s : KS) (e : Ending) : Prop := (s.full = true ∧ e = .returned .nilIface) ∨ (s.full = false ∧ errAns e)

theorem DataAt.some_form {w : World} {dv : Value} {d : List UInt8} (h : DataAt w dv (some d)) : ∃ a n c, dv = .slice (some a) n c := h.2.1

theorem keyRequired {w : World} {g : Nat} {t : TypeId} {p A : Option Addr} {n c : Nat} {s : KS} (hb : Blk w g t #[.pointer p, .slice A n c]) (hk : KRep w (.pointer p) (.slice A n c) s) (he : CErr w) :
    Calls Tryd.prog 94 #[.pointer (some ⟨g, 0, none⟩)] w fun e w' => ReqAns s e ∧ w = w' := by
  obtain ⟨kind, data⟩ := s
  obtain ⟨hk1, hk2⟩ := hk
  obtain ⟨t', x, herr⟩ := he.req
  have c0 : w.cell? ⟨g, 0, none⟩ = some (.pointer p) := hb.cell 0
  have c1 : w.cell? ⟨g, 1, none⟩ = some (.slice A n c) := hb.cell 1
  have hq := eql_nil
  clear hb he
  cases kind with
  | none =>
    injection (show Value.pointer p = .pointer none from hk1) with hk1
    subst hk1
    clear hk2
    go_enter Tryd.func94, Tryd.ntmps94
    go_wp2
    go_ret
    exact ⟨.inr ⟨rfl, _, _, rfl⟩, rfl⟩
  | some k =>
    obtain ⟨gk, he, hck⟩ := hk1
    injection he with he
    subst he
    clear hck
    cases data with
    | none =>
      injection (show Value.slice A n c = .slice none 0 0 from hk2) with e1 e2 e3
      subst e1 e2 e3
      clear hk2
      go_enter Tryd.func94, Tryd.ntmps94
      go_wp2
      go_ret
      exact ⟨.inr ⟨rfl, _, _, rfl⟩, rfl⟩
    | some d =>
      obtain ⟨a, n', c', he⟩ := hk2.some_form
      injection he with e1 e2 e3
      subst e1 e2 e3
      clear hk2
      go_enter Tryd.func94, Tryd.ntmps94
      go_wp2
      go_ret
      exact ⟨.inl ⟨rfl, rfl⟩, rfl⟩

section
variable {w : World} {g : Nat} {t : TypeId} {p A : Option Addr} {n c : Nat} {s : KS} {v : Value} {l : List UInt8}

theorem pubMerge_fin {w2 : World} {p2 A2 : Option Addr} {n2 c2 : Nat} (hbg : Blk w2 g t #[.pointer p, .slice A n c]) (hni : ∀ u ∈ (#[.pointer p, .slice A n c] : Array Value).toList, NoInt u) (hbl : Below w.heap.size w w2) (e : Ending)
    (hh : (keyRun s l = none ∧ errAns e) ∨ ∃ s', keyRun s l = some s' ∧ e = .returned .nilIface ∧ KRep w2 (.pointer p2) (.slice A2 n2 c2) s') :
    MergeAns w g t s l e ((w2.setCell ⟨g, 0, none⟩ (.pointer p2)).setCell ⟨g, 1, none⟩ (.slice A2 n2 c2)) := by
  obtain ⟨h1, h2⟩ := two_set (a := .pointer p2) (b := .slice A2 n2 c2) hbg
  refine ⟨p2, A2, n2, c2, h1, (grown_of_below hbl _).trans h2, ?_⟩
  rcases hh with hh | ⟨s', r1, r2, r3⟩
  · exact .inl hh
  · exact .inr ⟨s', r1, r2, r3.keepBlk hbg hni h2⟩

theorem pubMerge (hb : Blk w g t #[.pointer p, .slice A n c]) (hk : KRep w (.pointer p) (.slice A n c) s) (hv : Bs w w.heap.size v l) (he : CErr w) (hlen : l.length ≤ 140737488355328) :
    Calls Tryd.prog 88 #[.pointer (some ⟨g, 0, none⟩), v] w fun e w' => MergeAns w g t s l e w' := by
  have Hb := Lib.hid hb
  have c0 : w.cell? ⟨g, 0, none⟩ = some (.pointer p) := hb.cell 0
  have c1 : w.cell? ⟨g, 1, none⟩ = some (.slice A n c) := hb.cell 1
  have Hni := Lib.hid hk.noInt
  have hba := below_alloc w (.cells #[.pointer p, .slice A n c] 118)
  have Hc := Lib.hid (keyMerge (w := w.alloc (.cells #[.pointer p, .slice A n c] 118)) (Blk.new w _ _) (hk.step hba) (hv.step hba) (he.step hba) hlen)
  have Hba := Lib.hid hba
  clear hba hb hk hv he
  go_enter Tryd.func88, Tryd.ntmps88
  go_wp2_with fail
  refine Hc.out.mono ?_
  rintro e w2 ⟨p2, A2, n2, c2, hb2, hg2, hans⟩
  have hbl := Lib.hid (below_of_new Hba.out (Nat.le_refl _) hg2)
  have Hb2 := Lib.hid hb2
  have k0 : w2.cell? ⟨w.heap.size, 0, none⟩ = some (.pointer p2) := hb2.cell 0
  have k1 : w2.cell? ⟨w.heap.size, 1, none⟩ = some (.slice A2 n2 c2) := hb2.cell 1
  have Hbg := Lib.hid (Hb.out.step hbl.out)
  have f0 := Hbg.out.free 0
  have f1 := Hbg.out.free 1
  have c0' : w2.cell? ⟨g, 0, none⟩ = some (.pointer p) := Hbg.out.cell 0
  have c1' : w2.cell? ⟨g, 1, none⟩ = some (.slice A n c) := Hbg.out.cell 1
  have Hans := Lib.hid hans
  clear hans hb2 Hc
  have Fin := Lib.hid (pubMerge_fin (s := s) (l := l) Hbg.out Hni.out hbl.out (p2 := p2) (A2 := A2) (n2 := n2) (c2 := c2))
  rcases Hans.out with ⟨hr, te, xe, rfl⟩ | ⟨s', hr, rfl, hrep⟩
  · have Hr := Lib.hid hr
    clear hr
    go_wp2_with fail
    go_ret
    exact Fin.out _ (.inl ⟨Hr.out, _, _, rfl⟩)
  · have Hr := Lib.hid hr
    clear hr
    go_wp2_with fail
    go_ret
    exact Fin.out _ (.inr ⟨s', Hr.out, rfl, hrep⟩)

theorem pubRequired (hb : Blk w g t #[.pointer p, .slice A n c]) (hk : KRep w (.pointer p) (.slice A n c) s) (he : CErr w) :
    Calls Tryd.prog 89 #[.pointer (some ⟨g, 0, none⟩)] w fun e w' => ReqAns s e ∧ Below w.heap.size w w' := by
  have c0 : w.cell? ⟨g, 0, none⟩ = some (.pointer p) := hb.cell 0
  have c1 : w.cell? ⟨g, 1, none⟩ = some (.slice A n c) := hb.cell 1
  have hba := below_alloc w (.cells #[.pointer p, .slice A n c] 118)
  have Hc := Lib.hid (keyRequired (w := w.alloc (.cells #[.pointer p, .slice A n c] 118)) (Blk.new w _ _) (hk.step hba) (he.step hba))
  clear hba hb hk he
  go_enter Tryd.func89, Tryd.ntmps89
  go_wp2_with fail
  refine Hc.out.mono ?_
  rintro e w2 ⟨hans, rfl⟩
  have Hans := Lib.hid hans
  clear hans
  rcases Hans.out with ⟨hf, rfl⟩ | ⟨hf, te, xe, rfl⟩
  · go_wp2_with fail
    go_ret
    exact ⟨Hans.out, below_alloc w _⟩
  · go_wp2_with fail
    go_ret
    exact ⟨Hans.out, below_alloc w _⟩
end
end Go.Proofs.YtcefcdmonfenoaaDoor
