/- record/pb's Envelope in memory: what a step of its reading leaves. -/
import Derived.Test.YtcefcdmonfenoaaDoorEs
import Derived.Test.YtcefcdmonfenoaaDoorKu
namespace Go.Proofs.YtcefcdmonfenoaaDoor
open Go.RowKit
set_option maxRecDepth 100000

/-- the errors that the readers of envelopes hand out -/
structure EErr (w : World) : Prop where
  c : CErr w
  num : HasErr w 1
section
variable {w w' wx : World} {g gk B : Nat} {t : TypeId} {cs : Array Value}
theorem EErr.step (h : EErr w) (hb : Below w.heap.size w w') : EErr w' := ⟨h.c.step hb, h.num.step hb⟩
theorem EErr.keepBlk (h : EErr w) (hb : Blk w g t cs) (hn : NoIface cs) (hg : w.grownBy w' (some g)) : EErr w' := ⟨h.c.keepBlk hb hn hg, h.num.keepBlk hb hn hg⟩

/-- where the key lies, if there is one -/
def KeyAt (B : Nat) (w : World) (pk : Option Addr) : Option KS → Prop
  | none => pk = none
  | some k => ∃ gk p A n c, pk = some ⟨gk, 0, none⟩ ∧ B ≤ gk ∧ Blk w gk 89 #[.pointer p, .slice A n c] ∧ KRep w (.pointer p) (.slice A n c) k

structure ERep (B : Nat) (w : World) (pk : Option Addr) (ty pay sig : Value) (s : ES) : Prop where
  key : KeyAt B w pk s.key
  ty : Bs w w.heap.size ty s.ty
  pay : Bs w w.heap.size pay s.pay
  sig : Bs w w.heap.size sig s.sig
  lty : s.ty.length ≤ 140737488355328
  lpay : s.pay.length ≤ 140737488355328
  lsig : s.sig.length ≤ 140737488355328

variable {pk : Option Addr} {ty pay sig v : Value} {s : ES} {d : List UInt8}
theorem noInt_bs {l : List UInt8} (h : Bs w B v l) : NoInt v := by obtain ⟨A, c, rfl, _⟩ := h.form; exact noInt_slice _ _ _
theorem noIface_bs {l : List UInt8} (h : Bs w B v l) : ∀ t x, v ≠ .iface t x := by
  obtain ⟨A, c, rfl, _⟩ := h.form
  intro t x e; cases e
theorem KeyAt.step {k : Option KS} (h : KeyAt B w pk k) (hb : Below w.heap.size w w') : KeyAt B w' pk k := by
  cases k with
  | none => exact h
  | some k => obtain ⟨gk, p, A, n, c, h1, h2, h3, h4⟩ := h; exact ⟨gk, p, A, n, c, h1, h2, h3.step hb, h4.step hb⟩
theorem KeyAt.keepBlk {k : Option KS} (h : KeyAt B w pk k) (hb : Blk w g t cs) (hn : ∀ u ∈ cs.toList, NoInt u) (hg : w.grownBy w' (some g)) (hB : g < B) : KeyAt B w' pk k := by
  cases k with
  | none => exact h
  | some k =>
    obtain ⟨gk, p, A, n, c, h1, h2, h3, h4⟩ := h
    exact ⟨gk, p, A, n, c, h1, h2, h3.grown hg (fun e => by injection e with e; omega), h4.keepBlk hb hn hg⟩
theorem ERep.step (h : ERep B w pk ty pay sig s) (hb : Below w.heap.size w w') : ERep B w' pk ty pay sig s :=
  ⟨h.key.step hb, h.ty.step hb, h.pay.step hb, h.sig.step hb, h.lty, h.lpay, h.lsig⟩
theorem ERep.noInt (h : ERep B w pk ty pay sig s) : ∀ u ∈ (#[.pointer pk, ty, pay, sig] : Array Value).toList, NoInt u := by
  intro u hu
  simp at hu
  rcases hu with rfl | rfl | rfl | rfl
  · exact noInt_ptr _
  · exact noInt_bs h.ty
  · exact noInt_bs h.pay
  · exact noInt_bs h.sig
theorem ERep.noIface (h : ERep B w pk ty pay sig s) : NoIface #[.pointer pk, ty, pay, sig] := by
  intro u hu t x
  simp at hu
  rcases hu with rfl | rfl | rfl | rfl
  · intro e; cases e
  · exact noIface_bs h.ty t x
  · exact noIface_bs h.pay t x
  · exact noIface_bs h.sig t x
theorem ERep.keepBlk (h : ERep B w pk ty pay sig s) (hb : Blk w g t cs) (hn : ∀ u ∈ cs.toList, NoInt u) (hg : w.grownBy w' (some g)) (hB : g < B) : ERep B w' pk ty pay sig s :=
  ⟨h.key.keepBlk hb hn hg hB, h.ty.keepBlk hb hn hg, h.pay.keepBlk hb hn hg, h.sig.keepBlk hb hn hg, h.lty, h.lpay, h.lsig⟩
theorem ERep.nil (B : Nat) (w : World) : ERep B w none (.slice none 0 0) (.slice none 0 0) (.slice none 0 0) ES.none :=
  ⟨rfl, Bs.nil0 _ _, Bs.nil0 _ _, Bs.nil0 _ _, Nat.zero_le _, Nat.zero_le _, Nat.zero_le _⟩

/-- the envelope at block g, so far; w: the world at the reader's start -/
structure EMem (w : World) (g : Nat) (wr : World) (pk : Option Addr) (ty pay sig : Value) (s : ES) : Prop where
  blk : Blk wr g 110 #[.pointer pk, ty, pay, sig]
  rep : ERep w.heap.size wr pk ty pay sig s
  grown : w.grownBy wr (some g)
  gl : g < w.heap.size
  errs : EErr wr

variable {wr : World}
theorem grown_two {a b c : World} {g gk : Nat} (h : a.grownBy b (some g)) (k : b.grownBy c (some gk)) (hg : a.heap.size ≤ gk) : a.grownBy c (some g) :=
  ⟨k.os.trans h.os, k.tape.trans h.tape, k.output.trans h.output, Nat.le_trans h.size k.size, fun i hi hne => (k.block i (Nat.lt_of_lt_of_le hi h.size) (fun e => by injection e with e; omega)).trans (h.block i hi hne)⟩
theorem EMem.step (H : EMem w g wr pk ty pay sig s) (hb : Below wr.heap.size wr wx) : EMem w g wx pk ty pay sig s :=
  ⟨H.blk.step hb, H.rep.step hb, grown_step H.grown hb, H.gl, H.errs.step hb⟩
theorem EMem.bs_set {l : List UInt8} (H : EMem w g wr pk ty pay sig s) (h : Bs wr wr.heap.size v l) (i : Nat) (u : Value) : Bs (wr.setCell ⟨g, i, none⟩ u) (wr.setCell ⟨g, i, none⟩ u).heap.size v l :=
  h.keepBlk H.blk H.rep.noInt (grown_setCell (grown_refl _ _) (.inl rfl) _)
theorem EMem.set1 (H : EMem w g wr pk ty pay sig s) (h : Bs wr wr.heap.size v d) (hd : d.length ≤ 140737488355328) : EMem w g (wr.setCell ⟨g, 1, none⟩ v) pk v pay sig { s with ty := d } := by
  have hg : wr.grownBy (wr.setCell ⟨g, 1, none⟩ v) (some g) := grown_setCell (grown_refl _ _) (.inl rfl) _
  have r := H.rep.keepBlk H.blk H.rep.noInt hg H.gl
  exact ⟨H.blk.set 1 v, ⟨r.key, H.bs_set h 1 v, r.pay, r.sig, hd, r.lpay, r.lsig⟩, H.grown.trans hg, H.gl, H.errs.keepBlk H.blk H.rep.noIface hg⟩
theorem EMem.set2 (H : EMem w g wr pk ty pay sig s) (h : Bs wr wr.heap.size v d) (hd : d.length ≤ 140737488355328) : EMem w g (wr.setCell ⟨g, 2, none⟩ v) pk ty v sig { s with pay := d } := by
  have hg : wr.grownBy (wr.setCell ⟨g, 2, none⟩ v) (some g) := grown_setCell (grown_refl _ _) (.inl rfl) _
  have r := H.rep.keepBlk H.blk H.rep.noInt hg H.gl
  exact ⟨H.blk.set 2 v, ⟨r.key, r.ty, H.bs_set h 2 v, r.sig, r.lty, hd, r.lsig⟩, H.grown.trans hg, H.gl, H.errs.keepBlk H.blk H.rep.noIface hg⟩
theorem EMem.set3 (H : EMem w g wr pk ty pay sig s) (h : Bs wr wr.heap.size v d) (hd : d.length ≤ 140737488355328) : EMem w g (wr.setCell ⟨g, 3, none⟩ v) pk ty pay v { s with sig := d } := by
  have hg : wr.grownBy (wr.setCell ⟨g, 3, none⟩ v) (some g) := grown_setCell (grown_refl _ _) (.inl rfl) _
  have r := H.rep.keepBlk H.blk H.rep.noInt hg H.gl
  exact ⟨H.blk.set 3 v, ⟨r.key, r.ty, r.pay, H.bs_set h 3 v, r.lty, r.lpay, hd⟩, H.grown.trans hg, H.gl, H.errs.keepBlk H.blk H.rep.noIface hg⟩
/-- a key of no fields is laid -/
theorem EMem.keyNew (H : EMem w g wr pk ty pay sig s) {wa : World} (ha : wa = wr.alloc (.cells #[.pointer none, .slice none 0 0] 89)) {gk : Nat} (hgk : gk = wr.heap.size) :
    EMem w g (wa.setCell ⟨g, 0, none⟩ (.pointer (some ⟨gk, 0, none⟩))) (some ⟨gk, 0, none⟩) ty pay sig { s with key := some KS.none } := by
  subst ha hgk
  have ba := below_alloc wr (.cells #[.pointer none, .slice none 0 0] 89)
  have H1 := H.step ba
  have bk : Blk (wr.alloc (.cells #[.pointer none, .slice none 0 0] 89)) wr.heap.size 89 #[.pointer none, .slice none 0 0] := Blk.new _ _ _
  generalize wr.alloc (.cells #[.pointer none, .slice none 0 0] 89) = wa at *
  have hg : wa.grownBy (wa.setCell ⟨g, 0, none⟩ (.pointer (some ⟨wr.heap.size, 0, none⟩))) (some g) := grown_setCell (grown_refl _ _) (.inl rfl) _
  have r := H1.rep.keepBlk H1.blk H1.rep.noInt hg H1.gl
  have hgl : g < wr.heap.size := H.blk.lt
  exact ⟨H1.blk.set 0 _, ⟨⟨wr.heap.size, none, none, 0, 0, rfl, H.grown.size, bk.grown hg (fun e => by injection e with e; omega), KRep.nil _⟩, r.ty, r.pay, r.sig, r.lty, r.lpay, r.lsig⟩, H1.grown.trans hg, H1.gl, H1.errs.keepBlk H1.blk H1.rep.noIface hg⟩
/-- a piece of a key's message has been taken over -/
theorem EMem.merged {k : KS} {e : Ending} {gk : Nat} {t : TypeId} {p A : Option Addr} {n c : Nat} (H : EMem w g wr (some ⟨gk, 0, none⟩) ty pay sig s) (_hk : s.key = some k) (hb : Blk wr gk t #[.pointer p, .slice A n c]) (hr : KRep wr (.pointer p) (.slice A n c) k) (hB : w.heap.size ≤ gk)
    (ht : t = 89) (h : MergeAns wr gk t k d e wx) :
    (keyRun k d = none ∧ errAns e ∧ w.grownBy wx (some g) ∧ ∃ cs, Blk wx g 110 cs ∧ cs = #[.pointer (some ⟨gk, 0, none⟩), ty, pay, sig]) ∨
    ∃ k', keyRun k d = some k' ∧ e = .returned .nilIface ∧ EMem w g wx (some ⟨gk, 0, none⟩) ty pay sig { s with key := some k' } := by
  subst ht
  obtain ⟨p', A', n', c', hb', hg, h⟩ := h
  have hgl := H.gl
  have hbg : Blk wx g 110 #[.pointer (some ⟨gk, 0, none⟩), ty, pay, sig] := H.blk.grown hg (fun e => by injection e with e; omega)
  rcases h with ⟨h1, h2⟩ | ⟨k', h1, h2, h3⟩
  · exact .inl ⟨h1, h2, grown_two H.grown hg hB, _, hbg, rfl⟩
  · refine .inr ⟨k', h1, h2, ⟨hbg, ⟨⟨gk, p', A', n', c', rfl, hB, hb', h3⟩, ?_, ?_, ?_, H.rep.lty, H.rep.lpay, H.rep.lsig⟩, grown_two H.grown hg hB, hgl, H.errs.keepBlk hb (noIface_key _ _ _ _) hg⟩⟩
    · exact H.rep.ty.keepBlk hb hr.noInt hg
    · exact H.rep.pay.keepBlk hb hr.noInt hg
    · exact H.rep.sig.keepBlk hb hr.noInt hg

theorem EMem.merge {a : Addr} {k : KS} (H : EMem w g wr (some a) ty pay sig s) (hk : s.key = some k) (hv : Bs wr wr.heap.size v d) (hd : d.length ≤ 140737488355328) :
    Calls Tryd.prog 88 #[.pointer (some a), v] wr fun e w' =>
      (keyRun k d = none ∧ errAns e ∧ w.grownBy w' (some g) ∧ Blk w' g 110 #[.pointer (some a), ty, pay, sig]) ∨
      (∃ k', keyRun k d = some k' ∧ e = .returned .nilIface ∧ EMem w g w' (some a) ty pay sig { s with key := some k' } ∧ ∀ (u : Value) (m : List UInt8), Bs wr wr.heap.size u m → Bs w' w'.heap.size u m) := by
  have hkey := H.rep.key
  rw [hk] at hkey
  obtain ⟨gk, p, A, n, c, he, hB, hbk, hrk⟩ := hkey
  injection he with he
  subst he
  refine (pubMerge hbk hrk hv H.errs.c hd).mono ?_
  intro e w' hm
  have hgr : wr.grownBy w' (some gk) := by obtain ⟨_, _, _, _, _, h, _⟩ := hm; exact h
  rcases H.merged hk hbk hrk hB rfl hm with ⟨h1, h2, h3, cs, h4, rfl⟩ | ⟨k', h1, h2, h3⟩
  · exact .inl ⟨h1, h2, h3, h4⟩
  · exact .inr ⟨k', h1, h2, h3, fun u m hu => hu.keepBlk hbk hrk.noInt hgr⟩

/-- what Unmarshal leaves -/
def EUnm (w : World) (g : Nat) (l : List UInt8) (e : Ending) (w' : World) : Prop :=
  ∃ pk ty pay sig, Blk w' g 110 #[.pointer pk, ty, pay, sig] ∧ w.grownBy w' (some g) ∧
    ((envDec l = none ∧ errAns e) ∨ ∃ s E, envDec l = some E ∧ EV.of s = some E ∧ e = .returned .nilIface ∧ ERep w.heap.size w' pk ty pay sig s)
theorem EUnm.bad {l : List UInt8} {t : TypeId} {x : Value} (h : envRun ES.none l = none) (hb : Blk wx g 110 #[.pointer pk, ty, pay, sig]) (hg : w.grownBy wx (some g)) : EUnm w g l (.returned (.iface t x)) wx :=
  ⟨pk, ty, pay, sig, hb, hg, .inl ⟨by unfold envDec; rw [h]; rfl, ⟨t, x, rfl⟩⟩⟩
theorem EMem.bad {l : List UInt8} {t : TypeId} {x : Value} (H : EMem w g wr pk ty pay sig s) (h : envRun ES.none l = none) (hb : Below wr.heap.size wr wx) : EUnm w g l (.returned (.iface t x)) wx :=
  ⟨pk, ty, pay, sig, H.blk.step hb, grown_step H.grown hb, .inl ⟨by unfold envDec; rw [h]; rfl, ⟨t, x, rfl⟩⟩⟩
end
end Go.Proofs.YtcefcdmonfenoaaDoor
