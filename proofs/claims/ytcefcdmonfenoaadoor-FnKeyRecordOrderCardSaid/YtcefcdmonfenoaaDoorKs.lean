/- Messages of keys: the plain reading, its place in memory, and the walks of crypto/pb's key. -/
import Derived.Test.YtcefcdmonfenoaaDoorStd
import Derived.Test.YtcefcdmonfenoaaDoorWc
import Derived.Test.YtcefcdmonfenoaaDoorAw
namespace Go.Proofs.YtcefcdmonfenoaaDoor
open Go.RowKit
set_option maxRecDepth 100000

/-- what a key's message has told so far -/
structure KS where
  kind : Option Int
  data : Option (List UInt8)

def KS.none : KS := ⟨.none, .none⟩

/-- a field taken over what is there -/
def keyStep (s : KS) (num typ : Int) (l : List UInt8) : Option (KS × Nat) :=
  if num = 1 ∧ typ = 0 then (if (Wire.cvar l).2 < 0 then .none else some ({ s with kind := some (wrap32 (Wire.cvar l).1) }, (Wire.cvar l).2.toNat))
  else if num = 2 ∧ typ = 2 then (if (Wire.cbytes l).2 < 0 then .none else some ({ s with data := some (Wire.cbytes l).1 }, (Wire.cbytes l).2.toNat))
  else (if fval num typ l < 0 then .none else some (s, (fval num typ l).toNat))

def keyRun (s : KS) (l : List UInt8) : Option KS := Wire.mrun keyStep s l

section
variable {s : KS} {l : List UInt8} {n m : Nat} {a b c : Int} {x : Nat} {d : List UInt8}
theorem keyRun_nil : keyRun s [] = some s := Wire.mrun_nil
theorem keyRun_torn (ht : Wire.ctag l = (a, b, c)) (hl : 0 < l.length) (h : c < 0) : keyRun s l = .none := Wire.mrun_torn' ht hl h
theorem keyRun_far (ht : Wire.ctag l = (a, b, c)) (hl : 0 < l.length) (h : 536870911 < a) : keyRun s l = .none := Wire.mrun_far' ht hl h
theorem keyRun_kind_bad (ht : Wire.ctag l = (1, 0, (n : Int))) (hl : 0 < l.length) (hc : Wire.cvar (l.drop n) = (x, c)) (h : c < 0) : keyRun s l = .none :=
  Wire.mrun_none' ht hl (by omega) (by unfold keyStep; rw [if_pos ⟨rfl, rfl⟩, hc]; exact if_pos h)
theorem keyRun_kind (ht : Wire.ctag l = (1, 0, (n : Int))) (hl : 0 < l.length) (hc : Wire.cvar (l.drop n) = (x, (m : Int))) : keyRun s l = keyRun { s with kind := some (wrap32 x) } ((l.drop n).drop m) :=
  Wire.mrun_some' ht hl (by omega) (by unfold keyStep; rw [if_pos ⟨rfl, rfl⟩, hc]; exact if_neg (by simp only []; omega))
theorem keyRun_data_bad (ht : Wire.ctag l = (2, 2, (n : Int))) (hl : 0 < l.length) (hc : Wire.cbytes (l.drop n) = (d, c)) (h : c < 0) : keyRun s l = .none :=
  Wire.mrun_none' ht hl (by omega) (by unfold keyStep; rw [if_neg (by omega), if_pos ⟨rfl, rfl⟩, hc]; exact if_pos h)
theorem keyRun_data (ht : Wire.ctag l = (2, 2, (n : Int))) (hl : 0 < l.length) (hc : Wire.cbytes (l.drop n) = (d, (m : Int))) : keyRun s l = keyRun { s with data := some d } ((l.drop n).drop m) :=
  Wire.mrun_some' ht hl (by omega) (by unfold keyStep; rw [if_neg (by omega), if_pos ⟨rfl, rfl⟩, hc]; exact if_neg (by simp only []; omega))
theorem keyRun_skip_bad (ht : Wire.ctag l = (a, b, (n : Int))) (hl : 0 < l.length) (ha : ¬ 536870911 < a) (h1 : ¬ (a = 1 ∧ b = 0)) (h2 : ¬ (a = 2 ∧ b = 2)) (hc : fval a b (l.drop n) = c) (h : c < 0) : keyRun s l = .none :=
  Wire.mrun_none' ht hl ha (by unfold keyStep; rw [if_neg h1, if_neg h2, hc]; exact if_pos h)
theorem keyRun_skip (ht : Wire.ctag l = (a, b, (n : Int))) (hl : 0 < l.length) (ha : ¬ 536870911 < a) (h1 : ¬ (a = 1 ∧ b = 0)) (h2 : ¬ (a = 2 ∧ b = 2)) (hc : fval a b (l.drop n) = (m : Int)) : keyRun s l = keyRun s ((l.drop n).drop m) :=
  Wire.mrun_some' ht hl ha (by unfold keyStep; rw [if_neg h1, if_neg h2, hc]; exact if_neg (by omega))
end

/-- how it lies: a pointer to the kind, the data -/
def KindAt (w : World) (tp : Value) : Option Int → Prop
  | .none => tp = .pointer .none
  | some k => ∃ g, tp = .pointer (some ⟨g, 0, .none⟩) ∧ w.cell? ⟨g, 0, .none⟩ = some (.int .i32 k)
def DataAt (w : World) (dv : Value) : Option (List UInt8) → Prop
  | .none => dv = .slice .none 0 0
  | some d => Bs w w.heap.size dv d ∧ NN dv ∧ d.length ≤ 140737488355328
def KRep (w : World) (tp dv : Value) (s : KS) : Prop := KindAt w tp s.kind ∧ DataAt w dv s.data

section
variable {w w' : World} {tp dv : Value} {s : KS} {k : Option Int} {d : Option (List UInt8)} {g : Nat} {t : TypeId} {cs : Array Value}
theorem KindAt.noInt (h : KindAt w tp k) : NoInt tp := by
  cases k with
  | none => rw [show tp = _ from h]; exact noInt_ptr _
  | some k => obtain ⟨g, rfl, _⟩ := h; exact noInt_ptr _
theorem DataAt.noInt (h : DataAt w dv d) : NoInt dv := by
  cases d with
  | none => rw [show dv = _ from h]; exact noInt_slice _ _ _
  | some d => obtain ⟨A, c, rfl, _⟩ := h.1.form; exact noInt_slice _ _ _
theorem KindAt.step (h : KindAt w tp k) (hb : Below w.heap.size w w') : KindAt w' tp k := by
  cases k with
  | none => exact h
  | some k => obtain ⟨g, rfl, hc⟩ := h; exact ⟨g, rfl, (hb.cell (p := ⟨g, 0, .none⟩) (World.block_lt_of_cell? w _ hc)).trans hc⟩
theorem DataAt.step (h : DataAt w dv d) (hb : Below w.heap.size w w') : DataAt w' dv d := by
  cases d with
  | none => exact h
  | some d => exact ⟨h.1.step hb, h.2⟩
theorem KRep.step (h : KRep w tp dv s) (hb : Below w.heap.size w w') : KRep w' tp dv s := ⟨h.1.step hb, h.2.step hb⟩
theorem KindAt.keepBlk (h : KindAt w tp k) (hb : Blk w g t cs) (hn : ∀ u ∈ cs.toList, NoInt u) (hg : w.grownBy w' (some g)) : KindAt w' tp k := by
  cases k with
  | none => exact h
  | some k =>
    obtain ⟨g', rfl, hc⟩ := h
    refine ⟨g', rfl, hg.cell hc ?_⟩
    intro e
    have e' : g' = g := by simpa using e
    subst e'
    rw [hb.cell] at hc
    exact hn _ (by simpa using Array.mem_of_getElem? hc) _ _ rfl
theorem DataAt.keepBlk (h : DataAt w dv d) (hb : Blk w g t cs) (hn : ∀ u ∈ cs.toList, NoInt u) (hg : w.grownBy w' (some g)) : DataAt w' dv d := by
  cases d with
  | none => exact h
  | some d => exact ⟨h.1.keepBlk hb hn hg, h.2⟩
theorem KRep.keepBlk (h : KRep w tp dv s) (hb : Blk w g t cs) (hn : ∀ u ∈ cs.toList, NoInt u) (hg : w.grownBy w' (some g)) : KRep w' tp dv s := ⟨h.1.keepBlk hb hn hg, h.2.keepBlk hb hn hg⟩
theorem KRep.noInt (h : KRep w tp dv s) : ∀ u ∈ (#[tp, dv] : Array Value).toList, NoInt u := by
  intro u hu
  simp at hu
  rcases hu with rfl | rfl
  · exact h.1.noInt
  · exact h.2.noInt
theorem KRep.nil (w : World) : KRep w (.pointer .none) (.slice .none 0 0) KS.none := ⟨rfl, rfl⟩
end

/-- a pointer to a new number -/
def EnumAns (w : World) (k : Int) (e : Ending) (w' : World) : Prop := ∃ g, e = .returned (.pointer (some ⟨g, 0, none⟩)) ∧ w'.cell? ⟨g, 0, none⟩ = some (.int .i32 k) ∧ Below w.heap.size w w'

theorem enum (w : World) (k : Int) : Calls Tryd.prog 65 #[.int .i32 k] w fun e w' => EnumAns w k e w' := by
  go_enter Tryd.func65, Tryd.ntmps65
  go_wp2
  go_ret
  exact ⟨_, rfl, by simp [World.cell?_alloc_at], below_alloc w _⟩

end Go.Proofs.YtcefcdmonfenoaaDoor
