/- bytes.Clone, present, bytes.Equal. -/
import Derived.Test.YtcefcdmonfenoaaDoorMem
import Derived.Laws.BytesArg
import Derived.Laws.BytesString
import Derived.Lib.SliceRun
namespace Go.Proofs.YtcefcdmonfenoaaDoor
open Go.RowKit
set_option maxRecDepth 100000

theorem eql_nil (W : World) (a : Option Addr) (n c n' c' : Nat) : (binOp .eql 23 (.slice a n c) (.slice none n' c')).run Tryd.prog W = .ok (.bool a.isNone) W := Lib.run_eql_slice_nil W _ _ a n c n' c' Tryd.underlying23

/-- bytes as a string -/
def strOf (l : List UInt8) : ByteArray := ⟨l.toArray⟩
theorem strOf_toList (l : List UInt8) : (strOf l).toList = l := by rw [ByteArray.toList_eq]; rfl
theorem strOf_size (l : List UInt8) : (strOf l).size = l.length := by simp [strOf, ByteArray.size]
theorem strOf_data (l : List UInt8) : (strOf l).data.toList = l := by simp [strOf]
theorem strOf_of (s : ByteArray) : strOf s.data.toList = s := by cases s; simp [strOf]

/-- 'string(b)' -/
theorem conv_str {w : World} {B : Nat} {v : Value} {l : List UInt8} (h : Bs w B v l) {dst : TypeId} (hd : Tryd.prog.underlying dst = some .string) : (convert 23 dst v).run Tryd.prog w = .ok (.string (strOf l)) w := by
  obtain ⟨A, c, rfl, h1, h2, h3⟩ := h
  rcases Nat.eq_zero_or_pos l.length with h0 | h0
  · have := List.length_eq_zero_iff.1 h0
    subst this
    rw [show ([] : List UInt8).length = 0 from rfl, run_convert_bytes_string w 23 dst 5 _ 0 c Tryd.underlying23 Tryd.underlying5 hd]
    cases A <;> simp [Conv.bytesToString, loadCells] <;> rfl
  · obtain ⟨g, o, rfl, _, hc⟩ := h3 h0
    have hs : strOf l = strOfNums (l.map fun u => (u.toNat : Int)) := by
      unfold strOf strOfNums
      congr 2
      rw [List.map_map]
      conv => lhs; rw [← List.map_id l]
      refine List.map_congr_left fun u _ => ?_
      simp
    rw [hs]
    refine run_convert_bytes_arg w 23 5 Tryd.underlying23 Tryd.underlying5 g o l.length c _ (by simp) (fun i hi => ?_) dst hd
    rw [hc i hi]
    simp [bv, List.getD, hi]

theorem bytesEqual {w : World} {B C : Nat} {v x : Value} {l m : List UInt8} (h : Bs w B v l) (k : Bs w C x m) :
    Calls Tryd.prog 28 #[v, x] w fun e w' => e = .returned (.bool (l == m)) ∧ w = w' := by
  have c1 := conv_str h Tryd.underlying9
  have c2 := conv_str k Tryd.underlying9
  have Hb := Lib.hid (show ((strOf l).toList == (strOf m).toList) = (l == m) by rw [strOf_toList, strOf_toList])
  clear h k
  go_enter Tryd.func28, Tryd.ntmps28
  go_wp2
  go_ret
  exact ⟨by rw [← Hb.out]; rfl, rfl⟩

theorem bytesClone {w : World} {v : Value} {l : List UInt8} (h : Bs w w.heap.size v l) (hlen : l.length ≤ 140737488355328) :
    Calls Tryd.prog 22 #[v] w fun e w' => Fresh w l e w' := by
  obtain ⟨A, c, rfl, hlc, hc63⟩ := h.form
  have H := Lib.hid h
  cases A with
  | none =>
    have h0 : l = [] := by
      obtain ⟨A', c', he, _, _, h3⟩ := h
      injection he with e1 e2 e3
      rcases Nat.eq_zero_or_pos l.length with h0 | h0
      · exact List.length_eq_zero_iff.1 h0
      · obtain ⟨g, o, e, _⟩ := h3 h0; rw [← e1] at e; cases e
    clear h
    subst h0
    have hq := eql_nil
    go_enter Tryd.func22, Tryd.ntmps22
    go_wp2
    go_ret
    exact ⟨_, rfl, Own.nil _ _, below_refl w⟩
  | some a =>
    clear h
    have hq := eql_nil
    go_enter Tryd.func22, Tryd.ntmps22
    go_wp2_with (at_builtin; refine wpList_app rfl _ _ rfl (by rfl) (by rfl) (Own.made _ (Nat.le_refl _)) (H.out.alloc (Nat.le_refl _) _) (by simpa using hlen) (by simp) ?_; intro v' w1 ho hg hnn hmv)
    go_ret
    exact ⟨v', rfl, ho, below_grown (below_alloc w _) hg (fun g e => by simp [Value.ownBlock] at e; omega)⟩

theorem present {w : World} {v : Value} {l : List UInt8} (h : Bs w w.heap.size v l) (hlen : l.length ≤ 140737488355328) :
    Calls Tryd.prog 66 #[v] w fun e w' => FreshN w l e w' := by
  obtain ⟨A, c, rfl, hlc, hc63⟩ := h.form
  have H := Lib.hid h
  clear h
  go_enter Tryd.func66, Tryd.ntmps66
  go_wp2_with (at_builtin; refine wpList_app rfl _ _ rfl (by rfl) (by rfl) (Own.made _ (Nat.le_refl _)) (H.out.alloc (Nat.le_refl _) _) (by simpa using hlen) (by simp) ?_; intro v' w1 ho hg hnn hmv)
  go_ret
  exact ⟨v', rfl, ho, below_grown (below_alloc w _) hg (fun g e => by simp [Value.ownBlock] at e; omega), hnn ⟨_, _, _, rfl⟩⟩
end Go.Proofs.YtcefcdmonfenoaaDoor
