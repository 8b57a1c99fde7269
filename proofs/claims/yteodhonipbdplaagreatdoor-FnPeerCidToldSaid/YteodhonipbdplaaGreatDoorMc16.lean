/- strings.Builder, as this program has it: copyCheck, grow. -/
import Derived.Test.YteodhonipbdplaaGreatDoorMc04
import Derived.Lib.Builder
import Derived.Lib.MakeNoZero
import Derived.Lib.UnsafeStr
import Derived.Laws.Externs
import Derived.Shelf.RegionOpenPlain
import Derived.Deep.RegionHeld3
namespace Go.Proofs.YteodhonipbdplaaGreatDoor
open Go.RowKit
set_option maxRecDepth 100000
theorem bldSize : (Tryz.prog.info? 95).map (·.size) = some 2 := by kernel_rfl
theorem bldLies : liesAt Tryz.prog Tryz.prog.depth 95 (2 / Tryz.prog.cellsOf 95) 0 95 1 = true := by kernel_rfl
theorem noEsc (x : Value) (W : World) : (callFunc 138 #[x]).run Tryz.prog W = .ok (.value x) W := by
  rw [run_callFunc_extern Tryz.func138 (by kernel_rfl) (by kernel_rfl) (by kernel_rfl) (e := Extern.AbiNoEscape.same) (by kernel_rfl) #[x] W, Lib.run_noEscape]
  rfl
section
variable {w : World} {b B n : Nat} {v : Value} {l m : List UInt8}
theorem Blk.setSame (h : Blk w b 95 #[.pointer none, v]) : Blk (w.setCell ⟨b, 0, none⟩ (.pointer (some ⟨b, 0, none⟩))) b 95 #[.pointer (some ⟨b, 0, none⟩), v] := h.set 0 (.pointer (some ⟨b, 0, none⟩))
theorem copyCheckFresh (h : Blk w b 95 #[.pointer none, v]) :
    Calls Tryz.prog 103 #[.pointer (some ⟨b, 0, none⟩)] w fun e w' => e = .returned (.tuple #[]) ∧ w' = w.setCell ⟨b, 0, none⟩ (.pointer (some ⟨b, 0, none⟩)) := by
  obtain ⟨j, hj, hjs⟩ := Option.map_eq_some_iff.1 bldSize
  have hsh : w.shape? b = some (95, 2) := by unfold Blk at h; simp [World.shape?, h]
  have h1 := Lib.run_to_unsafe (P := Tryz.prog) w ⟨b, 0, none⟩ Tryz.underlying93 Tryz.underlying145 hj (by rw [hjs]; decide) hsh (Nat.zero_lt_succ 1)
  have h2 := Lib.run_from_unsafe (P := Tryz.prog) w ⟨b, 0, none⟩ Tryz.underlying145 Tryz.underlying93 hj hsh bldLies
  have h3 := fun W : World => noEsc (.pointer (some ⟨b, 0, none⟩)) W
  have c0 : w.cell? ⟨b, 0, none⟩ = some (.pointer none) := h.cell 0
  have f0 := h.free 0
  clear h hj hjs hsh
  go_enter Tryz.func103, Tryz.ntmps103
  go_wp2_with fail
  go_end0
  exact ⟨rfl, rfl⟩
theorem copyCheckUsed (h : Blk w b 95 #[.pointer (some ⟨b, 0, none⟩), v]) :
    Calls Tryz.prog 103 #[.pointer (some ⟨b, 0, none⟩)] w fun e w' => e = .returned (.tuple #[]) ∧ w = w' := by
  obtain ⟨j, hj, hjs⟩ := Option.map_eq_some_iff.1 bldSize
  have h1 := Lib.run_neq_ptr_same (P := Tryz.prog) w (⟨b, 0, none⟩ : Addr) Tryz.underlying93 hj
  have c0 : w.cell? ⟨b, 0, none⟩ = some (.pointer (some ⟨b, 0, none⟩)) := h.cell 0
  clear h hj hjs
  go_enter Tryz.func103, Tryz.ntmps103
  go_wp2_with fail
  go_end0
  exact ⟨rfl, rfl⟩
/-- a builder of one's own that has been used -/
def Bld (w : World) (B b : Nat) (l : List UInt8) : Prop := B ≤ b ∧ ∃ v, Blk w b 95 #[.pointer (some ⟨b, 0, none⟩), v] ∧ Own w B v l ∧ v.ownBlock ≠ some b
set_option maxHeartbeats 2000000 in
theorem bldGrow0 (h : Blk w b 95 #[.pointer (some ⟨b, 0, none⟩), .slice none 0 0]) (hB : B ≤ b) (hBw : B ≤ w.heap.size) (hn : n ≤ 100000) :
    Calls Tryz.prog 104 #[.pointer (some ⟨b, 0, none⟩), .int .i64 (n : Int)] w fun e w' => e = .returned (.tuple #[]) ∧ Bld w' B b [] ∧ Below B w w' := by
  obtain ⟨cs, hrun, hle, hmax⟩ := Lib.run_makeNoZero (P := Tryz.prog) w.drew #[3] 23 5 Tryz.underlying23 n (by omega)
  have hw : IntKind.i64.wrap (IntKind.i64.wrap 0 + (n : Int)) = n := by
    rw [IntKind.wrap_i64, IntKind.wrap_i64]
    omega
  have hcall : (callFunc 139 #[.int .i64 (IntKind.i64.wrap (IntKind.i64.wrap 0 + (n : Int)))]).run Tryz.prog w.drew = .ok (.value (.slice (some ⟨w.drew.heap.size, 0, none⟩) n cs.size)) (w.drew.drew.drew.alloc (.cells cs 5)) := by
    rw [hw, run_callFunc_extern Tryz.func139 (by kernel_rfl) (by kernel_rfl) (by kernel_rfl) (e := Extern.BytealgMakeNoZero.makeNoZero #[3] #[23]) (by kernel_rfl), hrun]
    rfl
  have c1 : w.drew.cell? ⟨b, 1, none⟩ = some (.slice none 0 0) := h.cell 1
  have c2 : (w.alloc (.cells cs 5)).cell? ⟨b, 1, none⟩ = some (.slice none 0 0) := (h.alloc _).cell 1
  have f2 : (w.alloc (.cells cs 5)).frozen? ⟨b, 1, none⟩ = false := (h.alloc _).free 1
  have hcopy : ∀ W : World, (Builtin.copy_ #[23, 23] 3 #[.slice (some ⟨w.heap.size, 0, none⟩) 0 cs.size, .slice none 0 0]).run Tryz.prog W = .ok (goInt 0) W :=
    fun W => run_copy_none W 23 23 3 5 _ _ 0 cs.size 0 0 Tryz.underlying23 (by kernel_rfl) rfl
  have hfin := Lib.grown_fresh (T := 95) (e := 5) (cs := cs) hB h hBw (hmax (by unfold maxLen; omega)) (by decide)
  have mixed : Tryz.prog.follows Departure.mixedOrders = true := by kernel_rfl
  clear hw h hrun
  go_enter Tryz.func104, Tryz.ntmps104
  go_wp2_with fail
  go_region_o
  all_goals
    go_wp2
    go_end0
    obtain ⟨⟨h1, v, h2, h3, h4⟩, h5⟩ := hfin
    exact ⟨rfl, ⟨h1, v, h2, h3, h4⟩, h5⟩
end
end Go.Proofs.YteodhonipbdplaaGreatDoor
