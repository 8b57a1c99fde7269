/- The reference's SHA2-256: shaTurn, shaKeys. -/
import Derived.Test.YteodhonipbdplaaGreatDoorMd01
import Derived.Test.YteodhonipbdplaaGreatDoorMd02
import Derived.BigQuiet
import Derived.Deep.QuietTactic
import Derived.Deep.MidRow
import Derived.Deep.DeepCutAuto
namespace Go.Proofs.YteodhonipbdplaaGreatDoor
open Go.RowKit
set_option maxRecDepth 100000
/-- words as values -/
def u32s (l : List Nat) : List Value := l.map fun (n : Nat) => Value.int .u32 (n : Int)
theorem u32s_length (l : List Nat) : (u32s l).length = l.length := by simp [u32s]
theorem u32s_get {l : List Nat} {k : Nat} (h : k < l.length) : (u32s l)[k]? = some (.int .u32 (l[k] : Int)) := by simp [u32s, h]
theorem u32s_one (l : List Nat) : ∀ v ∈ u32s l, v.oneCell' = true := by
  intro v hv
  obtain ⟨n, _, rfl⟩ := List.mem_map.1 hv
  rfl
theorem u32s_set (l : List Nat) (k n : Nat) : (u32s l).set k (.int .u32 (n : Int)) = u32s (l.set k n) := by simp [u32s, List.map_set]
theorem turn_val {x n : Nat} (hx : x < 4294967296) : bits .or .u32 ((x : Int) / 2 ^ n) ((x : Int) * 2 ^ (32 - n) % 4294967296) = ((Sha.rotr x n : Nat) : Int) := by
  have e1 : (x : Int) / 2 ^ n = ((x / 2 ^ n : Nat) : Int) := by rw [Int.natCast_ediv, Int.natCast_pow]; rfl
  have e2 : (x : Int) * 2 ^ (32 - n) % 4294967296 = ((x * 2 ^ (32 - n) % 4294967296 : Nat) : Int) := by rw [Int.natCast_emod, Int.natCast_mul, Int.natCast_pow]; rfl
  rw [e1, e2]
  exact u32_or_nat _ _ (Nat.lt_of_le_of_lt (Nat.div_le_self _ _) hx) (Nat.mod_lt _ (by omega))
section
theorem shaTurn (w : World) {x n : Nat} (hx : x < 4294967296) (h1 : 1 ≤ n) (h2 : n ≤ 31) :
    Calls Tryz.prog 65 #[.int .u32 (x : Int), .int .i64 (n : Int)] w fun e w' => e = .returned (.int .u32 ((Sha.rotr x n : Nat) : Int)) ∧ ∃ k, w' = w.drewN k := by
  have hv := Lib.hid (turn_val (n := n) hx)
  have hs : (32 - (n : Int)).toNat = 32 - n := by omega
  have hs0 : (0 : Int) ≤ 32 - (n : Int) := by omega
  have hs' := Lib.hid hs
  clear hs
  go_enter Tryz.func65, Tryz.ntmps65
  go_wp2_with fail
  go_quiet (fail)
  go_wp2_with fail
  go_ret
  exact ⟨congrArg (fun z => Ending.returned (Value.int .u32 z)) hv.out, _, rfl⟩
theorem infoKeys : (Tryz.prog.info? 87).map (·.size) = some 64 := by kernel_rfl
set_option maxHeartbeats 1000000 in
set_option maxHeartbeats 1000000 in
set_option maxHeartbeats 1000000 in
theorem shaKeys (w : World) :
    Calls Tryz.prog 66 #[] w fun e w' => e = .returned (.agg (u32s Sha.keys).toArray) ∧ Below w.heap.size w w' := by
  go_enter Tryz.func66, Tryz.ntmps66
  go_upto_region 1 with fail
  obtain ⟨w1, hw1⟩ : ∃ w1, w1 = w.alloc (.cells #[.int .u32 0, .int .u32 0, .int .u32 0, .int .u32 0, .int .u32 0, .int .u32 0, .int .u32 0, .int .u32 0, .int .u32 0, .int .u32 0, .int .u32 0, .int .u32 0, .int .u32 0, .int .u32 0, .int .u32 0, .int .u32 0, .int .u32 0, .int .u32 0, .int .u32 0, .int .u32 0, .int .u32 0, .int .u32 0, .int .u32 0, .int .u32 0, .int .u32 0, .int .u32 0, .int .u32 0, .int .u32 0, .int .u32 0, .int .u32 0, .int .u32 0, .int .u32 0, .int .u32 0, .int .u32 0, .int .u32 0, .int .u32 0, .int .u32 0, .int .u32 0, .int .u32 0, .int .u32 0, .int .u32 0, .int .u32 0, .int .u32 0, .int .u32 0, .int .u32 0, .int .u32 0, .int .u32 0, .int .u32 0, .int .u32 0, .int .u32 0, .int .u32 0, .int .u32 0, .int .u32 0, .int .u32 0, .int .u32 0, .int .u32 0, .int .u32 0, .int .u32 0, .int .u32 0, .int .u32 0, .int .u32 0, .int .u32 0, .int .u32 0, .int .u32 0] 87) := ⟨_, rfl⟩
  have K := Lib.hid (show Blk w1 w.heap.size 87 #[.int .u32 0, .int .u32 0, .int .u32 0, .int .u32 0, .int .u32 0, .int .u32 0, .int .u32 0, .int .u32 0, .int .u32 0, .int .u32 0, .int .u32 0, .int .u32 0, .int .u32 0, .int .u32 0, .int .u32 0, .int .u32 0, .int .u32 0, .int .u32 0, .int .u32 0, .int .u32 0, .int .u32 0, .int .u32 0, .int .u32 0, .int .u32 0, .int .u32 0, .int .u32 0, .int .u32 0, .int .u32 0, .int .u32 0, .int .u32 0, .int .u32 0, .int .u32 0, .int .u32 0, .int .u32 0, .int .u32 0, .int .u32 0, .int .u32 0, .int .u32 0, .int .u32 0, .int .u32 0, .int .u32 0, .int .u32 0, .int .u32 0, .int .u32 0, .int .u32 0, .int .u32 0, .int .u32 0, .int .u32 0, .int .u32 0, .int .u32 0, .int .u32 0, .int .u32 0, .int .u32 0, .int .u32 0, .int .u32 0, .int .u32 0, .int .u32 0, .int .u32 0, .int .u32 0, .int .u32 0, .int .u32 0, .int .u32 0, .int .u32 0, .int .u32 0] by rw [hw1]; exact Blk.new _ _ _)
  have B := Lib.hid (show Below w.heap.size w w1 by rw [hw1]; exact below_alloc _ _)
  rw [← hw1]
  clear hw1
  obtain ⟨g, hg⟩ : ∃ g, g = w.heap.size := ⟨_, rfl⟩
  rw [← hg] at K ⊢
  have Hg := Lib.hid hg
  clear hg
  have hsz : (u32s Sha.keys).toArray.size = 64 := by simp [u32s_length, Sha.keys]
  have Ht := Lib.hid (show w1.there g 0 (u32s Sha.keys).toArray.size from K.out.there (by rw [hsz]; rfl))
  have Hi := Lib.hid (show (Tryz.prog.info? 87).map (·.size) = some (u32s Sha.keys).toArray.size by rw [hsz]; exact infoKeys)
  have Ho := Lib.hid (all_oneCell_toArray (u32s_one Sha.keys))
  clear hsz
  go_wp2_with ((refine wpList_store_mid rfl 87 _ _ (by rfl) g 0 (u32s Sha.keys).toArray (by rfl) (by rfl) Ht.out Hi.out Ho.out ?_))
  have K2 := Lib.hid (K.out.over (vs := u32s Sha.keys) rfl)
  have B2 := Lib.hid (below_grown B.out (grown_setCells g (u32s Sha.keys) 0 (grown_refl w1 (some g))) (fun k e => by injection e with e; have := Hg.out; omega))
  have hres := results_cell_row (P := Tryz.prog) Tryz.results66
  exact bodyPost_ret (hres _ _ g _ _ (0, 0) _ rfl K2.out Tryz.underlying87 rfl Hi.out) rfl ⟨rfl, B2.out⟩
end
end Go.Proofs.YteodhonipbdplaaGreatDoor
