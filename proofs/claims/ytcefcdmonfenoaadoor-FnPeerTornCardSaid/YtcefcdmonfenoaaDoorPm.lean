/- The reference's PeerMade: a multihash by 32 bytes. -/
import Derived.Test.YtcefcdmonfenoaaDoorSm
import Derived.Test.YtcefcdmonfenoaaDoorCon
import Derived.Test.YtcefcdmonfenoaaDoorMh
namespace Go.Proofs.YtcefcdmonfenoaaDoor
open Go.RowKit
set_option maxRecDepth 100000
/-- what PeerMade comes to -/
def made (l : List UInt8) (k : Nat) : List UInt8 :=
  if k % 4 = 0 then [18, 32] ++ Sha.sum l else if k % 4 = 1 then [18, 32] ++ l else
  if k % 4 = 2 then [0, UInt8.ofNat ((l.headD 0).toNat % 33)] ++ l.take ((l.headD 0).toNat % 33) else [178, 144, 64, 16] ++ l.take 16
theorem sum_len (l : List UInt8) : (Sha.sum l).length = 32 := out_len _
section
variable {w : World}
theorem Own.lits (w : World) (base : Nat) (hb : base ≤ w.heap.size) (cs : Array Value) (l : List UInt8) (h : cs.toList = bvs l) (hm : l.length ≤ 1000000) (g n : Nat) (hg : w.heap.size = g) (hn : n = l.length) :
    Own (w.alloc (.cells cs 5)) base (.slice (some ⟨g, 0, none⟩) n n) l := by
  subst hg hn
  have hs : cs.size = l.length := by rw [← Array.length_toList, h, bvs_length]
  refine ⟨by simp [bvs], .inr ⟨w.heap.size, l.length, cs, by simp, hb, heap_alloc_new w _, by omega, ?_, by omega, ?_⟩⟩
  · unfold maxLen; omega
  · rw [Nat.mul_one, h, List.take_of_length_le]; rw [bvs_length]; omega
theorem Bs.ofRow (w : World) (t : TypeId) (l : List UInt8) (hm : l.length ≤ 9223372036854775807) (g n c : Nat) (hg : w.heap.size = g) (hn : n = l.length) (hc : c = l.length) :
    Bs (w.alloc (.cells (bvs l).toArray t)) (w.alloc (.cells (bvs l).toArray t)).heap.size (.slice (some ⟨g, 0, none⟩) n c) l := by
  subst hg hn hc
  refine ⟨_, _, rfl, Nat.le_refl _, hm, fun hl => ⟨w.heap.size, 0, rfl, by simp, fun k hk => ?_⟩⟩
  rw [Nat.zero_add, cell_of_row (w.alloc (.cells (bvs l).toArray t)) w.heap.size k _ t (0, 0) (heap_alloc_new w _)]
  have := bvs_get l k hk
  simpa using this
theorem Bs.ofBlk {w : World} {g : Nat} {t : TypeId} {l : List UInt8} {n : Nat} (hl : l.length = n) (h : Blk w g t (bvs l).toArray) (hm : l.length ≤ 9223372036854775807 := by omega) : Bs w w.heap.size (.slice (some ⟨g, 0, none⟩) n n) l := by
  subst hl
  refine ⟨_, _, rfl, Nat.le_refl _, hm, fun hl => ⟨g, 0, rfl, h.lt, fun k hk => ?_⟩⟩
  rw [Nat.zero_add, h.cell k]
  have := bvs_get l k hk
  simpa using this
theorem slice32 (W : World) (g m : Nat) (hm : m ≤ 32) : (Instr.sliceAt 22 (.pointer (some ⟨g, 0, none⟩)) none (some (.int .i64 (m : Int))) none).run Tryd.prog W = .ok (.slice (some ⟨g, 0, none⟩) m 32) W := by
  have ha : Tryd.prog.arrayLen 22 = 32 := by kernel_rfl
  have he : Tryd.prog.elem 22 = 5 := by kernel_rfl
  have hu : Tryd.prog.underlying 22 = some (.array (Tryd.prog.arrayLen 22) (Tryd.prog.elem 22)) := by rw [ha, he]; exact Tryd.underlying22
  obtain ⟨i0, hi, hz0, hz1, hz2⟩ := info_parts Tryd.info5
  rw [run_sliceAt_array_h W 22 ⟨g, 0, none⟩ hu .i64 (m : Int) (by omega) (by rw [ha]; omega), ha, he]
  simp [sizeOf, typeInfo, hi, hz1, slicedAt, Addr.add]
theorem sum_row (l : List UInt8) : (bvs (Sha.sum l)).toArray.size = 32 := by simp [bvs, sum_len]
theorem sum_one (l : List UInt8) : (bvs l).toArray.all (·.oneCell') = true := all_oneCell_toArray (fun u hu => by unfold bvs at hu; obtain ⟨_, _, rfl⟩ := List.mem_map.1 hu; rfl)
set_option maxHeartbeats 1000000 in
theorem peerMade0 (l : List UInt8) (hl : l.length = 32) (k : Nat) (hk : k ≤ 255) (h0 : k % 4 = 0) :
    Calls Tryd.prog 20 #[.agg (bvs l).toArray, .int .u8 (k : Int)] w fun e w' => Fresh w (made l k) e w' := by
  have HM := Lib.hid (show made l k = [18, 32] ++ Sha.sum l by unfold made; rw [if_pos h0])
  have H1 := Lib.hid (Bs.ofRow w 22 l (by omega) w.heap.size 32 32 rfl hl.symm hl.symm)
  have Hl6 := Lib.hid (show l.length ≤ 1000000 by omega)
  have q0 : ((k : Int) % 4 == 0) = true := by have : (k : Int) % 4 = 0 := by omega
                                              simpa using this
  clear hl h0
  go_enter Tryd.func20, Tryd.ntmps20
  go_wp2_with fail
  refine (shaSum H1.out Hl6.out).mono ?_
  rintro e wb ⟨rfl, hb⟩
  have hsz := hb.size
  have Bb := Lib.hid (hb.mono (show w.heap.size ≤ (w.alloc (.cells (bvs l).toArray 22)).heap.size by simp))
  have B0 := Lib.hid ((below_alloc w (.cells (bvs l).toArray 22)).trans Bb.out)
  have hsw := B0.out.size
  clear hb Bb hsz
  obtain ⟨S, hS⟩ : ∃ S, S = (bvs (Sha.sum l)).toArray := ⟨_, rfl⟩
  have HS := Lib.hid hS
  have hSs : S.size = 32 := by rw [hS]; exact sum_row l
  have HSs := Lib.hid hSs
  have Ho := Lib.hid (show S.all (·.oneCell') = true by rw [hS]; exact sum_one _)
  have Hi32 := Lib.hid (show (Tryd.prog.info? 22).map (·.size) = some S.size by rw [hSs]; exact info32)
  rw [← hS]
  clear hS hSs
  dsimp only
  rename_i hK
  refine hK _ _ ?_
  clear hK
  have K0 := Lib.hid (Blk.new wb 22 (#[.int .u8 0, .int .u8 0, .int .u8 0, .int .u8 0, .int .u8 0, .int .u8 0, .int .u8 0, .int .u8 0, .int .u8 0, .int .u8 0, .int .u8 0, .int .u8 0, .int .u8 0, .int .u8 0, .int .u8 0, .int .u8 0, .int .u8 0, .int .u8 0, .int .u8 0, .int .u8 0, .int .u8 0, .int .u8 0, .int .u8 0, .int .u8 0, .int .u8 0, .int .u8 0, .int .u8 0, .int .u8 0, .int .u8 0, .int .u8 0, .int .u8 0, .int .u8 0] : Array Value))
  have Ht := Lib.hid (show (wb.alloc (.cells (#[.int .u8 0, .int .u8 0, .int .u8 0, .int .u8 0, .int .u8 0, .int .u8 0, .int .u8 0, .int .u8 0, .int .u8 0, .int .u8 0, .int .u8 0, .int .u8 0, .int .u8 0, .int .u8 0, .int .u8 0, .int .u8 0, .int .u8 0, .int .u8 0, .int .u8 0, .int .u8 0, .int .u8 0, .int .u8 0, .int .u8 0, .int .u8 0, .int .u8 0, .int .u8 0, .int .u8 0, .int .u8 0, .int .u8 0, .int .u8 0, .int .u8 0, .int .u8 0] : Array Value) 22)).there wb.heap.size 0 S.size from K0.out.there (by rw [HSs.out]; rfl))
  have K1 := Lib.hid (show Blk ((wb.alloc (.cells (#[.int .u8 0, .int .u8 0, .int .u8 0, .int .u8 0, .int .u8 0, .int .u8 0, .int .u8 0, .int .u8 0, .int .u8 0, .int .u8 0, .int .u8 0, .int .u8 0, .int .u8 0, .int .u8 0, .int .u8 0, .int .u8 0, .int .u8 0, .int .u8 0, .int .u8 0, .int .u8 0, .int .u8 0, .int .u8 0, .int .u8 0, .int .u8 0, .int .u8 0, .int .u8 0, .int .u8 0, .int .u8 0, .int .u8 0, .int .u8 0, .int .u8 0, .int .u8 0] : Array Value) 22)).setCells wb.heap.size 0 S.toList) wb.heap.size 22 S from K0.out.over (vs := S.toList) (by rw [Array.length_toList, HSs.out]; rfl))
  have B1 := Lib.hid (show Below w.heap.size w ((wb.alloc (.cells (#[.int .u8 0, .int .u8 0, .int .u8 0, .int .u8 0, .int .u8 0, .int .u8 0, .int .u8 0, .int .u8 0, .int .u8 0, .int .u8 0, .int .u8 0, .int .u8 0, .int .u8 0, .int .u8 0, .int .u8 0, .int .u8 0, .int .u8 0, .int .u8 0, .int .u8 0, .int .u8 0, .int .u8 0, .int .u8 0, .int .u8 0, .int .u8 0, .int .u8 0, .int .u8 0, .int .u8 0, .int .u8 0, .int .u8 0, .int .u8 0, .int .u8 0, .int .u8 0] : Array Value) 22)).setCells wb.heap.size 0 S.toList) from below_grown (B0.out.alloc hsw _) (grown_setCells wb.heap.size S.toList 0 (grown_refl _ (some wb.heap.size))) (fun k e => by injection e with e; omega))
  have Hlt := Lib.hid (show wb.heap.size < ((wb.alloc (.cells (#[.int .u8 0, .int .u8 0, .int .u8 0, .int .u8 0, .int .u8 0, .int .u8 0, .int .u8 0, .int .u8 0, .int .u8 0, .int .u8 0, .int .u8 0, .int .u8 0, .int .u8 0, .int .u8 0, .int .u8 0, .int .u8 0, .int .u8 0, .int .u8 0, .int .u8 0, .int .u8 0, .int .u8 0, .int .u8 0, .int .u8 0, .int .u8 0, .int .u8 0, .int .u8 0, .int .u8 0, .int .u8 0, .int .u8 0, .int .u8 0, .int .u8 0, .int .u8 0] : Array Value) 22)).setCells wb.heap.size 0 S.toList).heap.size by have := K1.out.lt; exact this)
  clear K0
  generalize hgq : (wb.alloc (.cells (#[.int .u8 0, .int .u8 0, .int .u8 0, .int .u8 0, .int .u8 0, .int .u8 0, .int .u8 0, .int .u8 0, .int .u8 0, .int .u8 0, .int .u8 0, .int .u8 0, .int .u8 0, .int .u8 0, .int .u8 0, .int .u8 0, .int .u8 0, .int .u8 0, .int .u8 0, .int .u8 0, .int .u8 0, .int .u8 0, .int .u8 0, .int .u8 0, .int .u8 0, .int .u8 0, .int .u8 0, .int .u8 0, .int .u8 0, .int .u8 0, .int .u8 0, .int .u8 0] : Array Value) 22)).setCells wb.heap.size 0 S.toList = wd at K1 B1 Hlt
  have Hgq := Lib.hid hgq
  clear hgq
  have HB := Lib.hid (show Bs wd wd.heap.size (.slice (some ⟨wb.heap.size, 0, none⟩) 32 32) (Sha.sum l) from Bs.ofBlk (sum_len l) (by rw [← HS.out]; exact K1.out) (by rw [sum_len]; omega))
  have HO := Lib.hid (Own.lits wd w.heap.size B1.out.size #[.int .u8 18, .int .u8 32] [18, 32] (by simp [bvs, bv]) (by simp) wd.heap.size 2 rfl rfl)
  have hlen := Lib.hid (show ([18, 32] : List UInt8).length + (Sha.sum l).length ≤ 140737488355328 by rw [sum_len]; simp)
  have hsd := B1.out.size
  clear K1 HS
  go_wp2_with (first | ((refine wpList_store_mid rfl 22 _ _ (by rfl) wb.heap.size 0 S (by rfl) (by rfl) Ht.out Hi32.out Ho.out ?_; rw [Hgq.out]; clear Ht Hi32 Ho Hgq)) | (at_builtin; refine wpList_app rfl _ _ rfl (by rfl) (by rfl) HO.out (HB.out.alloc (Nat.le_refl _) _) hlen.out (by simp; omega) ?_; intro v' w3 ho hg hnn hmv; have HO2 := Lib.hid ho; have HB2 := Lib.hid ((B1.out.alloc hsd _).trans (below_of_own HO.out hg (by simp; omega))); clear ho hg hnn hmv))
  go_ret
  exact ⟨_, rfl, by rw [HM.out]; exact HO2.out, HB2.out⟩
set_option maxHeartbeats 1000000 in
theorem peerMade1 (l : List UInt8) (hl : l.length = 32) (k : Nat) (hk : k ≤ 255) (h0 : k % 4 = 1) :
    Calls Tryd.prog 20 #[.agg (bvs l).toArray, .int .u8 (k : Int)] w fun e w' => Fresh w (made l k) e w' := by
  have HM := Lib.hid (show made l k = [18, 32] ++ l by unfold made; rw [if_neg (by omega), if_pos h0])
  have HB := Lib.hid (Bs.ofRow w 22 l (by omega) w.heap.size 32 32 rfl hl.symm hl.symm)
  have hlen := Lib.hid (show ([18, 32] : List UInt8).length + l.length ≤ 140737488355328 by rw [hl]; simp)
  have q0 : ((k : Int) % 4 == 0) = false := by have : ¬ (k : Int) % 4 = 0 := by omega
                                               simpa using this
  have q1 : ((k : Int) % 4 == 1) = true := by have : (k : Int) % 4 = 1 := by omega
                                              simpa using this
  clear hl h0
  have B1 := Lib.hid (below_alloc w (.cells (bvs l).toArray 22))
  generalize hwd : w.alloc (.cells (bvs l).toArray 22) = wd at HB B1
  have Hwd := Lib.hid hwd
  clear hwd
  have HO := Lib.hid (Own.lits wd w.heap.size B1.out.size #[.int .u8 18, .int .u8 32] [18, 32] (by simp [bvs, bv]) (by simp) wd.heap.size 2 rfl rfl)
  have hsd := B1.out.size
  go_enter Tryd.func20, Tryd.ntmps20
  go_upto_region 1 with fail
  rw [Hwd.out]
  clear Hwd
  go_wp2_with ((at_builtin; refine wpList_app rfl _ _ rfl (by rfl) (by rfl) HO.out (HB.out.alloc (Nat.le_refl _) _) hlen.out (by simp; omega) ?_; intro v' w3 ho hg hnn hmv; have HO2 := Lib.hid ho; have HB2 := Lib.hid ((B1.out.alloc hsd _).trans (below_of_own HO.out hg (by simp; omega))); clear ho hg hnn hmv))
  go_ret
  exact ⟨_, rfl, by rw [HM.out]; exact HO2.out, HB2.out⟩
set_option maxHeartbeats 1000000 in
theorem peerMade2 (l : List UInt8) (hl : l.length = 32) (k : Nat) (hk : k ≤ 255) (h0 : k % 4 = 2) :
    Calls Tryd.prog 20 #[.agg (bvs l).toArray, .int .u8 (k : Int)] w fun e w' => Fresh w (made l k) e w' := by
  obtain ⟨x, hx⟩ : ∃ x, x = (l.headD 0).toNat := ⟨_, rfl⟩
  have hx255 : x ≤ 255 := by have := UInt8.toNat_lt (l.headD 0); omega
  have HM := Lib.hid (show made l k = [0, UInt8.ofNat (x % 33)] ++ l.take (x % 33) by unfold made; rw [if_neg (by omega), if_neg (by omega), if_pos h0, hx])
  obtain ⟨m, hm⟩ : ∃ m, m = x % 33 := ⟨_, rfl⟩
  rw [← hm] at HM
  have hm32 : m ≤ 32 := by omega
  have HB0 := Bs.ofRow w 22 l (by omega) w.heap.size 32 32 rfl hl.symm hl.symm
  have HC := Lib.hid (show (w.alloc (.cells (bvs l).toArray 22)).cell? ⟨w.heap.size, 0, none⟩ = some (.int .u8 (x : Int)) by
    rw [(Blk.new w 22 _).cell 0, List.getElem?_toArray, bvs_get l 0 (by omega), hx]
    cases l with
    | nil => simp at hl
    | cons a l => rfl)
  have HB := Lib.hid (HB0.front (k := m) (by omega))
  have hlen := Lib.hid (show ([0, UInt8.ofNat m] : List UInt8).length + (l.take m).length ≤ 140737488355328 by rw [List.length_take, hl]; simp; omega)
  have q0 : ((k : Int) % 4 == 0) = false := by have : ¬ (k : Int) % 4 = 0 := by omega
                                               simpa using this
  have q1 : ((k : Int) % 4 == 1) = false := by have : ¬ (k : Int) % 4 = 1 := by omega
                                               simpa using this
  have q2 : ((k : Int) % 4 == 2) = true := by have : (k : Int) % 4 = 2 := by omega
                                              simpa using this
  clear hl h0 hx HB0
  have B1 := Lib.hid (below_alloc w (.cells (bvs l).toArray 22))
  generalize hwd : w.alloc (.cells (bvs l).toArray 22) = wd at HB B1 HC
  have Hwd := Lib.hid hwd
  clear hwd
  have hC := HC.out
  clear HC
  have Hqm := Lib.hid (show (x : Int) % 33 = ((m : Nat) : Int) by omega)
  have qc : IntKind.u8.wrap ((m : Nat) : Int) = ((m : Nat) : Int) := by rw [IntKind.wrap_u8]; omega
  clear hm
  have HO := Lib.hid (Own.lits wd w.heap.size B1.out.size #[.int .u8 0, .int .u8 ((m : Nat) : Int)] [0, UInt8.ofNat m] (by simp [bvs, bv]; omega) (by simp) wd.heap.size 2 rfl rfl)
  have hsd := B1.out.size
  go_enter Tryd.func20, Tryd.ntmps20
  go_upto_region 1 with fail
  rw [Hwd.out]
  clear Hwd
  go_upto_region 9 with fail
  rw [Hqm.out]
  have hsl := fun W : World => slice32 W w.heap.size m hm32
  go_wp2_with ((at_builtin; refine wpList_app rfl _ _ rfl (by rfl) (by rfl) HO.out (HB.out.alloc (Nat.le_refl _) _) hlen.out (by simp; omega) ?_; intro v' w3 ho hg hnn hmv; have HO2 := Lib.hid ho; have HB2 := Lib.hid ((B1.out.alloc hsd _).trans (below_of_own HO.out hg (by simp; omega))); clear ho hg hnn hmv))
  go_ret
  exact ⟨_, rfl, by rw [HM.out]; exact HO2.out, HB2.out⟩
set_option maxHeartbeats 1000000 in
theorem peerMade3 (l : List UInt8) (hl : l.length = 32) (k : Nat) (hk : k ≤ 255) (h0 : k % 4 = 3) :
    Calls Tryd.prog 20 #[.agg (bvs l).toArray, .int .u8 (k : Int)] w fun e w' => Fresh w (made l k) e w' := by
  have HM := Lib.hid (show made l k = [[178, 144, 64, 16], l.take 16].flatten by unfold made; rw [if_neg (by omega), if_neg (by omega), if_neg (by omega)]; simp)
  have hlen := Lib.hid (show ([[178, 144, 64, 16], l.take 16] : List (List UInt8)).flatten.length ≤ 140737488355328 by simp; omega)
  have HB := (Bs.ofRow w 22 l (by omega) w.heap.size 32 32 rfl hl.symm hl.symm).front (k := 16) (by omega)
  have q0 : ((k : Int) % 4 == 0) = false := by have : ¬ (k : Int) % 4 = 0 := by omega
                                               simpa using this
  have q1 : ((k : Int) % 4 == 1) = false := by have : ¬ (k : Int) % 4 = 1 := by omega
                                               simpa using this
  have q2 : ((k : Int) % 4 == 2) = false := by have : ¬ (k : Int) % 4 = 2 := by omega
                                               simpa using this
  clear hl h0
  have B1 := Lib.hid (below_alloc w (.cells (bvs l).toArray 22))
  generalize hwd : w.alloc (.cells (bvs l).toArray 22) = wd at HB B1
  have Hwd := Lib.hid hwd
  clear hwd
  have h1 := Bs.newAt wd #[.int .u8 178, .int .u8 144, .int .u8 64, .int .u8 16] [178, 144, 64, 16] (by simp [bvs, bv]) (by simp) wd.heap.size 4 4 rfl rfl rfl
  have B2 := Lib.hid (B1.out.alloc B1.out.size (.cells #[.int .u8 178, .int .u8 144, .int .u8 64, .int .u8 16] 5))
  have h2 := HB.alloc (Nat.le_refl _) (.cells #[.int .u8 178, .int .u8 144, .int .u8 64, .int .u8 16] 5)
  generalize hwe : wd.alloc (.cells #[.int .u8 178, .int .u8 144, .int .u8 64, .int .u8 16] 5) = we at h1 h2 B2
  have hwz : wd.heap.size ≤ we.heap.size := by rw [← hwe]; simp
  have h3 := h2.more hwz
  have hew : we.heap.size = wd.heap.size + 1 := by rw [← hwe]; simp
  have Hwe := Lib.hid hwe
  clear hwe h2
  have HL := Lib.hid (Bss.newAt we 23 #[.slice (some ⟨wd.heap.size, 0, none⟩) 4 4, .slice (some ⟨w.heap.size, 0, none⟩) 16 32] [[178, 144, 64, 16], l.take 16] (by
    intro k hk
    match k, hk with
    | 0, _ => exact ⟨_, rfl, h1⟩
    | 1, _ => exact ⟨_, rfl, h3⟩) (by simp) we.heap.size 2 2 rfl rfl rfl)
  clear h1 h3 HB hwz
  rw [hew] at HL
  clear hew
  have B3 := Lib.hid (B2.out.alloc B2.out.size (.cells #[.slice (some ⟨wd.heap.size, 0, none⟩) 4 4, .slice (some ⟨w.heap.size, 0, none⟩) 16 32] 23))
  clear B1 B2
  go_enter Tryd.func20, Tryd.ntmps20
  go_upto_region 1 with fail
  rw [Hwd.out]
  clear Hwd
  go_wp2_with fail
  rw [Hwe.out]
  refine (concat HL.out hlen.out).mono ?_
  rintro e w3 ⟨v', rfl, ho, hb⟩
  have HO := Lib.hid (ho.more (base' := w.heap.size) B3.out.size)
  have HB2 := Lib.hid (B3.out.trans (hb.mono B3.out.size))
  clear ho hb HL B3 Hwe
  go_wp2_with fail
  go_ret
  exact ⟨_, rfl, by rw [HM.out]; exact HO.out, HB2.out⟩
theorem peerMade (w : World) (l : List UInt8) (hl : l.length = 32) (k : Nat) (hk : k ≤ 255) :
    Calls Tryd.prog 20 #[.agg (bvs l).toArray, .int .u8 (k : Int)] w fun e w' => Fresh w (made l k) e w' := by
  rcases (show k % 4 = 0 ∨ k % 4 = 1 ∨ k % 4 = 2 ∨ k % 4 = 3 by omega) with h | h | h | h
  · exact peerMade0 l hl k hk h
  · exact peerMade1 l hl k hk h
  · exact peerMade2 l hl k hk h
  · exact peerMade3 l hl k hk h
end
end Go.Proofs.YtcefcdmonfenoaaDoor
