/- The library's Digest.Sum and Size. -/
import Derived.Test.YtkmjjoffamdnfaaGreatDoorMi01
import Derived.Test.YtkmjjoffamdnfaaGreatDoorMi02
import Derived.Test.YtkmjjoffamdnfaaGreatDoorMi10
import Derived.Test.YtkmjjoffamdnfaaGreatDoorMi11
import Derived.Laws.Externs
import Derived.Lib.Strings
import Derived.Lib.Slices
import Derived.Lib.Small
import Derived.Lib.BitFns
import Derived.Laws.CopyOwn
import Derived.Deep.RegionLaw
namespace Go.Proofs.YtkmjjoffamdnfaaGreatDoor
open Go.RowKit
set_option maxRecDepth 100000
theorem getInd (W : World) : (callFunc 132 #[]).run Tryz.prog W = .ok (.value (.int .u8 0)) W := by
  rw [run_callFunc_extern Tryz.func132 (by kernel_rfl) (by kernel_rfl) (by kernel_rfl) (e := fun _ => pure (.int .u8 0)) (by kernel_rfl) #[] W]
  rfl
theorem setInd (W : World) : (callFunc 133 #[.int .u8 2]).run Tryz.prog W = .ok (.value (.tuple #[])) W := by
  rw [run_callFunc_extern Tryz.func133 (by kernel_rfl) (by kernel_rfl) (by kernel_rfl) (e := Extern.CryptoHooks.nothing) (by kernel_rfl) #[.int .u8 2] W]
  rfl
theorem recordApproved (w : World) :
    Calls Tryz.prog 129 #[] w fun e w' => e = .returned (.tuple #[]) ∧ w = w' := by
  have h1 := getInd
  have h2 := setInd
  go_enter Tryz.func129, Tryz.ntmps129
  go_wp2_with fail
  go_end0
  exact ⟨rfl, rfl⟩
theorem zeroDig : Tryz.zeroCells160 = (u32s (List.replicate 8 0) ++ digT (List.replicate 64 0) 0 0).toArray := by kernel_rfl
theorem dig_one (V : Sha.V) (X : List UInt8) (nx len : Nat) : (u32s V.list ++ digT X nx len).toArray.all (·.oneCell') = true := all_oneCell_toArray (fun u hu => by
  unfold digT u32s bvs at hu
  simp only [List.mem_append, List.mem_map, List.mem_cons, List.not_mem_nil, or_false] at hu
  rcases hu with ⟨_, _, rfl⟩ | ⟨_, _, rfl⟩ | rfl | rfl | rfl <;> rfl)
section
variable {w : World} {g : Nat} {V : Sha.V} {X : List UInt8} {nx len : Nat} {l p : List UInt8} {K : List Nat} {gp op n c : Nat}
theorem dig_size (h : X.length = 64) : (u32s V.list ++ digT X nx len).toArray.size = 75 := by simp [u32s_length, Sha.V.list, digT, bvs_length, h]
theorem digSize (h : Dig w g V X nx len) :
    Calls Tryz.prog 126 #[.pointer (some ⟨g, 0, none⟩)] w fun e w' => e = .returned (.int .i64 32) ∧ w = w' := by
  obtain ⟨c72, c73, c74⟩ := h.num
  clear h
  go_enter Tryz.func126, Tryz.ntmps126
  go_wp2_with fail
  go_ret
  exact ⟨rfl, rfl⟩
set_option maxHeartbeats 2000000 in
theorem digSum (hV : V.ok) (hK : K.length = 64) (hKs : Sha.Small K) (hk : Blk w 19 100 (u32s K).toArray)
    (hd : Dig w g V X nx len) (hF : Sha.Fed K V X nx len l) (hlen : len ≤ 90000) :
    Calls Tryz.prog 127 #[.pointer (some ⟨g, 0, none⟩), .slice none 0 0] w fun e w' => Fresh w (Sha.sumK K l) e w' := by
  have HV := Lib.hid hV
  have HF := Lib.hid hF
  have HKc := Lib.hid (And.intro hK hKs)
  have HD0 := Lib.hid hd
  have HK0 := Lib.hid hk
  have hklt := hk.lt
  clear hV hF hK hKs hd hk
  go_enter Tryz.func127, Tryz.ntmps127
  go_wp2_with fail
  refine (recordApproved w).mono ?_
  rintro e w1 ⟨rfl, rfl⟩
  obtain ⟨Z, hZ⟩ : ∃ Z, Z = (u32s V.list ++ digT X nx len).toArray := ⟨_, rfl⟩
  have hZs : Z.size = 75 := by rw [hZ]; exact dig_size HD0.out.1
  have Hi75 := Lib.hid (show (Tryz.prog.info? 160).map (·.size) = some Z.size by rw [hZs]; kernel_rfl)
  have KZ := Lib.hid (show Blk w g 160 Z by rw [hZ]; exact HD0.out.2)
  have Ho := Lib.hid (show Z.all (·.oneCell') = true by rw [hZ]; exact dig_one _ _ _ _)
  have K0 := Lib.hid (Blk.new w 160 Tryz.zeroCells160)
  have hz75 : Tryz.zeroCells160.size = 75 := by rw [zeroDig]; simp [u32s_length, digT, bvs_length]
  have Ht := Lib.hid (show (w.alloc (.cells Tryz.zeroCells160 160)).there w.heap.size 0 Z.size from K0.out.there (by rw [hZs, hz75]))
  have K1 := Lib.hid (show Blk ((w.alloc (.cells Tryz.zeroCells160 160)).setCells w.heap.size 0 Z.toList) w.heap.size 160 Z from K0.out.over (vs := Z.toList) (by rw [Array.length_toList, hZs, hz75]))
  have B1 := Lib.hid (show Below w.heap.size w ((w.alloc (.cells Tryz.zeroCells160 160)).setCells w.heap.size 0 Z.toList) from below_grown (below_alloc w _) (grown_setCells w.heap.size Z.toList 0 (grown_refl _ (some w.heap.size))) (fun k e => by injection e with e; omega))
  have HZ := Lib.hid hZ
  clear hZ hZs K0 hz75
  dsimp only
  rename_i hK
  refine hK _ _ ?_
  clear hK
  generalize hw1 : (w.alloc (.cells Tryz.zeroCells160 160)).setCells w.heap.size 0 Z.toList = w1 at K1 B1
  have Hw1 := Lib.hid hw1
  clear hw1
  go_upto_region 3 with ((first | (refine wpList_load_row rfl 160 _ (by rfl) g (by rfl) 160 Z (0, 0) _ KZ.out Tryz.underlying160 rfl Hi75.out ?_) | (refine wpList_store_mid rfl 160 _ _ (by rfl) w.heap.size 0 Z (by rfl) (by rfl) Ht.out Hi75.out Ho.out ?_)))
  rw [Hw1.out]
  have HD1 := Lib.hid (show Dig w1 w.heap.size V X nx len from ⟨HD0.out.1, by rw [← HZ.out]; exact K1.out⟩)
  have HK1 := Lib.hid (HK0.out.below B1.out hklt)
  have hne : w.heap.size ≠ 19 := by omega
  clear Hw1 Ht Ho KZ K1 Hi75 HD0 HK0 HZ
  go_wp2_with fail
  refine (ckSum HV.out HKc.out.1 HKc.out.2 hne HK1.out HD1.out HF.out hlen).mono ?_
  rintro e w2 ⟨rfl, ⟨V2, X2, n2, hd2⟩, hg2⟩
  have B2 := Lib.hid (below_grown B1.out hg2 (fun k e => by injection e with e; omega))
  have hsz2 := B2.out.size
  have hlt2 : w.heap.size < w2.heap.size := Nat.lt_of_lt_of_le HD1.out.2.lt hg2.size
  have Hg2 := Lib.hid hg2
  clear hg2
  have HD2 := Lib.hid hd2
  obtain ⟨g0, hg0⟩ : ∃ g0, g0 = w.heap.size := ⟨_, rfl⟩
  rw [← hg0] at HD2
  have Hg0 := Lib.hid hg0
  have hg0lt : g0 < w2.heap.size := by omega
  have hRl := Sha.sumK_length K l
  obtain ⟨R, hR⟩ : ∃ R, R = Sha.sumK K l := ⟨_, rfl⟩
  rw [← hR] at hRl ⊢
  have HR := Lib.hid hR
  obtain ⟨S, hS⟩ : ∃ S, S = (bvs R).toArray := ⟨_, rfl⟩
  have HS := Lib.hid hS
  have hSs : S.size = 32 := by rw [hS]; simp [bvs, hRl]
  have HSs := Lib.hid hSs
  have Ho := Lib.hid (show S.all (·.oneCell') = true by rw [hS]; exact all_oneCell_toArray (fun u hu => by unfold bvs at hu; obtain ⟨_, _, rfl⟩ := List.mem_map.1 hu; rfl))
  have Hi32 := Lib.hid (show (Tryz.prog.info? 34).map (·.size) = some S.size by rw [hSs]; kernel_rfl)
  rw [← hS, ← hg0]
  clear hd2 Hg2 hR hS hSs hg0 hlt2 hklt HD1 HK1 hne B1 HV HF HKc
  dsimp only
  rename_i hK
  refine hK _ _ ?_
  clear hK
  obtain ⟨w3, hw3⟩ : ∃ w3, w3 = w2.alloc (.cells (#[.int .u8 0, .int .u8 0, .int .u8 0, .int .u8 0, .int .u8 0, .int .u8 0, .int .u8 0, .int .u8 0, .int .u8 0, .int .u8 0, .int .u8 0, .int .u8 0, .int .u8 0, .int .u8 0, .int .u8 0, .int .u8 0, .int .u8 0, .int .u8 0, .int .u8 0, .int .u8 0, .int .u8 0, .int .u8 0, .int .u8 0, .int .u8 0, .int .u8 0, .int .u8 0, .int .u8 0, .int .u8 0, .int .u8 0, .int .u8 0, .int .u8 0, .int .u8 0] : Array Value) 34) := ⟨_, rfl⟩
  obtain ⟨gh, hgh⟩ : ∃ gh, gh = w2.heap.size := ⟨_, rfl⟩
  have K3 := Lib.hid (show Blk w3 gh 34 (#[.int .u8 0, .int .u8 0, .int .u8 0, .int .u8 0, .int .u8 0, .int .u8 0, .int .u8 0, .int .u8 0, .int .u8 0, .int .u8 0, .int .u8 0, .int .u8 0, .int .u8 0, .int .u8 0, .int .u8 0, .int .u8 0, .int .u8 0, .int .u8 0, .int .u8 0, .int .u8 0, .int .u8 0, .int .u8 0, .int .u8 0, .int .u8 0, .int .u8 0, .int .u8 0, .int .u8 0, .int .u8 0, .int .u8 0, .int .u8 0, .int .u8 0, .int .u8 0] : Array Value) by rw [hw3, hgh]; exact Blk.new _ _ _)
  have B3 := Lib.hid (show Below w.heap.size w w3 by rw [hw3]; exact B2.out.alloc hsz2 _)
  have HD3 := Lib.hid (show Dig w3 g0 V2 X2 0 n2 by rw [hw3]; exact ⟨HD2.out.1, HD2.out.2.alloc _⟩)
  have Ht := Lib.hid (show w3.there gh 0 S.size from K3.out.there (by rw [HSs.out]; rfl))
  have K4 := Lib.hid (show Blk (w3.setCells gh 0 S.toList) gh 34 S from K3.out.over (vs := S.toList) (by rw [Array.length_toList, HSs.out]; rfl))
  have hg4 := grown_setCells gh S.toList 0 (grown_refl w3 (some gh))
  have HD4 := Lib.hid (show Dig (w3.setCells gh 0 S.toList) g0 V2 X2 0 n2 from ⟨HD3.out.1, HD3.out.2.grown hg4 (by intro e; injection e with e; omega)⟩)
  have B4 := Lib.hid (show Below w.heap.size w (w3.setCells gh 0 S.toList) from below_grown B3.out hg4 (fun k e => by injection e with e; omega))
  have Hw3 := Lib.hid hw3
  have Hgh := Lib.hid hgh
  clear hg4 hw3 hgh HD2 HD3 B2 B3 K3
  go_upto_region 4 with ((refine wpList_store_mid rfl 34 _ _ (by rfl) w2.heap.size 0 S (by rfl) (by rfl) (by rw [← Hgh.out, ← Hw3.out]; exact Ht.out) Hi32.out Ho.out ?_))
  rw [← Hgh.out, ← Hw3.out]
  clear Ht Ho Hi32 Hgh Hw3
  generalize w3.setCells gh 0 S.toList = w4 at K4 HD4 B4 ⊢
  obtain ⟨c72, c73, c74⟩ := HD4.out.num
  have hsz4 := B4.out.size
  have HB := Lib.hid (show Bs w4 w4.heap.size (.slice (some ⟨gh, 0, none⟩) 32 32) R from Bs.ofRowBlk hRl (by rw [← HS.out]; exact K4.out) (by rw [hRl]; omega))
  have hlen2 := Lib.hid (show ([] : List UInt8).length + R.length ≤ 140737488355328 by rw [hRl]; simp)
  have HO := Lib.hid (Own.nil w4 w.heap.size)
  clear K4 HS
  go_wp2_with (at_builtin; refine wpList_app rfl _ _ rfl (by rfl) (by rfl) HO.out HB.out hlen2.out hsz4 ?_; intro v' w5 ho hg hnn hmv; have HO2 := Lib.hid ho; have HB2 := Lib.hid (B4.out.trans (below_of_own HO.out hg hsz4)); clear ho hg hnn hmv)
  go_ret
  exact ⟨_, rfl, by rw [← HR.out]; exact HO2.out, HB2.out⟩
end
end Go.Proofs.YtkmjjoffamdnfaaGreatDoor

/- Numbers of seven bits as varints: their size and their byte. -/
namespace Go.Proofs.YtkmjjoffamdnfaaGreatDoor
open Go.RowKit
set_option maxRecDepth 100000
set_option maxHeartbeats 1000000 in
theorem len64s {x : Int} (w : World) (h0 : 0 ≤ x) (h1 : x ≤ 127) :
    Calls Tryz.prog 80 #[.int .u64 x] w fun e w' => (∃ b : Nat, e = .returned (.int .i64 (b : Int)) ∧ b ≤ 7) ∧ w = w' := by
  have t1 : ¬ (4294967296 : Int) ≤ x := by omega
  have t2 : ¬ (65536 : Int) ≤ x := by omega
  have t3 : ¬ (256 : Int) ≤ x := by omega
  have hl := Lib.len8_of x h0 (by omega)
  have hb := Lib.bitLen_le x.toNat 7 (by omega) (by omega)
  obtain ⟨b, hbe⟩ : ∃ b, b = Lib.bitLen x.toNat := ⟨_, rfl⟩
  rw [← hbe] at hl hb
  have hix : ∀ (W : World) (t : TypeId), Tryz.prog.underlying t = some .string → (Instr.index t (.string Lib.len8tab) (.int .u8 x)).run Tryz.prog W = .ok (.int .u8 (b : Int)) W := fun W t ht => by
    rw [Lib.run_index_len8tab W t .u8 x ht h0 (by omega), hl]
  have hix' := fun W : World => hix W 9 Tryz.underlying9
  clear hl hbe hix
  go_enter Tryz.func80, Tryz.ntmps80
  go_wp2
  go_ret
  rcases (by omega : b = 0 ∨ b = 1 ∨ b = 2 ∨ b = 3 ∨ b = 4 ∨ b = 5 ∨ b = 6 ∨ b = 7) with rfl | rfl | rfl | rfl | rfl | rfl | rfl | rfl <;> exact ⟨⟨_, rfl, by omega⟩, rfl⟩
theorem uvSize1 {x : Int} (w : World) (h0 : 0 ≤ x) (h1 : x ≤ 127) :
    Calls Tryz.prog 72 #[.int .u64 x] w fun e w' => e = .returned (.int .i64 1) ∧ w = w' := by
  go_enter Tryz.func72, Tryz.ntmps72
  go_wp2_with fail
  refine (len64s w h0 h1).mono ?_
  rintro e w2 ⟨⟨b, rfl, hb⟩, rfl⟩
  rcases (by omega : b = 0 ∨ b = 1 ∨ b = 2 ∨ b = 3 ∨ b = 4 ∨ b = 5 ∨ b = 6 ∨ b = 7) with rfl | rfl | rfl | rfl | rfl | rfl | rfl | rfl
  all_goals
    go_wp2_with fail
    go_ret
    exact ⟨rfl, rfl⟩
theorem putUv1 {w : World} {g o n c x : Nat} {t : TypeId} {L : List UInt8} (h : Blk w g t (bvs L).toArray) (hn : 1 ≤ n) (ho : o < L.length) (hx : x ≤ 127) :
    Calls Tryz.prog 81 #[.slice (some ⟨g, o, none⟩) n c, .int .u64 (x : Int)] w fun e w' => e = .returned (.int .i64 1) ∧ Blk w' g t (bvs (L.set o (UInt8.ofNat x))).toArray ∧ w.grownBy w' (some g) := by
  have H := Lib.hid h
  obtain ⟨d0, c0⟩ : ∃ v, w.cell? ⟨g, o, none⟩ = some v := ⟨_, byteLies h (k := o) ho⟩
  have f0 := h.free o
  have t1 : ¬ (128 : Int) ≤ (x : Int) := by omega
  have n0 : (0 : Int) < (n : Int) := by omega
  have x256 : (x : Int) % 256 = (x : Int) := by omega
  clear h
  go_enter Tryz.func81, Tryz.ntmps81
  go_wp2_with fail
  go_loopw [1, 5] (fun s1 s5 wr => s1 = .int .u64 (x : Int) ∧ s5 = .int .i64 0 ∧ wr = w) (fun _ _ _ => 0)
  case atStart => exact ⟨rfl, rfl, rfl⟩
  case round =>
    obtain ⟨rfl, rfl, hw⟩ := hrel
    subst hw
    go_wp2_with fail
    go_ret
    have h1 := byteSet (k := o) (n := x) H.out (x := (x : Int)) (by omega)
    have G := grown_setCell (grown_refl wr (some g)) (p := ⟨g, o, none⟩) (.inl rfl) (.int .u8 (x : Int))
    exact ⟨rfl, h1, G⟩
theorem putUv {w : World} {g o n c x : Nat} {t : TypeId} {L : List UInt8} (h : Blk w g t (bvs L).toArray) (hn : 1 ≤ n) (ho : o < L.length) (hx : x ≤ 127) :
    Calls Tryz.prog 73 #[.slice (some ⟨g, o, none⟩) n c, .int .u64 (x : Int)] w fun e w' => e = .returned (.int .i64 1) ∧ Blk w' g t (bvs (L.set o (UInt8.ofNat x))).toArray ∧ w.grownBy w' (some g) := by
  have H := Lib.hid h
  clear h
  go_enter Tryz.func73, Tryz.ntmps73
  go_wp2_with fail
  refine (putUv1 (c := c) H.out hn ho hx).mono ?_
  rintro e w2 ⟨rfl, h2, hg⟩
  go_wp2_with fail
  go_ret
  exact ⟨rfl, h2, hg⟩
end Go.Proofs.YtkmjjoffamdnfaaGreatDoor

/- The hasher of the identity. -/
namespace Go.Proofs.YtkmjjoffamdnfaaGreatDoor
open Go.RowKit
set_option maxRecDepth 100000
/-- GetVariableHasher for the identity -/
theorem hasherId (w : World) :
    Calls Tryz.prog 47 #[.int .u64 0, .int .i64 (-1)] w fun e w' => e = .returned (.tuple #[.iface 110 (.pointer (some ⟨w.heap.size, 0, none⟩)), .nilIface]) ∧ Blk w' w.heap.size 115 #[.slice none 0 0, .int .i64 0, .int .i8 0] ∧ Below w.heap.size w w' := by
  have K := Lib.hid (Blk.new w 115 #[.slice none 0 0, .int .i64 0, .int .i8 0])
  have B := Lib.hid (below_alloc w (.cells #[.slice none 0 0, .int .i64 0, .int .i8 0] 115))
  go_enter Tryz.func47, Tryz.ntmps47
  go_wp2_with fail
  go_ret2
  exact ⟨rfl, K.out, B.out⟩
section
variable {w : World} {g n m c gp op : Nat} {t : TypeId} {v : Value} {l : List UInt8}
theorem tryGrow (h : Blk w g t #[.slice none 0 0, .int .i64 0, .int .i8 0]) (hn : 0 < n) :
    Calls Tryz.prog 120 #[.pointer (some ⟨g, 0, none⟩), .int .i64 (n : Int)] w fun e w' => e = .returned (.tuple #[.int .i64 0, .bool false]) ∧ w = w' := by
  have c0 : w.cell? ⟨g, 0, none⟩ = some (.slice none 0 0) := h.cell 0
  have n0 : ¬ (n : Int) ≤ 0 := by omega
  clear h
  go_enter Tryz.func120, Tryz.ntmps120
  go_wp2_with fail
  go_ret2
  exact ⟨rfl, rfl⟩
theorem bufLen {A : Option Addr} {lr : Int} (hn : n ≤ 1000) (h : Blk w g t #[.slice A n c, .int .i64 0, .int .i8 lr]) :
    Calls Tryz.prog 118 #[.pointer (some ⟨g, 0, none⟩)] w fun e w' => e = .returned (.int .i64 (n : Int)) ∧ ∃ k, w' = w.drewN k := by
  have c0 : w.cell? ⟨g, 0, none⟩ = some (.slice A n c) := h.cell 0
  have c1 : w.cell? ⟨g, 1, none⟩ = some (.int .i64 0) := h.cell 1
  clear h
  go_enter Tryz.func118, Tryz.ntmps118
  go_wp2_with fail
  go_quiet (fail)
  go_wp2_with fail
  go_ret
  exact ⟨by first | rfl | (rw [show wrap64 (n : Int) = (n : Int) by unfold wrap64; omega]; rfl), _, rfl⟩
theorem idSize {A : Option Addr} {lr : Int} (hn : n ≤ 1000) (h : Blk w g t #[.slice A n c, .int .i64 0, .int .i8 lr]) :
    Calls Tryz.prog 114 #[.pointer (some ⟨g, 0, none⟩)] w fun e w' => e = .returned (.int .i64 (n : Int)) ∧ Below w.heap.size w w' := by
  have H := Lib.hid h
  clear h
  go_enter Tryz.func114, Tryz.ntmps114
  go_wp2_with fail
  refine (bufLen hn H.out).mono ?_
  rintro e w2 ⟨rfl, k, rfl⟩
  go_wp2_with fail
  go_ret
  exact ⟨rfl, below_drewN (below_refl w) k⟩
theorem bufBytes {gb : Nat} {lr : Int} (h : Blk w g t #[.slice (some ⟨gb, 0, none⟩) n c, .int .i64 0, .int .i8 lr]) :
    Calls Tryz.prog 119 #[.pointer (some ⟨g, 0, none⟩)] w fun e w' => e = .returned (.slice (some ⟨gb, 0, none⟩) n c) ∧ Below w.heap.size w w' := by
  have c0 : w.cell? ⟨g, 0, none⟩ = some (.slice (some ⟨gb, 0, none⟩) n c) := h.cell 0
  have c1 : w.cell? ⟨g, 1, none⟩ = some (.int .i64 0) := h.cell 1
  clear h
  go_enter Tryz.func119, Tryz.ntmps119
  go_wp2_with fail
  go_quiet (fail)
  go_wp2_with fail
  go_ret
  exact ⟨rfl, below_drewN (below_refl w) _⟩
theorem idSum {gb : Nat} {lr : Int} (h : Blk w g t #[.slice (some ⟨gb, 0, none⟩) n c, .int .i64 0, .int .i8 lr]) :
    Calls Tryz.prog 116 #[.pointer (some ⟨g, 0, none⟩), .slice none 0 0] w fun e w' => e = .returned (.slice (some ⟨gb, 0, none⟩) n c) ∧ Below w.heap.size w w' := by
  have H := Lib.hid h
  clear h
  go_enter Tryz.func116, Tryz.ntmps116
  go_wp2_with fail
  refine (bufBytes H.out).mono ?_
  rintro e w2 ⟨rfl, hb⟩
  have B := Lib.hid hb
  clear hb
  go_wp2_with fail
  go_ret
  exact ⟨rfl, B.out⟩
theorem run_make64 (w : World) (n : Nat) (hn : n ≤ 64) :
    (Instr.makeSlice 22 (.int .i64 (n : Int)) (.int .i64 64)).run Tryz.prog w = .ok (.slice (some ⟨w.heap.size, 0, none⟩) n 64) (w.alloc (.cells (bvs (List.replicate 64 0)).toArray 5)) := by
  obtain ⟨i0, hi, hz0, hz1, hz2⟩ := info_parts Tryz.info5
  have h := run_make (P := Tryz.prog) w 22 5 i0 _ Tryz.underlying22 hi hz0 .i64 .i64 (n : Int) (64 : Int) (by omega) (by omega) (by rw [hz2]; omega) (by omega)
  have e : madeCells (Value.int .u8 0).cells ((64 : Int).toNat * i0.size) = (bvs (List.replicate 64 0)).toArray := by
    rw [hz1, Nat.mul_one]
    apply Array.toList_inj.1
    show (madeCells #[Value.int .u8 0] 64).toList = _
    rw [toList_madeCells_one]
    simp [bvs, bv]
  rw [e] at h
  simpa using h
theorem Blk.newSet (w : World) (p : Addr) (u : Value) (t : TypeId) (cs : Array Value) : Blk ((w.setCell p u).alloc (.cells cs t)) w.heap.size t cs := by
  have := Blk.new (w.setCell p u) t cs
  rwa [show (w.setCell p u).heap.size = w.heap.size by simp [World.setCell]] at this
theorem bufGrow (h : Blk w g t #[.slice none 0 0, .int .i64 0, .int .i8 0]) (hn : 0 < n) (hn64 : n ≤ 64) :
    Calls Tryz.prog 121 #[.pointer (some ⟨g, 0, none⟩), .int .i64 (n : Int)] w fun e w' => e = .returned (.int .i64 0) ∧ (∃ gb, Blk w' g t #[.slice (some ⟨gb, 0, none⟩) n 64, .int .i64 0, .int .i8 0] ∧ Blk w' gb 5 (bvs (List.replicate 64 0)).toArray ∧ w.heap.size ≤ gb) ∧ w.grownBy w' (some g) := by
  have H := Lib.hid h
  have hk := h.lt
  obtain ⟨Z, hZ⟩ : ∃ Z, Z = List.replicate 64 (0 : UInt8) := ⟨_, rfl⟩
  have hmk := fun W : World => run_make64 W n hn64
  rw [← hZ] at hmk ⊢
  clear hZ
  have heq := fun W : World => eql_nil W none 0 0 0 0
  have hn64' : (n : Int) ≤ 64 := by omega
  clear h
  go_enter Tryz.func121, Tryz.ntmps121
  go_wp2_with fail
  refine (bufLen (by omega) H.out).mono ?_
  rintro e w2 ⟨rfl, k, rfl⟩
  have H2 := Lib.hid (H.out.drewN k)
  have G2 := Lib.hid (grown_drewN (grown_refl w (some g)) k)
  have hk2 : g < (w.drewN k).heap.size := hk
  have hw2 : w.heap.size ≤ (w.drewN k).heap.size := Nat.le_refl _
  clear H
  generalize w.drewN k = w2 at *
  have c0 : w2.cell? ⟨g, 0, none⟩ = some (.slice none 0 0) := H2.out.cell 0
  have c1 : w2.cell? ⟨g, 1, none⟩ = some (.int .i64 0) := H2.out.cell 1
  have f0 := H2.out.free 0
  go_wp2_with fail
  refine (tryGrow H2.out hn).mono ?_
  rintro e w3 ⟨rfl, rfl⟩
  have cc0 : (w2.alloc (.cells (bvs Z).toArray 5)).cell? ⟨g, 0, none⟩ = some (.slice none 0 0) := (H2.out.alloc _).cell 0
  have ff0 := (H2.out.alloc (.cells (bvs Z).toArray 5)).free 0
  go_wp2_with fail
  go_ret
  have h5 := (H2.out.set 0 (.slice (some ⟨w2.heap.size, 0, none⟩) n 64)).alloc (.cells (bvs Z).toArray 5)
  refine ⟨rfl, ⟨w2.heap.size, h5, Blk.newSet w2 _ _ _ _, hw2⟩, ?_⟩
  exact grown_step (grown_setCell G2.out (p := ⟨g, 0, none⟩) (.inl rfl) (.slice (some ⟨w2.heap.size, 0, none⟩) n 64)) (below_alloc _ _)
theorem bufWrite (h : Blk w g t #[.slice none 0 0, .int .i64 0, .int .i8 0]) (hp : Bs w w.heap.size (.slice (some ⟨gp, op, none⟩) n c) l) (hgp : gp ≠ g) (hn : n = l.length) (hn0 : 0 < n) (hn64 : n ≤ 64) :
    Calls Tryz.prog 117 #[.pointer (some ⟨g, 0, none⟩), .slice (some ⟨gp, op, none⟩) n c] w fun e w' => e = .returned (.tuple #[.int .i64 (n : Int), .nilIface]) ∧ (∃ gb, Blk w' g t #[.slice (some ⟨gb, 0, none⟩) n 64, .int .i64 0, .int .i8 0] ∧ Bs w' w'.heap.size (.slice (some ⟨gb, 0, none⟩) n 64) l) ∧ w.grownBy w' (some g) := by
  have HP := Lib.hid hp
  have Hn := Lib.hid hn
  have c2 : w.cell? ⟨g, 2, none⟩ = some (.int .i8 0) := h.cell 2
  have f2 := h.free 2
  have H1 := Lib.hid (show Blk (w.setCell ⟨g, 2, none⟩ (.int .i8 0)) g t #[.slice none 0 0, .int .i64 0, .int .i8 0] from h.set 2 (.int .i8 0))
  have G1 := Lib.hid (grown_setCell (grown_refl w (some g)) (p := ⟨g, 2, none⟩) (.inl rfl) (.int .i8 0))
  have hlt := h.lt
  clear h hp hn
  go_enter Tryz.func117, Tryz.ntmps117
  go_upto_region 2 with fail
  clear c2 f2
  generalize w.setCell ⟨g, 2, none⟩ (.int .i8 0) = w1 at *
  have hlt1 := H1.out.lt
  go_wp2_with fail
  refine (tryGrow H1.out hn0).mono ?_
  rintro e w2 ⟨rfl, rfl⟩
  go_wp2_with fail
  refine (bufGrow H1.out hn0 hn64).mono ?_
  rintro e w2 ⟨rfl, ⟨gb, hb1, hb2, hge⟩, hg⟩
  have HB1 := Lib.hid hb1
  have HB2 := Lib.hid hb2
  have G2 := Lib.hid (G1.out.trans hg)
  have HP2 := Lib.hid (HP.out.keepRow G2.out (Nat.le_refl _) (.inr (.inl (by simp [Value.ownBlock]; exact hgp))))
  have c0 : w2.cell? ⟨g, 0, none⟩ = some (.slice (some ⟨gb, 0, none⟩) n 64) := hb1.cell 0
  have hgb : gb ≠ g := by omega
  have Hmin := Lib.hid (show n = min n n by omega)
  have hfit : 0 + n ≤ (List.replicate 64 (0 : UInt8)).length := by simp; omega
  have Hge := Lib.hid (show w.heap.size ≤ gb from Nat.le_trans G1.out.size hge)
  clear hb1 hb2 hg H1 G1 hge
  go_wp2_with (refine wpList_copyR (k := 0) (q := n) rfl _ _ rfl (by rfl) (by rfl) HB2.out HP2.out Hmin.out hfit ?_; intro w5 hd5 hg5; have HD5 := Lib.hid hd5; have HG5 := Lib.hid hg5; clear hd5 hg5)
  go_ret2
  refine ⟨rfl, ⟨gb, HB1.out.grown HG5.out (by intro e; injection e with e; omega), ?_⟩, ?_⟩
  · have h1 := HD5.out
    have e1 : l.take n = l := List.take_of_length_le (by rw [Hn.out]; exact Nat.le_refl _)
    rw [e1] at h1
    have hl : (Sha.over (List.replicate 64 0) 0 l).length = 64 := by rw [Sha.over_length (by rw [← Hn.out]; simp; omega)]; simp
    have h2 := (Bs.ofRowBlk hl h1 (by rw [hl]; omega)).front (k := n) (by rw [hl]; omega)
    have e2 : (Sha.over (List.replicate 64 0) 0 l).take n = l := by unfold Sha.over; rw [List.take_zero, List.nil_append, Hn.out, List.take_left]
    rw [e2] at h2
    exact h2
  · exact grown_two G2.out HG5.out Hge.out
end
end Go.Proofs.YtkmjjoffamdnfaaGreatDoor

/- crypto/sha256.New, GetVariableHasher, NewToy. -/
namespace Go.Proofs.YtkmjjoffamdnfaaGreatDoor
open Go.RowKit
set_option maxRecDepth 100000
/-- sha256.New: a new digest behind an interface -/
theorem shaNew (w : World) :
    Calls Tryz.prog 58 #[] w fun e w' => e = .returned (.iface 139 (.pointer (some ⟨w.heap.size, 0, none⟩))) ∧ Dig w' w.heap.size Sha.init (List.replicate 64 0) 0 0 ∧ Below w.heap.size w w' := by
  go_enter Tryz.func58, Tryz.ntmps58
  go_wp2_with fail
  refine (fipsNew w).mono ?_
  rintro e w2 ⟨rfl, hd, hb⟩
  have HD := Lib.hid hd
  have B := Lib.hid hb
  clear hd hb
  go_wp2_with fail
  go_ret
  exact ⟨rfl, HD.out, B.out⟩
/-- GetVariableHasher for SHA2-256 -/
theorem hasherSha (w : World) :
    Calls Tryz.prog 47 #[.int .u64 18, .int .i64 (-1)] w fun e w' => e = .returned (.tuple #[.iface 139 (.pointer (some ⟨w.heap.size, 0, none⟩)), .nilIface]) ∧ Dig w' w.heap.size Sha.init (List.replicate 64 0) 0 0 ∧ Below w.heap.size w w' := by
  go_enter Tryz.func47, Tryz.ntmps47
  go_wp2_with fail
  refine (shaNew w).mono ?_
  rintro e w2 ⟨rfl, hd, hb⟩
  have HD := Lib.hid hd
  have B := Lib.hid hb
  clear hd hb
  go_wp2_with fail
  go_ret2
  exact ⟨rfl, HD.out, B.out⟩
end Go.Proofs.YtkmjjoffamdnfaaGreatDoor

/- Base 58: the plain text of bytes; no program. -/
namespace Go.Proofs.YtkmjjoffamdnfaaGreatDoor
namespace B58
/-- the number that bytes tell, the greatest ahead; the same of digits to the base of 58 -/
def num (l : List UInt8) : Nat := l.foldl (fun a c => a * 256 + c.toNat) 0
def val (ds : List UInt8) : Nat := ds.foldl (fun a d => a * 58 + d.toNat) 0
theorem num_nil : num [] = 0 := rfl
theorem num_snoc (l : List UInt8) (c : UInt8) : num (l ++ [c]) = num l * 256 + c.toNat := by simp [num, List.foldl_append]
theorem val_snoc (l : List UInt8) (c : UInt8) : val (l ++ [c]) = val l * 58 + c.toNat := by simp [val, List.foldl_append]
theorem val_go (ds : List UInt8) : ∀ a, ds.foldl (fun a d => a * 58 + d.toNat) a = a * 58 ^ ds.length + val ds := by
  induction ds with
  | nil => intro a; simp [val]
  | cons d ds ih =>
    intro a
    unfold val
    rw [List.foldl_cons, List.foldl_cons, ih, ih (0 * 58 + d.toNat), List.length_cons, Nat.pow_succ, Nat.add_mul]
    have : a * 58 * 58 ^ ds.length = a * (58 ^ ds.length * 58) := by rw [Nat.mul_assoc, Nat.mul_comm 58]
    rw [this, Nat.add_assoc]
    simp
theorem val_cons (d : UInt8) (ds : List UInt8) : val (d :: ds) = d.toNat * 58 ^ ds.length + val ds := by
  unfold val; rw [List.foldl_cons, val_go]; simp [val]
theorem num_go (l : List UInt8) : ∀ a, l.foldl (fun a d => a * 256 + d.toNat) a = a * 256 ^ l.length + num l := by
  induction l with
  | nil => intro a; simp [num]
  | cons d l ih =>
    intro a
    unfold num
    rw [List.foldl_cons, List.foldl_cons, ih, ih (0 * 256 + d.toNat), List.length_cons, Nat.pow_succ, Nat.add_mul]
    have : a * 256 * 256 ^ l.length = a * (256 ^ l.length * 256) := by rw [Nat.mul_assoc, Nat.mul_comm 256]
    rw [this, Nat.add_assoc]
    simp
theorem num_cons (d : UInt8) (l : List UInt8) : num (d :: l) = d.toNat * 256 ^ l.length + num l := by
  unfold num; rw [List.foldl_cons, num_go]; simp [num]
theorem num_lt (l : List UInt8) : num l < 256 ^ l.length := by
  induction l with
  | nil => simp [num]
  | cons d l ih =>
    rw [num_cons, List.length_cons, Nat.pow_succ]
    have hd := UInt8.toNat_lt d
    have : d.toNat * 256 ^ l.length ≤ 255 * 256 ^ l.length := Nat.mul_le_mul_right _ (by omega)
    omega
/-- digits that are below 58 -/
def Dig (ds : List UInt8) : Prop := ∀ d ∈ ds, d.toNat < 58
theorem val_lt {ds : List UInt8} (h : Dig ds) : val ds < 58 ^ ds.length := by
  induction ds with
  | nil => simp [val]
  | cons d ds ih =>
    rw [val_cons, List.length_cons, Nat.pow_succ]
    have hd := h d (by simp)
    have h2 := ih fun x hx => h x (by simp [hx])
    have : d.toNat * 58 ^ ds.length ≤ 57 * 58 ^ ds.length := Nat.mul_le_mul_right _ (by omega)
    omega
/-- the digits of a number, without zeros ahead -/
def dig (n : Nat) : List UInt8 := if _h : n = 0 then [] else dig (n / 58) ++ [UInt8.ofNat (n % 58)]
termination_by n
decreasing_by omega
theorem dig_zero : dig 0 = [] := by unfold dig; simp
theorem dig_pos {n : Nat} (h : n ≠ 0) : dig n = dig (n / 58) ++ [UInt8.ofNat (n % 58)] := by
  conv => lhs; unfold dig
  rw [dif_neg h]
theorem toNat_mod (n : Nat) : (UInt8.ofNat (n % 58)).toNat = n % 58 := by
  rw [UInt8.toNat_ofNat']; omega
theorem dig_spec (n : Nat) : Dig (dig n) ∧ val (dig n) = n ∧ n < 58 ^ (dig n).length ∧ (n ≠ 0 → 58 ^ ((dig n).length - 1) ≤ n) := by
  induction n using Nat.strongRecOn with
  | ind n ih =>
    by_cases h : n = 0
    · subst h; rw [dig_zero]; exact ⟨fun d hd => by simp at hd, rfl, by simp, fun h => absurd rfl h⟩
    · obtain ⟨h1, h2, h3, h4⟩ := ih (n / 58) (by omega)
      rw [dig_pos h]
      refine ⟨fun d hd => ?_, ?_, ?_, fun _ => ?_⟩
      · rcases List.mem_append.1 hd with hd | hd
        · exact h1 d hd
        · obtain rfl : d = UInt8.ofNat (n % 58) := by simpa using hd
          rw [toNat_mod]; omega
      · rw [val_snoc, h2, toNat_mod]; omega
      · rw [List.length_append, List.length_singleton, Nat.pow_succ]
        omega
      · rw [List.length_append, List.length_singleton, Nat.add_sub_cancel]
        by_cases h0 : n / 58 = 0
        · rw [h0, dig_zero]; simp; omega
        · have h5 := h4 h0
          have hl : 0 < (dig (n / 58)).length := by rw [dig_pos h0]; simp
          obtain ⟨m, hm⟩ : ∃ m, (dig (n / 58)).length = m + 1 := ⟨(dig (n / 58)).length - 1, by omega⟩
          rw [hm] at h5 ⊢
          rw [Nat.add_sub_cancel] at h5
          rw [Nat.pow_succ]
          omega
theorem ofNat_toNat (d : UInt8) : UInt8.ofNat d.toNat = d := by simp
/-- a list of digits whose number has that many digits -/
theorem dig_of_len : ∀ (L : Nat) (ds : List UInt8), ds.length = L → Dig ds → (ds ≠ [] → 58 ^ (L - 1) ≤ val ds) → ds = dig (val ds) := by
  intro L
  induction L with
  | zero =>
    intro ds hl _ _
    obtain rfl := List.length_eq_zero_iff.1 hl
    show [] = dig 0
    rw [dig_zero]
  | succ L ih =>
    intro ds hl hd hv
    have hne : ds ≠ [] := by intro h; subst h; simp at hl
    obtain ⟨r, d, rfl⟩ : ∃ r d, ds = r ++ [d] := ⟨_, _, (List.dropLast_concat_getLast hne).symm⟩
    have hv := hv hne
    rw [List.length_append, List.length_singleton] at hl
    have hl' : r.length = L := by omega
    have hdd : d.toNat < 58 := hd d (by simp)
    rw [val_snoc] at hv ⊢
    rw [Nat.add_sub_cancel] at hv
    have hdiv : (val r * 58 + d.toNat) / 58 = val r := by omega
    have hmod : (val r * 58 + d.toNat) % 58 = d.toNat := by omega
    have hpos : 0 < 58 ^ L := Nat.pow_pos (by omega)
    have hr := ih r hl' (fun x hx => hd x (by simp [hx])) (fun hne' => by
      obtain ⟨m, rfl⟩ : ∃ m, L = m + 1 := ⟨L - 1, by have : r.length ≠ 0 := fun h => hne' (List.length_eq_zero_iff.1 h); omega⟩
      rw [Nat.pow_succ] at hv
      rw [Nat.add_sub_cancel]
      omega)
    rw [dig_pos (by omega), hdiv, hmod, ofNat_toNat, ← hr]
/-- digits behind those of a number -/
theorem dig_append {n : Nat} (h : n ≠ 0) : ∀ (k : Nat) (ds : List UInt8), ds.length = k → Dig ds → dig (n * 58 ^ ds.length + val ds) = dig n ++ ds := by
  intro k
  induction k with
  | zero =>
    intro ds hl _
    obtain rfl := List.length_eq_zero_iff.1 hl
    simp [val]
  | succ k ih =>
    intro ds hl hd
    have hne : ds ≠ [] := by intro h; subst h; simp at hl
    obtain ⟨r, d, rfl⟩ : ∃ r d, ds = r ++ [d] := ⟨_, _, (List.dropLast_concat_getLast hne).symm⟩
    rw [List.length_append, List.length_singleton] at hl ⊢
    have hdd : d.toNat < 58 := hd d (by simp)
    have hr := ih r (by omega) (fun x hx => hd x (by simp [hx]))
    have e : n * 58 ^ (r.length + 1) + val (r ++ [d]) = (n * 58 ^ r.length + val r) * 58 + d.toNat := by
      rw [val_snoc, Nat.pow_succ, Nat.add_mul, Nat.mul_assoc]; omega
    have hp : 0 < n * 58 ^ r.length := Nat.mul_pos (by omega) (Nat.pow_pos (by omega))
    rw [e, dig_pos (by omega), show ((n * 58 ^ r.length + val r) * 58 + d.toNat) / 58 = n * 58 ^ r.length + val r by omega, hr, show ((n * 58 ^ r.length + val r) * 58 + d.toNat) % 58 = d.toNat by omega, ofNat_toNat, List.append_assoc]

/-- one byte more, from the last digit on: the new digits, and what is carried -/
def step : List UInt8 → Nat → List UInt8 × Nat
  | [], c => ([], c)
  | d :: ds, c => (UInt8.ofNat (((step ds c).2 + d.toNat * 256) % 58) :: (step ds c).1, ((step ds c).2 + d.toNat * 256) / 58)
theorem step_length (ds : List UInt8) (c : Nat) : (step ds c).1.length = ds.length := by
  induction ds with
  | nil => rfl
  | cons d ds ih => simp [step, ih]
theorem step_dig (ds : List UInt8) (c : Nat) : Dig (step ds c).1 := by
  induction ds with
  | nil => intro d hd; simp [step] at hd
  | cons d ds ih =>
    intro x hx
    rcases List.mem_cons.1 hx with rfl | hx
    · rw [toNat_mod]; omega
    · exact ih x hx
theorem step_val (ds : List UInt8) (c : Nat) : (step ds c).2 * 58 ^ ds.length + val (step ds c).1 = val ds * 256 + c := by
  induction ds with
  | nil => simp [step, val]
  | cons d ds ih =>
    unfold step
    simp only [val_cons, toNat_mod, step_length, List.length_cons]
    have hdm := Nat.div_add_mod ((step ds c).2 + d.toNat * 256) 58
    generalize ((step ds c).2 + d.toNat * 256) / 58 = q at *
    generalize ((step ds c).2 + d.toNat * 256) % 58 = r at *
    have h1 : q * 58 ^ (ds.length + 1) + (r * 58 ^ ds.length + val (step ds c).1) = (58 * q + r) * 58 ^ ds.length + val (step ds c).1 := by
      rw [Nat.pow_succ, Nat.add_mul, ← Nat.mul_assoc, Nat.add_assoc]
      congr 1
      rw [Nat.mul_right_comm, Nat.mul_comm q 58]
    rw [h1, hdm, Nat.add_mul, Nat.add_mul]
    have h2 : d.toNat * 256 * 58 ^ ds.length = d.toNat * 58 ^ ds.length * 256 := Nat.mul_right_comm _ _ _
    omega
theorem step_le {ds : List UInt8} (h : Dig ds) {c : Nat} (hc : c ≤ 255) : (step ds c).2 ≤ 255 := by
  induction ds with
  | nil => exact hc
  | cons d ds ih =>
    have h1 := ih fun x hx => h x (by simp [hx])
    have h2 := h d (by simp)
    show ((step ds c).2 + d.toNat * 256) / 58 ≤ 255
    omega
theorem step_append (a b : List UInt8) (c : Nat) : step (a ++ b) c = ((step a (step b c).2).1 ++ (step b c).1, (step a (step b c).2).2) := by
  induction a with
  | nil => rfl
  | cons d a ih => simp only [List.cons_append, step, ih]
theorem step_zeros (n : Nat) : step (List.replicate n 0) 0 = (List.replicate n 0, 0) := by
  induction n with
  | zero => rfl
  | succ n ih => rw [List.replicate_succ]; simp only [step, ih]; rfl
/-- the reference's step: the digits of the number with one byte more -/
theorem dig_step (m c : Nat) : dig (m * 256 + c) = dig (step (dig m) c).2 ++ (step (dig m) c).1 := by
  obtain ⟨h1, h2, h3, h4⟩ := dig_spec m
  have hv := step_val (dig m) c
  rw [h2] at hv
  by_cases hk : (step (dig m) c).2 = 0
  · rw [hk, dig_zero, List.nil_append]
    rw [hk, Nat.zero_mul, Nat.zero_add] at hv
    have hd := dig_of_len _ _ rfl (step_dig (dig m) c) (fun hne => by
      rw [step_length, hv]
      have hm : m ≠ 0 := by
        intro h0; subst h0; rw [dig_zero] at hne; exact hne rfl
      have := h4 hm
      omega)
    rw [hv] at hd
    exact hd.symm
  · rw [← dig_append hk _ _ rfl (step_dig (dig m) c), step_length, hv]

/-- the digits' letters -/
def alpha : List UInt8 := [49, 50, 51, 52, 53, 54, 55, 56, 57, 65, 66, 67, 68, 69, 70, 71, 72, 74, 75, 76, 77, 78, 80, 81, 82, 83, 84, 85, 86, 87, 88, 89, 90, 97, 98, 99, 100, 101, 102, 103, 104, 105, 106, 107, 109, 110, 111, 112, 113, 114, 115, 116, 117, 118, 119, 120, 121, 122]
def letter (d : UInt8) : UInt8 := alpha.getD d.toNat 0
/-- how many zeros stand ahead -/
def zeros (l : List UInt8) : Nat := (l.takeWhile (· == 0)).length
theorem zeros_le (l : List UInt8) : zeros l ≤ l.length := by unfold zeros; exact (List.takeWhile_sublist _).length_le
theorem zeros_take (l : List UInt8) : l.take (zeros l) = List.replicate (zeros l) 0 := by
  unfold zeros
  induction l with
  | nil => rfl
  | cons a l ih =>
    by_cases h : a = 0
    · subst h; simp [List.replicate_succ, ih]
    · simp [h]
theorem zeros_next {l : List UInt8} {k : Nat} (hk : k < l.length) (hz : l.take k = List.replicate k 0) (h : l[k] ≠ 0) : zeros l = k := by
  have e : l = List.replicate k 0 ++ l[k] :: l.drop (k + 1) := by rw [← hz, ← List.drop_eq_getElem_cons hk, List.take_append_drop]
  have hw : l.takeWhile (· == 0) = List.replicate k 0 := by
    conv => lhs; rw [e]
    rw [List.takeWhile_append_of_pos (by intro x hx; rw [(List.mem_replicate.1 hx).2]; rfl)]
    rw [List.takeWhile_cons_of_neg (by simpa using h), List.append_nil]
  unfold zeros
  rw [hw, List.length_replicate]
theorem zeros_all {l : List UInt8} (hz : l.take l.length = List.replicate l.length 0) : zeros l = l.length := by
  rw [List.take_length] at hz
  unfold zeros
  conv => lhs; rw [hz]
  simp
theorem num_zeros (k : Nat) (l : List UInt8) : num (List.replicate k 0 ++ l) = num l := by
  induction k with
  | zero => rfl
  | succ k ih => rw [List.replicate_succ, List.cons_append, num_cons, ih]; simp
theorem num_drop (l : List UInt8) : num (l.drop (zeros l)) = num l := by
  conv => rhs; rw [← List.take_append_drop (zeros l) l, zeros_take, num_zeros]
/-- the text of bytes -/
def enc (l : List UInt8) : List UInt8 := List.replicate (zeros l) 49 ++ (dig (num l)).map letter

/-- enough digits -/
theorem room (n : Nat) : 256 ^ n ≤ 58 ^ (n * 138 / 100 + 1) := by
  have h1 : (256 : Nat) ^ 100 ≤ 58 ^ 138 := by decide
  have h3 : (256 ^ n) ^ 100 = (256 ^ 100) ^ n := by rw [← Nat.pow_mul, ← Nat.pow_mul, Nat.mul_comm]
  have h4 : (58 ^ 138) ^ n ≤ (58 ^ (n * 138 / 100 + 1)) ^ 100 := by
    rw [← Nat.pow_mul, ← Nat.pow_mul]
    exact Nat.pow_le_pow_right (by omega) (by omega)
  have h2 : (256 ^ n) ^ 100 ≤ (58 ^ (n * 138 / 100 + 1)) ^ 100 := h3 ▸ Nat.le_trans (Nat.pow_le_pow_left h1 n) h4
  exact (Nat.pow_le_pow_iff_left (by omega)).1 h2
theorem num_room (l : List UInt8) : num l < 58 ^ (l.length * 138 / 100 + 1) := Nat.lt_of_lt_of_le (num_lt l) (room _)
theorem num_take_le (l : List UInt8) (k : Nat) : num (l.take k) ≤ num l := by
  conv => rhs; rw [← List.take_append_drop k l]
  generalize l.take k = a
  generalize l.drop k = b
  have e : num (a ++ b) = num a * 256 ^ b.length + num b := by
    rw [← num_go b (num a)]; unfold num; rw [List.foldl_append]
  rw [e]
  have : 0 < 256 ^ b.length := Nat.pow_pos (by omega)
  exact Nat.le_trans (Nat.le_mul_of_pos_right _ this) (Nat.le_add_right _ _)
theorem num_succ {l : List UInt8} {k : Nat} (h : k < l.length) : num (l.take (k + 1)) = num (l.take k) * 256 + l[k].toNat := by
  rw [List.take_succ_eq_append_getElem h, num_snoc]
/-- a list of digits with zeros ahead -/
theorem dig_lead {ds : List UInt8} (h : Dig ds) {j : Nat} (hz : ds.take j = List.replicate j 0) (_hj : j ≤ ds.length) (hn : ∀ (hlt : j < ds.length), ds[j] ≠ 0) : ds.drop j = dig (val ds) := by
  have hv : val ds = val (ds.drop j) := by
    conv => lhs; rw [← List.take_append_drop j ds, hz]
    clear hn hz _hj
    generalize ds.drop j = b
    induction j with
    | zero => rfl
    | succ j ih => rw [List.replicate_succ, List.cons_append, val_cons, ih]; simp
  rw [hv]
  refine dig_of_len _ _ rfl (fun x hx => h x (List.mem_of_mem_drop hx)) (fun hne => ?_)
  have hlt : j < ds.length := by
    rcases Nat.lt_or_ge j ds.length with h | h
    · exact h
    · exact absurd (List.drop_eq_nil_of_le h) hne
  have e : ds.drop j = ds[j] :: ds.drop (j + 1) := List.drop_eq_getElem_cons hlt
  rw [e, val_cons, List.length_cons, Nat.add_sub_cancel]
  have : 0 < ds[j].toNat := Nat.pos_of_ne_zero fun h0 => hn hlt (UInt8.toNat_inj.1 h0)
  exact Nat.le_trans (Nat.le_mul_of_pos_left _ this) (Nat.le_add_right _ _)
end B58
end Go.Proofs.YtkmjjoffamdnfaaGreatDoor
