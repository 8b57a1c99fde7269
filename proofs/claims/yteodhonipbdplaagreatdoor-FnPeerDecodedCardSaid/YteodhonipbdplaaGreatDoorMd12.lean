/- A CID as this program has it: a string; Defined, Bytes, Version, Type. -/
import Derived.Test.YteodhonipbdplaaGreatDoorMd01
import Derived.Test.YteodhonipbdplaaGreatDoorMd04
import Derived.Test.YteodhonipbdplaaGreatDoorMd08
import Derived.Test.YteodhonipbdplaaGreatDoorMd11
import Derived.Deep.CutBlock
import Derived.Deep.DeepCutAuto
import Derived.Laws.CopyOwn
namespace Go.Proofs.YteodhonipbdplaaGreatDoor
open Go.RowKit
set_option maxRecDepth 100000
/-- a CID as a value -/
def cidV (l : List UInt8) : Value := .agg #[.string (strOf l)]
section
variable {w : World} {l m : List UInt8}
theorem strIdx (W : World) (l : List UInt8) (k : Nat) (hk : k < l.length) (t : IntKind) : (Instr.index 9 (.string (strOf l)) (.int t (k : Int))).run Tryz.prog W = .ok (.int .u8 ((l[k]'hk).toNat : Int)) W := by
  have hs : k < (strOf l).size := by rw [strOf_size]; exact hk
  rw [run_index_string W 9 (strOf l) t (k : Int) Tryz.underlying9, dif_pos (by omega)]
  congr 2
theorem strNe (hl : l ≠ []) : ∃ x r, l = x :: r := by
  cases l with
  | nil => exact absurd rfl hl
  | cons x r => exact ⟨x, r, rfl⟩
theorem cidDefined (hl : l ≠ []) :
    Calls Tryz.prog 30 #[.agg #[.string (strOf l)]] w fun e w' => e = .returned (.bool true) ∧ Below w.heap.size w w' := by
  obtain ⟨S, hS⟩ : ∃ S, S = strOf l := ⟨_, rfl⟩
  have hsz : S.size ≠ 0 := by rw [hS, strOf_size]; simpa using hl
  have hE : S.toList.isEmpty = false := by rw [hS, strOf_toList]; cases l with | nil => exact absurd rfl hl | cons x r => rfl
  rw [← hS]
  have HE := Lib.hid hE
  clear hS hE
  go_enter Tryz.func30, Tryz.ntmps30
  go_wp2_with fail
  go_ret
  refine ⟨?_, below_alloc w _⟩
  show Ending.returned (.bool (!S.toList.isEmpty)) = _
  rw [HE.out]
  rfl
theorem cidVersion (x : UInt8) (hx : x.toNat ≠ 18) :
    Calls Tryz.prog 55 #[.agg #[.string (strOf (x :: l))]] w fun e w' => e = .returned (.int .u64 1) ∧ Below w.heap.size w w' := by
  have h0 := fun W => strIdx W (x :: l) 0 (by simp) .i64
  have hx0 : ((x.toNat : Int) == 18) = false := by simp; omega
  obtain ⟨S, hS⟩ : ∃ S, S = strOf (x :: l) := ⟨_, rfl⟩
  rw [← hS] at h0 ⊢
  have h0' : ∀ W : World, (Instr.index 9 (.string S) (.int .i64 0)).run Tryz.prog W = .ok (.int .u8 (x.toNat : Int)) W := h0
  have B := Lib.hid (below_alloc w (.cells #[.string S] 41))
  clear hS h0
  go_enter Tryz.func55, Tryz.ntmps55
  go_wp2_with fail
  all_goals
    go_ret
    exact ⟨rfl, B.out⟩
/-- the first number of a text, below 128 -/
theorem cidUv (x : UInt8) (hx0 : 0 < x.toNat) (hx : x.toNat < 128) :
    Calls Tryz.prog 76 #[.string (strOf (x :: l))] w fun e w' => e = .returned (.tuple #[.int .u64 (x.toNat : Int), .int .i64 1, .nilIface]) ∧ w = w' := by
  have h0 := fun W => strIdx W (x :: l) 0 (by simp) .i64
  have hsz : (0 : Int) < ((strOf (x :: l)).size : Int) := by rw [strOf_size]; simp
  obtain ⟨S, hS⟩ : ∃ S, S = strOf (x :: l) := ⟨_, rfl⟩
  obtain ⟨k, hk⟩ : ∃ k : Nat, k = x.toNat := ⟨_, rfl⟩
  rw [← hS] at h0 hsz ⊢
  have h0' : ∀ W : World, (Instr.index 9 (.string S) (.int .i64 0)).run Tryz.prog W = .ok (.int .u8 (k : Int)) W := by rw [hk]; exact h0
  rw [← hk] at hx0 hx ⊢
  have hk1 : (k : Int) < 128 := by omega
  have hk2 : ¬ (k : Int) = 0 := by omega
  have hor : bits .or .u64 0 (k : Int) = (k : Int) := by
    have := uv_or (acc := 0) (d := k) (k := 0) (sl := 0) (by simp) (by omega) hx rfl
    simp [IntKind.wrap_u64] at this
    rw [show (k : Int) % 18446744073709551616 = k by omega] at this
    exact this
  clear hS h0 hk hx0 hx
  go_enter Tryz.func76, Tryz.ntmps76
  go_wp2_with fail
  go_loop [5, 6, 7, 8] (fun s5 s6 s7 s8 => s5 = .int .u64 0 ∧ s6 = .int .u64 0 ∧ s7 = .int .i64 0) (fun _ _ _ _ => 0)
  case atStart => exact ⟨rfl, rfl, rfl⟩
  case round =>
    obtain ⟨rfl, rfl, rfl⟩ := hrel
    go_wp2_with fail
    go_ret3
    exact ⟨rfl, rfl⟩
theorem cidBytes (hl : l ≠ []) (hlen : l.length ≤ 100000) :
    Calls Tryz.prog 31 #[.agg #[.string (strOf l)]] w fun e w' => ∃ gb c, e = .returned (.slice (some ⟨gb, 0, none⟩) l.length c) ∧ Hid (Bs w' w'.heap.size (.slice (some ⟨gb, 0, none⟩) l.length c) l) ∧ Below w.heap.size w w' ∧ l.length ≤ c := by
  have B := Lib.hid (below_alloc w (.cells #[.string (strOf l)] 41))
  have HD := Lib.hid (fun W => cidDefined (w := W) hl)
  have HC := Lib.hid (fun W => conv_bytes W l (by omega) (src := 9) Tryz.underlying9)
  have K := Lib.hid (Blk.new w 41 #[.string (strOf l)])
  obtain ⟨S, hS⟩ : ∃ S, S = strOf l := ⟨_, rfl⟩
  rw [← hS] at HD HC K B ⊢
  clear hS hlen hl
  go_enter Tryz.func31, Tryz.ntmps31
  go_wp2_with fail
  refine (HD.out _).mono ?_
  rintro e w1 ⟨rfl, hb⟩
  have B1 := Lib.hid (below_trans B.out hb)
  have c0 : w1.cell? ⟨w.heap.size, 0, none⟩ = some (.string S) := (K.out.step hb).cell 0
  obtain ⟨w2, c, hr, hbs, hbl, hc, _⟩ := HC.out w1
  have B2 := Lib.hid (below_trans B1.out hbl)
  have HB := Lib.hid hbs
  clear hb hbl hbs
  go_wp2_with fail
  go_ret
  exact ⟨_, c, rfl, HB, B2.out, hc⟩
end
end Go.Proofs.YteodhonipbdplaaGreatDoor

/- base 32: NewEncodingCI. -/
namespace Go.Proofs.YteodhonipbdplaaGreatDoor
open Go.RowKit
set_option maxRecDepth 100000
/-- the map's bytes, with k letters laid in -/
def mapK (A : List UInt8) : Nat → List UInt8
  | 0 => List.replicate 256 255
  | k + 1 => ((mapK A k).set (low8 (A.getD k 0).toNat) (UInt8.ofNat k)).set (up8 (A.getD k 0).toNat) (UInt8.ofNat k)
def mapZ (j : Nat) : List UInt8 := List.replicate j 255 ++ List.replicate (256 - j) 0
theorem mapZ_next {j : Nat} (h : j < 256) : (mapZ j).set j (UInt8.ofNat 255) = mapZ (j + 1) := by
  unfold mapZ
  rw [List.set_append_right _ _ (by simp), List.length_replicate, Nat.sub_self]
  obtain ⟨m, hm⟩ : ∃ m, 256 - j = m + 1 := ⟨255 - j, by omega⟩
  rw [hm, show 256 - (j + 1) = m by omega, List.replicate_succ, List.set_cons_zero, List.replicate_succ', List.append_assoc]
  rfl
theorem low8_le {c : Nat} (h : c ≤ 255) : low8 c ≤ 255 := by unfold low8; split <;> omega
theorem up8_le {c : Nat} (h : c ≤ 255) : up8 c ≤ 255 := by unfold up8; split <;> omega
section
variable {w : World} {A : List UInt8}
set_option maxHeartbeats 4000000 in
theorem newEnc (hA : A.length = 32) :
    Calls Tryz.prog 115 #[.string (strOf A)] w fun e w' => e = .returned (.pointer (some ⟨w.heap.size, 0, none⟩)) ∧ Enc32 w' w.heap.size A (mapK A 32) 61 ∧ Below w.heap.size w w' := by
  have HI := Lib.hid (fun (W : World) (k : Nat) (hk : k < A.length) => strIdx W A k hk .i64)
  have HA := Lib.hid hA
  obtain ⟨g, hg⟩ : ∃ g, g = w.heap.size := ⟨_, rfl⟩
  have K0 := Lib.hid (show Enc32 (w.alloc (.cells Tryz.zeroCells153 153)) g [] (mapZ 0) 0 from ⟨by simp [mapZ], by rw [hg, zeroEnc]; exact Blk.new _ _ _⟩)
  have B0 := Lib.hid (below_alloc w (.cells Tryz.zeroCells153 153))
  rw [← hg]
  have Hg := Lib.hid hg
  clear hA hg
  go_enter Tryz.func115, Tryz.ntmps115
  go_upto_region 2 with fail
  rw [← Hg.out]
  generalize w.alloc (.cells Tryz.zeroCells153 153) = w1 at *
  have c0 := K0.out.str
  have c1 := K0.out.pad
  have f0 := K0.out.free 0
  have f1 := K0.out.free 257
  have K1 := Lib.hid (K0.out.setPad 61)
  have K2 := Lib.hid (K1.out.setStr (B := A))
  have G2 := Lib.hid (grown_setCell (grown_setCell (grown_refl w1 (some g)) (p := ⟨g, 257, none⟩) (.inl rfl) (.int .i32 61)) (p := ⟨g, 0, none⟩) (.inl rfl) (.string (strOf A)))
  have B2 := Lib.hid (below_grown B0.out G2.out (fun k e => by injection e with e; have := Hg.out; omega))
  obtain ⟨S, hS⟩ : ∃ S, S = strOf A := ⟨_, rfl⟩
  have hSs : S.size = 32 := by rw [hS, strOf_size]; exact HA.out
  rw [← hS] at HI K2 B2 G2 ⊢
  go_upto_block 0 with fail
  rw [← hS]
  have HS := Lib.hid hS
  clear c0 c1 f0 f1 K0 K1 B0 G2 hS
  generalize (w1.setCell ⟨g, 257, none⟩ (.int .i32 61)).setCell ⟨g, 0, none⟩ (.string S) = w2 at *
  go_cut [4] (fun _ wx => Hid (Enc32 wx g A (mapZ 256) 61) ∧ Hid (Below w.heap.size w wx))
  case first =>
    go_wp2_with fail
    go_loopw [4, 14, 15, 16, 17, 18, 19, 20, 21, 22] (fun s4 _ _ _ _ _ _ _ _ _ wr => ∃ j : Nat, j ≤ 256 ∧ s4 = .int .i64 (j : Int) ∧ Hid (Enc32 wr g A (mapZ j) 61) ∧ Hid (Below w.heap.size w wr)) (fun s4 _ _ _ _ _ _ _ _ _ _ => 256 - (intOf s4).toNat)
    case atStart => exact ⟨0, by omega, rfl, K2, B2⟩
    case round =>
      clear K2 B2
      obtain ⟨j, hj, rfl, K, B⟩ := hrel
      by_cases h256 : j < 256
      · have j1 : (j : Int) < 256 := by omega
        have cj := K.out.at_ (k := j) (by rw [K.out.1]; exact h256)
        have fj := K.out.free (1 + j)
        go_wp2_with fail
        have K2 := Lib.hid (K.out.put (k := j) (n := 255) h256 (x := 255) rfl)
        rw [mapZ_next h256] at K2
        have B2 := Lib.hid (below_grown B.out (grown_setCell (grown_refl wr (some g)) (p := ⟨g, 1 + j, none⟩) (.inl rfl) (.int .u8 255)) (fun k e => by injection e with e; have := Hg.out; omega))
        exact ⟨⟨j + 1, by omega, rfl, K2, B2⟩, by simp [intOf]; omega⟩
      · obtain rfl : j = 256 := by omega
        go_wp2_with fail
        go_meet
        exact ⟨K, B⟩
  case rest =>
    clear K2 B2
    obtain ⟨K, B⟩ := hcut
    obtain ⟨w3, rfl⟩ : ∃ x : World, x = wc := ⟨_, rfl⟩
    go_upto_block 2 with fail
    have K0 := Lib.hid (show Enc32 w3 g A (mapK A 0) 61 from K.out)
    clear K
    go_wp2_with fail
    go_loopw [5] (fun s5 wr => ∃ j : Nat, j ≤ 32 ∧ s5 = .int .i64 (j : Int) ∧ Hid (Enc32 wr g A (mapK A j) 61) ∧ Hid (Below w.heap.size w wr)) (fun s5 _ => 32 - (intOf s5).toNat)
    case atStart => exact ⟨0, by omega, rfl, K0, B⟩
    case round =>
      clear K0 B
      obtain ⟨j, hj, rfl, K, B⟩ := hrel
      by_cases h32 : j < 32
      · have j1 : (j : Int) < 32 := by omega
        have hjA : j < A.length := by rw [HA.out]; exact h32
        obtain ⟨a, ha⟩ : ∃ a, a = A[j].toNat := ⟨_, rfl⟩
        have hix : ∀ W : World, (Instr.index 9 (.string S) (.int .i64 (j : Int))).run Tryz.prog W = .ok (.int .u8 (a : Int)) W := fun W => by rw [ha]; exact HI.out W j hjA
        have ha255 : a ≤ 255 := by have := UInt8.toNat_lt A[j]; omega
        have Ha := Lib.hid (show (A.getD j 0).toNat = a by rw [ha, List.getD_eq_getElem?_getD, List.getElem?_eq_getElem hjA, Option.getD_some])
        obtain ⟨lo, hlo⟩ : ∃ x, x = low8 a := ⟨_, rfl⟩
        obtain ⟨up, hup⟩ : ∃ x, x = up8 a := ⟨_, rfl⟩
        have hlo1 : lo ≤ 255 := by rw [hlo]; exact low8_le ha255
        have hup1 : up ≤ 255 := by rw [hup]; exact up8_le ha255
        have TL := Lib.hid (fun W => toLower W ha255)
        have TU := Lib.hid (fun W => toUpper W ha255)
        rw [← hlo] at TL
        rw [← hup] at TU
        have Hlo := Lib.hid hlo
        have Hup := Lib.hid hup
        have lo2 : (lo : Int) < 256 := by omega
        have up2 : (up : Int) < 256 := by omega
        clear ha hlo hup
        have Kd := Lib.hid (show Enc32 wr.drew g A (mapK A j) 61 from K.out)
        have cl := Kd.out.at_ (k := lo) (by rw [Kd.out.1]; omega)
        have fl := Kd.out.free (1 + lo)
        go_wp2_with fail
        go_region_held3 (fun _ => True) (trivial) ((go_at_call 141; (with_reducible refine (TL.out _).mono ?_); rintro e we ⟨rfl, rfl⟩))
        have K2 := Lib.hid (show Enc32 (wr.setCell ⟨g, 1 + lo, none⟩ (.int .u8 (IntKind.u8.wrap (j : Int)))).drew g A ((mapK A j).set lo (UInt8.ofNat j)) 61 from K.out.put (k := lo) (n := j) (by omega) (by rw [IntKind.wrap_u8]; omega))
        have B2 := Lib.hid (show Below w.heap.size w (wr.setCell ⟨g, 1 + lo, none⟩ (.int .u8 (IntKind.u8.wrap (j : Int)))).drew from (below_grown B.out (grown_setCell (grown_refl wr (some g)) (p := ⟨g, 1 + lo, none⟩) (.inl rfl) (.int .u8 (IntKind.u8.wrap (j : Int)))) (fun k e => by injection e with e; have := Hg.out; omega)).drew)
        clear cl fl Kd TL
        generalize (wr.setCell ⟨g, 1 + lo, none⟩ (.int .u8 (IntKind.u8.wrap (j : Int)))).drew = w4 at *
        have Kd := Lib.hid (show Enc32 w4.drew g A ((mapK A j).set lo (UInt8.ofNat j)) 61 from K2.out)
        have cl := Kd.out.at_ (k := up) (by rw [Kd.out.1]; omega)
        have fl := Kd.out.free (1 + up)
        go_wp2_with fail
        go_region_held3 (fun _ => True) (trivial) ((go_at_call 142; (with_reducible refine (TU.out _).mono ?_); rintro e we ⟨rfl, rfl⟩))
        have K3 := Lib.hid (show Enc32 (w4.setCell ⟨g, 1 + up, none⟩ (.int .u8 (IntKind.u8.wrap (j : Int)))).drew g A (mapK A (j + 1)) 61 from (by
          have h := K2.out.put (k := up) (n := j) (x := IntKind.u8.wrap (j : Int)) (by omega) (by rw [IntKind.wrap_u8]; omega)
          have e : mapK A (j + 1) = ((mapK A j).set lo (UInt8.ofNat j)).set up (UInt8.ofNat j) := by rw [mapK, Ha.out, Hlo.out, Hup.out]
          rw [e]
          exact h))
        have B3 := Lib.hid (show Below w.heap.size w (w4.setCell ⟨g, 1 + up, none⟩ (.int .u8 (IntKind.u8.wrap (j : Int)))).drew from (below_grown B2.out (grown_setCell (grown_refl w4 (some g)) (p := ⟨g, 1 + up, none⟩) (.inl rfl) (.int .u8 (IntKind.u8.wrap (j : Int)))) (fun k e => by injection e with e; have := Hg.out; omega)).drew)
        clear cl fl Kd TU
        generalize (w4.setCell ⟨g, 1 + up, none⟩ (.int .u8 (IntKind.u8.wrap (j : Int)))).drew = w5 at *
        go_wp2_with fail
        exact ⟨⟨j + 1, by omega, rfl, K3, B3⟩, by simp [intOf]; omega⟩
      · obtain rfl : j = 32 := by omega
        go_wp2_with fail
        go_ret
        exact ⟨rfl, K.out, by rw [Hg.out]; exact B.out⟩
end
end Go.Proofs.YteodhonipbdplaaGreatDoor

/- base 32: WithPadding, base32StdLowerNoPad, EncodedLen. -/
namespace Go.Proofs.YteodhonipbdplaaGreatDoor
open Go.RowKit
set_option maxRecDepth 100000
section
variable {w : World} {A M : List UInt8} {g : Nat} {p : Int}
/-- an encoding's cells -/
def encCells (A M : List UInt8) (p : Int) : Array Value := #[.string (strOf A)] ++ (bvs M).toArray ++ #[.int .i32 p]
theorem encCells_size (h : M.length = 256) : (encCells A M p).size = 258 := by unfold encCells; simp [bvs, h]
theorem withPad (h : M.length = 256) (q : Int) :
    Calls Tryz.prog 112 #[.agg (encCells A M p), .int .i32 q] w fun e w' => e = .returned (.pointer (some ⟨w.heap.size, 0, none⟩)) ∧ Enc32 w' w.heap.size A M q ∧ Below w.heap.size w w' := by
  obtain ⟨g, hg⟩ : ∃ g, g = w.heap.size := ⟨_, rfl⟩
  obtain ⟨Z, hZ⟩ : ∃ Z, Z = encCells A M p := ⟨_, rfl⟩
  have K := Lib.hid (show Enc32 (w.alloc (.cells Z 153)) g A M p from ⟨h, by rw [hg, hZ]; exact Blk.new _ _ _⟩)
  have B := Lib.hid (below_alloc w (.cells Z 153))
  have c1 := K.out.pad
  have f1 := K.out.free 257
  have K2 := Lib.hid (K.out.setPad q)
  have B2 := Lib.hid (below_grown B.out (grown_setCell (grown_refl _ (some g)) (p := ⟨g, 257, none⟩) (.inl rfl) (.int .i32 q)) (fun k e => by injection e with e; omega))
  have Hg := Lib.hid hg
  rw [← hZ]
  clear h hZ hg
  go_enter Tryz.func112, Tryz.ntmps112
  go_upto_region 1 with fail
  rw [← Hg.out]
  generalize w.alloc (.cells Z 153) = w1 at *
  go_wp2_with fail
  go_ret
  rw [← Hg.out]
  refine ⟨rfl, K2.out, ?_⟩
  have := B2.out
  rw [← Hg.out] at this
  exact this
end
theorem lowPad (w : World) :
    Calls Tryz.prog 85 #[] w fun e w' => e = .returned (.pointer (some ⟨w.heap.size, 0, none⟩)) ∧ Enc32 w' w.heap.size B32.alpha (mapK B32.alpha 32) 61 ∧ Below w.heap.size w w' := by
  have H := Lib.hid (newEnc (w := w) (A := B32.alpha) rfl)
  go_enter Tryz.func85, Tryz.ntmps85
  go_wp2_with fail
  refine H.out.mono ?_
  rintro e w1 ⟨rfl, hk, hb⟩
  have K := Lib.hid hk
  have B := Lib.hid hb
  clear hk hb
  go_wp2_with fail
  go_ret
  exact ⟨rfl, K.out, B.out⟩
theorem mapK_length (A : List UInt8) : ∀ k, (mapK A k).length = 256
  | 0 => by simp [mapK]
  | k + 1 => by simp [mapK, mapK_length A k]
theorem lowNoPad (w : World) :
    Calls Tryz.prog 80 #[] w fun e w' => ∃ g, e = .returned (.pointer (some ⟨g, 0, none⟩)) ∧ Hid (Enc32 w' g B32.alpha (mapK B32.alpha 32) (-1)) ∧ Below w.heap.size w w' := by
  go_enter Tryz.func80, Tryz.ntmps80
  go_wp2_with fail
  refine (lowPad w).mono ?_
  rintro e w1 ⟨rfl, hk, hb⟩
  have B := Lib.hid hb
  obtain ⟨Z, hZ⟩ : ∃ Z, Z = encCells B32.alpha (mapK B32.alpha 32) 61 := ⟨_, rfl⟩
  have hZs : Z.size = 258 := by rw [hZ]; exact encCells_size (mapK_length _ _)
  have KZ := Lib.hid (show Blk w1 w.heap.size 153 Z by rw [hZ]; exact hk.2)
  have Hi := Lib.hid (show (Tryz.prog.info? 153).map (·.size) = some Z.size by rw [hZs]; kernel_rfl)
  have HW := Lib.hid (withPad (w := w1) (A := B32.alpha) (p := 61) (mapK_length B32.alpha 32) (-1))
  rw [← hZ] at HW
  clear hk hb hZ hZs
  dsimp only
  rename_i hK
  refine hK _ _ ?_
  clear hK
  go_wp2_with (refine wpList_load_row rfl 153 _ (by rfl) w.heap.size (by rfl) 153 Z (0, 0) _ KZ.out Tryz.underlying153 rfl Hi.out ?_)
  refine HW.out.mono ?_
  rintro e w2 ⟨rfl, hk, hb⟩
  have K := Lib.hid hk
  have B2 := Lib.hid (below_trans B.out hb)
  clear hk hb
  go_wp2_with fail
  go_ret
  exact ⟨_, rfl, K, B2.out⟩
section
variable {w : World} {A M : List UInt8} {g : Nat}
theorem encLen (h : Enc32 w g A M (-1)) {n : Nat} (hn : n ≤ 100000) :
    Calls Tryz.prog 113 #[.pointer (some ⟨g, 0, none⟩), .int .i64 (n : Int)] w fun e w' => e = .returned (.int .i64 (((n * 8 + 4) / 5 : Nat) : Int)) ∧ w = w' := by
  have c1 := h.pad
  clear h
  have n1 : (n : Int) ≤ 100000 := by omega
  go_enter Tryz.func113, Tryz.ntmps113
  go_wp2_with fail
  go_ret
  refine ⟨?_, rfl⟩
  show Ending.returned (.int .i64 (((n : Int) * 8 + 4) / 5)) = _
  rw [show (((n * 8 + 4) / 5 : Nat) : Int) = ((n : Int) * 8 + 4) / 5 by omega]
end
end Go.Proofs.YteodhonipbdplaaGreatDoor

/- base 32: what the letters' places come to. -/
namespace Go.Proofs.YteodhonipbdplaaGreatDoor
open Go.RowKit
set_option maxRecDepth 100000
theorem letIdx {S : ByteArray} (hS : S = strOf B32.alpha) (x : Int) (k : Nat) (hx : x = (k : Int)) (hk : k < 32) (W : World) : (Instr.index 9 (.string S) (.int .u8 x)).run Tryz.prog W = .ok (.int .u8 ((B32.letter B32.alpha k).toNat : Int)) W := by
  subst hS hx
  have := strIdx W B32.alpha k hk .u8
  have e : B32.letter B32.alpha k = B32.alpha[k]'hk := by unfold B32.letter; rw [List.getD_eq_getElem?_getD, List.getElem?_eq_getElem (show k < B32.alpha.length from hk), Option.getD_some]; rfl
  rw [e]
  exact this
theorem and8 {a b : Nat} (ha : a ≤ 255) (hb : b ≤ 255) : bits .and .u8 (a : Int) (b : Int) = ((a &&& b : Nat) : Int) := by
  show IntKind.u8.wrap ((BitVec.ofInt 8 (a : Int) &&& BitVec.ofInt 8 (b : Int)).toNat : Int) = _
  have h1 : (BitVec.ofInt 8 (a : Int)).toNat = a := by rw [BitVec.toNat_ofInt]; omega
  have h2 : (BitVec.ofInt 8 (b : Int)).toNat = b := by rw [BitVec.toNat_ofInt]; omega
  have h3 : a &&& b ≤ a := Nat.and_le_left
  rw [BitVec.toNat_and, h1, h2, IntKind.wrap_u8]
  omega
theorem or8 {a b : Nat} (ha : a ≤ 255) (hb : b ≤ 255) : bits .or .u8 (a : Int) (b : Int) = ((a ||| b : Nat) : Int) := by
  show IntKind.u8.wrap ((BitVec.ofInt 8 (a : Int) ||| BitVec.ofInt 8 (b : Int)).toNat : Int) = _
  have h1 : (BitVec.ofInt 8 (a : Int)).toNat = a := by rw [BitVec.toNat_ofInt]; omega
  have h2 : (BitVec.ofInt 8 (b : Int)).toNat = b := by rw [BitVec.toNat_ofInt]; omega
  have h3 : a ||| b < 2 ^ 8 := Nat.or_lt_two_pow (by omega) (by omega)
  rw [BitVec.toNat_or, h1, h2, IntKind.wrap_u8]
  omega
theorem and31 {a : Nat} (ha : a ≤ 255) : bits .and .u8 (a : Int) 31 = ((a % 32 : Nat) : Int) := by
  have := and8 ha (b := 31) (by omega)
  rw [show a &&& 31 = a % 32 from Nat.and_two_pow_sub_one_eq_mod a 5] at this
  exact this
theorem wrapMul {d k : Nat} : IntKind.u8.wrap ((d : Int) * (k : Int)) = ((d * k % 256 : Nat) : Int) := by
  rw [IntKind.wrap_u8]
  omega
theorem orAdd {a i k : Nat} (h : a < 2 ^ i) : a ||| 2 ^ i * k = 2 ^ i * k + a := by rw [Nat.or_comm, ← Nat.two_pow_add_eq_or_of_lt h]
theorem p7 {d : Nat} (h : d ≤ 255) : bits .and .u8 (d : Int) 31 = ((d % 32 : Nat) : Int) := and31 h
theorem p6 {c d : Nat} (_hc : c ≤ 255) (hd : d ≤ 255) : bits .or .u8 ((d : Int) / 32) (bits .and .u8 (IntKind.u8.wrap ((c : Int) * 8)) 31) = ((c % 4 * 8 + d / 32 : Nat) : Int) := by
  rw [show IntKind.u8.wrap ((c : Int) * 8) = ((c * 8 % 256 : Nat) : Int) from wrapMul, and31 (by omega), show (d : Int) / 32 = ((d / 32 : Nat) : Int) by omega, or8 (by omega) (by omega), show c * 8 % 256 % 32 = 2 ^ 3 * (c % 4) by omega, orAdd (by omega)]
  omega
theorem p5 {d : Nat} (h : d ≤ 255) : bits .and .u8 ((d : Int) / 4) 31 = ((d / 4 % 32 : Nat) : Int) := by
  rw [show (d : Int) / 4 = ((d / 4 : Nat) : Int) by omega, and31 (by omega)]
theorem p4 {c d : Nat} (_hc : c ≤ 255) (hd : d ≤ 255) : bits .or .u8 ((d : Int) / 128) (bits .and .u8 (IntKind.u8.wrap ((c : Int) * 2)) 31) = ((c % 16 * 2 + d / 128 : Nat) : Int) := by
  rw [show IntKind.u8.wrap ((c : Int) * 2) = ((c * 2 % 256 : Nat) : Int) from wrapMul, and31 (by omega), show (d : Int) / 128 = ((d / 128 : Nat) : Int) by omega, or8 (by omega) (by omega), show c * 2 % 256 % 32 = 2 ^ 1 * (c % 16) by omega, orAdd (by omega)]
  omega
theorem p3 {c d : Nat} (_hc : c ≤ 255) (hd : d ≤ 255) : bits .and .u8 (bits .or .u8 ((d : Int) / 16) (IntKind.u8.wrap ((c : Int) * 16))) 31 = ((c % 2 * 16 + d / 16 : Nat) : Int) := by
  rw [show IntKind.u8.wrap ((c : Int) * 16) = ((c * 16 % 256 : Nat) : Int) from wrapMul, show (d : Int) / 16 = ((d / 16 : Nat) : Int) by omega, or8 (by omega) (by omega), show c * 16 % 256 = 2 ^ 4 * (c % 16) by omega, orAdd (by omega), and31 (by omega)]
  omega
theorem p2 {d : Nat} (h : d ≤ 255) : bits .and .u8 ((d : Int) / 2) 31 = ((d / 2 % 32 : Nat) : Int) := by
  rw [show (d : Int) / 2 = ((d / 2 : Nat) : Int) by omega, and31 (by omega)]
theorem p1 {c d : Nat} (_hc : c ≤ 255) (hd : d ≤ 255) : bits .and .u8 (bits .or .u8 ((d : Int) / 64) (IntKind.u8.wrap ((c : Int) * 4))) 31 = ((c % 8 * 4 + d / 64 : Nat) : Int) := by
  rw [show IntKind.u8.wrap ((c : Int) * 4) = ((c * 4 % 256 : Nat) : Int) from wrapMul, show (d : Int) / 64 = ((d / 64 : Nat) : Int) by omega, or8 (by omega) (by omega), show c * 4 % 256 = 2 ^ 2 * (c % 64) by omega, orAdd (by omega), and31 (by omega)]
  omega
section
variable {W : World} {gd k : Nat} {v x y z : Value} {a b c : Addr}
theorem far1 (ha : a.block ≠ gd) (h : W.drew.cell? a = some x) : (W.setCell ⟨gd, k, none⟩ v).drew.cell? a = some x :=
  (World.cell?_setCell_other W ⟨gd, k, none⟩ a v (by intro e; exact ha (by rw [← e]))).trans h
theorem far2 (ha : a.block ≠ gd) (hb : b.block ≠ gd) (h : W.drew.cell? a = some x) (h2 : W.drew.cell? b = some y) : (W.setCell ⟨gd, k, none⟩ v).drew.cell? a = some x ∧ (W.setCell ⟨gd, k, none⟩ v).drew.cell? b = some y := ⟨far1 ha h, far1 hb h2⟩
theorem far3 (ha : a.block ≠ gd) (hb : b.block ≠ gd) (hc : c.block ≠ gd) (h : W.drew.cell? a = some x) (h2 : W.drew.cell? b = some y) (h3 : W.drew.cell? c = some z) : (W.setCell ⟨gd, k, none⟩ v).drew.cell? a = some x ∧ (W.setCell ⟨gd, k, none⟩ v).drew.cell? b = some y ∧ (W.setCell ⟨gd, k, none⟩ v).drew.cell? c = some z := ⟨far1 ha h, far1 hb h2, far1 hc h3⟩
end
end Go.Proofs.YteodhonipbdplaaGreatDoor

/- 'b[n:]' of a slice that is not nil. -/
namespace Go.Proofs.YteodhonipbdplaaGreatDoor
open Go.RowKit
set_option maxRecDepth 100000
theorem slice_fromB {w : World} {B gp op N c n : Nat} {l : List UInt8} (h : Bs w B (.slice (some ⟨gp, op, none⟩) N c) l) (hn : n ≤ N) :
    ∃ o', (∀ (W : World) (k : IntKind), (Instr.slice 23 (.slice (some ⟨gp, op, none⟩) N c) (some (.int k (n : Int))) none none).run Tryz.prog W = .ok (.slice (some ⟨gp, o', none⟩) (N - n) (c - n)) W) ∧ Bs w B (.slice (some ⟨gp, o', none⟩) (N - n) (c - n)) (l.drop n) := by
  have hc0 : N ≤ c := by
    obtain ⟨A2, c2, he, hl, hc, _⟩ := h
    injection he with e1 e2 e3
    omega
  obtain ⟨A2, c2, he, hl, hc, hcell⟩ := h
  injection he with e1 e2 e3
  obtain ⟨i0, hi, hz0, hz1, hz2⟩ := info_parts Tryz.info5
  have hs : Tryz.prog.elem 23 = 5 := by kernel_rfl
  have hu : Tryz.prog.underlying 23 = some (.slice (Tryz.prog.elem 23)) := by rw [hs]; exact Tryz.underlying23
  have e : (⟨gp, op, none⟩ : Addr).add n = ⟨gp, op + n, none⟩ := by
    unfold Addr.add
    split
    · next h0 => subst h0; rfl
    · rfl
  have hrun : ∀ (W : World) (k : IntKind), (Instr.slice 23 (.slice (some ⟨gp, op, none⟩) N c) (some (.int k (n : Int))) none none).run Tryz.prog W = .ok (.slice (if c = n then some ⟨gp, op, none⟩ else some ⟨gp, op + n, none⟩) (N - n) (c - n)) W := fun W k => by
    rw [run_slice_l W 23 _ N c hu k n (by omega) (by omega)]
    simp [hs, sizeOf, typeInfo, sliced, hi, hz1, e]
  have hsl := slice_from (show Bs w B (.slice (some ⟨gp, op, none⟩) N c) l from ⟨A2, c2, by rw [e1, e2, e3], hl, hc, hcell⟩) hn
  obtain ⟨A', h1, h2⟩ := hsl
  have h3 := (hrun w .i64).symm.trans (h1 w .i64)
  injection h3 with h3 _
  injection h3 with h3 _ _
  by_cases hcn : c = n
  · rw [if_pos hcn] at h3
    subst h3
    exact ⟨op, h1, h2⟩
  · rw [if_neg hcn] at h3
    subst h3
    exact ⟨op + n, h1, h2⟩
end Go.Proofs.YteodhonipbdplaaGreatDoor

/- SHA2-256 with any sixty-four keys; no program. -/
namespace Go.Proofs.YteodhonipbdplaaGreatDoor
namespace Sha
variable (K : List Nat)
def roundsK (ws : List Nat) : Nat → V → V
  | 0, v => v
  | i + 1, v => round (roundsK ws i v) (K.getD i 0) (ws.getD i 0)
def blockK (u : V) (b : List UInt8) : V := u.add (roundsK K (sched b 48) 64 u)
def blocksK : Nat → V → List UInt8 → V
  | 0, v, _ => v
  | n + 1, v, l => blocksK n (blockK K v (l.take 64)) (l.drop 64)
def sumK (l : List UInt8) : List UInt8 := (blocksK K ((padded l).length / 64) init (padded l)).out
theorem sumK_length (l : List UInt8) : (sumK K l).length = 32 := by simp [sumK, V.out]
theorem V.ok.roundsK {K : List Nat} {ws : List Nat} {v : V} (h : v.ok) : ∀ i, (Sha.roundsK K ws i v).ok
  | 0 => h
  | i + 1 => (V.ok.roundsK h i).round _ _
theorem blockK_ok (u : V) (b : List UInt8) : (blockK K u b).ok := V.ok.add _ _
theorem blocksK_ok : ∀ (n : Nat) {u : V} (_ : u.ok) (l : List UInt8), (blocksK K n u l).ok
  | 0, _, h, _ => h
  | n + 1, _, _, _ => blocksK_ok n (blockK_ok K _ _) _
/-- one block more, at the end -/
theorem blocksK_succ : ∀ (n : Nat) (u : V) (l : List UInt8), blocksK K (n + 1) u l = blockK K (blocksK K n u l) ((l.drop (64 * n)).take 64)
  | 0, u, l => rfl
  | n + 1, u, l => by
    show blocksK K (n + 1) (blockK K u (l.take 64)) (l.drop 64) = _
    rw [blocksK_succ n, List.drop_drop, show 64 + 64 * n = 64 * (n + 1) by omega]
    rfl
theorem blocksK_add : ∀ (m n : Nat) (u : V) (l : List UInt8), blocksK K (m + n) u l = blocksK K n (blocksK K m u l) (l.drop (64 * m))
  | 0, n, u, l => by rw [Nat.zero_add]; rfl
  | m + 1, n, u, l => by
    rw [show m + 1 + n = (m + n) + 1 by omega]
    show blocksK K (m + n) (blockK K u (l.take 64)) (l.drop 64) = _
    rw [blocksK_add m n, List.drop_drop, show 64 + 64 * m = 64 * (m + 1) by omega]
    rfl
theorem blocksK_take : ∀ (n : Nat) (u : V) (l : List UInt8) {k : Nat}, 64 * n ≤ k → blocksK K n u (l.take k) = blocksK K n u l
  | 0, _, _, _, _ => rfl
  | n + 1, u, l, k, h => by
    show blocksK K n (blockK K u ((l.take k).take 64)) ((l.take k).drop 64) = blocksK K n (blockK K u (l.take 64)) (l.drop 64)
    rw [List.take_take, Nat.min_eq_left (by omega), List.drop_take, blocksK_take n _ _ (by omega)]
end Sha
theorem sched_take {b : List UInt8} {n i : Nat} : ∀ {m : Nat}, n ≤ m → i < n + 16 → (Sha.sched b m).getD i 0 = (Sha.sched b n).getD i 0 := by
  intro m h hi
  induction m with
  | zero => obtain rfl : n = 0 := by omega
            rfl
  | succ m ih =>
    rcases Nat.lt_or_ge m n with h2 | h2
    · obtain rfl : n = m + 1 := by omega
      rfl
    · rw [← ih h2]
      show (Sha.sched b m ++ [_]).getD i 0 = _
      rw [List.getD_eq_getElem?_getD, List.getD_eq_getElem?_getD, List.getElem?_append_left (by rw [Sha.sched_length]; omega)]
/-- the first sixteen words -/
theorem sched_low {b : List UInt8} {i : Nat} (h : i < 16) : (Sha.sched b 48).getD i 0 = Sha.word b i := by
  rw [sched_take (n := 0) (by omega) (by omega)]
  show (Sha.words b 16).getD i 0 = _
  unfold Sha.words
  rw [List.getD_eq_getElem?_getD, List.getElem?_map, List.getElem?_range h]
  rfl
/-- each of the others -/
theorem sched_high {b : List UInt8} {k : Nat} (h : k < 48) : (Sha.sched b 48).getD (k + 16) 0 =
    Sha.wadd (Sha.wadd (Sha.wadd ((Sha.sched b 48).getD k 0) ((Sha.sched b 48).getD (k + 9) 0)) (Sha.s0 ((Sha.sched b 48).getD (k + 1) 0))) (Sha.s1 ((Sha.sched b 48).getD (k + 14) 0)) := by
  rw [sched_take (b := b) (n := k + 1) (i := k + 16) (by omega) (by omega)]
  rw [sched_take (b := b) (n := k) (i := k) (by omega) (by omega), sched_take (b := b) (n := k) (i := k + 9) (by omega) (by omega), sched_take (b := b) (n := k) (i := k + 1) (by omega) (by omega), sched_take (b := b) (n := k) (i := k + 14) (by omega) (by omega)]
  show (Sha.sched b k ++ [Sha.nextW (Sha.sched b k)]).getD (k + 16) 0 = _
  rw [List.getD_eq_getElem?_getD, List.getElem?_append_right (by rw [Sha.sched_length]; exact Nat.le_refl _), Sha.sched_length, Nat.sub_self]
  show Sha.nextW (Sha.sched b k) = _
  unfold Sha.nextW
  rw [Sha.sched_length, show k + 16 - 16 = k by omega, show k + 16 - 7 = k + 9 by omega, show k + 16 - 15 = k + 1 by omega, show k + 16 - 2 = k + 14 by omega]
theorem sched_all_small {b : List UInt8} (i : Nat) : (Sha.sched b 48).getD i 0 < 4294967296 := (Sha.sched_small b 48).getD i
/-- the library's order of the sum -/
theorem nextW_order (a b c d : Nat) : Sha.wadd (Sha.wadd (Sha.wadd a b) c) d = Sha.wadd (Sha.wadd (Sha.wadd d b) c) a := by
  unfold Sha.wadd; omega
end Go.Proofs.YteodhonipbdplaaGreatDoor

/- What a digest has been fed: the plain steps of Write; no program. -/
namespace Go.Proofs.YteodhonipbdplaaGreatDoor
namespace Sha
/-- the digest's words, row and numbers are those behind the bytes l -/
structure Fed (K : List Nat) (V : V) (X : List UInt8) (nx len : Nat) (l : List UInt8) : Prop where
  words : V = blocksK K (l.length / 64) init l
  cnt : nx = l.length % 64
  tot : len = l.length
  row : X.take nx = l.drop (64 * (l.length / 64))
  size : X.length = 64
variable {K : List Nat} {V : V} {X : List UInt8} {nx len : Nat} {l p : List UInt8}
theorem Fed.new : Fed K init (List.replicate 64 0) 0 0 [] := ⟨rfl, rfl, rfl, rfl, by simp⟩
/-- a row with bytes laid over its middle -/
def over (X : List UInt8) (o : Nat) (p : List UInt8) : List UInt8 := X.take o ++ (p ++ X.drop (o + p.length))
theorem over_length {o : Nat} (h : o + p.length ≤ X.length) : (over X o p).length = X.length := by unfold over; simp; omega
theorem over_take {o : Nat} (h : o ≤ X.length) : (over X o p).take (o + p.length) = X.take o ++ p := by
  unfold over
  rw [← List.append_assoc, List.take_append_of_le_length (by simp; omega), List.take_of_length_le (by simp; omega)]
/-- bytes that do not fill the row -/
theorem Fed.part (h : Fed K V X nx len l) (hp : nx + p.length < 64) : Fed K V (over X nx p) (nx + p.length) (len + p.length) (l ++ p) := by
  have hx := h.cnt
  have hs := h.size
  have e : (l ++ p).length / 64 = l.length / 64 := by rw [List.length_append]; omega
  have hq : 64 * (l.length / 64) ≤ l.length := by omega
  refine ⟨?_, by rw [List.length_append]; omega, by rw [List.length_append, h.tot], ?_, by rw [over_length (by omega)]; exact hs⟩
  · rw [e, h.words]
    have := blocksK_take K (l.length / 64) init (l ++ p) (k := l.length) (by omega)
    rw [List.take_left] at this
    exact this
  · rw [e, over_take (by omega), h.row, List.drop_append_of_le_length hq]
/-- bytes that fill the row -/
theorem Fed.full (h : Fed K V X nx len l) (hp : nx + p.length = 64) : Fed K (blockK K V (over X nx p)) (over X nx p) 0 (len + p.length) (l ++ p) := by
  have hx := h.cnt
  have hs := h.size
  have e : (l ++ p).length / 64 = l.length / 64 + 1 := by rw [List.length_append]; omega
  have hq : 64 * (l.length / 64) ≤ l.length := by omega
  have hov : over X nx p = (l ++ p).drop (64 * (l.length / 64)) := by
    have h1 := over_take (X := X) (p := p) (o := nx) (by omega)
    rw [h.row, ← List.drop_append_of_le_length hq, List.take_of_length_le (by rw [over_length (by omega)]; omega)] at h1
    exact h1
  refine ⟨?_, by rw [List.length_append]; omega, by rw [List.length_append, h.tot], ?_, by rw [over_length (by omega)]; exact hs⟩
  · rw [e, blocksK_succ]
    have := blocksK_take K (l.length / 64) init (l ++ p) (k := l.length) (by omega)
    rw [List.take_left] at this
    rw [← this, ← h.words, ← hov, List.take_of_length_le (by rw [over_length (by omega)]; omega)]
  · rw [List.take_zero, List.drop_of_length_le (by rw [List.length_append]; omega)]
/-- whole blocks behind an empty row -/
theorem Fed.blocks (h : Fed K V X 0 len l) (m : Nat) (hm : 64 * m ≤ p.length) : Fed K (blocksK K m V p) X 0 (len + 64 * m) (l ++ p.take (64 * m)) := by
  have hx := h.cnt
  have hl : (p.take (64 * m)).length = 64 * m := by rw [List.length_take]; omega
  have e : (l ++ p.take (64 * m)).length / 64 = l.length / 64 + m := by rw [List.length_append, hl]; omega
  refine ⟨?_, by rw [List.length_append, hl]; omega, by rw [List.length_append, hl, h.tot], ?_, h.size⟩
  · rw [e, blocksK_add]
    have h1 := blocksK_take K (l.length / 64) init (l ++ p.take (64 * m)) (k := l.length) (by omega)
    rw [List.take_left] at h1
    rw [← h1, ← h.words, show 64 * (l.length / 64) = l.length by omega, List.drop_left, blocksK_take K m V p (Nat.le_refl _)]
  · rw [List.take_zero, List.drop_of_length_le (by rw [List.length_append, hl]; omega)]
end Sha
end Go.Proofs.YteodhonipbdplaaGreatDoor

/- copy into a row of bytes. -/
namespace Go.Proofs.YteodhonipbdplaaGreatDoor
open Go.RowKit
set_option maxRecDepth 100000
theorem Bs.ofRowBlk {w : World} {g : Nat} {t : TypeId} {l : List UInt8} {n : Nat} (hl : l.length = n) (h : Blk w g t (bvs l).toArray) (hm : l.length ≤ 9223372036854775807 := by omega) : Bs w w.heap.size (.slice (some ⟨g, 0, none⟩) n n) l := by
  subst hl
  refine ⟨_, _, rfl, Nat.le_refl _, hm, fun hl => ⟨g, 0, rfl, h.lt, fun k hk => ?_⟩⟩
  rw [Nat.zero_add, h.cell k]
  have := bvs_get l k hk
  simpa using this
theorem info1R : (Tryz.prog.info? 5).map (·.size) = some 1 := by kernel_rfl
section
variable {w : World} {g : Nat} {t : TypeId} {L p : List UInt8}
theorem grown_setRowR {a : World} (h : a.grownBy w (some g)) (cs : Array Value) : a.grownBy (w.setRow g cs) (some g) :=
  ⟨h.os, h.tape, h.output, by simpa [World.setRow] using h.size, fun i hi hne => (setRow_other w g i cs (by rintro rfl; exact hne rfl)).trans (h.block i hi hne)⟩
/-- a block of one's own, made behind a, may turn too -/
theorem grown_two {a b c : World} {r : Option Nat} {k : Nat} (h : a.grownBy b r) (h2 : b.grownBy c (some k)) (hk : a.heap.size ≤ k) : a.grownBy c r :=
  ⟨h2.os.trans h.os, h2.tape.trans h.tape, h2.output.trans h.output, Nat.le_trans h.size h2.size, fun i hi hne => (h2.block i (Nat.lt_of_lt_of_le hi h.size) (by intro e; injection e with e; omega)).trans (h.block i hi hne)⟩
theorem copyRowRun {o dLen dCap gp op sLen sCap B q : Nat} (ty : TypeId) (hd : Blk w g t (bvs L).toArray) (hp : Bs w B (.slice (some ⟨gp, op, none⟩) sLen sCap) p) (hq : q = min sLen dLen) (hfit : o + q ≤ L.length) :
    ∃ w', (Builtin.copy_ #[23, 23] ty #[.slice (some ⟨g, o, none⟩) dLen dCap, .slice (some ⟨gp, op, none⟩) sLen sCap]).run Tryz.prog w = .ok (goInt q) w' ∧ Blk w' g t (bvs (Sha.over L o (p.take q))).toArray ∧ w.grownBy w' (some g) := by
  obtain ⟨A2, c2, he, hl, hc, hcell⟩ := hp
  injection he with e1 e2 e3
  have hlen : (p.take q).length = q := by rw [List.length_take]; omega
  have hrun := run_copy_row (P := Tryz.prog) w 23 23 ty 5 g o dLen dCap ⟨gp, op, none⟩ sLen sCap (bvs L).toArray t (bvs (p.take q)) Tryz.underlying23 info1R hd
    (by rw [bvs_length, hlen]; exact hq) (fun j v hj => by
      have hjq : j < (p.take q).length := by have := (List.getElem?_eq_some_iff.1 hj).1; rwa [bvs_length] at this
      have hjp : j < p.length := by omega
      obtain ⟨g2, o2, hA, _, hc2⟩ := hcell (by omega)
      rw [← e1] at hA
      injection hA with hA
      injection hA with e4 e5 _
      subst e4 e5
      rw [bvs_get _ j hjq] at hj
      obtain rfl := Option.some.inj hj
      have h1 := hc2 j hjp
      have e6 : (⟨gp, op, none⟩ : Addr).add j = ⟨gp, op + j, none⟩ := by
        unfold Addr.add
        split
        · next h0 => subst h0; rfl
        · rfl
      rw [e6, h1, List.getElem_take]) (by rw [bvs_length, hlen]; simpa [bvs] using hfit) (bvs_one _)
  rw [bvs_length, hlen] at hrun
  refine ⟨_, hrun, ?_, ?_⟩
  · have e : (bvs L).take o ++ (bvs (p.take q) ++ (bvs L).drop (o + q)) = bvs (Sha.over L o (p.take q)) := by
      unfold Sha.over
      rw [hlen]
      simp [bvs]
    have h1 := setRow_heap w g _ ((bvs L).take o ++ (bvs (p.take q) ++ (bvs L).drop (o + q))).toArray _ _ hd
    rw [e] at h1
    have h2 : Blk (w.setRow g (bvs (Sha.over L o (p.take q))).toArray) g t (bvs (Sha.over L o (p.take q))).toArray := h1
    rw [← e] at h2
    simpa [e] using h2
  · exact grown_setRowR (grown_refl w (some g)) _
theorem wpList_copyR {ops : Array Oper} {rest : List Oper} {o : Oper} {a : Act} {Q : Exit → Act → World → Prop} {w : World} (hgd : o.guard = none) (d s : Operand)
    (ho : o.op = .call { callee := .builtin .copy, args := #[d, s], argTypes := #[23, 23] })
    {g k dLen dCap gp op sLen sCap B q : Nat} {t : TypeId} {L p : List UInt8} (hd : a.eval d = .slice (some ⟨g, k, none⟩) dLen dCap) (hs : a.eval s = .slice (some ⟨gp, op, none⟩) sLen sCap)
    (hD : Blk w g t (bvs L).toArray) (hp : Bs w B (.slice (some ⟨gp, op, none⟩) sLen sCap) p) (hq : q = min sLen dLen) (hfit : k + q ≤ L.length)
    (h : ∀ w', Blk w' g t (bvs (Sha.over L k (p.take q))).toArray → w.grownBy w' (some g) → wpList Tryz.prog ops Q rest (a.put o.dst (goInt q)) w') :
    wpList Tryz.prog ops Q (o :: rest) a w := by
  refine wpList_plain hgd fun K hK => ?_
  obtain ⟨w', hr, h2, h3⟩ := copyRowRun (dCap := dCap) o.type hD hp hq hfit
  unfold Oper.wp execOp
  simp only [ho, resolve, invoke, builtin, Sem.run_bind, Sem.run_pure, Result.andThen_ok, List.map_toArray, List.map_cons, List.map_nil, hd, hs, hr]
  exact hK _ _ (h w' h2 h3)
end
end Go.Proofs.YteodhonipbdplaaGreatDoor

/- base 32: the steps of Encode's loop. -/
namespace Go.Proofs.YteodhonipbdplaaGreatDoor
open Go.RowKit
set_option maxRecDepth 100000
def sliceLen32 : Value → Nat
  | .slice _ n _ => n
  | _ => 0
theorem eightSets {D : List UInt8} {m : Nat} {a v0 v1 v2 v3 v4 v5 v6 v7 : Nat} (ha : D.length = a) :
    ((((((((D ++ List.replicate (m + 8) 0).set (a + 7) (UInt8.ofNat v7)).set (a + 6) (UInt8.ofNat v6)).set (a + 5) (UInt8.ofNat v5)).set (a + 4) (UInt8.ofNat v4)).set (a + 3) (UInt8.ofNat v3)).set (a + 2) (UInt8.ofNat v2)).set (a + 1) (UInt8.ofNat v1)).set a (UInt8.ofNat v0) = (D ++ [UInt8.ofNat v0, UInt8.ofNat v1, UInt8.ofNat v2, UInt8.ofNat v3, UInt8.ofNat v4, UInt8.ofNat v5, UInt8.ofNat v6, UInt8.ofNat v7]) ++ List.replicate m 0 := by
  subst ha
  have e : (List.replicate (m + 8) 0 : List UInt8) = 0 :: 0 :: 0 :: 0 :: 0 :: 0 :: 0 :: 0 :: List.replicate m 0 := by
    rw [List.replicate_succ, List.replicate_succ, List.replicate_succ, List.replicate_succ, List.replicate_succ, List.replicate_succ, List.replicate_succ, List.replicate_succ]
  rw [e]
  simp [List.set_append_right]
section
variable {w : World} {M l : List UInt8} {g gd gs : Nat} {t : TypeId} {S : ByteArray}
/-- what Encode goes by: the letters, five bytes, the row -/
structure E5 (W : World) (g gd gs os : Nat) (t : TypeId) (S : ByteArray) (d0 d1 d2 d3 d4 : Nat) (L : List UInt8) : Prop where
  str : W.cell? ⟨g, 0, none⟩ = some (.string S)
  y0 : W.cell? ⟨gs, os, none⟩ = some (.int .u8 (d0 : Int))
  y1 : W.cell? ⟨gs, os + 1, none⟩ = some (.int .u8 (d1 : Int))
  y2 : W.cell? ⟨gs, os + 2, none⟩ = some (.int .u8 (d2 : Int))
  y3 : W.cell? ⟨gs, os + 3, none⟩ = some (.int .u8 (d3 : Int))
  y4 : W.cell? ⟨gs, os + 4, none⟩ = some (.int .u8 (d4 : Int))
  row : Blk W gd t (bvs L).toArray
theorem E5.put {W : World} {os d0 d1 d2 d3 d4 k n : Nat} {L : List UInt8} (h : E5 W g gd gs os t S d0 d1 d2 d3 d4 L) (hg : g ≠ gd) (hs : gs ≠ gd) (hn : n ≤ 255) : E5 (W.setCell ⟨gd, k, none⟩ (.int .u8 (n : Int))).drew g gd gs os t S d0 d1 d2 d3 d4 (L.set k (UInt8.ofNat n)) :=
  ⟨far1 hg h.str, far1 hs h.y0, far1 hs h.y1, far1 hs h.y2, far1 hs h.y3, far1 hs h.y4, byteSet h.row (by omega)⟩
theorem e5Start {wr : World} {os ns cs nd d0 d1 d2 d3 d4 : Nat} {a0 a1 a2 a3 a4 : UInt8} {r D : List UInt8} (hg : g ≠ gd) (hs : gs ≠ gd) (hc : w.cell? ⟨g, 0, none⟩ = some (.string S))
    (h0 : d0 = a0.toNat) (h1 : d1 = a1.toNat) (h2 : d2 = a2.toNat) (h3 : d3 = a3.toNat) (h4 : d4 = a4.toNat)
    (hB : Bs w w.heap.size (.slice (some ⟨gs, os, none⟩) ns cs) (a0 :: a1 :: a2 :: a3 :: a4 :: r)) (hK : Blk wr gd t (bvs (D ++ List.replicate nd 0)).toArray) (hG : w.grownBy wr (some gd)) :
    E5 wr g gd gs os t S d0 d1 d2 d3 d4 (D ++ List.replicate nd 0) := by
  subst h0 h1 h2 h3 h4
  have hglt := World.block_lt_of_cell? w _ hc
  have hb : wr.heap[g]? = w.heap[g]? := hG.block g hglt (by intro e; injection e with e; exact hg e)
  have hcell : wr.cell? ⟨g, 0, none⟩ = w.cell? ⟨g, 0, none⟩ := by unfold World.cell?; rw [hb]
  have hB2 := hB.keepRow hG (Nat.le_refl _) (.inr (.inl (by simp [Value.ownBlock]; exact hs)))
  obtain ⟨A2, c2, he, _, _, hx⟩ := hB2
  injection he with e1 e2 e3
  obtain ⟨g2, o2, hA, _, hy⟩ := hx (by simp)
  rw [← e1] at hA
  injection hA with hA
  injection hA with e4 e5 _
  subst e4 e5
  exact ⟨hcell.trans hc, hy 0 (by simp), hy 1 (by simp), hy 2 (by simp), hy 3 (by simp), hy 4 (by simp), hK⟩
theorem sliceDst {nd a : Nat} (h : 8 ≤ nd) : ∃ o8, (∀ W : World, (Instr.slice 23 (.slice (some ⟨gd, a, none⟩) nd nd) (some (.int .i64 8)) none none).run Tryz.prog W = .ok (.slice (some ⟨gd, o8, none⟩) (nd - 8) (nd - 8)) W) ∧ (0 < nd - 8 → o8 = a + 8) := by
  obtain ⟨i0, hi, hz0, hz1, hz2⟩ := info_parts Tryz.info5
  have hs : Tryz.prog.elem 23 = 5 := by kernel_rfl
  have hu : Tryz.prog.underlying 23 = some (.slice (Tryz.prog.elem 23)) := by rw [hs]; exact Tryz.underlying23
  have e : (⟨gd, a, none⟩ : Addr).add 8 = ⟨gd, a + 8, none⟩ := rfl
  have hrun : ∀ W : World, (Instr.slice 23 (.slice (some ⟨gd, a, none⟩) nd nd) (some (.int .i64 8)) none none).run Tryz.prog W = .ok (.slice (if nd = 8 then some ⟨gd, a, none⟩ else some ⟨gd, a + 8, none⟩) (nd - 8) (nd - 8)) W := fun W => by
    rw [run_slice_l W 23 _ nd nd hu .i64 8 (by omega) (by omega)]
    simp [hs, sizeOf, typeInfo, sliced, hi, hz1, e]
  by_cases h8 : nd = 8
  · exact ⟨a, fun W => by rw [hrun W, if_pos h8], fun h => by omega⟩
  · exact ⟨a + 8, fun W => by rw [hrun W, if_neg h8], fun _ => rfl⟩
theorem fiveNext {E D r : List UInt8} {a0 a1 a2 a3 a4 : UInt8} {d0 d1 d2 d3 d4 x0 x1 x2 x3 x4 x5 x6 x7 : Nat} (hE : E = D ++ (B32.five (a0 :: a1 :: a2 :: a3 :: a4 :: r)).map (B32.letter B32.alpha))
    (h0 : d0 = a0.toNat) (h1 : d1 = a1.toNat) (h2 : d2 = a2.toNat) (h3 : d3 = a3.toNat) (h4 : d4 = a4.toNat)
    (y0 : x0 = (B32.letter B32.alpha (d0 / 8)).toNat) (y1 : x1 = (B32.letter B32.alpha (d0 % 8 * 4 + d1 / 64)).toNat) (y2 : x2 = (B32.letter B32.alpha (d1 / 2 % 32)).toNat) (y3 : x3 = (B32.letter B32.alpha (d1 % 2 * 16 + d2 / 16)).toNat)
    (y4 : x4 = (B32.letter B32.alpha (d2 % 16 * 2 + d3 / 128)).toNat) (y5 : x5 = (B32.letter B32.alpha (d3 / 4 % 32)).toNat) (y6 : x6 = (B32.letter B32.alpha (d3 % 4 * 8 + d4 / 32)).toNat) (y7 : x7 = (B32.letter B32.alpha (d4 % 32)).toNat) :
    E = (D ++ [UInt8.ofNat x0, UInt8.ofNat x1, UInt8.ofNat x2, UInt8.ofNat x3, UInt8.ofNat x4, UInt8.ofNat x5, UInt8.ofNat x6, UInt8.ofNat x7]) ++ (B32.five r).map (B32.letter B32.alpha) := by
  subst h0 h1 h2 h3 h4 y0 y1 y2 y3 y4 y5 y6 y7
  rw [hE, B32.five]
  simp
end
end Go.Proofs.YteodhonipbdplaaGreatDoor
