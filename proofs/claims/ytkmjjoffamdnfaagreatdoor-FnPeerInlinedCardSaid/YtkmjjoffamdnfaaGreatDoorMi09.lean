/- The library's blockGeneric. -/
import Derived.Test.YtkmjjoffamdnfaaGreatDoorMi07
import Derived.Test.YtkmjjoffamdnfaaGreatDoorMi08
import Derived.Deep.CutBlock
import Derived.Deep.DeepCutAuto
import Derived.Deep.RegionHeld3
import Derived.Deep.DrawnRows
import Derived.BigRegion
import Derived.StillTailTactics
namespace Go.Proofs.YtkmjjoffamdnfaaGreatDoor
open Go.RowKit
set_option maxRecDepth 100000
attribute [local go_sem ↓] Go.wp_at_zero Go.wp_at_succ
attribute [local irreducible] Sha.sched
section
variable {w : World} {V : Sha.V} {A : Option Addr} {c g m : Nat} {l : List UInt8} {K : List Nat} {T : List Value}
set_option maxHeartbeats 60000000 in
theorem blockGeneric (hV : V.ok) (hK : K.length = 64) (hKs : Sha.Small K) (hgk : g ≠ 19) (hg : Blk w g 160 (u32s V.list ++ T).toArray) (hk : Blk w 19 100 (u32s K).toArray) (h : Bs w w.heap.size (.slice A (64 * m) c) l) (hl : l.length = 64 * m) :
    Calls Tryz.prog 78 #[.pointer (some ⟨g, 0, none⟩), .slice A (64 * m) c] w fun e w' => e = .returned (.tuple #[]) ∧ Blk w' g 160 (u32s (Sha.blocksK K m V l).list ++ T).toArray ∧ w.grownBy w' (some g) := by
  obtain ⟨n, hn⟩ : ∃ n, n = 64 * m := ⟨_, rfl⟩
  have hm' := h.len_le
  rw [← hn] at h hl ⊢
  have Hn := Lib.hid hn
  have H := Lib.hid h
  have Hl := Lib.hid hl
  have HV := Lib.hid hV
  have HKs := Lib.hid hKs
  have HK := Lib.hid hK
  obtain ⟨A', n', c', he', hn', hc', hm63⟩ := h.form'
  injection he' with e1 e2 e3
  subst e1 e2 e3
  clear hn'
  have Kg := Lib.hid hg
  have Kk := Lib.hid hk
  have x0 := hCell hg (k := 0) (by simp [Sha.V.list])
  have x1 := hCell hg (k := 1) (by simp [Sha.V.list])
  have x2 := hCell hg (k := 2) (by simp [Sha.V.list])
  have x3 := hCell hg (k := 3) (by simp [Sha.V.list])
  have x4 := hCell hg (k := 4) (by simp [Sha.V.list])
  have x5 := hCell hg (k := 5) (by simp [Sha.V.list])
  have x6 := hCell hg (k := 6) (by simp [Sha.V.list])
  have x7 := hCell hg (k := 7) (by simp [Sha.V.list])
  simp only [Sha.V.list, List.getElem_cons_zero, List.getElem_cons_succ] at x0 x1 x2 x3 x4 x5 x6 x7
  have hlt := hg.lt
  have hltk := hk.lt
  clear hn hg hk h hl hV hKs hK hm'
  obtain ⟨w1, hw1⟩ : ∃ w1, w1 = w.alloc (.cells #[.int .u32 0, .int .u32 0, .int .u32 0, .int .u32 0, .int .u32 0, .int .u32 0, .int .u32 0, .int .u32 0, .int .u32 0, .int .u32 0, .int .u32 0, .int .u32 0, .int .u32 0, .int .u32 0, .int .u32 0, .int .u32 0, .int .u32 0, .int .u32 0, .int .u32 0, .int .u32 0, .int .u32 0, .int .u32 0, .int .u32 0, .int .u32 0, .int .u32 0, .int .u32 0, .int .u32 0, .int .u32 0, .int .u32 0, .int .u32 0, .int .u32 0, .int .u32 0, .int .u32 0, .int .u32 0, .int .u32 0, .int .u32 0, .int .u32 0, .int .u32 0, .int .u32 0, .int .u32 0, .int .u32 0, .int .u32 0, .int .u32 0, .int .u32 0, .int .u32 0, .int .u32 0, .int .u32 0, .int .u32 0, .int .u32 0, .int .u32 0, .int .u32 0, .int .u32 0, .int .u32 0, .int .u32 0, .int .u32 0, .int .u32 0, .int .u32 0, .int .u32 0, .int .u32 0, .int .u32 0, .int .u32 0, .int .u32 0, .int .u32 0, .int .u32 0] 100) := ⟨_, rfl⟩
  have ya : ∀ k, w1.cell? ⟨g, k, none⟩ = w.cell? ⟨g, k, none⟩ := fun k => by rw [hw1]; exact World.cell?_alloc_lt w _ _ hlt
  have y0 := (ya 0).trans x0
  have y1 := (ya 1).trans x1
  have y2 := (ya 2).trans x2
  have y3 := (ya 3).trans x3
  have y4 := (ya 4).trans x4
  have y5 := (ya 5).trans x5
  have y6 := (ya 6).trans x6
  have y7 := (ya 7).trans x7
  clear ya x0 x1 x2 x3 x4 x5 x6 x7
  have B := Lib.hid (show Below w.heap.size w w1 by rw [hw1]; exact below_alloc _ _)
  have Kw := Lib.hid (show Blk w1 w.heap.size 100 (u32s (List.replicate 64 0)).toArray by rw [hw1]; exact Blk.new _ _ _)
  have Hw1 := Lib.hid hw1
  clear hw1
  go_enter Tryz.func78, Tryz.ntmps78
  go_upto_region 1 with fail
  rw [← Hw1.out]
  clear Hw1
  refine bgStartT _ _ _ _ _ _ _ _ _ _ _ _ _ _ _ _ _ _ _ _ _ _ _ _ _ _ _ _ _ _ _ _ _ _ _ _ _ _ _ _ _ _ _ _ _ _ _ _ _ _ _ _ _ _ _ _ _ _ _ _ _ _ _ _ _ _ _ _ _ _ _ _ _ _ _ _ _ _ _ _ _ _ _ _ _ _ _ _ _ _ _ _ _ _ _ _ _ _ _ _ _ _ _ _ _ _ _ _ _ _ _ _ _ _ _ _ _ _ _ _ _ _ _ _ _ _ _ _ _ _ _ _ _ _ _ _ _ _ _ _ _ _ _ _ _ _ _ _ _ _ _ _ _ _ _ _ _ _ _ _ _ _ _ _ _ _ _ _ _ _ _ _ _ _ _ _ _ _ _ _ _ _ _ _ _ _ _ _ _ _ _ _ _ _ _ _ _ _ _ _ _ _ _ _ _ _ _ _ _ _ _ _ _ _ _ _ _ _ _ _ _ _ _ _ _ _ _ _ _ _ _ _ _ _ _ _ _ _ _ _ _ _ _ _ _ _ _ _ _ _ _ _ _ _ _ _ _ _ _ _ _ _ _ _ _ _ _ _ _ _ _ _ _ _ _ _ _ _ _ _ _ _ y0 y1 y2 y3 y4 y5 y6 y7 (Lib.hid ?_)
  clear y0 y1 y2 y3 y4 y5 y6 y7
  intro u29 u30 u31 u32 u33 u34 u35 u36 u37 u38 u39 u40 u41 u42 u43 u44 u45 u46 u47 u48 u49 u50 u51 u52 u53 u54 u55 u56 u57 u58 u59 u60 u61 u62 u63 u64 u65 u66 u67 u68 nq
  dsimp only
  have Kw2 := Lib.hid (Kw.out.drewN nq)
  have B2 := Lib.hid (below_drewN B.out nq)
  clear Kw B
  generalize w1.drewN nq = w2 at *
  clear nq w1
  have H2 := Lib.hid (H.out.below B2.out)
  have Kk2 := Lib.hid (Kk.out.below B2.out hltk)
  have Kg2 := Lib.hid (Kg.out.below B2.out hlt)
  clear H Kk Kg
  obtain ⟨gw, hgw⟩ : ∃ g, g = w.heap.size := ⟨_, rfl⟩
  rw [← hgw] at hlt hltk Kw2 H2 ⊢
  have Hgw := Lib.hid hgw
  clear hgw
  have hgw2 : gw < w2.heap.size := Kw2.out.lt
  go_upto_block 0 with fail
  go_cut [5, 6, 7, 8, 9, 10, 11, 12] (fun s5 s6 s7 s8 s9 s10 s11 s12 wx => ∃ U : Sha.V, s5 = .int .u32 ((U.a : Nat) : Int) ∧ s6 = .int .u32 ((U.b : Nat) : Int) ∧ s7 = .int .u32 ((U.c : Nat) : Int) ∧ s8 = .int .u32 ((U.d : Nat) : Int) ∧ s9 = .int .u32 ((U.e : Nat) : Int) ∧ s10 = .int .u32 ((U.f : Nat) : Int) ∧ s11 = .int .u32 ((U.g : Nat) : Int) ∧ s12 = .int .u32 ((U.h : Nat) : Int) ∧ Hid (U = Sha.blocksK K m V l) ∧ Hid (w2.grownBy wx (some gw)))
  case first =>
    have G0 := Lib.hid (grown_refl w2 (some gw))
    go_wp2_with fail
    go_loopw [1, 5, 6, 7, 8, 9, 10, 11, 12] (fun s1 s5 s6 s7 s8 s9 s10 s11 s12 wr => ∃ (k : Nat) (A' : Option Addr) (n' c' : Nat) (U : Sha.V) (WL : List Nat), k ≤ m ∧ s1 = .slice A' n' c' ∧ s5 = .int .u32 ((U.a : Nat) : Int) ∧ s6 = .int .u32 ((U.b : Nat) : Int) ∧ s7 = .int .u32 ((U.c : Nat) : Int) ∧ s8 = .int .u32 ((U.d : Nat) : Int) ∧ s9 = .int .u32 ((U.e : Nat) : Int) ∧ s10 = .int .u32 ((U.f : Nat) : Int) ∧ s11 = .int .u32 ((U.g : Nat) : Int) ∧ s12 = .int .u32 ((U.h : Nat) : Int) ∧ Hid (n' = 64 * (m - k)) ∧ n' ≤ c' ∧ c' ≤ 9223372036854775807 ∧ Hid (U = Sha.blocksK K k V l) ∧ Hid (Bs w2 gw (.slice A' n' c') (l.drop (64 * k))) ∧ Hid (WL.length = 64) ∧ Hid (Blk wr gw 100 (u32s WL).toArray) ∧ Hid (w2.grownBy wr (some gw))) (fun s1 _ _ _ _ _ _ _ _ _ => sliceLen' s1)
    case atStart => exact ⟨0, A, n, c, V, List.replicate 64 0, Nat.zero_le _, rfl, rfl, rfl, rfl, rfl, rfl, rfl, rfl, rfl, Hn, hc', hm63, Lib.hid rfl, H2, Lib.hid (by simp), Kw2, G0⟩
    case round =>
      clear Kw2 G0
      obtain ⟨k, A', n', c', U, WL, hk, rfl, rfl, rfl, rfl, rfl, rfl, rfl, rfl, rfl, Hn', hnc, hc63, HU, HB, HWL, KW, G⟩ := hrel
      obtain ⟨wo, rfl⟩ : ∃ wo : World, wo = wr := ⟨_, rfl⟩
      by_cases hlt2 : k < m
      · have h64 : (64 : Int) ≤ (n' : Int) := by rw [Hn'.out]; omega
        have HUo := Lib.hid (show U.ok by rw [HU.out]; exact Sha.blocksK_ok K k HV.out l)
        obtain ⟨lb, hlb⟩ : ∃ lb, lb = (l.drop (64 * k)).take 64 := ⟨_, rfl⟩
        have Hll := Lib.hid (show lb.length = 64 by rw [hlb, List.length_take, List.length_drop, Hl.out, Hn.out]; omega)
        have HU1 := Lib.hid (show Sha.blocksK K (k + 1) V l = U.add (Sha.roundsK K (Sha.sched lb 48) 64 U) by rw [Sha.blocksK_succ, ← HU.out, hlb]; rfl)
        have Hlb := Lib.hid hlb
        clear hlb
        go_upto_block 2 with fail
        go_cut [13, 14, 15, 16, 17, 18, 19, 20] (fun s13 s14 s15 s16 s17 s18 s19 s20 wx => ∃ (R : Sha.V) (WL : List Nat), s13 = .int .u32 ((R.a : Nat) : Int) ∧ s14 = .int .u32 ((R.b : Nat) : Int) ∧ s15 = .int .u32 ((R.c : Nat) : Int) ∧ s16 = .int .u32 ((R.d : Nat) : Int) ∧ s17 = .int .u32 ((R.e : Nat) : Int) ∧ s18 = .int .u32 ((R.f : Nat) : Int) ∧ s19 = .int .u32 ((R.g : Nat) : Int) ∧ s20 = .int .u32 ((R.h : Nat) : Int) ∧ Hid (R = Sha.roundsK K (Sha.sched lb 48) 64 U) ∧ Hid (WL.length = 64) ∧ Hid (Blk wx gw 100 (u32s WL).toArray) ∧ Hid (wo.grownBy wx (some gw)))
        case first =>
          have G1 := Lib.hid (grown_refl wo (some gw))
          have P0 := Lib.hid (show Sha.Pre WL lb 0 from fun j hj => by omega)
          go_wp2_with fail
          go_loopw [13, 14, 15, 16, 17, 18, 19, 20, 80] (fun s13 s14 s15 s16 s17 s18 s19 s20 s80 wi => ∃ (i : Nat) (R : Sha.V) (WL : List Nat), i ≤ 64 ∧ s13 = .int .u32 ((R.a : Nat) : Int) ∧ s14 = .int .u32 ((R.b : Nat) : Int) ∧ s15 = .int .u32 ((R.c : Nat) : Int) ∧ s16 = .int .u32 ((R.d : Nat) : Int) ∧ s17 = .int .u32 ((R.e : Nat) : Int) ∧ s18 = .int .u32 ((R.f : Nat) : Int) ∧ s19 = .int .u32 ((R.g : Nat) : Int) ∧ s20 = .int .u32 ((R.h : Nat) : Int) ∧ s80 = .int .i64 (i : Int) ∧ Hid (R = Sha.roundsK K (Sha.sched lb 48) i U) ∧ Hid (WL.length = 64) ∧ Hid (Sha.Pre WL lb i) ∧ Hid (Blk wi gw 100 (u32s WL).toArray) ∧ Hid (wo.grownBy wi (some gw))) (fun _ _ _ _ _ _ _ _ s80 _ => 64 - (intOf s80).toNat)
          case atStart => exact ⟨0, U, WL, Nat.zero_le _, rfl, rfl, rfl, rfl, rfl, rfl, rfl, rfl, rfl, Lib.hid rfl, HWL, P0, KW, G1⟩
          case round =>
            clear KW G1 P0 HWL
            obtain ⟨i, R, WL, hi, rfl, rfl, rfl, rfl, rfl, rfl, rfl, rfl, rfl, HR, HWL, HP, KW, G1⟩ := hrel
            by_cases hi64 : i < 64
            · skip
              have hsw := G.out.size
              have hs1 := G1.out.size
              have HBr := Lib.hid ((HB.out.grown G.out (Nat.le_of_lt hgw2) (fun k e => by injection e with e; omega)).grown G1.out (by omega) (fun k e => by injection e with e; omega))
              have hdl : (l.drop (64 * k)).length = 64 * (m - k) := by rw [List.length_drop, Hl.out, Hn.out]; omega
              have hlx : 64 ≤ (l.drop (64 * k)).length := by rw [hdl]; omega
              have hn64 : 64 ≤ n' := by omega
              have hw0 : (0 : Int) ≤ (i : Int) := by omega
              have hw64 : (i : Int) < 64 := by omega
              have Hdl := Lib.hid hdl
              have Hlx := Lib.hid hlx
              clear hdl hlx
              go_upto_if 84 with fail
              refine bgWay _ _ _ _ _ _ _ _ _ _ _ _ _ _ _ _ _ _ _ _ _ _ _ _ _ _ _ _ _ _ _ _ _ _ _ _ _ _ _ _ _ _ _ _ _ _ _ _ _ _ _ _ _ _ _ _ _ _ _ _ _ _ _ _ _ _ _ _ _ _ _ _ _ _ _ _ _ _ _ _ _ _ _ _ _ _ _ _ _ _ _ _ _ _ _ _ _ _ _ _ _ _ _ _ _ _ _ _ _ _ _ _ _ _ _ _ _ _ _ _ _ _ _ _ _ _ _ _ _ _ _ _ _ _ _ _ _ _ _ _ _ _ _ _ _ _ _ _ _ _ _ _ _ _ _ _ _ _ _ _ _ _ _ _ _ _ _ _ _ _ _ _ _ _ _ _ _ _ _ _ _ _ _ _ _ _ _ _ _ _ _ _ _ _ _ _ _ _ _ _ _ _ _ _ _ _ _ _ _ _ _ _ _ _ _ _ _ _ _ _ _ _ _ _ _ _ _ _ _ _ _ _ _ _ _ _ _ _ _ _ _ _ _ _ _ _ _ _ _ _ _ _ _ _ _ _ _ _ _ _ _ _ _ _ _ _ _ _ _ _ _ _ _ _ _ _ _ _ _ hi64 HBr hn64 Hlx.out Hlb HWL HP KW ?_
              clear KW HWL HP HBr
              intro u22 u23 u24 u25 u26 u85 u86 u87 u88 u89 u90 u91 u92 u93 u94 u95 u96 u97 u98 u99 u100 u101 u102 u103 u104 u105 u106 u107 u108 u109 u110 u111 u112 u113 u114 u115 u116 u117 u118 u119 u120 u121 u122 u123 u124 u125 u126 u127 u128 u129 u130 u131 u132 u133 u134 u135 u136 u137 u138 u139 u140 u141 u142 u143 u144 u145 u146 u147 u148 u149 u150 u151 u152 u153 u154 u155 u156 wx ⟨WL, HWL, HP, KW, G3⟩
              dsimp only
              replace G1 := Lib.hid (G1.out.trans G3.out)
              clear G3
              have HRo := Lib.hid (show R.ok by rw [HR.out]; exact HUo.out.roundsK i)
              have HR1 := Lib.hid (show Sha.round R (K.getD i 0) ((Sha.sched lb 48).getD i 0) = Sha.roundsK K (Sha.sched lb 48) (i + 1) U by rw [HR.out]; rfl)
              have xk : wx.cell? ⟨19, i, none⟩ = some (.int .u32 ((K.getD i 0 : Nat) : Int)) := by
                have hik : i < K.length := by rw [HK.out]; exact hi64
                rw [wCell ((Kk2.out.grown G.out (by intro e; injection e with e; omega)).grown G1.out (by intro e; injection e with e; omega)) hik]
                simp [List.getD, hik]
              have xw : wx.cell? ⟨gw, i, none⟩ = some (.int .u32 (((Sha.sched lb 48).getD i 0 : Nat) : Int)) := by
                have hj' : i < WL.length := by rw [HWL.out]; exact hi64
                rw [wCell KW.out hj', ← HP.out i (by omega)]
                simp [List.getD, hj']
              have mk := HKs.out.getD i
              have mw := sched_all_small (b := lb) i
              generalize K.getD i 0 = kv at *
              generalize (Sha.sched lb 48).getD i 0 = wv at *
              go_upto_region 15 with fail
              refine bgOneT _ _ _ _ _ _ _ _ _ _ _ _ _ _ _ _ _ _ _ _ _ _ _ _ _ _ _ _ _ _ _ _ _ _ _ _ _ _ _ _ _ _ _ _ _ _ _ _ _ _ _ _ _ _ _ _ _ _ _ _ _ _ _ _ _ _ _ _ _ _ _ _ _ _ _ _ _ _ _ _ _ _ _ _ _ _ _ _ _ _ _ _ _ _ _ _ _ _ _ _ _ _ _ _ _ _ _ _ _ _ _ _ _ _ _ _ _ _ _ _ _ _ _ _ _ _ _ _ _ _ _ _ _ _ _ _ _ _ _ _ _ _ _ _ _ _ _ _ _ _ _ _ _ _ _ _ _ _ _ _ _ _ _ _ _ _ _ _ _ _ _ _ _ _ _ _ _ _ _ _ _ _ _ _ _ _ _ _ _ _ _ _ _ _ _ _ _ _ _ _ _ _ _ _ _ _ _ _ _ _ _ _ _ _ _ _ _ _ _ _ _ _ _ _ _ _ _ _ _ _ _ _ _ _ _ _ _ _ _ _ _ _ _ _ _ _ _ _ _ _ _ _ _ _ _ _ _ _ _ _ _ _ _ _ _ _ _ _ _ _ _ _ _ hi64 HRo xk xw mk mw (Lib.hid ?_)
              intro u157 u158 u159 u160 u161 u162 u163 u164 u165 u166 u167 u168 u169 u170 u171 u172 u173 u174 u175 u176 u177 u178 u179 u180 u181 u182 u183 nq
              dsimp only
              have mo : Sha.one R kv wv < 4294967296 := Sha.wadd_lt _ _
              generalize hone : Sha.one R kv wv = ov at *
              have Hone := Lib.hid hone
              clear hone
              replace KW := Lib.hid (KW.out.drewN nq)
              replace G1 := Lib.hid (grown_drewN G1.out nq)
              clear xk xw
              generalize wx.drewN nq = we at *
              go_upto_region 16 with fail
              refine bgTwoT _ _ _ _ _ _ _ _ _ _ _ _ _ _ _ _ _ _ _ _ _ _ _ _ _ _ _ _ _ _ _ _ _ _ _ _ _ _ _ _ _ _ _ _ _ _ _ _ _ _ _ _ _ _ _ _ _ _ _ _ _ _ _ _ _ _ _ _ _ _ _ _ _ _ _ _ _ _ _ _ _ _ _ _ _ _ _ _ _ _ _ _ _ _ _ _ _ _ _ _ _ _ _ _ _ _ _ _ _ _ _ _ _ _ _ _ _ _ _ _ _ _ _ _ _ _ _ _ _ _ _ _ _ _ _ _ _ _ _ _ _ _ _ _ _ _ _ _ _ _ _ _ _ _ _ _ _ _ _ _ _ _ _ _ _ _ _ _ _ _ _ _ _ _ _ _ _ _ _ _ _ _ _ _ _ _ _ _ _ _ _ _ _ _ _ _ _ _ _ _ _ _ _ _ _ _ _ _ _ _ _ _ _ _ _ _ _ _ _ _ _ _ _ _ _ _ _ _ _ _ _ _ _ _ _ _ _ _ _ _ _ _ _ _ _ _ _ _ _ _ _ _ _ _ _ _ _ _ _ _ _ _ _ _ _ _ _ _ _ _ _ _ _ _ _ _ _ _ _ _ HRo (Lib.hid ?_)
              intro u184 u185 u186 u187 u188 u189 u190 u191 u192 u193 u194 u195 u196 u197 u198 u199 u200 u201 u202 u203
              dsimp only
              go_wp2_with fail
              exact ⟨⟨i + 1, Sha.round R kv wv, WL, by omega, by (first | rw [mod_wadd, ← Hone.out] | rw [u32_wadd, ← Hone.out]); rfl, rfl, rfl, rfl, by (first | rw [mod_wadd, ← Hone.out] | rw [u32_wadd, ← Hone.out]); rfl, rfl, rfl, rfl, by go_num, HR1, HWL, HP, KW, G1⟩, by simp [intOf]; omega⟩
            · obtain rfl : i = 64 := by omega
              go_wp2_with fail
              go_meet
              exact ⟨R, WL, rfl, rfl, rfl, rfl, rfl, rfl, rfl, rfl, HR, HWL, KW, G1⟩
        case rest =>
          clear KW HWL
          obtain ⟨R, WL, rfl, rfl, rfl, rfl, rfl, rfl, rfl, rfl, HR, HWL, KW, G1⟩ := hcut
          obtain ⟨wd, rfl⟩ : ∃ wd : World, wd = wc := ⟨_, rfl⟩
          have hn64 : 64 ≤ n' := by omega
          obtain ⟨A2, hsl0, HB2⟩ := slice_from HB.out (n := 64) hn64
          have hsl : ∀ W : World, (Instr.slice 22 (.slice A' n' c') (some (.int .i64 64)) none none).run Tryz.prog W = .ok (.slice A2 (n' - 64) (c' - 64)) W := fun W => hsl0 W .i64
          rw [List.drop_drop, show 64 * k + 64 = 64 * (k + 1) by omega] at HB2
          have HB3 := Lib.hid HB2
          have HU2 := Lib.hid (show U.add R = Sha.blocksK K (k + 1) V l by rw [HU1.out, HR.out])
          have G2 := Lib.hid (G.out.trans G1.out)
          have Hn2 := Lib.hid (show n' - 64 = 64 * (m - (k + 1)) by rw [Hn'.out]; omega)
          have Hn64 := Lib.hid hn64
          clear hsl0 HB2 hn64 G G1 HB
          go_wp2_with fail
          exact ⟨⟨k + 1, A2, n' - 64, c' - 64, U.add R, WL, by omega, rfl, by (first | rw [mod_wadd] | rw [u32_wadd]); rfl, by (first | rw [mod_wadd] | rw [u32_wadd]); rfl, by (first | rw [mod_wadd] | rw [u32_wadd]); rfl, by (first | rw [mod_wadd] | rw [u32_wadd]); rfl, by (first | rw [mod_wadd] | rw [u32_wadd]); rfl, by (first | rw [mod_wadd] | rw [u32_wadd]); rfl, by (first | rw [mod_wadd] | rw [u32_wadd]); rfl, by (first | rw [mod_wadd] | rw [u32_wadd]); rfl, Hn2, by omega, by omega, HU2, HB3, HWL, KW, G2⟩, by have := Hn64.out; simp [sliceLen']; omega⟩
      · obtain rfl : k = m := by omega
        have hlt3 : (n' : Int) < 64 := by rw [Hn'.out]; omega
        go_wp2_with fail
        go_meet
        exact ⟨U, rfl, rfl, rfl, rfl, rfl, rfl, rfl, rfl, HU, G⟩
  case rest =>
    obtain ⟨U, rfl, rfl, rfl, rfl, rfl, rfl, rfl, rfl, HU, G⟩ := hcut
    obtain ⟨wd, rfl⟩ : ∃ wd : World, wd = wc := ⟨_, rfl⟩
    have Kg3 := Lib.hid (Kg2.out.grown G.out (by intro e; injection e with e; omega))
    have B3 := Lib.hid (grown_of_below (below_grown B2.out G.out (fun k e => by injection e with e; have := Hgw.out; omega)) (some g))
    clear Kg2 Kk2 H2 G B2
    go_upto_region 35 with fail
    refine bgEndT _ _ _ _ _ _ _ _ _ _ _ _ _ _ _ _ _ _ _ _ _ _ _ _ _ _ _ _ _ _ _ _ _ _ _ _ _ _ _ _ _ _ _ _ _ _ _ _ _ _ _ _ _ _ _ _ _ _ _ _ _ _ _ _ _ _ _ _ _ _ _ _ _ _ _ _ _ _ _ _ _ _ _ _ _ _ _ _ _ _ _ _ _ _ _ _ _ _ _ _ _ _ _ _ _ _ _ _ _ _ _ _ _ _ _ _ _ _ _ _ _ _ _ _ _ _ _ _ _ _ _ _ _ _ _ _ _ _ _ _ _ _ _ _ _ _ _ _ _ _ _ _ _ _ _ _ _ _ _ _ _ _ _ _ _ _ _ _ _ _ _ _ _ _ _ _ _ _ _ _ _ _ _ _ _ _ _ _ _ _ _ _ _ _ _ _ _ _ _ _ _ _ _ _ _ _ _ _ _ _ _ _ _ _ _ _ _ _ _ _ _ _ _ _ _ _ _ _ _ _ _ _ _ _ _ _ _ _ _ _ _ _ _ _ _ _ _ _ _ _ _ _ _ _ _ _ _ _ _ _ _ _ _ _ _ _ _ _ _ _ _ _ _ _ Kg3.out (Lib.hid ?_)
    intro u243 u244 u245 u246 u247 u248 u249 u250 u251 u252 u253 u254 u255 u256 u257 u258 u259 u260 u261 u262 u263 u264 u265 u266 u267 u268 u269 u270 u271 u272 u273 u274 u275 u276 u277 u278 u279 u280 u281 u282 wx hb hg
    dsimp only
    go_end0
    exact ⟨rfl, by rw [← HU.out]; exact hb, B3.out.trans hg⟩
end
end Go.Proofs.YtkmjjoffamdnfaaGreatDoor
