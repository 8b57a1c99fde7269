/- base 32: the steps of Encode's tail. -/
import Derived.Test.YteodhonipbdplaaGreatDoorMd07
import Derived.Test.YteodhonipbdplaaGreatDoorMd11
import Derived.Test.YteodhonipbdplaaGreatDoorMd12
namespace Go.Proofs.YteodhonipbdplaaGreatDoor
open Go.RowKit
set_option maxRecDepth 100000
theorem shl31 {d k : Nat} : bits .and .u8 (IntKind.u8.wrap ((d : Int) * (k : Int))) 31 = ((d * k % 256 % 32 : Nat) : Int) := by
  rw [wrapMul, and31 (by omega)]
theorem q6 {d : Nat} : bits .and .u8 (IntKind.u8.wrap ((d : Int) * 8)) 31 = ((d % 4 * 8 : Nat) : Int) := by
  rw [show bits .and .u8 (IntKind.u8.wrap ((d : Int) * 8)) 31 = ((d * 8 % 256 % 32 : Nat) : Int) from shl31]
  omega
theorem orZero {a : Nat} (ha : a ≤ 255) : bits .or .u8 0 (a : Int) = (a : Int) := by
  have := or8 (a := 0) (b := a) (by omega) ha
  rw [Nat.zero_or] at this
  exact this
theorem q4z {d : Nat} : bits .or .u8 0 (bits .and .u8 (IntKind.u8.wrap ((d : Int) * 2)) 31) = ((d % 16 * 2 : Nat) : Int) := by
  rw [show bits .and .u8 (IntKind.u8.wrap ((d : Int) * 2)) 31 = ((d * 2 % 256 % 32 : Nat) : Int) from shl31, orZero (by omega)]
  omega
theorem q3z {d : Nat} : bits .or .u8 0 (bits .and .u8 (IntKind.u8.wrap ((d : Int) * 16)) 31) = ((d % 2 * 16 : Nat) : Int) := by
  rw [show bits .and .u8 (IntKind.u8.wrap ((d : Int) * 16)) 31 = ((d * 16 % 256 % 32 : Nat) : Int) from shl31, orZero (by omega)]
  omega
theorem q1z {d : Nat} : bits .or .u8 0 (bits .and .u8 (IntKind.u8.wrap ((d : Int) * 4)) 31) = ((d % 8 * 4 : Nat) : Int) := by
  rw [show bits .and .u8 (IntKind.u8.wrap ((d : Int) * 4)) 31 = ((d * 4 % 256 % 32 : Nat) : Int) from shl31, orZero (by omega)]
  omega
theorem q3 {c d : Nat} (hd : d ≤ 255) : bits .or .u8 ((d : Int) / 16 % 32) (bits .and .u8 (IntKind.u8.wrap ((c : Int) * 16)) 31) = ((c % 2 * 16 + d / 16 : Nat) : Int) := by
  rw [show bits .and .u8 (IntKind.u8.wrap ((c : Int) * 16)) 31 = ((c * 16 % 256 % 32 : Nat) : Int) from shl31, show (d : Int) / 16 % 32 = ((d / 16 : Nat) : Int) by omega, or8 (by omega) (by omega), show c * 16 % 256 % 32 = 2 ^ 4 * (c % 2) by omega, orAdd (by omega)]
  omega
theorem q1 {c d : Nat} (hd : d ≤ 255) : bits .or .u8 ((d : Int) / 64 % 32) (bits .and .u8 (IntKind.u8.wrap ((c : Int) * 4)) 31) = ((c % 8 * 4 + d / 64 : Nat) : Int) := by
  rw [show bits .and .u8 (IntKind.u8.wrap ((c : Int) * 4)) 31 = ((c * 4 % 256 % 32 : Nat) : Int) from shl31, show (d : Int) / 64 % 32 = ((d / 64 : Nat) : Int) by omega, or8 (by omega) (by omega), show c * 4 % 256 % 32 = 2 ^ 2 * (c % 8) by omega, orAdd (by omega)]
  omega
theorem sets1 {D : List UInt8} {a v0 v1 : Nat} (ha : D.length = a) : ((D ++ List.replicate 2 0).set (a + 1) (UInt8.ofNat v1)).set a (UInt8.ofNat v0) = D ++ [UInt8.ofNat v0, UInt8.ofNat v1] := by
  subst ha; simp [List.set_append_right, List.replicate_succ]
theorem sets2 {D : List UInt8} {a v0 v1 v2 v3 : Nat} (ha : D.length = a) : ((((D ++ List.replicate 4 0).set (a + 3) (UInt8.ofNat v3)).set (a + 2) (UInt8.ofNat v2)).set (a + 1) (UInt8.ofNat v1)).set a (UInt8.ofNat v0) = D ++ [UInt8.ofNat v0, UInt8.ofNat v1, UInt8.ofNat v2, UInt8.ofNat v3] := by
  subst ha; simp [List.set_append_right, List.replicate_succ]
theorem sets3 {D : List UInt8} {a v0 v1 v2 v3 v4 : Nat} (ha : D.length = a) : (((((D ++ List.replicate 5 0).set (a + 4) (UInt8.ofNat v4)).set (a + 3) (UInt8.ofNat v3)).set (a + 2) (UInt8.ofNat v2)).set (a + 1) (UInt8.ofNat v1)).set a (UInt8.ofNat v0) = D ++ [UInt8.ofNat v0, UInt8.ofNat v1, UInt8.ofNat v2, UInt8.ofNat v3, UInt8.ofNat v4] := by
  subst ha; simp [List.set_append_right, List.replicate_succ]
theorem sets4 {D : List UInt8} {a v0 v1 v2 v3 v4 v5 v6 : Nat} (ha : D.length = a) : (((((((D ++ List.replicate 7 0).set (a + 6) (UInt8.ofNat v6)).set (a + 5) (UInt8.ofNat v5)).set (a + 4) (UInt8.ofNat v4)).set (a + 3) (UInt8.ofNat v3)).set (a + 2) (UInt8.ofNat v2)).set (a + 1) (UInt8.ofNat v1)).set a (UInt8.ofNat v0) = D ++ [UInt8.ofNat v0, UInt8.ofNat v1, UInt8.ofNat v2, UInt8.ofNat v3, UInt8.ofNat v4, UInt8.ofNat v5, UInt8.ofNat v6] := by
  subst ha; simp [List.set_append_right, List.replicate_succ]
section
variable {w : World} {M l : List UInt8} {g gd gs : Nat} {t : TypeId} {S : ByteArray}
/-- what Encode's tail goes by: the letters, the sign of no padding, the bytes, the row -/
structure ET (W : World) (g gd gs os : Nat) (t : TypeId) (S : ByteArray) (ds : List Nat) (L : List UInt8) : Prop where
  str : W.cell? ⟨g, 0, none⟩ = some (.string S)
  pad : W.cell? ⟨g, 257, none⟩ = some (.int .i32 (-1))
  ys : ∀ (i : Nat) (h : i < ds.length), W.cell? ⟨gs, os + i, none⟩ = some (.int .u8 (ds[i] : Int))
  row : Blk W gd t (bvs L).toArray
theorem ET.put {W : World} {os k n : Nat} {ds : List Nat} {L : List UInt8} (h : ET W g gd gs os t S ds L) (hg : g ≠ gd) (hs : gs ≠ gd) (hn : n ≤ 255) : ET (W.setCell ⟨gd, k, none⟩ (.int .u8 (n : Int))).drew g gd gs os t S ds (L.set k (UInt8.ofNat n)) :=
  ⟨far1 hg h.str, far1 hg h.pad, fun i hi => far1 hs (h.ys i hi), byteSet h.row (by omega)⟩
theorem ET.drew {W : World} {os : Nat} {ds : List Nat} {L : List UInt8} (h : ET W g gd gs os t S ds L) : ET W.drew g gd gs os t S ds L := ⟨h.str, h.pad, h.ys, h.row.drew⟩
theorem etStart {wr : World} {os ns cs : Nat} {ds : List Nat} {m L : List UInt8} (hg : g ≠ gd) (hs : gs ≠ gd) (hc : w.cell? ⟨g, 0, none⟩ = some (.string S)) (hp : w.cell? ⟨g, 257, none⟩ = some (.int .i32 (-1)))
    (hd : ds = m.map (·.toNat)) (hB : Bs w w.heap.size (.slice (some ⟨gs, os, none⟩) ns cs) m) (hK : Blk wr gd t (bvs L).toArray) (hG : w.grownBy wr (some gd)) :
    ET wr g gd gs os t S ds L := by
  subst hd
  have hglt := World.block_lt_of_cell? w _ hc
  have hb : wr.heap[g]? = w.heap[g]? := hG.block g hglt (by intro e; injection e with e; exact hg e)
  have hcell : ∀ i, wr.cell? ⟨g, i, none⟩ = w.cell? ⟨g, i, none⟩ := fun i => by unfold World.cell?; rw [hb]
  have hB2 := hB.keepRow hG (Nat.le_refl _) (.inr (.inl (by simp [Value.ownBlock]; exact hs)))
  refine ⟨(hcell 0).trans hc, (hcell 257).trans hp, fun i hi => ?_, hK⟩
  rw [List.length_map] at hi
  obtain ⟨A2, c2, he, _, _, hx⟩ := hB2
  injection he with e1 e2 e3
  obtain ⟨g2, o2, hA, _, hy⟩ := hx (by omega)
  rw [← e1] at hA
  injection hA with hA
  injection hA with e4 e5 _
  subst e4 e5
  have := hy i hi
  rw [List.getElem_map]
  exact this
end
end Go.Proofs.YteodhonipbdplaaGreatDoor

/- Base 32 told back: bytes out of digits. -/
namespace Go.Proofs.YteodhonipbdplaaGreatDoor
set_option maxRecDepth 100000
theorem pk0 {x0 x1 a : Nat} (h0 : x0 = a / 8) (h1 : x1 / 4 = a % 8) (ha : a ≤ 255) : bits .or .u8 (IntKind.u8.wrap ((x0 : Int) * 8)) ((x1 : Int) / 4) = (a : Int) := by
  rw [show IntKind.u8.wrap ((x0 : Int) * 8) = ((x0 * 8 % 256 : Nat) : Int) from wrapMul, show (x1 : Int) / 4 = ((x1 / 4 : Nat) : Int) by omega, or8 (by omega) (by omega), show x0 * 8 % 256 = 2 ^ 3 * (a / 8) by omega, h1, Nat.or_comm, orAdd (by omega)]
  omega
theorem pk2 {x3 x4 c : Nat} (h3 : x3 % 16 = c / 16) (h4 : x4 / 2 = c % 16) (hc : c ≤ 255) : bits .or .u8 (IntKind.u8.wrap ((x3 : Int) * 16)) ((x4 : Int) / 2) = (c : Int) := by
  rw [show IntKind.u8.wrap ((x3 : Int) * 16) = ((x3 * 16 % 256 : Nat) : Int) from wrapMul, show (x4 : Int) / 2 = ((x4 / 2 : Nat) : Int) by omega, or8 (by omega) (by omega), show x3 * 16 % 256 = 2 ^ 4 * (c / 16) by omega, h4, Nat.or_comm, orAdd (by omega)]
  omega
theorem pk4 {x6 x7 e : Nat} (h6 : x6 % 8 = e / 32) (h7 : x7 = e % 32) (he : e ≤ 255) : bits .or .u8 (IntKind.u8.wrap ((x6 : Int) * 32)) (x7 : Int) = (e : Int) := by
  rw [show IntKind.u8.wrap ((x6 : Int) * 32) = ((x6 * 32 % 256 : Nat) : Int) from wrapMul, or8 (by omega) (by omega), show x6 * 32 % 256 = 2 ^ 5 * (e / 32) by omega, Nat.or_comm, orAdd (by omega)]
  omega
theorem pk1 {x1 x2 x3 b : Nat} (h1 : x1 % 4 = b / 64) (h2 : x2 = b / 2 % 32) (h3 : x3 / 16 = b % 2) (hb : b ≤ 255) : bits .or .u8 (bits .or .u8 (IntKind.u8.wrap ((x1 : Int) * 64)) (IntKind.u8.wrap ((x2 : Int) * 2))) ((x3 : Int) / 16) = (b : Int) := by
  rw [show IntKind.u8.wrap ((x1 : Int) * 64) = ((x1 * 64 % 256 : Nat) : Int) from wrapMul, show IntKind.u8.wrap ((x2 : Int) * 2) = ((x2 * 2 % 256 : Nat) : Int) from wrapMul, show (x3 : Int) / 16 = ((x3 / 16 : Nat) : Int) by omega, or8 (by omega) (by omega),
    show x1 * 64 % 256 = 2 ^ 6 * (b / 64) by omega, Nat.or_comm, orAdd (show x2 * 2 % 256 < 2 ^ 6 by omega), or8 (by omega) (by omega), h3, Nat.or_comm, show 2 ^ 6 * (b / 64) + x2 * 2 % 256 = 2 ^ 1 * (b / 2) by omega, orAdd (by omega)]
  omega
theorem pk3 {x4 x5 x6 d : Nat} (h4 : x4 % 2 = d / 128) (h5 : x5 = d / 4 % 32) (h6 : x6 / 8 = d % 4) (hd : d ≤ 255) : bits .or .u8 (bits .or .u8 (IntKind.u8.wrap ((x4 : Int) * 128)) (IntKind.u8.wrap ((x5 : Int) * 4))) ((x6 : Int) / 8) = (d : Int) := by
  rw [show IntKind.u8.wrap ((x4 : Int) * 128) = ((x4 * 128 % 256 : Nat) : Int) from wrapMul, show IntKind.u8.wrap ((x5 : Int) * 4) = ((x5 * 4 % 256 : Nat) : Int) from wrapMul, show (x6 : Int) / 8 = ((x6 / 8 : Nat) : Int) by omega, or8 (by omega) (by omega),
    show x4 * 128 % 256 = 2 ^ 7 * (d / 128) by omega, Nat.or_comm, orAdd (show x5 * 4 % 256 < 2 ^ 7 by omega), or8 (by omega) (by omega), h6, Nat.or_comm, show 2 ^ 7 * (d / 128) + x5 * 4 % 256 = 2 ^ 2 * (d / 4) by omega, orAdd (by omega)]
  omega
/-- the library's letters -/
def upAlpha : List UInt8 := [65, 66, 67, 68, 69, 70, 71, 72, 73, 74, 75, 76, 77, 78, 79, 80, 81, 82, 83, 84, 85, 86, 87, 88, 89, 90, 50, 51, 52, 53, 54, 55]
theorem mapBack : ∀ k : Fin 32, (mapK upAlpha 32)[(B32.letter B32.alpha k.val).toNat]? = some (UInt8.ofNat k.val) := by decide +kernel
theorem letter32 : ∀ k : Fin 32, (B32.letter B32.alpha k.val).toNat ≤ 122 ∧ 50 ≤ (B32.letter B32.alpha k.val).toNat := by decide
theorem five_lt : ∀ (l : List UInt8), ∀ x ∈ B32.five l, x < 32
  | a :: b :: c :: d :: e :: t => by
    have ha := B32.u8lt a; have hb := B32.u8lt b; have hc := B32.u8lt c; have hd := B32.u8lt d; have he := B32.u8lt e
    intro x hx
    rw [B32.five] at hx
    rcases List.mem_append.1 hx with h | h
    · simp only [List.mem_cons, List.not_mem_nil, or_false] at h
      rcases h with rfl | rfl | rfl | rfl | rfl | rfl | rfl | rfl <;> omega
    · exact five_lt t x h
  | [a, b, c, d] => by
    have ha := B32.u8lt a; have hb := B32.u8lt b; have hc := B32.u8lt c; have hd := B32.u8lt d
    intro x hx
    simp only [B32.five, List.mem_cons, List.not_mem_nil, or_false] at hx
    rcases hx with rfl | rfl | rfl | rfl | rfl | rfl | rfl <;> omega
  | [a, b, c] => by
    have ha := B32.u8lt a; have hb := B32.u8lt b; have hc := B32.u8lt c
    intro x hx
    simp only [B32.five, List.mem_cons, List.not_mem_nil, or_false] at hx
    rcases hx with rfl | rfl | rfl | rfl | rfl <;> omega
  | [a, b] => by
    have ha := B32.u8lt a; have hb := B32.u8lt b
    intro x hx
    simp only [B32.five, List.mem_cons, List.not_mem_nil, or_false] at hx
    rcases hx with rfl | rfl | rfl | rfl <;> omega
  | [a] => by
    have ha := B32.u8lt a
    intro x hx
    simp only [B32.five, List.mem_cons, List.not_mem_nil, or_false] at hx
    rcases hx with rfl | rfl <;> omega
  | [] => by intro x hx; simp [B32.five] at hx
end Go.Proofs.YteodhonipbdplaaGreatDoor

/- A row of bytes that came of a text: a mark stands behind its end. -/
namespace Go.Proofs.YteodhonipbdplaaGreatDoor
open Go.RowKit
set_option maxRecDepth 100000
/-- block g holds just the cells cs, none of them frozen; a mark may stand behind the end -/
def Bm (w : World) (g : Nat) (t : TypeId) (cs : Array Value) : Prop := ∃ lo hi, w.heap[g]? = some (.cells cs t (lo, hi)) ∧ cs.size ≤ lo
section
variable {w w' : World} {g : Nat} {t : TypeId} {cs : Array Value} {L : List UInt8}
theorem Bm.lt (h : Bm w g t cs) : g < w.heap.size := by obtain ⟨lo, hi, h, _⟩ := h; exact (Array.getElem?_eq_some_iff.1 h).1
theorem Bm.cell (h : Bm w g t cs) (i : Nat) : w.cell? ⟨g, i, none⟩ = cs[i]? := by obtain ⟨lo, hi, h, _⟩ := h; exact cell_of_row w g i cs t (lo, hi) h
theorem Bm.keep (h : Bm w g t cs) (hb : w'.heap[g]? = w.heap[g]?) : Bm w' g t cs := by obtain ⟨lo, hi, h, hl⟩ := h; exact ⟨lo, hi, hb.trans h, hl⟩
theorem Bm.alloc (h : Bm w g t cs) (o : Obj) : Bm (w.alloc o) g t cs := h.keep (Below.heap_alloc w o g h.lt)
theorem Bm.step (h : Bm w g t cs) (hb : Below w.heap.size w w') : Bm w' g t cs := h.keep (hb.block g h.lt)
theorem Bm.far (h : Bm w g t cs) {p : Addr} (hp : p.block ≠ g) (u : Value) : Bm (w.setCell p u) g t cs := h.keep (Below.heap_setCell w p u g (by omega))
theorem bmFree (h : Bm w g t (bvs L).toArray) {k : Nat} (hk : k < L.length) : w.frozen? ⟨g, k, none⟩ = false := by
  obtain ⟨lo, hi, h, hl⟩ := h
  have hs : (bvs L).toArray.size = L.length := by simp [bvs]
  have h2 : ¬ lo ≤ k := by omega
  simp [World.frozen?, h, h2]
theorem bmLies (h : Bm w g t (bvs L).toArray) {k : Nat} (hk : k < L.length) : w.cell? ⟨g, k, none⟩ = some (bv L[k]) := by
  rw [h.cell k]
  have := bvs_get L k hk
  simpa using this
theorem bmSet (h : Bm w g t (bvs L).toArray) {k n : Nat} {x : Int} (hx : x = ((n % 256 : Nat) : Int)) : Bm (w.setCell ⟨g, k, none⟩ (.int .u8 x)) g t (bvs (L.set k (UInt8.ofNat n))).toArray := by
  subst hx
  obtain ⟨lo, hi, h, hl⟩ := h
  refine ⟨lo, hi, ?_, by simpa [bvs] using hl⟩
  have e : (bvs L).set k (.int .u8 ((n % 256 : Nat) : Int)) = bvs (L.set k (UInt8.ofNat n)) := by
    unfold bvs
    rw [List.map_set]
    rfl
  have e2 : (w.setCell ⟨g, k, none⟩ (.int .u8 ((n % 256 : Nat) : Int))).heap[g]? = some (.cells ((bvs L).toArray.setIfInBounds k (.int .u8 ((n % 256 : Nat) : Int))) t (lo, hi)) := by
    simp [World.setCell, Array.getElem?_modify, h]
  rw [e2, List.setIfInBounds_toArray, e]
/-- bytes at the row's front -/
theorem Bm.front (h : Bm w g t (bvs L).toArray) {n c : Nat} {l : List UInt8} (hl : L.take n = l) (hn : n = l.length) (hc : n ≤ c) (hm : c ≤ 9223372036854775807) : Bs w w.heap.size (.slice (some ⟨g, 0, none⟩) n c) l := by
  have hlL : l.length ≤ L.length := by rw [← hl, List.length_take]; omega
  subst hn
  refine ⟨_, _, rfl, hc, hm, fun h0 => ⟨g, 0, rfl, h.lt, fun k hk => ?_⟩⟩
  rw [Nat.zero_add, bmLies h (by omega)]
  have e : l[k] = L[k]'(by omega) := by
    have : (L.take l.length)[k]'(by rw [hl]; exact hk) = l[k] := by simp only [hl]
    rw [← this, List.getElem_take]
  rw [← e]
end
/-- '[]byte(s)', as a row -/
theorem conv_row (w : World) (l : List UInt8) (hlen : l.length ≤ 1000000) {src : TypeId} {u : TypeDesc} (hs : Tryz.prog.underlying src = some u) :
    ∃ w1 c Z, (convert src 23 (.string (strOf l))).run Tryz.prog w = .ok (.slice (some ⟨w.heap.size, 0, none⟩) l.length c) w1 ∧ Bm w1 w.heap.size 5 (bvs (l ++ Z)).toArray ∧ c = l.length + Z.length ∧ Below w.heap.size w w1 ∧ c ≤ 9223372036854775807 := by
  have hr := Lib.run_convert_string_bytes (P := Tryz.prog) w src 23 5 (strOf l) hs Tryz.underlying23 Tryz.underlying5
  have hat := Lib.bytesWorld_at_new w 5 (strOf l)
  rw [strOf_size] at hr
  have hge := grownCap_ge w l.length 0 5
  have hcm : grownCap w l.length 0 5 ≤ maxLen := grownCap_le_maxLen w l.length 0 5 (by unfold maxLen; omega)
  unfold maxLen at hcm
  have hcs : Lib.bytesCells w 5 (strOf l) = (bvs (l ++ List.replicate (grownCap w l.length 0 5 - l.length) 0)).toArray := by
    unfold Lib.bytesCells
    apply Array.toList_inj.1
    rw [strOf_size]
    simp [bvs, bv, strOf]
  refine ⟨_, _, List.replicate (grownCap w l.length 0 5 - l.length) 0, hr, ⟨_, _, by rw [hat, hcs], Nat.le_refl _⟩, by simp; omega, ?_, hcm⟩
  exact below_freeze ((below_drew w).alloc (Nat.le_refl _) _) (by simp) _
end Go.Proofs.YteodhonipbdplaaGreatDoor
