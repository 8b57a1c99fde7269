/- What the listed variables give the walks: each holds an error; and the opening of arguments that are bytes. -/
import Derived.Test.YtcefcdmonfenoaaDoorStd
import Derived.Test.YtcefcdmonfenoaaDoorEr
import Derived.Test.YtcefcdmonfenoaaDoorRows
import Derived.ProofKit
import Derived.LaidMore
import Derived.OpenShut
import Derived.Stop.Joined
import Derived.Stop.LaidErr
import Derived.LaidLaws
import Derived.ShutString
import Derived.ChangeOld
namespace Go.Proofs.YtcefcdmonfenoaaDoor
open Go.ChangeShapes Go.WideShapes Go.ChangeAt Go.RowKit
set_option maxRecDepth 100000

theorem Tryd.own : ownKnob Tryd.prog.godebug = none := by kernel_rfl
theorem Tryd.laidOut : laidOutB Tryd.prog = true := by kernel_rfl

theorem hasErr_head {n nm : String} {D : DataW Unit} {r : List (String × DataW Unit)} {W : World} {g : Nat} (h : laidMet Tryd.prog ((n, .iface nm D) :: r) W)
    (hg : Tryd.prog.globalNamed n = some g) (ht : (Tryd.prog.globals[g]?).map (·.type) = some 79) : HasErr W g := by
  obtain ⟨ps, ⟨g0, t0, cs0, f0, p0, q0, hg0, ht0, hv0, hd0, _, e0⟩, _, hrows⟩ := h
  obtain rfl := Option.some.inj (hg.symm.trans hg0)
  obtain rfl := Option.some.inj (ht.symm.trans ht0)
  obtain ⟨f1, u, v, hcs, _⟩ := iface_of_trod Tryd.underlying79 hd0
  refine ⟨u, v, ?_⟩
  have := World.var?_cell hg0 hv0 0
  rw [Array.eq_one_of_toList hcs] at this
  simpa using this

theorem Tryd.gEof : Tryd.prog.globalNamed "io.ErrUnexpectedEOF" = some 4 ∧ (Tryd.prog.globals[4]?).map (·.type) = some 79 := ⟨by kernel_rfl, by kernel_rfl⟩
theorem Tryd.gField : Tryd.prog.globalNamed "pub-symmory/pub/protowire.errFieldNumber" = some 5 ∧ (Tryd.prog.globals[5]?).map (·.type) = some 79 := ⟨by kernel_rfl, by kernel_rfl⟩
theorem Tryd.gOver : Tryd.prog.globalNamed "pub-symmory/pub/protowire.errOverflow" = some 6 ∧ (Tryd.prog.globals[6]?).map (·.type) = some 79 := ⟨by kernel_rfl, by kernel_rfl⟩
theorem Tryd.gRes : Tryd.prog.globalNamed "pub-symmory/pub/protowire.errReserved" = some 7 ∧ (Tryd.prog.globals[7]?).map (·.type) = some 79 := ⟨by kernel_rfl, by kernel_rfl⟩
theorem Tryd.gEnd : Tryd.prog.globalNamed "pub-symmory/pub/protowire.errEndGroup" = some 8 ∧ (Tryd.prog.globals[8]?).map (·.type) = some 79 := ⟨by kernel_rfl, by kernel_rfl⟩
theorem Tryd.gParse : Tryd.prog.globalNamed "pub-symmory/pub/protowire.errParse" = some 9 ∧ (Tryd.prog.globals[9]?).map (·.type) = some 79 := ⟨by kernel_rfl, by kernel_rfl⟩
theorem Tryd.gCNum : Tryd.prog.globalNamed "pub-symmory/pub/libp2p/core/crypto/pb.errNumber" = some 3 ∧ (Tryd.prog.globals[3]?).map (·.type) = some 79 := ⟨by kernel_rfl, by kernel_rfl⟩
theorem Tryd.gCReq : Tryd.prog.globalNamed "pub-symmory/pub/libp2p/core/crypto/pb.errRequired" = some 2 ∧ (Tryd.prog.globals[2]?).map (·.type) = some 79 := ⟨by kernel_rfl, by kernel_rfl⟩
theorem Tryd.gPNum : Tryd.prog.globalNamed "pub-symmory/pub/libp2p/core/peer/pb.errNumber" = some 0 ∧ (Tryd.prog.globals[0]?).map (·.type) = some 79 := ⟨by kernel_rfl, by kernel_rfl⟩
theorem Tryd.gRNum : Tryd.prog.globalNamed "pub-symmory/pub/libp2p/core/record/pb.errNumber" = some 1 ∧ (Tryd.prog.globals[1]?).map (·.type) = some 79 := ⟨by kernel_rfl, by kernel_rfl⟩

/-- numbers that are bytes, as bytes -/
def toBytes (zs : List Int) : List UInt8 := zs.map fun z => UInt8.ofNat z.toNat

theorem wf_u8 {z : Int} (h : (Lit.int .u8 z).wf = true) : 0 ≤ z ∧ z ≤ 255 := bounds_u8 h

/-- an argument that is a slice of bytes -/
theorem bs_of_trod {H : Type} {enc : TypeId × Value → H} {W : World} {b : Nat} {sp : Nat → Bool} {hd : Bool} {a : Option Addr} {n c : Nat} {d : DataW H} {p : List MemPlace}
    (h : DataW.Trod enc Tryd.prog W b sp hd 23 (.slice a n c) d p) : ∃ l : List UInt8, Bs W W.heap.size (.slice a n c) l ∧ l.length = n := by
  obtain ⟨fuel, hf⟩ := h
  rcases open_ints Tryd.underlying23 Tryd.underlying5 (by kernel_rfl) hf with ⟨hcs, _⟩ | ⟨x, l, cc, zs, hcs, _, hl, hm, hz, _, hcell, hwz⟩
  · simp [Value.cells] at hcs
    obtain ⟨rfl, rfl, rfl⟩ := hcs
    exact ⟨[], Bs.nil0 _ _, rfl⟩
  · simp [Value.cells] at hcs
    obtain ⟨rfl, rfl, rfl⟩ := hcs
    have hlen : (toBytes (zs.take n)).length = n := by
      simp only [toBytes, List.length_map, List.length_take]
      have hzn : n ≤ zs.length := by rw [hz]; split <;> omega
      omega
    refine ⟨toBytes (zs.take n), ?_, hlen⟩
    refine ⟨some x, c, by rw [hlen], by rw [hlen]; exact hl, by unfold maxLen at hm; exact hm, fun hpos => ?_⟩
    rw [hlen] at hpos
    have hzn : n ≤ zs.length := by
      have h2 := hlen
      simp only [toBytes, List.length_map, List.length_take] at h2
      omega
    have h0 := hcell 0 (by omega)
    obtain ⟨g, o, spot⟩ := x
    have hs : spot = none := by
      cases spot with
      | none => rfl
      | some s =>
        exfalso
        simp only [Addr.add, if_true] at h0
        unfold World.cell? at h0
        split at h0
        · simp at h0
        · simp at h0
    subst hs
    have hlt : g < W.heap.size := by
      have := World.block_lt_of_cell? W _ h0
      simpa [Addr.add] using this
    refine ⟨g, o, rfl, hlt, fun k hk => ?_⟩
    rw [hlen] at hk
    have hk' := hcell k (by omega)
    have ha : (⟨g, o, none⟩ : Addr).add k = ⟨g, o + k, none⟩ := by
      unfold Addr.add
      split
      · next h0 => subst h0; rfl
      · rfl
    rw [ha] at hk'
    rw [hk']
    have hb := wf_u8 (hwz _ (List.getElem_mem (show k < zs.length by omega)))
    have e1 : zs.getD k 0 = zs[k] := by simp [List.getD, List.getElem?_eq_getElem (show k < zs.length by omega)]
    rw [e1]
    have e2 : (toBytes (zs.take n))[k]'(by rw [hlen]; exact hk) = UInt8.ofNat (zs[k]).toNat := by simp [toBytes]
    rw [e2]
    show some (Value.int .u8 _) = some (Value.int .u8 _)
    rw [Wire.ofNat_toNat (by omega)]
    congr 2
    omega

/-- an argument that is a whole number -/
def IsInt (k : IntKind) (v : Value) (x : Int) : Prop := v = .int k x ∧ (Lit.int k x).wf = true
theorem isI32 {v : Value} {x : Int} (h : IsInt .i32 v x) : v = .int .i32 x ∧ -2147483648 ≤ x ∧ x ≤ 2147483647 := ⟨h.1, bounds_i32 h.2⟩
theorem isU8 {v : Value} {x : Int} (h : IsInt .u8 v x) : v = .int .u8 x ∧ 0 ≤ x ∧ x ≤ 255 := ⟨h.1, bounds_u8 h.2⟩
theorem isU16 {v : Value} {x : Int} (h : IsInt .u16 v x) : v = .int .u16 x ∧ 0 ≤ x ∧ x ≤ 65535 := ⟨h.1, bounds_u16 h.2⟩
theorem isU32 {v : Value} {x : Int} (h : IsInt .u32 v x) : v = .int .u32 x ∧ 0 ≤ x ∧ x ≤ 4294967295 := ⟨h.1, bounds_u32 h.2⟩
theorem isU64 {v : Value} {x : Int} (h : IsInt .u64 v x) : v = .int .u64 x ∧ 0 ≤ x ∧ x ≤ 18446744073709551615 := ⟨h.1, bounds_u64 h.2⟩

section
variable {H : Type} {enc : TypeId × Value → H} {W : World} {base : Nat} {v : Value} {d : DataW H} {p : List MemPlace}
theorem openInt {t : TypeId} {k : IntKind} (hu : Tryd.prog.underlying t = some (.int k)) (hv : Value.okWide Tryd.prog W .any base t v) (h : DataW.Trod enc Tryd.prog W 0 (fun _ => true) true t v d p) : ∃ x, IsInt k v x := by
  obtain ⟨x, rfl, _, _, w⟩ := open_int hu hv h
  exact ⟨x, rfl, w⟩
theorem openBytes (hv : Value.okWide Tryd.prog W .any base 23 v) (h : DataW.Trod enc Tryd.prog W 0 (fun _ => true) true 23 v d p) : ∃ l, Bs W W.heap.size v l := by
  obtain ⟨a, n, c, rfl⟩ := okWide_slice Tryd.underlying23 hv
  obtain ⟨l, hl, _⟩ := bs_of_trod h
  exact ⟨l, hl⟩
theorem lt_of_trod {t : TypeId} (h : DataW.Trod enc Tryd.prog W 0 (fun _ => true) true t v d p) : ∀ x ∈ p, x.block < W.heap.size := by
  obtain ⟨m, hm⟩ := h; exact DataW.trod_lt m _ _ _ hm
end
end Go.Proofs.YtcefcdmonfenoaaDoor
