/- An argument that is an array of bytes, by value. -/
import Derived.Test.YtkmjjoffamdnfaaGreatDoorMi02
import Derived.Test.YtkmjjoffamdnfaaGreatDoorMi21
import Derived.Test.YtkmjjoffamdnfaaGreatDoorMi22
import Derived.Handed
namespace Go.Proofs.YtkmjjoffamdnfaaGreatDoor
open Go.ChangeShapes Go.WideShapes Go.ChangeAt Go.RowKit
set_option maxRecDepth 100000

/-- the array value v holds the bytes l -/
def IsArr (v : Value) (n : Nat) (l : List UInt8) : Prop := v = .agg (bvs l).toArray ∧ l.length = n

theorem list_of_bytes : ∀ (cs : List Value), (∀ i, (h : i < cs.length) → ∃ k : Int, cs[i] = .int .u8 k ∧ (Lit.int .u8 k).wf = true) → ∃ l : List UInt8, cs = bvs l
  | [], _ => ⟨[], rfl⟩
  | c :: cs, h => by
    obtain ⟨k, hk, hw⟩ := h 0 (by simp)
    obtain ⟨l, hl⟩ := list_of_bytes cs (fun i hi => h (i + 1) (by simpa using hi))
    have hb := wf_u8 hw
    refine ⟨UInt8.ofNat k.toNat :: l, ?_⟩
    have e : c = bv (UInt8.ofNat k.toNat) := by
      have : c = .int .u8 k := by simpa using hk
      rw [this]
      show Value.int .u8 _ = Value.int .u8 _
      rw [Wire.ofNat_toNat (by omega)]
      congr 1
      omega
    rw [e, hl]
    rfl

theorem Bs.arr (w : World) (t : TypeId) (l : List UInt8) (hm : l.length ≤ 9223372036854775807) (g n c : Nat) (hg : w.heap.size = g) (hn : n = l.length) (hc : c = l.length) :
    Bs (w.alloc (.cells (bvs l).toArray t)) (w.alloc (.cells (bvs l).toArray t)).heap.size (.slice (some ⟨g, 0, none⟩) n c) l := by
  subst hg hn hc
  refine ⟨_, _, rfl, Nat.le_refl _, hm, fun hl => ⟨w.heap.size, 0, rfl, by simp, fun k hk => ?_⟩⟩
  rw [Nat.zero_add, cell_of_row (w.alloc (.cells (bvs l).toArray t)) w.heap.size k _ t (0, 0) (heap_alloc_new w _)]
  have := bvs_get l k hk
  simpa using this

theorem openArr {H : Type} {enc : TypeId × Value → H} {W : World} {base : Nat} {v : Value} {d : DataW H} {p : List MemPlace} {t : TypeId} {n : Nat} (hu : Tryz.prog.underlying t = some (.array n 5)) (hC : Tryz.prog.cellsOf t = n) (h1 : Tryz.prog.cellsOf 5 = 1)
    (hv : Value.okWide Tryz.prog W .any base t v) (h : DataW.Trod enc Tryz.prog W 0 (fun _ => true) true t v d p) : ∃ l, IsArr v n l := by
  obtain ⟨cs, rfl⟩ : ∃ cs, v = .agg cs := by
    simp only [Value.okWide, hu] at hv
    obtain ⟨cs, h1, h2⟩ := hv
    exact ⟨cs, h1⟩
  obtain ⟨fuel, hf⟩ := h
  obtain ⟨xs, m, _, _, hlen, hxl, hel⟩ := DataW.trod_array hu hf
  obtain ⟨cs⟩ := cs
  have hcl : cs.length = n := by rw [hC] at hlen; simpa [Value.cells] using hlen
  have hb : ∃ l : List UInt8, cs = bvs l := by
    refine list_of_bytes cs fun i hi => ?_
    have hi' : i < n := by omega
    have he := hel i hi'
    rw [h1, Nat.mul_one] at he
    have e1 : ((Value.agg ⟨cs⟩).cells.toList.drop i).take 1 = [cs[i]] := by
      show (cs.drop i).take 1 = _
      rw [List.drop_eq_getElem_cons hi]
      rfl
    rw [e1, List.getElem?_eq_getElem (by omega)] at he
    obtain ⟨k, e2, _, e3⟩ := DataW.trod_int Tryz.underlying5 he
    simp at e2
    exact ⟨k, e2, e3⟩
  obtain ⟨l, rfl⟩ := hb
  exact ⟨l, rfl, by simpa [bvs] using hcl⟩

theorem open_arr32 {H : Type} {enc : TypeId × Value → H} {W : World} {base : Nat} {v : Value} {d : DataW H} {p : List MemPlace} (hv : Value.okWide Tryz.prog W .any base 34 v) (h : DataW.Trod enc Tryz.prog W 0 (fun _ => true) true 34 v d p) : ∃ l, IsArr v 32 l := openArr Tryz.underlying34 (by kernel_rfl) (by kernel_rfl) hv h
end Go.Proofs.YtkmjjoffamdnfaaGreatDoor

/- The listed variables of the laws of peers: each holds an error. -/
namespace Go.Proofs.YtkmjjoffamdnfaaGreatDoor
set_option maxRecDepth 100000
theorem Tryz.gVOver : Tryz.prog.globalNamed "pub-symmory/pub/govarint.ErrOverflow" = some 15 ∧ (Tryz.prog.globals[15]?).map (·.type) = some 48 := ⟨by kernel_rfl, by kernel_rfl⟩
theorem Tryz.gVUnder : Tryz.prog.globalNamed "pub-symmory/pub/govarint.ErrUnderflow" = some 17 ∧ (Tryz.prog.globals[17]?).map (·.type) = some 48 := ⟨by kernel_rfl, by kernel_rfl⟩
theorem Tryz.gVMin : Tryz.prog.globalNamed "pub-symmory/pub/govarint.ErrNotMinimal" = some 16 ∧ (Tryz.prog.globals[16]?).map (·.type) = some 48 := ⟨by kernel_rfl, by kernel_rfl⟩
theorem Tryz.gMShort : Tryz.prog.globalNamed "pub-symmory/pub/gomultihash.ErrTooShort" = some 12 ∧ (Tryz.prog.globals[12]?).map (·.type) = some 48 := ⟨by kernel_rfl, by kernel_rfl⟩
theorem Tryz.gMBuf : Tryz.prog.globalNamed "pub-symmory/pub/gomultihash.ErrVarintBufferShort" = some 13 ∧ (Tryz.prog.globals[13]?).map (·.type) = some 48 := ⟨by kernel_rfl, by kernel_rfl⟩
theorem Tryz.gMLong : Tryz.prog.globalNamed "pub-symmory/pub/gomultihash.ErrVarintTooLong" = some 14 ∧ (Tryz.prog.globals[14]?).map (·.type) = some 48 := ⟨by kernel_rfl, by kernel_rfl⟩
end Go.Proofs.YtkmjjoffamdnfaaGreatDoor

/- Rows whose walks ask what the shape of a world says of a table of words. -/
namespace Go.Proofs.YtkmjjoffamdnfaaGreatDoor
open Go.RowKit
set_option maxRecDepth 100000
theorem returnsInHanded_of_change_shaped {H : Type} {enc : TypeId × Value → H} {a : Assume} {C : Checked} {os : Os} {f : FuncId} {fn : Func} {s : ChangeSpec} {conds : List PathCond} {apart fresh handsOn again : Bool} {X : World → Array Value → Prop}
    (hX : ∀ (w w' : World) (args : Array Value), w.heap = w'.heap → X w args → X w' args)
    (own : ownKnob C.prog.godebug = none) (started : os.Started) (noInit : C.prog.inits.idxOf? f = none) (hfn : C.prog.funcs[f]? = some fn)
    (witness : ∃ (w : World) (tape : Tape) (i : Input), w.os = os ∧ (w.forCall tape i).Shaped C.prog ∧ i.vars = [] ∧ Input.okWide C.prog (w.forCall tape i) .any w.heap.size f i ∧
      ((s.pre enc C.prog fn conds apart (w.forCall tape i).memory i.args ∧ X (w.forCall tape i).memory i.args) ∧ sizedMet enc C.prog fn (OpenSpec.ofChange s) apart (w.forCall tape i).memory i.args) ∧ a.holds C.prog (lone (Frame.enter C.prog f i.args .normal) [] (w.forCall tape i)))
    (contract : ∀ (W : World) (base : Nat) (args : Array Value) (ds gs : List (DataW H)) (before : List MemPlace), W.ShapedOpen C.prog →
      (∀ (j : Nat) t v, fn.params[j]? = some t → args[j]? = some v → Value.okWide C.prog W .any base t v) →
      DataW.Whole enc C.prog fn.params.toList s.vars apart W args.toList ds gs before →
      conds.all (PathCond.test C.prog ⟨fn.params.toList, ds, s.plain.varTypes C.prog, gs⟩) = true →
      (DataW.weightsEach C.prog (fn.params.toList ++ s.plain.varTypes C.prog) (ds ++ gs)).all (· ≤ reachBytes) = true → X W args →
      a.holds C.prog (lone (Frame.enter C.prog f args .normal) [] W) →
      Calls C.prog f args W fun e W' => ∃ v, e = .returned v ∧ s.post enc C.prog fn apart fresh handsOn again W args v W') :
    ReturnsInHanded a C os f .any (fun w args => (s.pre enc C.prog fn conds apart w args ∧ X w args) ∧ sizedMet enc C.prog fn (OpenSpec.ofChange s) apart w args) (s.post enc C.prog fn apart fresh handsOn again) := by
  refine returnsInHanded_of_calls own started noInit witness ?_
  intro w tape i _ hsh _ hok hpre hholds
  obtain ⟨_, _, _, fn', hfn', _, _, _, _, hval⟩ := hok
  have e : fn' = fn := Option.some.inj (hfn'.symm.trans hfn)
  subst e
  obtain ⟨⟨⟨ds, gs, before, hw, hc⟩, hx⟩, hz⟩ := hpre
  have hw' := DataW.Whole.of_heap (w' := w.forCall tape i) (by rfl) hw
  refine (contract (w.forCall tape i) w.heap.size i.args ds gs before hsh hval hw' hc (hz.weights hw) (hX _ _ _ (by rfl) hx) hholds).mono fun e W' ⟨v, he, hp⟩ => ?_
  subst he
  exact ChangeSpec.post_blind hp
theorem list_of_words : ∀ (cs : List Value), (∀ i, (h : i < cs.length) → ∃ k : Int, cs[i] = .int .u32 k ∧ 0 ≤ k ∧ k < 4294967296) → ∃ l : List Nat, cs = u32s l ∧ Sha.Small l
  | [], _ => ⟨[], rfl, fun x hx => by cases hx⟩
  | c :: cs, h => by
    obtain ⟨k, hk, h0, h1⟩ := h 0 (by simp)
    obtain ⟨l, hl, hs⟩ := list_of_words cs (fun i hi => h (i + 1) (by simpa using hi))
    obtain ⟨n, rfl⟩ := Int.eq_ofNat_of_zero_le h0
    have hc : c = .int .u32 (n : Int) := hk
    refine ⟨n :: l, by rw [hc, hl]; rfl, fun x hx => ?_⟩
    rcases List.mem_cons.1 hx with rfl | hx
    · omega
    · exact hs x hx
theorem keyZero : ((begin Tryz.prog (fun _ _ => 0) default).world.heap[19]?).bind Obj.row? = some ((u32s (List.replicate 64 0)).toArray, 100) := by kernel_rfl
theorem keyBuilds : Tryz.prog.buildable 100 = true := by kernel_rfl
theorem keyCells : Tryz.prog.cellTypes Tryz.prog.depth 100 = some (List.replicate 64 80) := by kernel_rfl
theorem keyGlob : decide (19 < Tryz.prog.globals.size) = true := by kernel_rfl
/-- the keys of SHA2-256 are sixty-four words -/
theorem keysK {W : World} (h : W.ShapedOpen Tryz.prog) : ∃ K : List Nat, K.length = 64 ∧ Sha.Small K ∧ Blk W 19 100 (u32s K).toArray := by
  obtain ⟨cs, hh, hs, hr⟩ := h.1 _ _ _ (of_decide_eq_true keyGlob) keyZero
  obtain ⟨ts, hts, _, hall⟩ := hr keyBuilds
  rw [keyCells] at hts
  injection hts with hts
  subst hts
  have hsz : cs.size = 64 := by rw [hs]; simp [u32s_length]
  obtain ⟨l, hl, hsm⟩ := list_of_words cs.toList (fun i hi => by
    have hi' : i < cs.size := by simpa using hi
    obtain ⟨u, hu, hok⟩ := hall i cs[i] (by simp [hi'])
    have hu2 : u = 80 := by
      rw [List.length_replicate, List.getElem?_replicate, if_pos (by omega)] at hu
      injection hu with hu
      exact hu.symm
    subst hu2
    unfold Cell.ok at hok
    rw [Tryz.underlying80] at hok
    rw [Array.getElem_toList]
    cases hv : cs[i] <;> rw [hv] at hok <;> simp at hok
    case int k' n =>
      obtain ⟨rfl, hb⟩ := hok
      refine ⟨n, rfl, ?_⟩
      simp [IntKind.has, IntKind.min, IntKind.max, IntKind.signed, IntKind.bits] at hb
      omega)
  refine ⟨l, ?_, hsm, ?_⟩
  · have := congrArg List.length hl
    rw [Array.length_toList, hsz, u32s_length] at this
    exact this.symm
  · show W.heap[_]? = _
    rw [hh]
    have : cs = (u32s l).toArray := by rw [← hl]
    rw [this]
end Go.Proofs.YtkmjjoffamdnfaaGreatDoor
