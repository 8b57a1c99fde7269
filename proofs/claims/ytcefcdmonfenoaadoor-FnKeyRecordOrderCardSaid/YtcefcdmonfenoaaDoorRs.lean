/- Records' messages: the plain reading and writing; no program. -/
import Derived.Test.YtcefcdmonfenoaaDoorEs
namespace Go.Proofs.YtcefcdmonfenoaaDoor
open Go.RowKit

/-- a record: an ID, a number, addresses -/
structure RV where
  peer : List UInt8
  seq : Nat
  addrs : List (List UInt8)
  deriving DecidableEq
def RV.none : RV := ⟨[], 0, []⟩

/-- an address's message, taken over what is there -/
def addrStep (s : List UInt8) (num typ : Int) (l : List UInt8) : Option (List UInt8 × Nat) :=
  if num = 1 ∧ typ = 2 then (if (Wire.cbytes l).2 < 0 then .none else some ((Wire.cbytes l).1, (Wire.cbytes l).2.toNat))
  else (if fval num typ l < 0 then .none else some (s, (fval num typ l).toNat))
def addrRun (s : List UInt8) (l : List UInt8) : Option (List UInt8) := Wire.mrun addrStep s l

def recStep (s : RV) (num typ : Int) (l : List UInt8) : Option (RV × Nat) :=
  if num = 1 ∧ typ = 2 then (if (Wire.cbytes l).2 < 0 then .none else some ({ s with peer := (Wire.cbytes l).1 }, (Wire.cbytes l).2.toNat))
  else if num = 2 ∧ typ = 0 then (if (Wire.cvar l).2 < 0 then .none else some ({ s with seq := (Wire.cvar l).1 }, (Wire.cvar l).2.toNat))
  else if num = 3 ∧ typ = 2 then (if (Wire.cbytes l).2 < 0 then .none else (addrRun [] (Wire.cbytes l).1).map fun a => ({ s with addrs := s.addrs ++ [a] }, (Wire.cbytes l).2.toNat))
  else (if fval num typ l < 0 then .none else some (s, (fval num typ l).toNat))
def recRun (s : RV) (l : List UInt8) : Option RV := Wire.mrun recStep s l
/-- what bytes tell as a record's message -/
def recDec (l : List UInt8) : Option RV := recRun RV.none l

section
variable {s : List UInt8} {l : List UInt8} {n m : Nat} {a b c : Int} {x : Nat} {d : List UInt8}
theorem addrRun_nil : addrRun s [] = some s := Wire.mrun_nil
theorem addrRun_torn (ht : Wire.ctag l = (a, b, c)) (hl : 0 < l.length) (h : c < 0) : addrRun s l = .none := Wire.mrun_torn' ht hl h
theorem addrRun_far (ht : Wire.ctag l = (a, b, c)) (hl : 0 < l.length) (h : 536870911 < a) : addrRun s l = .none := Wire.mrun_far' ht hl h
theorem addrRun_bad (ht : Wire.ctag l = (1, 2, (n : Int))) (hl : 0 < l.length) (hc : Wire.cbytes (l.drop n) = (d, c)) (h : c < 0) : addrRun s l = .none :=
  Wire.mrun_none' ht hl (by omega) (by unfold addrStep; rw [if_pos ⟨rfl, rfl⟩, hc]; exact if_pos h)
theorem addrRun_put (ht : Wire.ctag l = (1, 2, (n : Int))) (hl : 0 < l.length) (hc : Wire.cbytes (l.drop n) = (d, (m : Int))) : addrRun s l = addrRun d ((l.drop n).drop m) :=
  Wire.mrun_some' ht hl (by omega) (by unfold addrStep; rw [if_pos ⟨rfl, rfl⟩, hc]; exact if_neg (by simp only []; omega))
theorem addrRun_skip_bad (ht : Wire.ctag l = (a, b, (n : Int))) (hl : 0 < l.length) (ha : ¬ 536870911 < a) (h1 : ¬ (a = 1 ∧ b = 2)) (hc : fval a b (l.drop n) = c) (h : c < 0) : addrRun s l = .none :=
  Wire.mrun_none' ht hl ha (by unfold addrStep; rw [if_neg h1, hc]; exact if_pos h)
theorem addrRun_skip (ht : Wire.ctag l = (a, b, (n : Int))) (hl : 0 < l.length) (ha : ¬ 536870911 < a) (h1 : ¬ (a = 1 ∧ b = 2)) (hc : fval a b (l.drop n) = (m : Int)) : addrRun s l = addrRun s ((l.drop n).drop m) :=
  Wire.mrun_some' ht hl ha (by unfold addrStep; rw [if_neg h1, hc]; exact if_neg (by omega))
end

section
variable {s : RV} {l : List UInt8} {n m : Nat} {a b c : Int} {x : Nat} {d r : List UInt8}
theorem recRun_nil : recRun s [] = some s := Wire.mrun_nil
theorem recRun_torn (ht : Wire.ctag l = (a, b, c)) (hl : 0 < l.length) (h : c < 0) : recRun s l = .none := Wire.mrun_torn' ht hl h
theorem recRun_far (ht : Wire.ctag l = (a, b, c)) (hl : 0 < l.length) (h : 536870911 < a) : recRun s l = .none := Wire.mrun_far' ht hl h
theorem recRun_peer_bad (ht : Wire.ctag l = (1, 2, (n : Int))) (hl : 0 < l.length) (hc : Wire.cbytes (l.drop n) = (d, c)) (h : c < 0) : recRun s l = .none :=
  Wire.mrun_none' ht hl (by omega) (by unfold recStep; rw [if_pos ⟨rfl, rfl⟩, hc]; exact if_pos h)
theorem recRun_peer (ht : Wire.ctag l = (1, 2, (n : Int))) (hl : 0 < l.length) (hc : Wire.cbytes (l.drop n) = (d, (m : Int))) : recRun s l = recRun { s with peer := d } ((l.drop n).drop m) :=
  Wire.mrun_some' ht hl (by omega) (by unfold recStep; rw [if_pos ⟨rfl, rfl⟩, hc]; exact if_neg (by simp only []; omega))
theorem recRun_seq_bad (ht : Wire.ctag l = (2, 0, (n : Int))) (hl : 0 < l.length) (hc : Wire.cvar (l.drop n) = (x, c)) (h : c < 0) : recRun s l = .none :=
  Wire.mrun_none' ht hl (by omega) (by unfold recStep; rw [if_neg (by omega), if_pos ⟨rfl, rfl⟩, hc]; exact if_pos h)
theorem recRun_seq (ht : Wire.ctag l = (2, 0, (n : Int))) (hl : 0 < l.length) (hc : Wire.cvar (l.drop n) = (x, (m : Int))) : recRun s l = recRun { s with seq := x } ((l.drop n).drop m) :=
  Wire.mrun_some' ht hl (by omega) (by unfold recStep; rw [if_neg (by omega), if_pos ⟨rfl, rfl⟩, hc]; exact if_neg (by simp only []; omega))
theorem recRun_addr_bad (ht : Wire.ctag l = (3, 2, (n : Int))) (hl : 0 < l.length) (hc : Wire.cbytes (l.drop n) = (d, c)) (h : c < 0) : recRun s l = .none :=
  Wire.mrun_none' ht hl (by omega) (by unfold recStep; rw [if_neg (by omega), if_neg (by omega), if_pos ⟨rfl, rfl⟩, hc]; exact if_pos h)
theorem recRun_addr_none (ht : Wire.ctag l = (3, 2, (n : Int))) (hl : 0 < l.length) (hc : Wire.cbytes (l.drop n) = (d, (m : Int))) (h : addrRun [] d = .none) : recRun s l = .none :=
  Wire.mrun_none' ht hl (by omega) (by unfold recStep; rw [if_neg (by omega), if_neg (by omega), if_pos ⟨rfl, rfl⟩, hc, if_neg (by simp only []; omega), h]; rfl)
theorem recRun_addr (ht : Wire.ctag l = (3, 2, (n : Int))) (hl : 0 < l.length) (hc : Wire.cbytes (l.drop n) = (d, (m : Int))) (h : addrRun [] d = some r) : recRun s l = recRun { s with addrs := s.addrs ++ [r] } ((l.drop n).drop m) :=
  Wire.mrun_some' ht hl (by omega) (by unfold recStep; rw [if_neg (by omega), if_neg (by omega), if_pos ⟨rfl, rfl⟩, hc, if_neg (by simp only []; omega), h]; rfl)
theorem recRun_skip_bad (ht : Wire.ctag l = (a, b, (n : Int))) (hl : 0 < l.length) (ha : ¬ 536870911 < a) (h1 : ¬ (a = 1 ∧ b = 2)) (h2 : ¬ (a = 2 ∧ b = 0)) (h3 : ¬ (a = 3 ∧ b = 2)) (hc : fval a b (l.drop n) = c) (h : c < 0) : recRun s l = .none :=
  Wire.mrun_none' ht hl ha (by unfold recStep; rw [if_neg h1, if_neg h2, if_neg h3, hc]; exact if_pos h)
theorem recRun_skip (ht : Wire.ctag l = (a, b, (n : Int))) (hl : 0 < l.length) (ha : ¬ 536870911 < a) (h1 : ¬ (a = 1 ∧ b = 2)) (h2 : ¬ (a = 2 ∧ b = 0)) (h3 : ¬ (a = 3 ∧ b = 2)) (hc : fval a b (l.drop n) = (m : Int)) : recRun s l = recRun s ((l.drop n).drop m) :=
  Wire.mrun_some' ht hl ha (by unfold recStep; rw [if_neg h1, if_neg h2, if_neg h3, hc]; exact if_neg (by omega))
end

/-- fields of bytes, written -/
theorem fieldTag (f : Nat) (h1 : 1 ≤ f) (h : f ≤ 15) (d l : List UInt8) : Wire.ctag (fieldEnc f d ++ l) = ((f : Int), 2, ((1 : Nat) : Int)) := by
  have ht := ctag_one (t := 8 * f + 2) (by omega) (by omega) (lenEnc d ++ l)
  rw [show (8 * f + 2) / 8 = f by omega, show (8 * f + 2) % 8 = 2 by omega] at ht
  exact ht
theorem fieldBytes (f : Nat) (d l : List UInt8) (hd : d.length < 2 ^ 64) : Wire.cbytes ((fieldEnc f d ++ l).drop 1) = (d, ((lenEnc d).length : Int)) := by
  have hc := cbytes_lenEnc d l hd
  exact hc
theorem fieldRest (f : Nat) (d l : List UInt8) : ((fieldEnc f d ++ l).drop 1).drop (lenEnc d).length = l := by
  show (lenEnc d ++ l).drop (lenEnc d).length = l
  simp
theorem fieldPos (f : Nat) (d l : List UInt8) : 0 < (fieldEnc f d ++ l).length := by simp [fieldEnc]

theorem addrRun_field {s d : List UInt8} (hd : d.length < 2 ^ 64) (l : List UInt8) : addrRun s (fieldEnc 1 d ++ l) = addrRun d l := by
  have := addrRun_put (s := s) (fieldTag 1 (by omega) (by omega) d l) (fieldPos 1 d l) (fieldBytes 1 d l hd)
  rw [this, fieldRest]
theorem addrRun_opt {a : List UInt8} (ha : a.length < 2 ^ 64) : addrRun [] (optF 1 a) = some a := by
  unfold optF
  by_cases h : a = []
  · subst h; rw [if_pos rfl]; exact addrRun_nil
  · rw [if_neg h, ← List.append_nil (fieldEnc 1 a), addrRun_field ha, addrRun_nil]

section
variable {s : RV}
theorem recRun_peerF {d : List UInt8} (hd : d.length < 2 ^ 64) (l : List UInt8) : recRun s (fieldEnc 1 d ++ l) = recRun { s with peer := d } l := by
  have := recRun_peer (s := s) (fieldTag 1 (by omega) (by omega) d l) (fieldPos 1 d l) (fieldBytes 1 d l hd)
  rw [this, fieldRest]
theorem recRun_addrF {d r : List UInt8} (hd : d.length < 2 ^ 64) (hr : addrRun [] d = some r) (l : List UInt8) : recRun s (fieldEnc 3 d ++ l) = recRun { s with addrs := s.addrs ++ [r] } l := by
  have := recRun_addr (s := s) (fieldTag 3 (by omega) (by omega) d l) (fieldPos 3 d l) (fieldBytes 3 d l hd) hr
  rw [this, fieldRest]
/-- a number's field -/
def seqN (n : Nat) : List UInt8 := UInt8.ofNat 16 :: Wire.venc n
theorem recRun_seqN {n : Nat} (hn : n < 2 ^ 64) (l : List UInt8) : recRun s (seqN n ++ l) = recRun { s with seq := n } l := by
  have ht := ctag_one (t := 16) (by omega) (by omega) (Wire.venc n ++ l)
  have hc := Wire.cvar_venc hn l
  have := recRun_seq (s := s) (l := seqN n ++ l) (n := 1) (x := n) (m := (Wire.venc n).length) ht (by simp [seqN]) (by simpa [seqN] using hc)
  rw [this]
  congr 1
  simp [seqN]
end
theorem numEnc_seqN (n : Nat) : numEnc 2 n = seqN n := by
  unfold numEnc seqN; rw [Wire.venc_lt (by omega)]; rfl

/-- a record's message -/
def seqF (n : Nat) : List UInt8 := if n = 0 then [] else seqN n
def addrF (a : List UInt8) : List UInt8 := fieldEnc 3 (optF 1 a)
def addrsF (L : List (List UInt8)) : List UInt8 := (L.map addrF).flatten
def recEnc (R : RV) : List UInt8 := optF 1 R.peer ++ (seqF R.seq ++ addrsF R.addrs)

structure RV.ok (R : RV) : Prop where
  peer : R.peer.length < 2 ^ 60
  seq : R.seq < 2 ^ 64
  addrs : ∀ a ∈ R.addrs, a.length < 2 ^ 60

theorem optF_len60 {f : Nat} {a : List UInt8} (h : a.length < 2 ^ 60) : (optF f a).length < 2 ^ 64 := by
  have h2 : (Wire.venc a.length).length ≤ 10 := Wire.venc_length_u64 (by omega)
  unfold optF
  split
  · simp
  · rw [fieldEnc_length]; omega

theorem recRun_addrs : ∀ (L : List (List UInt8)) (s : RV) (l : List UInt8), (∀ a ∈ L, a.length < 2 ^ 60) → recRun s (addrsF L ++ l) = recRun { s with addrs := s.addrs ++ L } l := by
  intro L
  induction L with
  | nil => intro s l _; simp [addrsF]
  | cons a L ih =>
    intro s l h
    have ha := h a (by simp)
    have e : addrsF (a :: L) ++ l = fieldEnc 3 (optF 1 a) ++ (addrsF L ++ l) := by simp [addrsF, addrF]
    rw [e, recRun_addrF (r := a) (optF_len60 ha) (addrRun_opt (by omega)), ih _ _ (fun b hb => h b (by simp [hb]))]
    simp
/-- a record's message over what is there -/
theorem recRun_enc {s R : RV} (h : R.ok) (l : List UInt8) : recRun s (recEnc R ++ l) = recRun ⟨if R.peer = [] then s.peer else R.peer, if R.seq = 0 then s.seq else R.seq, s.addrs ++ R.addrs⟩ l := by
  unfold recEnc
  rw [List.append_assoc, List.append_assoc]
  have h1 : ∀ t, recRun s (optF 1 R.peer ++ t) = recRun { s with peer := if R.peer = [] then s.peer else R.peer } t := by
    intro t
    unfold optF
    by_cases hp : R.peer = []
    · rw [if_pos hp, if_pos hp]; rfl
    · rw [if_neg hp, if_neg hp, recRun_peerF (by have := h.peer; omega)]
  rw [h1]
  have h2 : ∀ (u : RV) t, recRun u (seqF R.seq ++ t) = recRun { u with seq := if R.seq = 0 then u.seq else R.seq } t := by
    intro u t
    unfold seqF
    by_cases hs : R.seq = 0
    · rw [if_pos hs, if_pos hs]; rfl
    · rw [if_neg hs, if_neg hs, recRun_seqN h.seq]
  rw [h2, recRun_addrs _ _ _ h.addrs]
theorem recDec_enc {R : RV} (h : R.ok) : recDec (recEnc R) = some R := by
  unfold recDec
  rw [← List.append_nil (recEnc R), recRun_enc h, recRun_nil]
  obtain ⟨p, n, L⟩ := R
  simp only [RV.none, List.nil_append]
  congr 1
  congr 1
  · split <;> simp_all
  · split <;> simp_all
theorem recEnc_inj {R S : RV} (h : R.ok) (k : S.ok) (e : recEnc R = recEnc S) : R = S := by
  have := recDec_enc h
  rw [e, recDec_enc k] at this
  injection this with this
  exact this.symm
/-- two messages, one behind the other -/
def RV.join (R S : RV) : RV := ⟨if S.peer = [] then R.peer else S.peer, if S.seq = 0 then R.seq else S.seq, R.addrs ++ S.addrs⟩
theorem recDec_joined {R S : RV} (h : R.ok) (k : S.ok) : recDec (recEnc R ++ recEnc S) = some (R.join S) := by
  unfold recDec
  rw [recRun_enc h, ← List.append_nil (recEnc S), recRun_enc k, recRun_nil]
  obtain ⟨p, n, L⟩ := R
  simp only [RV.none, List.nil_append, RV.join]
  congr 1
  congr 1
  · by_cases e : S.peer = [] <;> simp [e]
  · by_cases e : S.seq = 0
    · simp [e]; omega
    · simp [e]

/-- several bytes in one address: the last ones -/
theorem addrRun_pieces : ∀ (L : List (List UInt8)) (s : List UInt8), (∀ a ∈ L, a.length < 2 ^ 60) → addrRun s ((L.map (fieldEnc 1)).flatten) = some (L.getLast?.getD s) := by
  intro L
  induction L with
  | nil => intro s _; exact addrRun_nil
  | cons a L ih =>
    intro s h
    have ha := h a (by simp)
    rw [List.map_cons, List.flatten_cons, addrRun_field (by omega), ih a (fun b hb => h b (by simp [hb]))]
    cases L with
    | nil => rfl
    | cons b L =>
      rw [List.getLast?_cons_cons]
      cases h : (b :: L).getLast? with
      | none => simp at h
      | some x => rfl
theorem recDec_pieces {L : List (List UInt8)} (h : ∀ a ∈ L, a.length < 2 ^ 60) (hl : ((L.map (fieldEnc 1)).flatten).length < 2 ^ 64) : recDec (fieldEnc 3 ((L.map (fieldEnc 1)).flatten)) = some ⟨[], 0, [L.getLast?.getD []]⟩ := by
  unfold recDec
  rw [← List.append_nil (fieldEnc 3 _), recRun_addrF hl (addrRun_pieces L [] h), recRun_nil]
  rfl

/-- the fields of a record in another order: the addresses ahead, the number anywhere -/
def addrG (a : List UInt8) : List UInt8 := fieldEnc 3 (fieldEnc 1 a)
theorem recRun_addrsG : ∀ (L : List (List UInt8)) (s : RV) (l : List UInt8), (∀ a ∈ L, a.length < 2 ^ 60) → recRun s ((L.map addrG).flatten ++ l) = recRun { s with addrs := s.addrs ++ L } l := by
  intro L
  induction L with
  | nil => intro s l _; simp
  | cons a L ih =>
    intro s l h
    have ha := h a (by simp)
    have hf : (fieldEnc 1 a).length < 2 ^ 64 := by
      have h2 : (Wire.venc a.length).length ≤ 10 := Wire.venc_length_u64 (by omega)
      rw [fieldEnc_length]; omega
    have e : ((a :: L).map addrG).flatten ++ l = fieldEnc 3 (fieldEnc 1 a) ++ ((L.map addrG).flatten ++ l) := by simp [addrG]
    have hr : addrRun [] (fieldEnc 1 a) = some a := by
      rw [← List.append_nil (fieldEnc 1 a), addrRun_field (by omega), addrRun_nil]
    rw [e, recRun_addrF (r := a) hf hr, ih _ _ (fun b hb => h b (by simp [hb]))]
    simp
/-- the parts as they stand: addresses, ID, the number put in at place k -/
def orderL (R : RV) (k : Nat) : List (List UInt8) := ((R.addrs.map addrG ++ [fieldEnc 1 R.peer]).take k) ++ seqN R.seq :: ((R.addrs.map addrG ++ [fieldEnc 1 R.peer]).drop k)
theorem recDec_order {R : RV} (h : R.ok) (k : Nat) (hk : k ≤ R.addrs.length + 1) : recDec (orderL R k).flatten = some R := by
  unfold recDec orderL
  by_cases h1 : k ≤ R.addrs.length
  · rw [List.take_append_of_le_length (by simpa using h1), List.drop_append_of_le_length (by simpa using h1), ← List.map_take, ← List.map_drop]
    rw [List.flatten_append, recRun_addrsG _ _ _ (fun a ha => h.addrs a (List.mem_of_mem_take ha)), List.flatten_cons, recRun_seqN h.seq, List.flatten_append, recRun_addrsG _ _ _ (fun a ha => h.addrs a (List.mem_of_mem_drop ha))]
    rw [List.flatten_cons, recRun_peerF (by have := h.peer; omega), List.flatten_nil, recRun_nil]
    obtain ⟨p, n, L⟩ := R
    simp [RV.none]
  · obtain rfl : k = R.addrs.length + 1 := by omega
    rw [List.take_of_length_le (by simp), List.drop_of_length_le (by simp)]
    rw [List.flatten_append, List.flatten_append, List.append_assoc, recRun_addrsG _ _ _ h.addrs, List.flatten_cons, List.flatten_nil, List.append_nil, recRun_peerF (by have := h.peer; omega), List.flatten_cons, recRun_seqN h.seq, List.flatten_nil, recRun_nil]
    obtain ⟨p, n, L⟩ := R
    simp [RV.none]
end Go.Proofs.YtcefcdmonfenoaaDoor
