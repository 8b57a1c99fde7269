/- Envelopes' messages: the plain reading and writing; no program. -/
import Derived.Test.YtcefcdmonfenoaaDoorKt
namespace Go.Proofs.YtcefcdmonfenoaaDoor
open Go.RowKit

/-- what an envelope's message has told so far -/
structure ES where
  key : Option KS
  ty : List UInt8
  pay : List UInt8
  sig : List UInt8
def ES.none : ES := ⟨.none, [], [], []⟩

/-- a part of bytes taken over what is there -/
def envPut (s : ES) (num : Int) (d : List UInt8) : Option ES :=
  if num = 1 then (keyRun (s.key.getD KS.none) d).map fun k => { s with key := some k }
  else if num = 2 then some { s with ty := d }
  else if num = 3 then some { s with pay := d }
  else some { s with sig := d }

def envStep (s : ES) (num typ : Int) (l : List UInt8) : Option (ES × Nat) :=
  if typ = 2 ∧ (num = 1 ∨ num = 2 ∨ num = 3 ∨ num = 5) then
    (if (Wire.cbytes l).2 < 0 then .none else (envPut s num (Wire.cbytes l).1).map fun s' => (s', (Wire.cbytes l).2.toNat))
  else (if fval num typ l < 0 then .none else some (s, (fval num typ l).toNat))

def envRun (s : ES) (l : List UInt8) : Option ES := Wire.mrun envStep s l

section
variable {s s' : ES} {l : List UInt8} {n m : Nat} {a b c : Int} {x : Nat} {d : List UInt8}
theorem envRun_nil : envRun s [] = some s := Wire.mrun_nil
theorem envRun_torn (ht : Wire.ctag l = (a, b, c)) (hl : 0 < l.length) (h : c < 0) : envRun s l = .none := Wire.mrun_torn' ht hl h
theorem envRun_far (ht : Wire.ctag l = (a, b, c)) (hl : 0 < l.length) (h : 536870911 < a) : envRun s l = .none := Wire.mrun_far' ht hl h
theorem envRun_bytes_bad (ht : Wire.ctag l = (a, 2, (n : Int))) (ha : a = 1 ∨ a = 2 ∨ a = 3 ∨ a = 5) (hl : 0 < l.length) (hc : Wire.cbytes (l.drop n) = (d, c)) (h : c < 0) : envRun s l = .none :=
  Wire.mrun_none' ht hl (by omega) (by unfold envStep; rw [if_pos ⟨rfl, ha⟩, hc]; exact if_pos h)
theorem envRun_put_bad (ht : Wire.ctag l = (a, 2, (n : Int))) (ha : a = 1 ∨ a = 2 ∨ a = 3 ∨ a = 5) (hl : 0 < l.length) (hc : Wire.cbytes (l.drop n) = (d, (m : Int))) (h : envPut s a d = .none) : envRun s l = .none :=
  Wire.mrun_none' ht hl (by omega) (by unfold envStep; rw [if_pos ⟨rfl, ha⟩, hc, if_neg (by simp only []; omega), h]; rfl)
theorem envRun_put (ht : Wire.ctag l = (a, 2, (n : Int))) (ha : a = 1 ∨ a = 2 ∨ a = 3 ∨ a = 5) (hl : 0 < l.length) (hc : Wire.cbytes (l.drop n) = (d, (m : Int))) (h : envPut s a d = some s') : envRun s l = envRun s' ((l.drop n).drop m) :=
  Wire.mrun_some' ht hl (by omega) (by unfold envStep; rw [if_pos ⟨rfl, ha⟩, hc, if_neg (by simp only []; omega), h]; rfl)
theorem envRun_skip_bad (ht : Wire.ctag l = (a, b, (n : Int))) (hl : 0 < l.length) (ha : ¬ 536870911 < a) (h1 : ¬ (b = 2 ∧ (a = 1 ∨ a = 2 ∨ a = 3 ∨ a = 5))) (hc : fval a b (l.drop n) = c) (h : c < 0) : envRun s l = .none :=
  Wire.mrun_none' ht hl ha (by unfold envStep; rw [if_neg h1, hc]; exact if_pos h)
theorem envRun_skip (ht : Wire.ctag l = (a, b, (n : Int))) (hl : 0 < l.length) (ha : ¬ 536870911 < a) (h1 : ¬ (b = 2 ∧ (a = 1 ∨ a = 2 ∨ a = 3 ∨ a = 5))) (hc : fval a b (l.drop n) = (m : Int)) : envRun s l = envRun s ((l.drop n).drop m) :=
  Wire.mrun_some' ht hl ha (by unfold envStep; rw [if_neg h1, hc]; exact if_neg (by omega))

/-- a field of an envelope -/
theorem envRun_field (f : Nat) (hf : f = 1 ∨ f = 2 ∨ f = 3 ∨ f = 5) (hd : d.length < 2 ^ 64) (h : envPut s f d = some s') (l : List UInt8) : envRun s (fieldEnc f d ++ l) = envRun s' l := by
  have ht := ctag_one (t := 8 * f + 2) (by omega) (by omega) (lenEnc d ++ l)
  rw [show (8 * f + 2) / 8 = f by omega, show (8 * f + 2) % 8 = 2 by omega] at ht
  have hc := cbytes_lenEnc d l hd
  have e : fieldEnc f d ++ l = UInt8.ofNat (8 * f + 2) :: (lenEnc d ++ l) := rfl
  have := envRun_put (s := s) (s' := s') (l := fieldEnc f d ++ l) (n := 1) (d := d) (m := (lenEnc d).length) (a := (f : Int)) (by rw [e]; exact ht) (by omega) (by rw [e]; simp) (by rw [e]; simpa using hc) h
  rw [this, e]
  simp
theorem envRun_field_torn (f : Nat) (hf : f = 1 ∨ f = 2 ∨ f = 3 ∨ f = 5) (hd : d.length < 2 ^ 64) (i : Nat) (h0 : 0 < i) (hi : i < (fieldEnc f d).length) : envRun s ((fieldEnc f d).take i) = .none := by
  obtain ⟨i, rfl⟩ : ∃ j, i = j + 1 := ⟨i - 1, by omega⟩
  have e : (fieldEnc f d).take (i + 1) = UInt8.ofNat (8 * f + 2) :: (lenEnc d).take i := rfl
  have hi' : i < (lenEnc d).length := by simpa [fieldEnc] using hi
  have ht := ctag_one (t := 8 * f + 2) (by omega) (by omega) ((lenEnc d).take i)
  rw [show (8 * f + 2) / 8 = f by omega, show (8 * f + 2) % 8 = 2 by omega] at ht
  rw [e]
  exact envRun_bytes_bad (n := 1) (a := (f : Int)) ht (by omega) (by simp) (d := (Wire.cbytes ((lenEnc d).take i)).1) (c := (Wire.cbytes ((lenEnc d).take i)).2) (by simp) (lenEnc_torn d hd i hi')
end

/-- an envelope -/
structure EV where
  has : Bool
  kind : Int
  key : List UInt8
  ty : List UInt8
  pay : List UInt8
  sig : List UInt8
  deriving DecidableEq

def EV.of : ES → Option EV
  | ⟨none, t, p, s⟩ => some ⟨false, 0, [], t, p, s⟩
  | ⟨some ⟨some k, some d⟩, t, p, s⟩ => some ⟨true, k, d, t, p, s⟩
  | _ => none
def envDec (l : List UInt8) : Option EV := (envRun ES.none l).bind EV.of

/-- a field of bytes, if there are any -/
def optF (f : Nat) (d : List UInt8) : List UInt8 := if d = [] then [] else fieldEnc f d
def envKeyF (E : EV) : List UInt8 := if E.has = true then fieldEnc 1 (keyEnc E.kind E.key) else []
def envEnc (E : EV) : List UInt8 := envKeyF E ++ (optF 2 E.ty ++ (optF 3 E.pay ++ optF 5 E.sig))

/-- an envelope that may be written: a key that is none tells nothing; the kind fits; nothing is too long -/
structure EV.ok (E : EV) : Prop where
  plain : E.has = false → E.kind = 0 ∧ E.key = []
  k1 : -2147483648 ≤ E.kind
  k2 : E.kind ≤ 2147483647
  key : E.key.length < 2 ^ 60
  ty : E.ty.length < 2 ^ 60
  pay : E.pay.length < 2 ^ 60
  sig : E.sig.length < 2 ^ 60

section
variable {s : ES} {d : List UInt8} {E : EV}
theorem envRun_opt2 (hd : d.length < 2 ^ 60) (h0 : s.ty = []) (l : List UInt8) : envRun s (optF 2 d ++ l) = envRun { s with ty := d } l := by
  unfold optF
  by_cases h : d = []
  · subst h; obtain ⟨k, t, p, g⟩ := s; cases h0; rw [if_pos rfl]; rfl
  · rw [if_neg h]; exact envRun_field 2 (by omega) (by omega) rfl l
theorem envRun_opt3 (hd : d.length < 2 ^ 60) (h0 : s.pay = []) (l : List UInt8) : envRun s (optF 3 d ++ l) = envRun { s with pay := d } l := by
  unfold optF
  by_cases h : d = []
  · subst h; obtain ⟨k, t, p, g⟩ := s; cases h0; rw [if_pos rfl]; rfl
  · rw [if_neg h]; exact envRun_field 3 (by omega) (by omega) rfl l
theorem envRun_opt5 (hd : d.length < 2 ^ 60) (h0 : s.sig = []) (l : List UInt8) : envRun s (optF 5 d ++ l) = envRun { s with sig := d } l := by
  unfold optF
  by_cases h : d = []
  · subst h; obtain ⟨k, t, p, g⟩ := s; cases h0; rw [if_pos rfl]; rfl
  · rw [if_neg h]; exact envRun_field 5 (by omega) (by omega) rfl l
theorem keyRun_enc {k : Int} {d : List UInt8} (h1 : -2147483648 ≤ k) (h2 : k ≤ 2147483647) (h : d.length < 2 ^ 64) : keyRun KS.none (keyEnc k d) = some ⟨some k, some d⟩ := by
  rw [keyEnc_eq, keyRun_kindF h1 h2, ← List.append_nil (dataF d), keyRun_dataF h, keyRun_nil]
theorem keyEnc_lt {k : Int} {d : List UInt8} (h : d.length < 2 ^ 60) : (keyEnc k d).length < 2 ^ 64 := by have := (keyEnc_length k d (by omega)).1; omega

def EV.ks (E : EV) : Option KS := if E.has = true then some ⟨some E.kind, some E.key⟩ else none
theorem envRun_keyF (hE : E.ok) (l : List UInt8) : envRun ES.none (envKeyF E ++ l) = envRun ⟨E.ks, [], [], []⟩ l := by
  unfold envKeyF EV.ks
  by_cases h : E.has = true
  · rw [if_pos h, if_pos h]
    refine envRun_field 1 (by omega) (keyEnc_lt hE.key) ?_ l
    have := keyRun_enc hE.k1 hE.k2 (d := E.key) (by have := hE.key; omega)
    show (keyRun KS.none (keyEnc E.kind E.key)).map _ = _
    rw [this]; rfl
  · rw [if_neg h, if_neg h]; rfl
theorem envRun_enc (hE : E.ok) : envRun ES.none (envEnc E) = some ⟨E.ks, E.ty, E.pay, E.sig⟩ := by
  unfold envEnc
  rw [envRun_keyF hE, envRun_opt2 hE.ty rfl, envRun_opt3 hE.pay rfl, ← List.append_nil (optF 5 E.sig), envRun_opt5 hE.sig rfl, envRun_nil]
theorem EV.of_ks (hE : E.ok) (t p g : List UInt8) : EV.of ⟨E.ks, t, p, g⟩ = some ⟨E.has, E.kind, E.key, t, p, g⟩ := by
  unfold EV.ks
  by_cases h : E.has = true
  · rw [if_pos h, h]; rfl
  · rw [if_neg h]
    have h' : E.has = false := by simpa using h
    obtain ⟨e1, e2⟩ := hE.plain h'
    rw [h', e1, e2]; rfl
theorem envDec_enc (hE : E.ok) : envDec (envEnc E) = some E := by
  unfold envDec
  rw [envRun_enc hE]
  exact EV.of_ks hE _ _ _
theorem envEnc_inj {D E : EV} (hD : D.ok) (hE : E.ok) (h : envEnc D = envEnc E) : D = E := by
  have := envDec_enc hD
  rw [h, envDec_enc hE] at this
  injection this with this
  exact this.symm

/-- what a cut envelope tells -/
def EV.part (X E : EV) : Prop :=
  (X.has = true → E.has = true ∧ X.kind = E.kind ∧ X.key = E.key) ∧ (X.ty = [] ∨ X.ty = E.ty) ∧ (X.pay = [] ∨ X.pay = E.pay) ∧ (X.sig = [] ∨ X.sig = E.sig)

/-- a cut of a field and what follows it: nothing is left, or it is torn, or it is whole -/
theorem cut_field {F l : List UInt8} (j : Nat) : (j < F.length ∧ (F ++ l).take j = F.take j) ∨ (F.length ≤ j ∧ (F ++ l).take j = F ++ l.take (j - F.length)) := by
  by_cases h : j < F.length
  · exact .inl ⟨h, List.take_append_of_le_length (by omega)⟩
  · exact .inr ⟨by omega, by rw [List.take_append, List.take_of_length_le (by omega)]⟩

theorem optF_torn (f : Nat) (hf : f = 1 ∨ f = 2 ∨ f = 3 ∨ f = 5) (hd : d.length < 2 ^ 60) (i : Nat) (hi : i < (optF f d).length) : envRun s ((optF f d).take i) = (if i = 0 then some s else none) := by
  unfold optF at hi ⊢
  by_cases h : d = []
  · rw [if_pos h] at hi; simp at hi
  · rw [if_neg h] at hi ⊢
    by_cases h0 : i = 0
    · subst h0; rw [List.take_zero, envRun_nil]; rfl
    · rw [if_neg h0]; exact envRun_field_torn f hf (by omega) i (by omega) hi
theorem keyF_torn (hE : E.ok) (i : Nat) (hi : i < (envKeyF E).length) : envRun s ((envKeyF E).take i) = (if i = 0 then some s else none) := by
  unfold envKeyF at hi ⊢
  by_cases h : E.has = true
  · rw [if_pos h] at hi ⊢
    by_cases h0 : i = 0
    · subst h0; rw [List.take_zero, envRun_nil]; rfl
    · rw [if_neg h0]; exact envRun_field_torn 1 (by omega) (keyEnc_lt hE.key) i (by omega) hi
  · rw [if_neg h] at hi; simp at hi

theorem envRun_cut (hE : E.ok) (j : Nat) : envRun ES.none ((envEnc E).take j) = none ∨ ∃ k t p g, envRun ES.none ((envEnc E).take j) = some ⟨k, t, p, g⟩ ∧ (k = none ∨ k = E.ks) ∧ (t = [] ∨ t = E.ty) ∧ (p = [] ∨ p = E.pay) ∧ (g = [] ∨ g = E.sig) := by
  unfold envEnc
  rcases cut_field (F := envKeyF E) (l := optF 2 E.ty ++ (optF 3 E.pay ++ optF 5 E.sig)) j with ⟨hi, e⟩ | ⟨hi, e⟩
  · rw [e, keyF_torn hE j hi]
    by_cases h0 : j = 0
    · rw [if_pos h0]; exact .inr ⟨none, [], [], [], rfl, .inl rfl, .inl rfl, .inl rfl, .inl rfl⟩
    · rw [if_neg h0]; exact .inl rfl
  rw [e, envRun_keyF hE]
  clear e hi
  generalize j - (envKeyF E).length = j
  rcases cut_field (F := optF 2 E.ty) (l := optF 3 E.pay ++ optF 5 E.sig) j with ⟨hi, e⟩ | ⟨hi, e⟩
  · rw [e, optF_torn 2 (by omega) hE.ty j hi]
    by_cases h0 : j = 0
    · rw [if_pos h0]; exact .inr ⟨_, [], [], [], rfl, .inr rfl, .inl rfl, .inl rfl, .inl rfl⟩
    · rw [if_neg h0]; exact .inl rfl
  rw [e, envRun_opt2 hE.ty rfl]
  clear e hi
  generalize j - (optF 2 E.ty).length = j
  rcases cut_field (F := optF 3 E.pay) (l := optF 5 E.sig) j with ⟨hi, e⟩ | ⟨hi, e⟩
  · rw [e, optF_torn 3 (by omega) hE.pay j hi]
    by_cases h0 : j = 0
    · rw [if_pos h0]; exact .inr ⟨_, _, [], [], rfl, .inr rfl, .inr rfl, .inl rfl, .inl rfl⟩
    · rw [if_neg h0]; exact .inl rfl
  rw [e, envRun_opt3 hE.pay rfl]
  clear e hi
  generalize j - (optF 3 E.pay).length = j
  by_cases hi : j < (optF 5 E.sig).length
  · rw [optF_torn 5 (by omega) hE.sig j hi]
    by_cases h0 : j = 0
    · rw [if_pos h0]; exact .inr ⟨_, _, _, [], rfl, .inr rfl, .inr rfl, .inr rfl, .inl rfl⟩
    · rw [if_neg h0]; exact .inl rfl
  · rw [List.take_of_length_le (by omega), ← List.append_nil (optF 5 E.sig), envRun_opt5 hE.sig rfl, envRun_nil]
    exact .inr ⟨_, _, _, _, rfl, .inr rfl, .inr rfl, .inr rfl, .inr rfl⟩

theorem envDec_cut (hE : E.ok) (j : Nat) : envDec ((envEnc E).take j) = none ∨ ∃ X, envDec ((envEnc E).take j) = some X ∧ X.part E := by
  unfold envDec
  rcases envRun_cut hE j with h | ⟨k, t, p, g, h, hk, ht, hp, hg⟩
  · rw [h]; exact .inl rfl
  · rw [h]
    rcases hk with rfl | rfl
    · exact .inr ⟨⟨false, 0, [], t, p, g⟩, rfl, ⟨fun h => by simp at h, ht, hp, hg⟩⟩
    · exact .inr ⟨⟨E.has, E.kind, E.key, t, p, g⟩, EV.of_ks hE _ _ _, ⟨fun h => ⟨h, rfl, rfl⟩, ht, hp, hg⟩⟩
end
end Go.Proofs.YtcefcdmonfenoaaDoor
