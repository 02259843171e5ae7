/-
  PLAIN LISTS AND NUMBERS FOR THE SEAT: the varint read back, entries and their encoding, the keys' order. No Go in sight.
-/
import Derived.Lib.Varint
import Derived.Lib.VarintDec
import Derived.Lib.Bytealg
namespace Go.Proofs.YbulknwsFmt

/-! ### what is encoded is what is decoded -/
theorem toNat_small (n : Nat) (h : n < 256) : (n.toUInt8).toNat = n := by
  show n % 256 = n
  omega

theorem dec_from (rest : List UInt8) : ∀ (k x i acc : Nat), x < 128 ^ (k + 1) → i + (Lib.uvarint x).length ≤ 10 → x * 2 ^ (7 * i) < 18446744073709551616 →
    Lib.uvarintFrom i acc (Lib.uvarint x ++ rest) = (acc + x * 2 ^ (7 * i), (i : Int) + (Lib.uvarint x).length) := by
  intro k
  induction k with
  | zero =>
    intro x i acc hx hi hp
    have hx' : x < 128 := by simpa using hx
    rw [Lib.uvarint_small hx'] at hi ⊢
    have hb := toNat_small x (by omega)
    simp only [List.cons_append, List.nil_append, Lib.uvarintFrom, hb, List.length_cons, List.length_nil] at hi ⊢
    rw [if_neg (by omega), if_pos hx', if_neg]
    · rfl
    · rintro ⟨rfl, h⟩
      have e : (2 : Nat) ^ (7 * 9) = 9223372036854775808 := by decide
      rw [e] at hp
      omega
  | succ k ih =>
    intro x i acc hx hi hp
    by_cases hx' : x < 128
    · rw [Lib.uvarint_small hx'] at hi ⊢
      have hb := toNat_small x (by omega)
      simp only [List.cons_append, List.nil_append, Lib.uvarintFrom, hb, List.length_cons, List.length_nil] at hi ⊢
      rw [if_neg (by omega), if_pos hx', if_neg]
      · rfl
      · rintro ⟨rfl, h⟩
        have e : (2 : Nat) ^ (7 * 9) = 9223372036854775808 := by decide
        rw [e] at hp
        omega
    · rw [Lib.uvarint_big (by omega)] at hi ⊢
      have hb := toNat_small (x % 128 + 128) (by omega)
      have hpow : 2 ^ (7 * (i + 1)) = 2 ^ (7 * i) * 128 := by rw [show 7 * (i + 1) = 7 * i + 7 by omega, Nat.pow_add]
      have hmul : x % 128 * 2 ^ (7 * i) + x / 128 * (2 ^ (7 * i) * 128) = x * 2 ^ (7 * i) := by
        have e : x / 128 * (2 ^ (7 * i) * 128) = (128 * (x / 128)) * 2 ^ (7 * i) := by rw [Nat.mul_comm (2 ^ (7 * i)) 128, ← Nat.mul_assoc, Nat.mul_comm (x / 128) 128]
        rw [e, ← Nat.add_mul, Nat.mod_add_div]
      simp only [List.cons_append, Lib.uvarintFrom, hb, List.length_cons] at hi ⊢
      rw [if_neg (by omega), if_neg (by omega), show (x % 128 + 128) % 128 = x % 128 by omega]
      rw [ih (x / 128) (i + 1) _ (by rw [Nat.pow_succ] at hx; exact Nat.div_lt_of_lt_mul (by rw [Nat.mul_comm]; exact hx)) (by omega) (by rw [hpow]; omega)]
      rw [hpow]
      refine Prod.ext ?_ ?_
      · simp only
        omega
      · simp only
        omega

theorem dec_enc (x : Nat) (h : x < 18446744073709551616) (rest : List UInt8) : Lib.uvarintDec (Lib.uvarint x ++ rest) = (x, ((Lib.uvarint x).length : Int)) := by
  have := dec_from rest 9 x 0 0 (Nat.lt_of_lt_of_le h (by decide)) (by have := Lib.uvarint_length64 h; omega) (by simpa using h)
  unfold Lib.uvarintDec
  rw [this]
  simp

/-! ### entries -/
structure Ent where
  fb : List UInt8
  fv : Nat
  lb : List UInt8
  lv : Nat
  mn : Nat
  mx : Nat
  po : Nat
  ln : Nat

/-- the numbers are uint64s, the prefixes no longer than m. -/
structure Ent.Fits (m : Nat) (e : Ent) : Prop where
  fb : e.fb.length ≤ m
  fv : e.fv < 18446744073709551616
  lb : e.lb.length ≤ m
  lv : e.lv < 18446744073709551616
  mn : e.mn < 18446744073709551616
  mx : e.mx < 18446744073709551616
  po : e.po < 18446744073709551616
  ln : e.ln < 18446744073709551616

def keyEnc (p : List UInt8) (v : Nat) : List UInt8 := Lib.uvarint p.length ++ (p ++ Lib.uvarint v)
def Ent.enc (e : Ent) : List UInt8 := keyEnc e.fb e.fv ++ (keyEnc e.lb e.lv ++ (Lib.uvarint e.mn ++ (Lib.uvarint e.mx ++ (Lib.uvarint e.po ++ Lib.uvarint e.ln))))
def encAll (L : List Ent) : List UInt8 := L.flatMap Ent.enc

theorem encAll_nil : encAll [] = [] := rfl
theorem encAll_cons (e : Ent) (L : List Ent) : encAll (e :: L) = e.enc ++ encAll L := by simp [encAll]
theorem encAll_take_succ (L : List Ent) (i : Nat) (h : i < L.length) : encAll (L.take (i + 1)) = encAll (L.take i) ++ L[i].enc := by
  rw [List.take_succ_eq_append_getElem h]; unfold encAll; rw [List.flatMap_append]; simp only [List.flatMap_cons, List.flatMap_nil, List.append_nil]
theorem keyEnc_length (p : List UInt8) (v m : Nat) (hp : p.length ≤ m) (hm : m < 18446744073709551616) (hv : v < 18446744073709551616) : (keyEnc p v).length ≤ m + 20 := by
  have h1 := Lib.uvarint_length64 (x := p.length) (by omega)
  have h2 := Lib.uvarint_length64 hv
  simp only [keyEnc, List.length_append]
  omega
theorem Ent.enc_length {e : Ent} {m : Nat} (h : e.Fits m) (hm : m ≤ 1024) : e.enc.length ≤ 2128 := by
  have h1 := keyEnc_length e.fb e.fv m h.fb (by omega) h.fv
  have h2 := keyEnc_length e.lb e.lv m h.lb (by omega) h.lv
  have h3 := Lib.uvarint_length64 h.mn
  have h4 := Lib.uvarint_length64 h.mx
  have h5 := Lib.uvarint_length64 h.po
  have h6 := Lib.uvarint_length64 h.ln
  simp only [Ent.enc, List.length_append]
  omega
theorem Ent.enc_pos (e : Ent) : 0 < e.enc.length := by
  have := Lib.uvarint_pos e.mn
  simp only [Ent.enc, List.length_append]
  omega
theorem encAll_length {L : List Ent} {m : Nat} (hL : ∀ e ∈ L, Ent.Fits m e) (hm : m ≤ 1024) : (encAll L).length ≤ 2128 * L.length := by
  induction L with
  | nil => simp [encAll]
  | cons e r ih =>
    rw [encAll_cons, List.length_append, List.length_cons]
    have h1 := Ent.enc_length (hL e (by simp)) hm
    have h2 := ih (fun x hx => hL x (by simp [hx]))
    omega

/-! ### the keys' order -/
def kcmp (p : List UInt8) (v : Nat) (q : List UInt8) (u : Nat) : Int :=
  if Lib.compareBytes p q ≠ 0 then Lib.compareBytes p q else if v = u then 0 else if v = 0 then -1 else if u = 0 then 1 else if u < v then -1 else 1

def Ent.badIn (e : Ent) : Bool := decide (0 < kcmp e.fb e.fv e.lb e.lv)
def Ent.badBehind (p e : Ent) : Bool := decide (0 < kcmp p.lb p.lv e.fb e.fv)
/-- is entry i out of order, in itself or behind the one before it? -/
def badAt (L : List Ent) : Nat → Bool
  | 0 => match L[0]? with | some e => e.badIn | none => false
  | i + 1 => match L[i]?, L[i + 1]? with | some p, some e => e.badIn || p.badBehind e | _, _ => false
def goodTo (L : List Ent) (k : Nat) : Prop := ∀ i, i < k → badAt L i = false
theorem goodTo_zero (L : List Ent) : goodTo L 0 := fun i hi => absurd hi (by omega)
theorem goodTo_succ {L : List Ent} {k : Nat} (h : goodTo L k) (hk : badAt L k = false) : goodTo L (k + 1) := by
  intro i hi
  by_cases e : i = k
  · subst e; exact hk
  · exact h i (by omega)
theorem badAt_zero {L : List Ent} (h : 0 < L.length) : badAt L 0 = L[0].badIn := by simp [badAt, h]
theorem badAt_succ {L : List Ent} {i : Nat} (h : i + 1 < L.length) : badAt L (i + 1) = (L[i + 1].badIn || (L[i]'(by omega)).badBehind L[i + 1]) := by
  have h' : i < L.length := by omega
  simp [badAt, h, h']

/-! ### the chain's entries -/
theorem compareBytes_self (l : List UInt8) : Lib.compareBytes l l = 0 := by
  induction l with
  | nil => rfl
  | cons a r ih => simp [Lib.compareBytes, ih]
def chainP (i : Nat) : List UInt8 := [(i / 256).toUInt8, (i % 256).toUInt8]
theorem chain_less (i : Nat) (h : i + 1 < 65536) : Lib.compareBytes (chainP i) (chainP (i + 1)) = -1 := by
  have h1 := toNat_small (i / 256) (by omega)
  have h2 := toNat_small (i % 256) (by omega)
  have h3 := toNat_small ((i + 1) / 256) (by omega)
  have h4 := toNat_small ((i + 1) % 256) (by omega)
  simp only [chainP, Lib.compareBytes]
  by_cases hq : i / 256 < (i + 1) / 256
  · rw [if_pos (UInt8.lt_iff_toNat_lt.2 (by omega))]
  · rw [if_neg (fun h => hq (by have := UInt8.lt_iff_toNat_lt.1 h; omega)), if_neg (fun h => by have := UInt8.lt_iff_toNat_lt.1 h; omega), if_pos (UInt8.lt_iff_toNat_lt.2 (by omega))]
theorem chain_good {L : List Ent} (hl : L.length ≤ 1024) (hL : ∀ i (h : i < L.length), L[i].fb = chainP i ∧ L[i].lb = chainP i ∧ L[i].fv = 0) : goodTo L L.length := by
  have hin : ∀ i (h : i < L.length), L[i].badIn = false := by
    intro i h
    obtain ⟨h1, h2, h3⟩ := hL i h
    unfold Ent.badIn kcmp
    rw [h1, h2, h3, compareBytes_self]
    by_cases hv : L[i].lv = 0
    · simp [hv]
    · simp [Ne.symm hv]
  intro i hi
  cases i with
  | zero => rw [badAt_zero hi]; exact hin 0 hi
  | succ k =>
    rw [badAt_succ hi, hin (k + 1) hi]
    obtain ⟨h1, _, _⟩ := hL (k + 1) hi
    obtain ⟨_, h2, _⟩ := hL k (by omega)
    unfold Ent.badBehind kcmp
    rw [h1, h2, chain_less k (by omega)]
    simp
end Go.Proofs.YbulknwsFmt
