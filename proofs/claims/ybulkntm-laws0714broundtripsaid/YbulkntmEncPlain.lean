/-
  PLAIN NUMBERS FOR 'der.zzs0714bencode': the octets that it lays out of base-128 digits; no Go in sight but the model's 'bits'.
-/
import Derived.Test.YbulkntmOid
import Derived.Laws.Bits64b
namespace Go.Proofs.Ybulkntm
open Go.RowKit

theorem and127 (z : Int) (h0 : 0 ≤ z) (h1 : z < 18446744073709551616) : bits BinOp.and IntKind.u64 z 127 % 256 = z % 128 := by
  have h := bits_and_u64_nat z.toNat 127 (by omega) (by omega)
  have e : z.toNat &&& 127 = z.toNat % 128 := Nat.and_two_pow_sub_one_eq_mod z.toNat 7
  rw [e, Int.toNat_of_nonneg h0] at h
  have h2 : bits BinOp.and IntKind.u64 z 127 = ((z.toNat % 128 : Nat) : Int) := h
  rw [h2]
  omega

theorem or128_fin : ∀ n : Fin 128, bits BinOp.or IntKind.u8 ((n.val : Nat) : Int) 128 = (n.val : Int) + 128 := by decide +kernel
theorem or128 (x : Int) (h : 0 ≤ x ∧ x ≤ 127) : bits BinOp.or IntKind.u8 x 128 = x + 128 := by
  obtain ⟨n, rfl⟩ := Int.eq_ofNat_of_zero_le h.1
  exact or128_fin ⟨n, by omega⟩

/-- the octet laid for digit q. -/
def byt (d : Nat → Int) (q : Nat) : Int := if 0 < q then d q + 128 else d q
/-- the first e octets laid for n digits. -/
def emit (d : Nat → Int) (n e : Nat) : List Int := (List.range e).map fun i => byt d (n - 1 - i)
theorem emit_length (d : Nat → Int) (n e : Nat) : (emit d n e).length = e := by simp [emit]
theorem emit_succ (d : Nat → Int) (n e : Nat) : emit d n (e + 1) = emit d n e ++ [byt d (n - 1 - e)] := by simp [emit, List.range_succ]
theorem emit_getD (d : Nat → Int) (n e i : Nat) (h : i < e) : (emit d n e).getD i 0 = byt d (n - 1 - i) := by
  simp [emit, List.getD, h]

/-- A subidentifier in its shortest form. -/
structure Sub (ys : List Int) : Prop where
  pos : 0 < ys.length
  range : ∀ j, j < ys.length → 0 ≤ ys.getD j 0 ∧ ys.getD j 0 ≤ 255
  last : ys.getD (ys.length - 1) 0 < 128
  more : ∀ j, j + 1 < ys.length → 128 ≤ ys.getD j 0
  short : ys.getD 0 0 ≠ 128

theorem sub_emit (d : Nat → Int) (n : Nat) (h0 : 0 < n) (hd : ∀ j, j < n → 0 ≤ d j ∧ d j ≤ 127) (hl : 1 < n → d (n - 1) ≠ 0) : Sub (emit d n n) := by
  refine ⟨by rw [emit_length]; exact h0, ?_, ?_, ?_, ?_⟩
  · intro j hj
    rw [emit_length] at hj
    rw [emit_getD _ _ _ _ hj]
    have := hd (n - 1 - j) (by omega)
    unfold byt
    split <;> omega
  · rw [emit_length, emit_getD _ _ _ _ (by omega)]
    have := hd 0 h0
    unfold byt
    rw [if_neg (by omega), show n - 1 - (n - 1) = 0 by omega]
    omega
  · intro j hj
    rw [emit_length] at hj
    rw [emit_getD _ _ _ _ (by omega)]
    have := hd (n - 1 - j) (by omega)
    unfold byt
    rw [if_pos (by omega)]
    omega
  · rw [emit_getD _ _ _ _ h0]
    have h := hd (n - 1) (by omega)
    unfold byt
    simp only [Nat.sub_zero]
    by_cases h1 : 1 < n
    · have := hl h1
      rw [if_pos (by omega)]; omega
    · rw [if_neg (by omega)]; omega

/-- The octets of whole subidentifiers, one behind the other. -/
structure Subs (ys : List Int) : Prop where
  range : ∀ j, j < ys.length → 0 ≤ ys.getD j 0 ∧ ys.getD j 0 ≤ 255
  last : 0 < ys.length → ys.getD (ys.length - 1) 0 < 128
  bad : ∀ j, j < ys.length → badB (fun i => ys.getD i 0) j = false

theorem subs_nil : Subs [] := ⟨fun j hj => absurd hj (by simp), fun h => absurd h (by simp), fun j hj => absurd hj (by simp)⟩

theorem getD_left (xs ys : List Int) (j : Nat) (h : j < xs.length) : (xs ++ ys).getD j 0 = xs.getD j 0 := by
  simp [List.getD, List.getElem?_append_left h]
theorem getD_right (xs ys : List Int) (j : Nat) (h : xs.length ≤ j) : (xs ++ ys).getD j 0 = ys.getD (j - xs.length) 0 := by
  simp [List.getD, List.getElem?_append_right h]

theorem subs_append {xs ys : List Int} (hx : Subs xs) (hy : Sub ys) : Subs (xs ++ ys) := by
  have hl : (xs ++ ys).length = xs.length + ys.length := List.length_append
  refine ⟨?_, ?_, ?_⟩
  · intro j hj
    by_cases h : j < xs.length
    · rw [getD_left _ _ _ h]; exact hx.range j h
    · rw [getD_right _ _ _ (by omega)]; exact hy.range _ (by omega)
  · intro _
    have := hy.pos
    rw [getD_right _ _ _ (by omega), show (xs ++ ys).length - 1 - xs.length = ys.length - 1 by omega]
    exact hy.last
  · intro j hj
    by_cases h : j < xs.length
    · have hb := hx.bad j h
      unfold badB at hb ⊢
      simp only at hb ⊢
      rw [getD_left _ _ _ h]
      rw [← hb]
      congr 1
      cases j with
      | zero => rfl
      | succ k => show decide ((xs ++ ys).getD k 0 < 128) = decide (xs.getD k 0 < 128); rw [getD_left _ _ _ (by omega)]
    · unfold badB
      simp only
      rw [getD_right xs ys j (by omega)]
      by_cases h0 : j = xs.length
      · rw [show j - xs.length = 0 by omega]
        have := hy.short
        have e : (ys.getD 0 0 == 128) = false := by rw [beq_eq_false_iff_ne]; exact this
        rw [e]; simp
      · cases j with
        | zero => omega
        | succ k =>
          have := hy.more (k - xs.length) (by omega)
          have e : firstB (fun i => (xs ++ ys).getD i 0) (k + 1) = false := by
            show decide ((xs ++ ys).getD k 0 < 128) = false
            rw [getD_right xs ys k (by omega)]
            exact decide_eq_false (by omega)
          rw [e]; rfl

theorem subs_ok {ys : List Int} (h : Subs ys) (h0 : 0 < ys.length) : OidOk (fun i => ys.getD i 0) ys.length := ⟨h0, h.last h0, h.bad⟩
theorem subs_none : ¬ OidOk (fun i => ([] : List Int).getD i 0) 0 := fun h => absurd h.1 (by omega)
end Go.Proofs.Ybulkntm
