/-
  'der.checkOID' (function 8) AND 'der.zzs0714bmodel' (function 9): what each computes, on plain numbers.
-/
import Derived.Test.YbulkntmRows
import Derived.WalkKit
import Derived.WalkSpells
import Derived.WalkLawsBesides
namespace Go.Proofs.Ybulkntm
open Go.RowKit

/-- does octet j begin a subidentifier? -/
def firstB (g : Nat → Int) : Nat → Bool
  | 0 => true
  | j + 1 => decide (g j < 128)
def badB (g : Nat → Int) (j : Nat) : Bool := firstB g j && (g j == 128)
/-- the octets g 0 .. g (len - 1) are the content of an object identifier. -/
def OidOk (g : Nat → Int) (len : Nat) : Prop := 0 < len ∧ g (len - 1) < 128 ∧ ∀ j, j < len → badB g j = false

theorem and128_fin : ∀ n : Fin 256, bits BinOp.and IntKind.u8 ((n.val : Nat) : Int) 128 = if n.val < 128 then 0 else 128 := by decide +kernel
theorem and128 (x : Int) (h : 0 ≤ x ∧ x ≤ 255) : bits BinOp.and IntKind.u8 x 128 = if x < 128 then 0 else 128 := by
  obtain ⟨n, rfl⟩ := Int.eq_ofNat_of_zero_le h.1
  have := and128_fin ⟨n, by omega⟩
  simp only at this
  rw [this]
  by_cases hn : n < 128
  · rw [if_pos hn, if_pos (by omega)]
  · rw [if_neg hn, if_neg (by omega)]
theorem and128_eq (x : Int) (h : 0 ≤ x ∧ x ≤ 255) : (bits BinOp.and IntKind.u8 x 128 == 0) = decide (x < 128) := by
  rw [and128 x h]; by_cases hx : x < 128 <;> simp [hx]
theorem and128_lo (x : Int) (h : 0 ≤ x ∧ x ≤ 255) (hx : x < 128) : (bits BinOp.and IntKind.u8 x 128 != 0) = false := by
  rw [and128 x h, if_pos hx]; rfl
theorem and128_hi (x : Int) (h : 0 ≤ x ∧ x ≤ 255) (hx : ¬ x < 128) : (bits BinOp.and IntKind.u8 x 128 != 0) = true := by
  rw [and128 x h, if_neg hx]; rfl

theorem bad_step {g : Nat → Int} {k : Nat} (h : ∀ j, j < k → badB g j = false) (hk : badB g k = false) : ∀ j, j < k + 1 → badB g j = false := by
  intro j hj
  by_cases e : j = k
  · subst e; exact hk
  · exact h j (by omega)
theorem ok_not_of_bad {g : Nat → Int} {k len : Nat} (hk : k < len) (h : badB g k = true) : ¬ OidOk g len := by
  rintro ⟨_, _, h3⟩
  rw [h3 k hk] at h; cases h

/-- what checkOID answers. -/
def Checked8 (g : Nat → Int) (len : Nat) (w : World) (e : Ending) (w' : World) : Prop :=
  (OidOk g len → e = .returned .nilIface) ∧ (¬ OidOk g len → ∃ t x, e = .returned (.iface t x)) ∧ Below w.heap.size w w'
theorem checked_yes {g : Nat → Int} {len : Nat} {w : World} (h : OidOk g len) : Checked8 g len w (.returned .nilIface) w := ⟨fun _ => rfl, fun hn => absurd h hn, Below.refl _ _⟩
theorem checked_no {g : Nat → Int} {len : Nat} {w w' : World} {t : TypeId} {x : Value} (h : ¬ OidOk g len) (hb : Below w.heap.size w w') : Checked8 g len w (.returned (.iface t x)) w' := ⟨fun hn => absurd hn h, fun _ => ⟨t, x, rfl⟩, hb⟩

theorem check_empty (a : Option Addr) (cap : Nat) (g : Nat → Int) (w : World) :
    Calls Yba.prog 8 #[.slice a 0 cap] w (Checked8 g 0 w) := by
  go_enter Yba.func8, Yba.ntmps8
  go_wp2
  go_ret
  exact checked_no (fun h => absurd h.1 (by omega)) ((Below.refl _ _).alloc (Nat.le_refl _) _)

set_option maxHeartbeats 400000 in
theorem check_in (b off len cap : Nat) (g : Nat → Int) (w : World) (hl : len ≤ 1000000000) (h0 : 0 < len)
    (hc : ∀ k, k < len → w.cell? ⟨b, off + k, none⟩ = some (.int .u8 (g k))) (hg : ∀ k, k < len → 0 ≤ g k ∧ g k ≤ 255) :
    Calls Yba.prog 8 #[.slice (some ⟨b, off, none⟩) len cap] w (Checked8 g len w) := by
  have hlast : w.cell? ⟨b, off + (len - 1), none⟩ = some (.int .u8 (g (len - 1))) := hc _ (by omega)
  have h0' : ((len : Int) == 0) = false := by rw [beq_eq_false_iff_ne]; omega
  have hgl := hg (len - 1) (by omega)
  by_cases hz : g (len - 1) < 128
  · have ht := and128_lo _ hgl hz
    go_enter Yba.func8, Yba.ntmps8
    go_wp2
    go_loop [21, 3] (fun i st => ∃ k : Nat, k ≤ len ∧ i = .int .i64 k ∧ st = .bool (firstB g k) ∧ ∀ j, j < k → badB g j = false) (fun i _ => len - (intOf i).toNat)
    case atStart => exact ⟨0, Nat.zero_le _, rfl, rfl, fun j hj => absurd hj (by omega)⟩
    case round =>
      obtain ⟨k, hk, rfl, rfl, hbad⟩ := hrel
      by_cases hlt : k < len
      · have hck := hc k hlt
        have hgk := hg k hlt
        have hnext := and128_eq _ hgk
        have HN : Hid (firstB g (k + 1) = (bits BinOp.and IntKind.u8 (g k) 128 == 0)) := hnext.symm
        clear hnext
        cases hf : firstB g k
        · have HB : Hid (badB g k = false) := by show _ = _; simp [badB, hf]
          go_wp2
          go_round
          case rel => exact ⟨k + 1, by omega, by go_num, by rw [HN.out], bad_step hbad HB.out⟩
          case measure => simp [intOf]; omega
        · cases hb : (g k == 128)
          · have HB : Hid (badB g k = false) := by show _ = _; simp [badB, hf, hb]
            go_wp2
            go_round
            case rel => exact ⟨k + 1, by omega, by go_num, by rw [HN.out], bad_step hbad HB.out⟩
            case measure => simp [intOf]; omega
          · have HB : Hid (badB g k = true) := by show _ = _; simp [badB, hf, hb]
            go_wp2
            go_ret
            exact checked_no (ok_not_of_bad hlt HB.out) ((Below.refl _ _).alloc (Nat.le_refl _) _)
      · have hd : decide ((k : Int) < (len : Int)) = false := decide_eq_false (by omega)
        go_wp2
        go_ret
        exact checked_yes ⟨h0, hz, fun j hj => hbad j (by omega)⟩
  · have ht := and128_hi _ hgl hz
    go_enter Yba.func8, Yba.ntmps8
    go_wp2
    go_ret
    exact checked_no (fun h => absurd h.2.1 (by omega)) ((Below.refl _ _).alloc (Nat.le_refl _) _)

/-- what zzs0714bmodel answers. -/
def Modelled9 (g : Nat → Int) (len : Nat) (w : World) (e : Ending) (w' : World) : Prop :=
  (OidOk g len → e = .returned (.bool true)) ∧ (¬ OidOk g len → e = .returned (.bool false)) ∧ w' = w
theorem modelled_yes {g : Nat → Int} {len : Nat} {w : World} (h : OidOk g len) : Modelled9 g len w (.returned (.bool true)) w := ⟨fun _ => rfl, fun hn => absurd h hn, rfl⟩
theorem modelled_no {g : Nat → Int} {len : Nat} {w : World} (h : ¬ OidOk g len) : Modelled9 g len w (.returned (.bool false)) w := ⟨fun hn => absurd hn h, fun _ => rfl, rfl⟩

theorem model_empty (a : Option Addr) (cap : Nat) (g : Nat → Int) (w : World) :
    Calls Yba.prog 9 #[.slice a 0 cap] w (Modelled9 g 0 w) := by
  go_enter Yba.func9, Yba.ntmps9
  go_wp2
  go_ret
  exact modelled_no (fun h => absurd h.1 (by omega))

set_option maxHeartbeats 800000 in
theorem model_in (b off len cap : Nat) (g : Nat → Int) (w : World) (hl : len ≤ 1000000000) (h0 : 0 < len)
    (hc : ∀ k, k < len → w.cell? ⟨b, off + k, none⟩ = some (.int .u8 (g k))) :
    Calls Yba.prog 9 #[.slice (some ⟨b, off, none⟩) len cap] w (Modelled9 g len w) := by
  have hlast : w.cell? ⟨b, off + (len - 1), none⟩ = some (.int .u8 (g (len - 1))) := hc _ (by omega)
  have h0' : ((len : Int) == 0) = false := by rw [beq_eq_false_iff_ne]; omega
  by_cases hz : g (len - 1) < 128
  · go_enter Yba.func9, Yba.ntmps9
    go_wp2
    go_loop [3] (fun i => ∃ k : Nat, k ≤ len ∧ i = .int .i64 k ∧ ∀ j, j < k → badB g j = false) (fun i => len - (intOf i).toNat)
    case atStart => exact ⟨0, Nat.zero_le _, rfl, fun j hj => absurd hj (by omega)⟩
    case round =>
      obtain ⟨k, hk, rfl, hbad⟩ := hrel
      by_cases hlt : k < len
      · have hck := hc k hlt
        by_cases hk0 : k = 0
        · subst hk0
          rw [Nat.add_zero] at hck
          have hf : firstB g 0 = true := rfl
          cases hb : (g 0 == 128)
          · have HB : Hid (badB g 0 = false) := by show _ = _; simp [badB, hf, hb]
            go_wp2
            go_round
            case rel => exact ⟨1, by omega, by go_num, bad_step hbad HB.out⟩
            case measure => simp [intOf]; omega
          · have HB : Hid (badB g 0 = true) := by show _ = _; simp [badB, hf, hb]
            go_wp2
            go_ret
            exact modelled_no (ok_not_of_bad hlt HB.out)
        · obtain ⟨m, rfl⟩ : ∃ m, k = m + 1 := ⟨k - 1, by omega⟩
          have hcm := hc m (by omega)
          have hk1 : (((m + 1 : Nat) : Int) == 0) = false := by rw [beq_eq_false_iff_ne]; omega
          by_cases hp : g m < 128
          · have hf : firstB g (m + 1) = true := by simp [firstB, hp]
            cases hb : (g (m + 1) == 128)
            · have HB : Hid (badB g (m + 1) = false) := by show _ = _; simp [badB, hf, hb]
              clear hf
              go_wp2
              go_round
              case rel => exact ⟨m + 1 + 1, by omega, by go_num, bad_step hbad HB.out⟩
              case measure => simp [intOf]; omega
            · have HB : Hid (badB g (m + 1) = true) := by show _ = _; simp [badB, hf, hb]
              clear hf
              go_wp2
              go_ret
              exact modelled_no (ok_not_of_bad hlt HB.out)
          · have hd : decide (g m < 128) = false := decide_eq_false hp
            have hf : firstB g (m + 1) = false := by simp [firstB]; omega
            have HB : Hid (badB g (m + 1) = false) := by show _ = _; simp [badB, hf]
            clear hf
            go_wp2
            go_round
            case rel => exact ⟨m + 1 + 1, by omega, by go_num, bad_step hbad HB.out⟩
            case measure => simp [intOf]; omega
      · have hd : decide ((k : Int) < (len : Int)) = false := decide_eq_false (by omega)
        go_wp2
        go_ret
        exact modelled_yes ⟨h0, hz, fun j hj => hbad j (by omega)⟩
  · go_enter Yba.func9, Yba.ntmps9
    go_wp2
    go_ret
    exact modelled_no (fun h => absurd h.2.1 (by omega))
end Go.Proofs.Ybulkntm
