/-
  'binary.AppendUvarint' (11), 'zzs0720cput' (10), 'zzs0720cencode' (6): the encoding of the entries, onto a row of the call's own.
-/
import Derived.Test.YbulknwsFmtMem
import Derived.Laws.AppendOwnNone
namespace Go.Proofs.YbulknwsFmt
open Go.RowKit

theorem or_step (x : Nat) : bits BinOp.or IntKind.u8 ((x : Int) % 256) 128 = ((x % 128 + 128 : Nat) : Int) := by
  rw [Lib.u8_or128_any _ (by omega) (by omega)]; omega

/-- one octet more behind 'pre'. -/
theorem app_step {B n y : Nat} {w wr w1 : World} {u v' : Value} {xs : List Value} {pre : List UInt8} {o : Obj} {z : Int} (hB : B ≤ wr.heap.size) (hf : Fr B w wr) (hown : wr.ownsRow B 5 1 u (n + pre.length) (xs ++ Lib.byteCells pre)) (hy : y < 256) (hz : z = (y : Int))
    (hown' : w1.ownsRow B 5 1 v' (n + pre.length + 1) (xs ++ Lib.byteCells pre ++ [.int .u8 z])) (hg : (wr.alloc o).grownBy w1 u.ownBlock) :
    w1.ownsRow B 5 1 v' (n + (pre ++ [y.toUInt8]).length) (xs ++ Lib.byteCells (pre ++ [y.toUInt8])) ∧ Fr B w w1 := by
  refine ⟨?_, (hf.alloc hB o).grown (hown.alloc o) hg (by simp; omega)⟩
  rw [Lib.byteCells_snoc _ hy, ← List.append_assoc, List.length_append, ← hz]
  exact hown'

set_option maxHeartbeats 800000 in
theorem appendUvarint_any (B n x : Nat) (hx : x < 18446744073709551616) (v : Value) (xs : List Value) (w : World) (hown : w.ownsRow B 5 1 v n xs) (hB : B ≤ w.heap.size) (hn : n ≤ 10000000) :
    Calls Ybaf.prog 11 #[v, .int .u64 x] w fun e w' => ∃ v', e = .returned v' ∧ w'.ownsRow B 5 1 v' (n + (Lib.uvarint x).length) (xs ++ Lib.byteCells (Lib.uvarint x)) ∧ Fr B w w' := by
  obtain ⟨i0, hi, hz0, hz1, hz2⟩ := info_parts Ybaf.info5
  have hl10 := Lib.uvarint_length64 hx
  go_enter Ybaf.func11, Ybaf.ntmps11
  go_wp2
  go_loopw [0, 1] (fun b s wr => ∃ (y : Nat) (pre : List UInt8), s = .int .u64 y ∧ y < 18446744073709551616 ∧ Hid (Lib.uvarint x = pre ++ Lib.uvarint y) ∧ wr.ownsRow B 5 1 b (n + pre.length) (xs ++ Lib.byteCells pre) ∧ Fr B w wr) (fun _ s _ => (intOf s).toNat)
  case atStart => exact ⟨x, [], rfl, hx, rfl, by simpa [Lib.byteCells] using hown, Fr.refl _ _⟩
  case round =>
    obtain ⟨y, pre, rfl, hy, HP, hown1, hf⟩ := hrel
    have hBr : B ≤ wr.heap.size := by have := hf.below.size; omega
    have hpl : pre.length ≤ 10 := by have := congrArg List.length HP.out; rw [List.length_append] at this; omega
    by_cases hlt : y < 128
    · have hge : decide ((128 : Int) ≤ (y : Int)) = false := decide_eq_false (by omega)
      have hmod : (y : Int) % 256 = (y : Int) := by omega
      go_wp2_with (at_builtin; refine wpList_append_own _ rfl _ _ 23 rfl B 5 i0 (.int .u8 0) 1 1 Ybaf.underlying23 hi hz0 hz1 hz2 rfl (by decide) _ _ _ rfl (hown1.alloc _) ⟨wr.heap.size, 0, none⟩ 1 1 [.int .u8 (y : Int)] rfl rfl (one_news _ _ _) (one_cell _ _) (by unfold maxLen; omega) (by omega) (by simp; omega) ?_; intro v' w1 hown' hgrow _)
      have R := app_step hBr hf hown1 (by omega) rfl hown' hgrow
      go_ret
      refine ⟨_, rfl, ?_, R.2⟩
      rw [HP.out, Lib.uvarint_small hlt]
      exact R.1
    · have hge : decide ((128 : Int) ≤ (y : Int)) = true := decide_eq_true (by omega)
      go_wp2_with (at_builtin; refine wpList_append_own _ rfl _ _ 23 rfl B 5 i0 (.int .u8 0) 1 1 Ybaf.underlying23 hi hz0 hz1 hz2 rfl (by decide) _ _ _ rfl (hown1.alloc _) ⟨wr.heap.size, 0, none⟩ 1 1 [.int .u8 (bits BinOp.or IntKind.u8 ((y : Int) % 256) 128)] rfl rfl (one_news _ _ _) (one_cell _ _) (by unfold maxLen; omega) (by omega) (by simp; omega) ?_; intro v' w1 hown' hgrow _)
      have R := app_step hBr hf hown1 (y := y % 128 + 128) (by omega) (or_step y) hown' hgrow
      go_roundw
      case rel => exact ⟨y / 128, _, by go_num, by omega, by show _ = _; rw [HP.out, Lib.uvarint_big (by omega), List.append_assoc]; rfl, R.1, R.2⟩
      case measure => simp [intOf]; omega


theorem own_append {w : World} {B n : Nat} {v : Value} {xs : List Value} {a b : List UInt8} (h : w.ownsRow B 5 1 v (n + a.length + b.length) (xs ++ Lib.byteCells a ++ Lib.byteCells b)) :
    w.ownsRow B 5 1 v (n + (a ++ b).length) (xs ++ Lib.byteCells (a ++ b)) := by
  rw [Lib.byteCells_append, List.length_append, ← List.append_assoc, ← Nat.add_assoc]
  exact h

set_option maxHeartbeats 800000 in
theorem put_none (B n x : Nat) (hx : x < 18446744073709551616) (v : Value) (xs : List Value) (w : World) (hown : w.ownsRow B 5 1 v n xs) (hB : B ≤ w.heap.size) (hn : n ≤ 5000000) :
    Calls Ybaf.prog 10 #[v, .slice none 0 0, .int .u64 x] w fun e w' => ∃ v', e = .returned v' ∧ w'.ownsRow B 5 1 v' (n + (keyEnc [] x).length) (xs ++ Lib.byteCells (keyEnc [] x)) ∧ Fr B w w' := by
  obtain ⟨i0, hi, hz0, hz1, hz2⟩ := info_parts Ybaf.info5
  have hl10 := Lib.uvarint_length64 (x := 0) (by omega)
  go_enter Ybaf.func10, Ybaf.ntmps10
  go_wp2_with fail
  refine (appendUvarint_any B n 0 (by omega) _ _ _ hown hB (by omega)).mono ?_
  rintro e w1 ⟨v1, rfl, hown1, hf1⟩
  have hB1 : B ≤ w1.heap.size := by have := hf1.below.size; omega
  clear hown
  go_wp2_with (at_builtin; refine wpList_append_own_none rfl _ _ 23 rfl B 5 i0 1 Ybaf.underlying23 hi v1 _ _ rfl hown1 rfl ?_)
  refine (appendUvarint_any B _ x hx _ _ _ hown1 hB1 (by omega)).mono ?_
  rintro e w2 ⟨v2, rfl, hown2, hf2⟩
  go_wp2
  go_ret
  exact ⟨_, rfl, own_append hown2, hf1.trans hf2⟩

set_option maxHeartbeats 800000 in
theorem put_some (B n x : Nat) (p : List UInt8) (hp1 : p.length ≤ 1024) (hx : x < 18446744073709551616) (v : Value) (xs : List Value) (ad : Addr) (pc : Nat) (w : World) (hown : w.ownsRow B 5 1 v n xs) (hB : B ≤ w.heap.size) (hn : n ≤ 5000000)
    (HP : Hid (∀ wx, Below B w wx → BA wx (some ad) p)) :
    Calls Ybaf.prog 10 #[v, .slice (some ad) p.length pc, .int .u64 x] w fun e w' => ∃ v', e = .returned v' ∧ w'.ownsRow B 5 1 v' (n + (keyEnc p x).length) (xs ++ Lib.byteCells (keyEnc p x)) ∧ Fr B w w' := by
  obtain ⟨i0, hi, hz0, hz1, hz2⟩ := info_parts Ybaf.info5
  have hl10 := Lib.uvarint_length64 (x := p.length) (by omega)
  go_enter Ybaf.func10, Ybaf.ntmps10
  go_wp2_with fail
  refine (appendUvarint_any B n p.length (by omega) _ _ _ hown hB (by omega)).mono ?_
  rintro e w1 ⟨v1, rfl, hown1, hf1⟩
  have hB1 : B ≤ w1.heap.size := by have := hf1.below.size; omega
  have HP1 : Hid (BA w1 (some ad) p) := HP.out w1 hf1.below
  clear hown HP
  go_wp2_with (at_builtin; refine wpList_append_own _ rfl _ _ 23 rfl B 5 i0 (.int .u8 0) 1 1 Ybaf.underlying23 hi hz0 hz1 hz2 rfl (by decide) v1 _ _ rfl hown1 ad p.length pc (Lib.byteCells p) rfl (by rw [Lib.byteCells_length, Nat.mul_one]) (HP1.out.news) (bytes_cell p) (by unfold maxLen; omega) (by omega) hB1 ?_; intro v2 w2 hown2 hgrow _)
  have hf2 := hf1.grown hown1 hgrow hB1
  have hB2 : B ≤ w2.heap.size := by have := hf2.below.size; omega
  have hown3 := own_append hown2
  clear hown1 hown2 hgrow
  refine (appendUvarint_any B _ x hx _ _ _ hown3 hB2 (by rw [List.length_append]; omega)).mono ?_
  rintro e w3 ⟨v3, rfl, hown4, hf3⟩
  go_wp2
  go_ret
  refine ⟨_, rfl, ?_, hf2.trans hf3⟩
  have := own_append hown4
  unfold keyEnc
  rw [← List.append_assoc]
  exact this

theorem put_any (B n x : Nat) (p : List UInt8) (hp1 : p.length ≤ 1024) (hx : x < 18446744073709551616) (v : Value) (xs : List Value) (pa : Option Addr) (pc : Nat) (w : World) (hown : w.ownsRow B 5 1 v n xs) (hB : B ≤ w.heap.size) (hn : n ≤ 5000000)
    (hnil : pa = none → pc = 0) (HP : Hid (∀ wx, Below B w wx → BA wx pa p)) :
    Calls Ybaf.prog 10 #[v, .slice pa p.length pc, .int .u64 x] w fun e w' => ∃ v', e = .returned v' ∧ w'.ownsRow B 5 1 v' (n + (keyEnc p x).length) (xs ++ Lib.byteCells (keyEnc p x)) ∧ Fr B w w' := by
  cases pa with
  | none =>
    obtain rfl := hnil rfl
    obtain rfl := (HP.out w (Below.refl _ _)).none_nil
    exact put_none B n x hx v xs w hown hB hn
  | some ad => exact put_some B n x p hp1 hx v xs ad pc w hown hB hn HP
end Go.Proofs.YbulknwsFmt
