/-
  'der.zzs0714bencode' (function 10): it appends one subidentifier in its shortest form.
-/
import Derived.Test.YbulkntmEncPlain
import Derived.Deep.OwnRows
namespace Go.Proofs.Ybulkntm
open Go.RowKit

theorem Yba.info5 : (Yba.prog.info? 5).map (fun i => (i.zero, i.size, i.bytes)) = some (some (.int .u8 0), 1, 1) := by kernel_rfl

/-- An owned row of octets is not the array of digits: their element types differ. -/
theorem own_ne {w : World} {B T n m : Nat} {v : Value} {xs : List Value} {f : Nat → Value} (h : w.ownsRow B 5 1 v n xs) (hr : w.rowIs T 36 m f) : v.ownBlock ≠ some T := by
  obtain ⟨_, h2⟩ := h
  obtain ⟨c, hc, _, _⟩ := hr
  rcases h2 with ⟨rfl, _⟩ | ⟨g, cap, cur, rfl, _, hh, _⟩
  · simp [Value.ownBlock]
  · intro e
    simp [Value.ownBlock] at e
    subst e
    rw [hh] at hc
    simp at hc

/-- The digits' array and the owned row behind a store of a digit. -/
theorem digit_step {w wr : World} {B T n i : Nat} {out : Value} {xs : List Value} {d : Nat → Int} (x : Int) (hBT : B ≤ T) (hb : Below B w wr) (hrow : wr.rowIs T 36 10 (fun j => .int .u8 (d j))) (hown : wr.ownsRow B 5 1 out n xs) :
    (wr.setCell ⟨T, i, none⟩ (.int .u8 x)).rowIs T 36 10 (fun j => .int .u8 ((fun j => if j = i then x else d j) j)) ∧ (wr.setCell ⟨T, i, none⟩ (.int .u8 x)).ownsRow B 5 1 out n xs ∧ Below B w (wr.setCell ⟨T, i, none⟩ (.int .u8 x)) := by
  refine ⟨(hrow.set i _).congr fun j _ => ?_, ownsRow_setCell_other hown (own_ne hown hrow) _, hb.setCell hBT _⟩
  simp only
  split <;> rfl

/-- .. behind an append of one octet. -/
theorem append_step {w wr w1 : World} {B T n m : Nat} {v v' : Value} {xs ys : List Value} {d : Nat → Int} (o : Obj) (hB : B ≤ wr.heap.size) (hb : Below B w wr) (hrow : wr.rowIs T 36 10 (fun j => .int .u8 (d j))) (hown : wr.ownsRow B 5 1 v n xs)
    (_hown' : w1.ownsRow B 5 1 v' m ys) (hg : (wr.alloc o).grownBy w1 v.ownBlock) : w1.rowIs T 36 10 (fun j => .int .u8 (d j)) ∧ Below B w w1 := by
  refine ⟨(hrow.alloc o).of_block (hg.block T (by have := hrow.lt; simp; omega) (fun e => own_ne hown hrow e.symm)), ?_⟩
  exact (hb.alloc hB o).grown hg (by simp; omega) (fun k hk => (hown.lt k hk).1)

/-- v after i shifts lies below this. -/
def lim : Nat → Int
  | 0 => 18446744073709551616
  | i + 1 => (lim i + 127) / 128
theorem lim_ten : lim 10 = 1 := by decide
theorem lim_le (i : Nat) : 1 ≤ lim i ∧ lim i ≤ 18446744073709551616 := by
  induction i with
  | zero => decide
  | succ k ih => unfold lim; omega
theorem lim_step {i : Nat} {z : Int} (h0 : 0 ≤ z) (h : z < lim i) : 0 ≤ z / 128 ∧ z / 128 < lim (i + 1) := by
  unfold lim; omega
theorem digit_of {i : Nat} {z : Int} (h0 : 0 ≤ z) (h : z < lim i) : bits BinOp.and IntKind.u64 z 127 % 256 = z % 128 := and127 z h0 (by have := lim_le i; omega)

/-- the digits behind a store. -/
theorem digits_step {i : Nat} {d : Nat → Int} {x : Int} (hd : ∀ j, j < i → 0 ≤ d j ∧ d j ≤ 127) (hx : 0 ≤ x ∧ x ≤ 127) : ∀ j, j < i + 1 → 0 ≤ (fun j => if j = i then x else d j) j ∧ (fun j => if j = i then x else d j) j ≤ 127 := by
  intro j hj
  simp only
  split
  · exact hx
  · exact hd j (by omega)

theorem emit_step {d : Nat → Int} {i e q : Nat} {x : Int} {xs : List Value} (hq : q + e = i) (hx : x = byt d q) :
    (xs ++ (emit d (i + 1) e).map (Value.int .u8)) ++ [Value.int .u8 x] = xs ++ (emit d (i + 1) (e + 1)).map (Value.int .u8) := by
  rw [emit_succ, List.map_append, ← List.append_assoc, hx, show i + 1 - 1 - e = q by omega]
  rfl

theorem one_news (w : World) (x : Value) (t : TypeId) : ∀ j u, [x][j]? = some u → (w.alloc (.cells #[x] t)).cell? ((⟨w.heap.size, 0, none⟩ : Addr).add j) = some u := by
  intro j u hj
  match j, hj with
  | 0, hj => simp at hj; subst hj; simp [Addr.add]

theorem tmp_new (w : World) : (w.alloc (.cells #[.int .u8 0, .int .u8 0, .int .u8 0, .int .u8 0, .int .u8 0, .int .u8 0, .int .u8 0, .int .u8 0, .int .u8 0, .int .u8 0] 36)).rowIs w.heap.size 36 10 (fun j => .int .u8 ((fun _ => (0 : Int)) j)) :=
  World.rowIs_alloc w (Array.replicate 10 (.int .u8 0)) 36 (fun _ => .int .u8 0) (fun i hi => by simp at hi; simp [hi])

theorem one_cell (k : IntKind) (x : Int) : ∀ u ∈ [Value.int k x], u.oneCell' = true := by
  intro u hu; simp at hu; subst hu; rfl

theorem digits_done {w wr : World} {B T n i : Nat} {out : Value} {xs : List Value} {d : Nat → Int} {z x : Int} (_h0 : 0 ≤ z) (hq : z / 128 = 0) (hpos : 0 < i → 0 < z) (hd : ∀ j, j < i → 0 ≤ d j ∧ d j ≤ 127) (hx : x = z % 128)
    (h : (wr.setCell ⟨T, i, none⟩ (.int .u8 x)).rowIs T 36 10 (fun j => .int .u8 ((fun j => if j = i then x else d j) j)) ∧ (wr.setCell ⟨T, i, none⟩ (.int .u8 x)).ownsRow B 5 1 out n xs ∧ Below B w (wr.setCell ⟨T, i, none⟩ (.int .u8 x))) :
    ∃ D : Nat → Int, (wr.setCell ⟨T, i, none⟩ (.int .u8 x)).rowIs T 36 10 (fun j => .int .u8 (D j)) ∧ (∀ j, j < i + 1 → 0 ≤ D j ∧ D j ≤ 127) ∧ (1 < i + 1 → D (i + 1 - 1) ≠ 0) ∧ (wr.setCell ⟨T, i, none⟩ (.int .u8 x)).ownsRow B 5 1 out n xs ∧ Below B w (wr.setCell ⟨T, i, none⟩ (.int .u8 x)) := by
  refine ⟨_, h.1, digits_step hd (by omega), ?_, h.2.1, h.2.2⟩
  intro hi
  have := hpos (by omega)
  simp
  omega

set_option maxHeartbeats 1600000 in
theorem enc_any (B n : Nat) (xs : List Value) (out : Value) (v : Int) (w : World) (hv : 0 ≤ v) (hv2 : v < 18446744073709551616) (hB : B ≤ w.heap.size) (hn : n ≤ 1000000) (hown : w.ownsRow B 5 1 out n xs) :
    Calls Yba.prog 10 #[out, .int .u64 v] w fun e w' => ∃ v' ys, e = .returned v' ∧ Sub ys ∧ ys.length ≤ 10 ∧ w'.ownsRow B 5 1 v' (n + ys.length) (xs ++ ys.map (Value.int .u8)) ∧ Below B w w' := by
  obtain ⟨i0, hi, hz0, hz1, hz2⟩ := info_parts Yba.info5
  go_enter Yba.func10, Yba.ntmps10
  go_wp2
  go_loopw [1, 6, 7] (fun v n0 k wr => ∃ (i : Nat) (z : Int) (d : Nat → Int), v = .int .u64 z ∧ 0 ≤ z ∧ z < lim i ∧ (0 < i → 0 < z) ∧ i ≤ 10 ∧ n0 = .int .i64 i ∧ k = .int .i64 i ∧ (∀ j, j < i → 0 ≤ d j ∧ d j ≤ 127) ∧ wr.rowIs w.heap.size 36 10 (fun j => .int .u8 (d j)) ∧ wr.ownsRow B 5 1 out n xs ∧ Below B w wr) (fun _ _ k _ => 10 - (intOf k).toNat)
  case atStart => exact ⟨0, v, fun _ => 0, rfl, hv, hv2, fun h => absurd h (by omega), by omega, rfl, rfl, fun j hj => absurd hj (by omega), tmp_new w, hown.alloc _, (Below.refl _ _).alloc hB _⟩
  case round =>
    obtain ⟨i, z, d, rfl, hz0', hzb, hpos, hi10, rfl, rfl, hd, hrow, hown1, hb⟩ := hrel
    by_cases hlt : i < 10
    · have hrk := hrow.cell hlt
      have hfk := hrow.frozen i
      have hst := digit_step (i := i) (bits BinOp.and IntKind.u64 z 127 % 256) hB hb hrow hown1
      have hds := digit_of hz0' hzb
      have hls := lim_step hz0' hzb
      have HS : Hid _ := hst
      have HD : Hid _ := hds
      have HL : Hid _ := hls
      clear hst hds hls
      by_cases hq : z / 128 = 0
      · have hq' : (z / 128 == 0) = true := by rw [beq_iff_eq]; exact hq
        have HQ : Hid (z / 128 = 0) := hq
        clear hq hown hrow hown1 hb
        go_wp2
        obtain ⟨D, hrow, hds, hlast, hown, hb⟩ := digits_done hz0' HQ.out hpos hd HD.out HS.out
        go_loopw [8, 0] (fun j o wr => ∃ e : Nat, e ≤ i + 1 ∧ j = .int .i64 ((i : Int) - (e : Int)) ∧ wr.rowIs w.heap.size 36 10 (fun j => .int .u8 (D j)) ∧ wr.ownsRow B 5 1 o (n + e) (xs ++ (emit D (i + 1) e).map (Value.int .u8)) ∧ Below B w wr) (fun j _ _ => (intOf j + 1).toNat)
        case atStart => exact ⟨0, by omega, by go_num, hrow, by simpa [emit] using hown, hb⟩
        case round =>
          clear hown hrow hb hrk hfk hi10 HD HL HS hd hzb hpos HQ hq'
          obtain ⟨e, he, rfl, hrow, hown, hb⟩ := hrel
          have hBr : B ≤ wr.heap.size := by have := hb.size; omega
          by_cases hle : e ≤ i
          · obtain ⟨q, hqe⟩ : ∃ q, q + e = i := ⟨i - e, by omega⟩
            rw [show ((i : Int) - (e : Int)) = (q : Int) by omega]
            have hq10 : q < 10 := by omega
            have hcq := hrow.cell hq10
            have hdq := hds q (by omega)
            by_cases hq0 : 0 < q
            · have HX : Hid (bits BinOp.or IntKind.u8 (D q) 128 = byt D q) := by show _ = _; rw [or128 _ hdq]; simp [byt, hq0]
              go_wp2_with (at_builtin; refine wpList_append_own _ rfl _ _ 22 rfl B 5 i0 (.int .u8 0) 1 1 Yba.underlying22 hi hz0 hz1 hz2 rfl (by decide) _ _ _ rfl (hown.alloc _) ⟨wr.heap.size, 0, none⟩ 1 1 [.int .u8 (bits BinOp.or IntKind.u8 (D q) 128)] rfl rfl (one_news _ _ _) (one_cell _ _) (by unfold maxLen; omega) (by omega) (by simp; omega) ?_; intro v' w1 hown' hgrow _)
              have R := append_step _ hBr hb hrow hown hown' hgrow
              rw [emit_step hqe HX.out] at hown'
              clear hgrow hown hrow hb hcq
              go_wp2
              go_roundw
              case rel => exact ⟨e + 1, by omega, by go_num, R.1, hown', R.2⟩
              case measure => simp [intOf]
            · have HX : Hid (D q = byt D q) := by show _ = _; simp [byt, hq0]
              go_wp2_with (at_builtin; refine wpList_append_own _ rfl _ _ 22 rfl B 5 i0 (.int .u8 0) 1 1 Yba.underlying22 hi hz0 hz1 hz2 rfl (by decide) _ _ _ rfl (hown.alloc _) ⟨wr.heap.size, 0, none⟩ 1 1 [.int .u8 (D q)] rfl rfl (one_news _ _ _) (one_cell _ _) (by unfold maxLen; omega) (by omega) (by simp; omega) ?_; intro v' w1 hown' hgrow _)
              have R := append_step _ hBr hb hrow hown hown' hgrow
              rw [emit_step hqe HX.out] at hown'
              clear hgrow hown hrow hb hcq
              go_wp2
              go_roundw
              case rel => exact ⟨e + 1, by omega, by go_num, R.1, hown', R.2⟩
              case measure => simp [intOf]
          · rw [show ((i : Int) - (e : Int)) = -1 by omega]
            have hei : e = i + 1 := by omega
            subst hei
            go_wp2
            go_ret
            exact ⟨_, emit D (i + 1) (i + 1), rfl, sub_emit D (i + 1) (by omega) hds hlast, by rw [emit_length]; omega, by rw [emit_length]; exact hown, hb⟩
      · have hq' : (z / 128 == 0) = false := by rw [beq_eq_false_iff_ne]; exact hq
        clear hown hrow hown1 hb
        have hz128 : 0 ≤ z / 128 := HL.out.1
        go_wp2
        go_roundw
        case rel => exact ⟨i + 1, z / 128, _, rfl, HL.out.1, HL.out.2, fun _ => by omega, by omega, by go_num, by go_num, digits_step hd (by rw [HD.out]; omega), HS.out.1, HS.out.2.1, HS.out.2.2⟩
        case measure => simp [intOf]; omega
    · obtain rfl : i = 10 := by omega
      have := hpos (by omega)
      rw [lim_ten] at hzb
      omega
end Go.Proofs.Ybulkntm
