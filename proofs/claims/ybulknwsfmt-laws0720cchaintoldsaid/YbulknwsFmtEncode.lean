/-
  'zzs0720cencode' (6): the entries' encodings one behind the other, in a row of the call's own.
-/
import Derived.Test.YbulknwsFmtEnc
namespace Go.Proofs.YbulknwsFmt
open Go.RowKit

theorem cells_of_eight {w : World} {T : Nat} {t : TypeId} {c0 c1 c2 c3 c4 c5 c6 c7 : Value} (h : w.heap[T]? = some (.cells #[c0, c1, c2, c3, c4, c5, c6, c7] t (0, 0))) :
    w.cell? ⟨T, 0, none⟩ = some c0 ∧ w.cell? ⟨T, 1, none⟩ = some c1 ∧ w.cell? ⟨T, 2, none⟩ = some c2 ∧ w.cell? ⟨T, 3, none⟩ = some c3 ∧ w.cell? ⟨T, 4, none⟩ = some c4 ∧ w.cell? ⟨T, 5, none⟩ = some c5 ∧ w.cell? ⟨T, 6, none⟩ = some c6 ∧ w.cell? ⟨T, 7, none⟩ = some c7 := by
  simp [World.cell?, h]

theorem own_plus {w : World} {B : Nat} {v : Value} {a b : List UInt8} (h : w.ownsRow B 5 1 v (a.length + b.length) (Lib.byteCells a ++ Lib.byteCells b)) :
    w.ownsRow B 5 1 v (a ++ b).length (Lib.byteCells (a ++ b)) := by
  rw [Lib.byteCells_append, List.length_append]
  exact h
theorem BA.later' {w wr wx : World} {a : Option Addr} {l : List UInt8} (h : BA w a l) (hb : Below w.heap.size w wr) (hx : Below w.heap.size wr wx) : BA wx a l := h.later (hb.trans hx)
theorem fits_take {L : List Ent} (h : ∀ e ∈ L, e.Fits 1024) (hl : L.length ≤ 1024) (k : Nat) : (encAll (L.take k)).length ≤ 2179072 := by
  have := encAll_length (L := L.take k) (fun e he => h e (List.mem_of_mem_take he)) (Nat.le_refl _)
  have h2 : (L.take k).length ≤ 1024 := by rw [List.length_take]; omega
  omega
theorem fits_u {e : Ent} (h : e.Fits 1024) : (Lib.uvarint e.mn).length ≤ 10 ∧ (Lib.uvarint e.mx).length ≤ 10 ∧ (Lib.uvarint e.po).length ≤ 10 := ⟨Lib.uvarint_length64 h.mn, Lib.uvarint_length64 h.mx, Lib.uvarint_length64 h.po⟩
theorem enc_done {L : List Ent} {k : Nat} {E : Ent} (hk : k < L.length) (hE : L[k] = E) :
    encAll (L.take k) ++ keyEnc E.fb E.fv ++ keyEnc E.lb E.lv ++ Lib.uvarint E.mn ++ Lib.uvarint E.mx ++ Lib.uvarint E.po ++ Lib.uvarint E.ln = encAll (L.take (k + 1)) := by
  rw [encAll_take_succ L k hk, hE]
  simp [Ent.enc, List.append_assoc]

set_option maxHeartbeats 1600000 in
theorem encode_in (b off cap : Nat) (L : List Ent) (w : World) (hl : L.length ≤ 1024) (HE : Hid (EntsIn w b off L)) (HF : Hid (∀ e ∈ L, e.Fits 1024)) :
    Calls Ybaf.prog 6 #[.slice (some ⟨b, off, none⟩) L.length cap] w fun e w' => ∃ v', e = .returned v' ∧ w'.ownsRow w.heap.size 5 1 v' (encAll L).length (Lib.byteCells (encAll L)) ∧ Below w.heap.size w w' := by
  go_enter Ybaf.func6, Ybaf.ntmps6
  go_wp2
  go_loopw [3, 4] (fun v i wr => ∃ k : Nat, k ≤ L.length ∧ i = .int .i64 k ∧ wr.ownsRow w.heap.size 5 1 v (encAll (L.take k)).length (Lib.byteCells (encAll (L.take k))) ∧ Below w.heap.size w wr) (fun _ i _ => L.length - (intOf i).toNat)
  case atStart => exact ⟨0, Nat.zero_le _, rfl, World.ownsRow_nil _ _ _ _, Below.refl _ _⟩
  case round =>
    obtain ⟨k, hk, rfl, hown, hb⟩ := hrel
    by_cases hlt : k < L.length
    · obtain ⟨fa, fc, la, lc, c0, c1, c2, c3, c4, c5, c6, c7, n1, n2, q1', q2'⟩ := (HE.out k hlt).later hb
      obtain ⟨fa', fc', la', lc', d0, _, d2, _, _, _, _, _, _, _, q1, q2⟩ := HE.out k hlt
      have e0 := cell_later hb d0
      have e2 := cell_later hb d2
      rw [c0] at e0
      rw [c2] at e2
      simp only [Option.some.injEq, Value.slice.injEq] at e0 e2
      obtain ⟨rfl, _, rfl⟩ := e0
      obtain ⟨rfl, _, rfl⟩ := e2
      have hfit := HF.out _ (List.getElem_mem hlt)
      clear d0 d2 q1' q2'
      obtain ⟨E, hE⟩ : ∃ E, L[k] = E := ⟨_, rfl⟩
      rw [hE] at c0 c1 c2 c3 c4 c5 c6 c7 q1 q2 hfit
      have HK : Hid (L[k] = E) := hE
      clear hE
      have hbB : b < wr.heap.size := World.block_lt_of_cell? _ _ c0
      have Hn : Hid ((encAll (L.take k)).length ≤ 2179072) := fits_take HF.out hl k
      have Hk1 : Hid ((keyEnc E.fb E.fv).length ≤ 1044) := keyEnc_length _ _ 1024 hfit.fb (by omega) hfit.fv
      have Hk2 : Hid ((keyEnc E.lb E.lv).length ≤ 1044) := keyEnc_length _ _ 1024 hfit.lb (by omega) hfit.lv
      have HU : Hid ((Lib.uvarint E.mn).length ≤ 10 ∧ (Lib.uvarint E.mx).length ≤ 10 ∧ (Lib.uvarint E.po).length ≤ 10) := fits_u hfit
      have hB0 : w.heap.size ≤ (wr.alloc (.cells #[.slice fa E.fb.length fc, .int .u64 E.fv, .slice la E.lb.length lc, .int .u64 E.lv, .int .u64 E.mn, .int .u64 E.mx, .int .u64 E.po, .int .u64 E.ln] 26)).heap.size := by have := hb.size; simp; omega
      have hb0 := hb.alloc hb.size (.cells #[.slice fa E.fb.length fc, .int .u64 E.fv, .slice la E.lb.length lc, .int .u64 E.lv, .int .u64 E.mn, .int .u64 E.mx, .int .u64 E.po, .int .u64 E.ln] 26)
      go_wp2_with fail
      refine (put_any w.heap.size _ E.fv E.fb hfit.fb hfit.fv _ _ fa fc _ (hown.alloc _) hB0 (by have := Hn.out; omega) n1 (fun wx hx => q1.later' hb0 hx)).mono ?_
      rintro e w1 ⟨v1, rfl, hown', hf1⟩
      have hown1 := own_plus hown'
      have hT1 := hf1.other _ _ _ _ (heap_alloc_new wr _) (by decide)
      have hB1 : w.heap.size ≤ w1.heap.size := by have := hf1.below.size; omega
      have hb1 := hb0.trans hf1.below
      obtain ⟨x0, x1, x2, x3, x4, x5, x6, x7⟩ := cells_of_eight hT1
      clear hown hown' x0 x1
      go_wp2_with fail
      refine (put_any w.heap.size _ E.lv E.lb hfit.lb hfit.lv _ _ la lc _ hown1 hB1 (by have := Hn.out; have := Hk1.out; simp only [List.length_append]; omega) n2 (fun wx hx => q2.later' hb1 hx)).mono ?_
      rintro e w2 ⟨v2, rfl, hown', hf2⟩
      have hown2 := own_plus hown'
      have hT2 := hf2.other _ _ _ _ hT1 (by decide)
      have hB2 : w.heap.size ≤ w2.heap.size := by have := hf2.below.size; omega
      have hb2 := hb1.trans hf2.below
      clear x2 x3 x4 x5 x6 x7
      obtain ⟨x0, x1, x2, x3, x4, x5, x6, x7⟩ := cells_of_eight hT2
      clear hown1 hown' x0 x1 x2 x3 hT1 hf1
      go_wp2_with fail
      refine (appendUvarint_any w.heap.size _ E.mn hfit.mn _ _ _ hown2 hB2 (by have := Hn.out; have := Hk1.out; have := Hk2.out; have := HU.out; simp only [List.length_append]; omega)).mono ?_
      rintro e w3 ⟨v3, rfl, hown', hf3⟩
      have hown3 := own_plus hown'
      have hT3 := hf3.other _ _ _ _ hT2 (by decide)
      have hB3 : w.heap.size ≤ w3.heap.size := by have := hf3.below.size; omega
      have hb3 := hb2.trans hf3.below
      clear x4 x5 x6 x7
      obtain ⟨x0, x1, x2, x3, x4, x5, x6, x7⟩ := cells_of_eight hT3
      clear hown2 hown' x0 x1 x2 x3 x4 hT2 hf2
      go_wp2_with fail
      refine (appendUvarint_any w.heap.size _ E.mx hfit.mx _ _ _ hown3 hB3 (by have := Hn.out; have := Hk1.out; have := Hk2.out; have := HU.out; simp only [List.length_append]; omega)).mono ?_
      rintro e w4 ⟨v4, rfl, hown', hf4⟩
      have hown4 := own_plus hown'
      have hT4 := hf4.other _ _ _ _ hT3 (by decide)
      have hB4 : w.heap.size ≤ w4.heap.size := by have := hf4.below.size; omega
      have hb4 := hb3.trans hf4.below
      clear x5 x6 x7
      obtain ⟨x0, x1, x2, x3, x4, x5, x6, x7⟩ := cells_of_eight hT4
      clear hown3 hown' x0 x1 x2 x3 x4 x5 hT3 hf3
      go_wp2_with fail
      refine (appendUvarint_any w.heap.size _ E.po hfit.po _ _ _ hown4 hB4 (by have := Hn.out; have := Hk1.out; have := Hk2.out; have := HU.out; simp only [List.length_append]; omega)).mono ?_
      rintro e w5 ⟨v5, rfl, hown', hf5⟩
      have hown5 := own_plus hown'
      have hT5 := hf5.other _ _ _ _ hT4 (by decide)
      have hB5 : w.heap.size ≤ w5.heap.size := by have := hf5.below.size; omega
      have hb5 := hb4.trans hf5.below
      clear x6 x7
      obtain ⟨x0, x1, x2, x3, x4, x5, x6, x7⟩ := cells_of_eight hT5
      clear hown4 hown' x0 x1 x2 x3 x4 x5 x6 hT4 hf4
      go_wp2_with fail
      refine (appendUvarint_any w.heap.size _ E.ln hfit.ln _ _ _ hown5 hB5 (by have := Hn.out; have := Hk1.out; have := Hk2.out; have := HU.out; simp only [List.length_append]; omega)).mono ?_
      rintro e w6 ⟨v6, rfl, hown', hf6⟩
      have hown6 := own_plus hown'
      have hT6 := hf6.other _ _ _ _ hT5 (by decide)
      have hB6 : w.heap.size ≤ w6.heap.size := by have := hf6.below.size; omega
      have hb6 := hb5.trans hf6.below
      clear x7
      obtain ⟨x0, x1, x2, x3, x4, x5, x6, x7⟩ := cells_of_eight hT6
      clear hown5 hown' x0 x1 x2 x3 x4 x5 x6 x7 hT5 hf5
      rw [enc_done hlt HK.out] at hown6
      go_wp2
      go_roundw
      case rel => exact ⟨k + 1, by omega, by go_num, hown6, hb6⟩
      case measure => simp [intOf]; omega
    · have hd : decide ((k : Int) < (L.length : Int)) = false := decide_eq_false (by omega)
      rw [List.take_of_length_le (by omega)] at hown
      go_wp2
      go_ret
      exact ⟨_, rfl, hown, hb⟩

theorem encode_none (a : Option Addr) (cap : Nat) (w : World) :
    Calls Ybaf.prog 6 #[.slice a 0 cap] w fun e w' => ∃ v', e = .returned v' ∧ w'.ownsRow w.heap.size 5 1 v' (encAll []).length (Lib.byteCells (encAll [])) ∧ Below w.heap.size w w' := by
  go_enter Ybaf.func6, Ybaf.ntmps6
  go_wp2
  go_loopw [3, 4] (fun v i wr => v = .slice none 0 0 ∧ i = .int .i64 0 ∧ wr = w) (fun _ _ _ => 0)
  case atStart => exact ⟨rfl, rfl, rfl⟩
  case round =>
    obtain ⟨rfl, rfl, rfl⟩ := hrel
    go_wp2
    go_ret
    exact ⟨_, rfl, World.ownsRow_nil _ _ _ _, Below.refl _ _⟩

/-- The entries L behind a slice's address (of none nothing is said). -/
def ArgE (w : World) (a : Option Addr) (L : List Ent) : Prop := L ≠ [] → ∃ b off, a = some ⟨b, off, none⟩ ∧ EntsIn w b off L
theorem ArgE.later {w wx : World} {a : Option Addr} {L : List Ent} (h : ArgE w a L) (hb : Below w.heap.size w wx) : ArgE wx a L := fun hL => by
  obtain ⟨b, off, e, he⟩ := h hL
  exact ⟨b, off, e, he.later hb⟩

theorem encode_any (a : Option Addr) (cap : Nat) (L : List Ent) (w : World) (hl : L.length ≤ 1024) (hA : ArgE w a L) (hF : ∀ e ∈ L, e.Fits 1024) :
    Calls Ybaf.prog 6 #[.slice a L.length cap] w fun e w' => ∃ v', e = .returned v' ∧ w'.ownsRow w.heap.size 5 1 v' (encAll L).length (Lib.byteCells (encAll L)) ∧ Below w.heap.size w w' := by
  by_cases h0 : L = []
  · subst h0
    exact encode_none a cap w
  · obtain ⟨b, off, rfl, he⟩ := hA h0
    exact encode_in b off cap L w hl he hF
end Go.Proofs.YbulknwsFmt
