/-
  A PROOF OF 'Rows.LawS0714AExactSaid' ('certwright.LawS0714AExact'). The row's step is the seat's shell as it was given.
-/
import Derived.Test.YbulkntmRows
import Derived.WalkKit
import Derived.ProofKit
import Derived.OpenShut
import Derived.ShutString
import Derived.ChangeOld
import Derived.Below
import Derived.WalkSpells
import Derived.WalkLawsBesides
import Derived.Laws.CopyOwn
import Derived.Deep.OwnRows
import Derived.Test.YbulkntmKeySize
namespace Go.Proofs.Ybulkntm.lawS0714AExact
open Go.ChangeShapes Go.WideShapes Go.ChangeAt Go.RowKit
open Go.ChangeMaps (open_string shut_string)
set_option linter.unusedVariables false

theorem own : ownKnob Yba.prog.godebug = none := by kernel_rfl
theorem laidOut : laidOutB Yba.prog = true := by kernel_rfl

/-- WHAT THE WALK IS TOLD OF A SLICE OF INTEGERS THAT CAME IN: it is nil; or it leads to a row of 'cap' cells, the numbers 'zs' (the first 'len' are its elements, the rest its spare room), each fitting its kind. -/
def IsRow (k : IntKind) (w : World) (a : Option Addr) (len cap : Nat) (zs : List Int) : Prop :=
  (a = none ∧ len = 0 ∧ cap = 0 ∧ zs = []) ∨
  ∃ x, a = some x ∧ len ≤ cap ∧ cap ≤ maxLen ∧ zs.length = cap ∧ (∀ i, i < zs.length → w.cell? (x.add i) = some (.int k (zs.getD i 0))) ∧ ∀ n ∈ zs, (Lit.int k n).wf = true

/-! ### STEP 1: THE WALK -/
def cells8 (z : List Int) (len : Nat) : List Value := (z.take len).map (Value.int .u8)
theorem cells8_len {z : List Int} {len : Nat} (h : len ≤ z.length) : (cells8 z len).length = len := by simp [cells8]; omega
theorem cells8_one (z : List Int) (len : Nat) : ∀ v ∈ cells8 z len, v.oneCell' = true := by
  intro v hv; obtain ⟨n, _, rfl⟩ := List.mem_map.1 hv; rfl
theorem info5 : (Yba.prog.info? 5).map (fun i => (i.zero, i.size, i.bytes)) = some (some (.int .u8 0), 1, 1) := by kernel_rfl
theorem size5 : (Yba.prog.info? 5).map (·.size) = some 1 := by kernel_rfl
theorem row_len {w : World} {a : Option Addr} {len cap : Nat} {z : List Int} (h : IsRow .u8 w a len cap z) : len ≤ z.length := by
  rcases h with ⟨_, h, _, h'⟩ | ⟨x, _, h, _, h', _⟩ <;> simp_all
theorem row_src {w wx : World} {a : Option Addr} {len cap : Nat} {z : List Int} (h : IsRow .u8 w a len cap z) (hb : Below w.heap.size w wx) :
    0 < (cells8 z len).length → ∃ ad, a = some ad ∧ ∀ j v, (cells8 z len)[j]? = some v → wx.cell? (ad.add j) = some v := by
  intro h0
  rcases h with ⟨_, h, _, h'⟩ | ⟨x, rfl, hl, hm, hz, hc, _⟩
  · subst h'; simp [cells8] at h0
  · refine ⟨x, rfl, fun j v hj => cell_later hb ?_⟩
    have hjl : j < z.length := by
      have := (List.getElem?_eq_some_iff.1 hj).1; simp [cells8] at this; omega
    have := hc j hjl
    simp only [cells8, List.getElem?_map, Option.map_eq_some_iff] at hj
    obtain ⟨n, hn, rfl⟩ := hj
    rw [List.getElem?_take] at hn
    split at hn
    · rw [this]; simp [List.getD, hn]
    · cases hn

theorem row_later {w wx : World} {a : Option Addr} {len cap : Nat} {z : List Int} (h : IsRow .u8 w a len cap z) (hb : Below w.heap.size w wx) : IsRow .u8 wx a len cap z := by
  rcases h with h | ⟨x, h0, h1, h2, h3, h4, h5⟩
  · exact .inl h
  · exact .inr ⟨x, h0, h1, h2, h3, fun i hi => cell_later hb (h4 i hi), h5⟩
/-- 'k := make([]byte, len(key)); copy(k, key)': the copy's run, in the world that make leaves. -/
theorem copy_run {w : World} {a : Option Addr} {len cap : Nat} {z : List Int} (h : IsRow .u8 w a len cap z) :
    ∃ w2, (Builtin.copy_ #[22, 22] 3 #[.slice (some ⟨w.heap.size, 0, none⟩) len len, .slice a len cap]).run Yba.prog (w.alloc (.cells (madeCells #[.int .u8 0] len) 5)) = .ok (.int .i64 (len : Int)) w2 ∧ Below w.heap.size w w2 := by
  have hl := cells8_len (row_len h)
  have hb : Below w.heap.size w (w.alloc (.cells (madeCells #[.int .u8 0] len) 5)) := (Below.refl _ _).alloc (Nat.le_refl _) _
  by_cases h0 : len = 0
  · subst h0
    exact ⟨_, run_copy_none (P := Yba.prog) _ 22 22 3 5 _ _ 0 0 0 cap Yba.underlying22 size5 rfl, hb⟩
  · obtain ⟨ad, rfl, hsrc⟩ := row_src h hb (by omega)
    have hr := run_copy_row (P := Yba.prog) (w.alloc (.cells (madeCells #[.int .u8 0] len) 5)) 22 22 3 5 w.heap.size 0 len len ad len cap (madeCells #[.int .u8 0] len) 5 (cells8 z len) Yba.underlying22 size5
      (heap_alloc_new _ _) (by rw [hl]; exact (Nat.min_self _).symm) hsrc (by rw [hl, size_madeCells]; omega) (cells8_one _ _)
    rw [hl] at hr
    exact ⟨_, hr, below_setRow hb (Nat.le_refl _) _⟩

set_option maxHeartbeats 400000 in
theorem walk_nil (a1 : Option Addr) (len1 cap1 : Nat) (z1 : List Int) (a2 : Option Addr) (len2 cap2 : Nat) (z2 : List Int) (w : World) (w1 : IsRow .u8 w a1 len1 cap1 z1) (w2 : IsRow .u8 w a2 len2 cap2 z2) (h1 : len1 ≤ 1024) (h2 : len2 ≤ 1024) :
    Calls Yba.prog 3 #[.bool true, .slice a1 len1 cap1, .slice a2 len2 cap2] w fun e w' => e = .returned (.bool true) ∧ Below w.heap.size w w' := by
  have hmk := fun wx => run_make_row' (P := Yba.prog) 22 5 (.int .u8 0) 1 Yba.underlying22 info5 rfl .i64 .i64 len2 (by omega) (by omega) wx
  have heq := fun wx a n c => Lib.run_eql_slice_nil (P := Yba.prog) wx 22 5 a n c 0 0 Yba.underlying22
  have hd1 : decide ((1024 : Int) < (len1 : Int)) = false := decide_eq_false (by omega)
  have hd2 : decide ((1024 : Int) < (len2 : Int)) = false := decide_eq_false (by omega)
  obtain ⟨x2, hx2, hb2⟩ := copy_run w2
  by_cases h32 : len2 = 32
  · subst h32
    have hmk' : ∀ wx, _ := hmk
    simp only [Int.cast_ofNat_Int] at hmk' hx2
    go_enter Yba.func3, Yba.ntmps3
    go_wp2_with fail
    refine (keySize_yes _ _ _).mono ?_
    rintro e w' ⟨rfl, rfl⟩
    go_wp2
    go_ret
    exact ⟨rfl, hb2⟩
  · have hne : ((len2 : Int) == 32) = false := by rw [beq_eq_false_iff_ne]; omega
    go_enter Yba.func3, Yba.ntmps3
    go_wp2_with fail
    refine (keySize_len _ _ _ h32 _).mono ?_
    rintro e w' ⟨⟨t, x, rfl⟩, hb3⟩
    go_wp2
    go_ret
    exact ⟨rfl, hb2.trans (hb3.mono hb2.size)⟩

set_option maxHeartbeats 400000 in
theorem walk_some (a1 : Option Addr) (len1 cap1 : Nat) (z1 : List Int) (a2 : Option Addr) (len2 cap2 : Nat) (z2 : List Int) (w : World) (w1 : IsRow .u8 w a1 len1 cap1 z1) (w2 : IsRow .u8 w a2 len2 cap2 z2) (h1 : len1 ≤ 1024) (h2 : len2 ≤ 1024) :
    Calls Yba.prog 3 #[.bool false, .slice a1 len1 cap1, .slice a2 len2 cap2] w fun e w' => e = .returned (.bool true) ∧ Below w.heap.size w w' := by
  have hmk1 := fun wx => run_make_row' (P := Yba.prog) 22 5 (.int .u8 0) 1 Yba.underlying22 info5 rfl .i64 .i64 len1 (by omega) (by omega) wx
  have hmk := fun wx => run_make_row' (P := Yba.prog) 22 5 (.int .u8 0) 1 Yba.underlying22 info5 rfl .i64 .i64 len2 (by omega) (by omega) wx
  have heq := fun wx a n c => Lib.run_eql_slice_nil (P := Yba.prog) wx 22 5 a n c 0 0 Yba.underlying22
  have hd1 : decide ((1024 : Int) < (len1 : Int)) = false := decide_eq_false (by omega)
  have hd2 : decide ((1024 : Int) < (len2 : Int)) = false := decide_eq_false (by omega)
  obtain ⟨x1, hx1, hb1⟩ := copy_run w1
  obtain ⟨x2, hx2, hb2⟩ := copy_run (row_later w2 hb1)
  go_enter Yba.func3, Yba.ntmps3
  go_wp2_with fail
  refine (keySize_params _ _ _ _ _ _ _).mono ?_
  rintro e w' ⟨⟨t, x, rfl⟩, hb3⟩
  go_wp2
  go_ret
  exact ⟨rfl, hb1.trans ((hb2.mono hb1.size).trans (hb3.mono (by have := hb1.size; have := hb2.size; omega)))⟩

theorem walk (a0 : Bool) (a1 : Option Addr) (len1 cap1 : Nat) (z1 : List Int) (a2 : Option Addr) (len2 cap2 : Nat) (z2 : List Int) (w : World) (w1 : IsRow .u8 w a1 len1 cap1 z1) (w2 : IsRow .u8 w a2 len2 cap2 z2) :
    Calls Yba.prog 3 #[.bool a0, .slice a1 len1 cap1, .slice a2 len2 cap2] w fun e w' => e = .returned (.bool true) ∧ Below w.heap.size w w' := by
  by_cases h1 : len1 ≤ 1024
  · by_cases h2 : len2 ≤ 1024
    · cases a0
      · exact walk_some a1 len1 cap1 z1 a2 len2 cap2 z2 w w1 w2 h1 h2
      · exact walk_nil a1 len1 cap1 z1 a2 len2 cap2 z2 w w1 w2 h1 h2
    · have hd1 : decide ((1024 : Int) < (len1 : Int)) = false := decide_eq_false (by omega)
      have hd2 : decide ((1024 : Int) < (len2 : Int)) = true := decide_eq_true (by omega)
      go_enter Yba.func3, Yba.ntmps3
      go_wp2
      go_ret
      exact ⟨rfl, Below.refl _ _⟩
  · have hd1 : decide ((1024 : Int) < (len1 : Int)) = true := decide_eq_true (by omega)
    go_enter Yba.func3, Yba.ntmps3
    go_wp2
    go_ret
    exact ⟨rfl, Below.refl _ _⟩
/-! ### THE ROW's STEP: WRITTEN OUT: LEAVE IT -/
set_option maxRecDepth 100000 in
theorem lifted (os : Os) (started : os.Started) (H : Type) (enc : TypeId × Value → H) :
    ReturnsInHanded {} Yba.checked os 3 .any (Rows.lawS0714AExactSpec.pre6 enc Yba.prog Yba.f3 Rows.lawS0714AExactRow.domain false) (Rows.lawS0714AExactSpec.post enc Yba.prog Yba.f3 false true false false) := by
  refine returnsInHanded_of_change (C := Yba.checked) own started (by kernel_rfl) Yba.func3
    (ChangeSpec.witness6 (enc := enc) (C := Yba.checked) false ⟨#[], #[.bool false, .slice none 0 0, .slice none 0 0], []⟩ 8 (by kernel_rfl) (by kernel_rfl) (by kernel_rfl) (by kernel_rfl)) ?_
  intro W base args ds gs before hval0 hW hcnd _
  have hval : ∀ (j : Nat) t v, Yba.f3.params[j]? = some t → args[j]? = some v → Value.okWide Yba.prog W .any base t v := hval0
  have hW' := hW
  obtain ⟨p, q, hA0, hV, rfl, hfz, hnd⟩ := hW
  have hA : DataW.TrodAll enc Yba.prog W 0 (fun _ => true) true Yba.f3.params.toList args.toList ds p := hA0
  rw [Yba.params3] at hA hval
  obtain ⟨v0, vs0, d0, ds0, p0, q0, hargs, rfl, rfl, h0, r0⟩ := trodAll_cons hA
  obtain ⟨v1, vs1, d1, ds1, p1, q1, rfl, rfl, rfl, h1, r1⟩ := trodAll_cons r0
  obtain ⟨v2, vs2, d2, ds2, p2, q2, rfl, rfl, rfl, h2, r2⟩ := trodAll_cons r1
  obtain ⟨rfl, rfl, rfl⟩ := trodAll_nil r2
  obtain rfl : args = #[v0, v1, v2] := by cases args; simp_all
  obtain ⟨rfl, rfl⟩ := trodVars_none hV
  obtain ⟨a0, rfl, rfl, rfl⟩ := open_bool Yba.underlying4 (hval 0 4 v0 rfl rfl) h0
  obtain ⟨a1, len1, cap1, rfl⟩ := okWide_slice Yba.underlying22 (hval 1 22 v1 rfl rfl)
  have k1 := h1
  have lt1 : ∀ x ∈ p1, x.block < W.heap.size := by obtain ⟨m, hm⟩ := k1; exact DataW.trod_lt m _ _ _ hm
  obtain ⟨z1, w1⟩ : ∃ zs, IsRow .u8 W a1 len1 cap1 zs := by
    obtain ⟨fuel, hf⟩ := h1
    rcases open_ints Yba.underlying22 Yba.underlying5 (by kernel_rfl) hf with ⟨hcs, _⟩ | ⟨x, l, c, zs, hcs, _, hl, hm, hz, _, hcell, hwz⟩
    · simp [Value.cells] at hcs
      obtain ⟨rfl, rfl, rfl⟩ := hcs
      exact ⟨[], .inl ⟨rfl, rfl, rfl, rfl⟩⟩
    · simp [Value.cells] at hcs
      obtain ⟨rfl, rfl, rfl⟩ := hcs
      exact ⟨zs, .inr ⟨_, rfl, hl, hm, by simpa using hz, hcell, hwz⟩⟩
  obtain ⟨a2, len2, cap2, rfl⟩ := okWide_slice Yba.underlying22 (hval 2 22 v2 rfl rfl)
  have k2 := h2
  have lt2 : ∀ x ∈ p2, x.block < W.heap.size := by obtain ⟨m, hm⟩ := k2; exact DataW.trod_lt m _ _ _ hm
  obtain ⟨z2, w2⟩ : ∃ zs, IsRow .u8 W a2 len2 cap2 zs := by
    obtain ⟨fuel, hf⟩ := h2
    rcases open_ints Yba.underlying22 Yba.underlying5 (by kernel_rfl) hf with ⟨hcs, _⟩ | ⟨x, l, c, zs, hcs, _, hl, hm, hz, _, hcell, hwz⟩
    · simp [Value.cells] at hcs
      obtain ⟨rfl, rfl, rfl⟩ := hcs
      exact ⟨[], .inl ⟨rfl, rfl, rfl, rfl⟩⟩
    · simp [Value.cells] at hcs
      obtain ⟨rfl, rfl, rfl⟩ := hcs
      exact ⟨zs, .inr ⟨_, rfl, hl, hm, by simpa using hz, hcell, hwz⟩⟩
  clear hA0 hval0
  refine (walk a0 a1 len1 cap1 z1 a2 len2 cap2 z2 W w1 w2).mono fun e W' ⟨he, bel⟩ => ?_
  subst he
  exact ⟨_, rfl, _, _, _, [], _, [], hW', trodAll_mk1 (shut_bool Yba.underlying4 _), (trodAll_cons_mk (shut_bool Yba.underlying4 _) (trodAll_cons_mk (Below.trod laidOut (by kernel_rfl) (of_decide_eq_true (by kernel_rfl)) k1 bel lt1) (trodAll_cons_mk (Below.trod laidOut (by kernel_rfl) (of_decide_eq_true (by kernel_rfl)) k2 bel lt2) trodAll_mk0))), rfl, bel.frame _, fun h => by cases h⟩

theorem over : Rows.lawS0714AExactRow.holds Yba.pinned (OpenSpec.ofChange Rows.lawS0714AExactSpec) :=
  OpenClaim.holds_of_wide 3 Yba.f3 rfl rfl rfl rfl rfl rfl rfl ⟨rfl, rfl, rfl, rfl, rfl⟩ rfl rfl rfl rfl rfl (by kernel_rfl) Yba.func3 (by kernel_rfl)
    (of_decide_eq_true (by kernel_rfl)) (by unfold Func.isWrapper; first | (rw [if_pos (by decide +kernel)]; kernel_rfl) | (rw [if_neg (by decide +kernel)]; exact ⟨rfl, rfl⟩))
    (fun os started H enc _ => lifted os started H enc)

/-- ████ THE STATEMENT ████ -/
theorem proved : Rows.LawS0714AExactSaid := over
#print axioms proved
end Go.Proofs.Ybulkntm.lawS0714AExact
