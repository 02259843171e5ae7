/-
  A PROOF OF 'Rows.LawS0714AThirtyTwoSaid' ('certwright.LawS0714AThirtyTwo'). The row's step is the seat's shell as it was given.
-/
import Derived.Test.YbulkntmRows
import Derived.WalkKit
import Derived.ProofKit
import Derived.OpenShut
import Derived.ShutString
import Derived.ChangeOld
import Derived.Below
import Derived.WalkSpells
import Derived.WalkLawsBesides
import Derived.Deep.OwnRows
import Derived.Test.YbulkntmKeySize
namespace Go.Proofs.Ybulkntm.lawS0714AThirtyTwo
open Go.ChangeShapes Go.WideShapes Go.ChangeAt Go.RowKit
open Go.ChangeMaps (open_string shut_string)
set_option linter.unusedVariables false

theorem own : ownKnob Yba.prog.godebug = none := by kernel_rfl
theorem laidOut : laidOutB Yba.prog = true := by kernel_rfl

/-- WHAT THE WALK IS TOLD OF A SLICE OF INTEGERS THAT CAME IN: it is nil; or it leads to a row of 'cap' cells, the numbers 'zs' (the first 'len' are its elements, the rest its spare room), each fitting its kind. -/
def IsRow (k : IntKind) (w : World) (a : Option Addr) (len cap : Nat) (zs : List Int) : Prop :=
  (a = none ∧ len = 0 ∧ cap = 0 ∧ zs = []) ∨
  ∃ x, a = some x ∧ len ≤ cap ∧ cap ≤ maxLen ∧ zs.length = cap ∧ (∀ i, i < zs.length → w.cell? (x.add i) = some (.int k (zs.getD i 0))) ∧ ∀ n ∈ zs, (Lit.int k n).wf = true

/-! ### STEP 1: THE WALK -/
theorem info5 : (Yba.prog.info? 5).map (fun i => (i.zero, i.size, i.bytes)) = some (some (.int .u8 0), 1, 1) := by kernel_rfl

set_option maxHeartbeats 800000 in
theorem walk_in (b off len0 cap0 : Nat) (z0 : List Int) (a1 : Bool) (w : World) (hl : len0 ≤ 1024)
    (hc : ∀ k, k < len0 → w.cell? ⟨b, off + k, none⟩ = some (.int .u8 (z0.getD k 0))) (hbB : b < w.heap.size) :
    Calls Yba.prog 4 #[.slice (some ⟨b, off, none⟩) len0 cap0, .bool a1] w fun e w' => e = .returned (.bool true) ∧ Below w.heap.size w w' := by
  have hmk := fun wx => run_make_row' (P := Yba.prog) 22 5 (.int .u8 0) 1 Yba.underlying22 info5 rfl .i64 .i64 32 (by omega) (by omega) wx
  simp only [Int.cast_ofNat_Int] at hmk
  have hd1 : decide ((1024 : Int) < (len0 : Int)) = false := decide_eq_false (by omega)
  go_enter Yba.func4, Yba.ntmps4
  go_wp2
  go_loopw [6] (fun i wr => ∃ k : Nat, k ≤ 32 ∧ i = .int .i64 k ∧ (∃ f, wr.rowIs w.heap.size 5 32 f) ∧ Below w.heap.size w wr) (fun i _ => 32 - (intOf i).toNat)
  case atStart => exact ⟨0, Nat.zero_le _, rfl, ⟨_, World.rowIs_made w _ 32 5⟩, (Below.refl _ _).alloc (Nat.le_refl _) _⟩
  case round =>
    obtain ⟨k, hk, rfl, ⟨f, hrow⟩, hb⟩ := hrel
    by_cases hlt : k < 32
    · by_cases hlt2 : k < len0
      · have hck : wr.cell? ⟨b, off + k, none⟩ = some (.int .u8 (z0.getD k 0)) := (hb.cell (by exact hbB)).trans (hc k hlt2)
        have hrk := hrow.cell hlt
        have hfk := hrow.frozen k
        go_wp2
        go_roundw
        case rel => exact ⟨k + 1, by omega, by go_num, ⟨_, hrow.set k _⟩, hb.setCell (Nat.le_refl _) _⟩
        case measure => simp [intOf]; omega
      · have hd2 : decide ((k : Int) < (len0 : Int)) = false := decide_eq_false (by omega)
        go_wp2_with fail
        refine (keySize_yes _ _ _).mono ?_
        rintro e w' ⟨rfl, rfl⟩
        cases a1
        all_goals
          go_wp2_with fail
          refine (keySize_params _ _ _ _ _ _ _).mono ?_
          rintro e w2 ⟨⟨t, x, rfl⟩, hb3⟩
          go_wp2
          go_ret
          exact ⟨rfl, (hb.alloc hb.size _).trans (hb3.mono (by have := hb.size; simp; omega))⟩
    · have hd2 : decide ((k : Int) < 32) = false := decide_eq_false (by omega)
      go_wp2_with fail
      refine (keySize_yes _ _ _).mono ?_
      rintro e w' ⟨rfl, rfl⟩
      cases a1
      all_goals
        go_wp2_with fail
        refine (keySize_params _ _ _ _ _ _ _).mono ?_
        rintro e w2 ⟨⟨t, x, rfl⟩, hb3⟩
        go_wp2
        go_ret
        exact ⟨rfl, (hb.alloc hb.size _).trans (hb3.mono (by have := hb.size; simp; omega))⟩

set_option maxHeartbeats 800000 in
/-- No element: the loop's test says no at once. -/
theorem walk_none (a0 : Option Addr) (cap0 : Nat) (a1 : Bool) (w : World) :
    Calls Yba.prog 4 #[.slice a0 0 cap0, .bool a1] w fun e w' => e = .returned (.bool true) ∧ Below w.heap.size w w' := by
  have hmk := fun wx => run_make_row' (P := Yba.prog) 22 5 (.int .u8 0) 1 Yba.underlying22 info5 rfl .i64 .i64 32 (by omega) (by omega) wx
  simp only [Int.cast_ofNat_Int] at hmk
  go_enter Yba.func4, Yba.ntmps4
  go_wp2
  go_loopw [6] (fun i wr => i = .int .i64 0 ∧ Below w.heap.size w wr) (fun i _ => 32 - (intOf i).toNat)
  case atStart => exact ⟨rfl, (Below.refl _ _).alloc (Nat.le_refl _) _⟩
  case round =>
    obtain ⟨rfl, hb⟩ := hrel
    go_wp2_with fail
    refine (keySize_yes _ _ _).mono ?_
    rintro e w' ⟨rfl, rfl⟩
    cases a1
    all_goals
      go_wp2_with fail
      refine (keySize_params _ _ _ _ _ _ _).mono ?_
      rintro e w2 ⟨⟨t, x, rfl⟩, hb3⟩
      go_wp2
      go_ret
      exact ⟨rfl, (hb.alloc hb.size _).trans (hb3.mono (by have := hb.size; simp; omega))⟩

theorem walk (a0 : Option Addr) (len0 cap0 : Nat) (z0 : List Int) (a1 : Bool) (w : World) (w0 : IsRow .u8 w a0 len0 cap0 z0) :
    Calls Yba.prog 4 #[.slice a0 len0 cap0, .bool a1] w fun e w' => e = .returned (.bool true) ∧ Below w.heap.size w w' := by
  by_cases hl : len0 ≤ 1024
  · by_cases h0 : len0 = 0
    · subst h0
      exact walk_none a0 cap0 a1 w
    · rcases w0 with ⟨_, h, _, _⟩ | ⟨x, rfl, hle, hm, hz, hcell, hwf⟩
      · exact absurd h h0
      · obtain ⟨b, off, spot⟩ := x
        have h1 := hcell 0 (by omega)
        have hspot : spot = none := by simpa [Addr.add] using World.cell?_spot h1
        subst hspot
        exact walk_in b off len0 cap0 z0 a1 w hl (fun k hk => by rw [← add_plain]; exact hcell k (by omega)) (by have := World.block_lt_of_cell? _ _ h1; simpa [Addr.add] using this)
  · have hd1 : decide ((1024 : Int) < (len0 : Int)) = true := decide_eq_true (by omega)
    go_enter Yba.func4, Yba.ntmps4
    go_wp2
    go_ret
    exact ⟨rfl, Below.refl _ _⟩

/-! ### THE ROW's STEP: WRITTEN OUT: LEAVE IT -/
set_option maxRecDepth 100000 in
theorem lifted (os : Os) (started : os.Started) (H : Type) (enc : TypeId × Value → H) :
    ReturnsInHanded {} Yba.checked os 4 .any (Rows.lawS0714AThirtyTwoSpec.pre6 enc Yba.prog Yba.f4 Rows.lawS0714AThirtyTwoRow.domain false) (Rows.lawS0714AThirtyTwoSpec.post enc Yba.prog Yba.f4 false true false false) := by
  refine returnsInHanded_of_change (C := Yba.checked) own started (by kernel_rfl) Yba.func4
    (ChangeSpec.witness6 (enc := enc) (C := Yba.checked) false ⟨#[], #[.slice none 0 0, .bool false], []⟩ 8 (by kernel_rfl) (by kernel_rfl) (by kernel_rfl) (by kernel_rfl)) ?_
  intro W base args ds gs before hval0 hW hcnd _
  have hval : ∀ (j : Nat) t v, Yba.f4.params[j]? = some t → args[j]? = some v → Value.okWide Yba.prog W .any base t v := hval0
  have hW' := hW
  obtain ⟨p, q, hA0, hV, rfl, hfz, hnd⟩ := hW
  have hA : DataW.TrodAll enc Yba.prog W 0 (fun _ => true) true Yba.f4.params.toList args.toList ds p := hA0
  rw [Yba.params4] at hA hval
  obtain ⟨v0, vs0, d0, ds0, p0, q0, hargs, rfl, rfl, h0, r0⟩ := trodAll_cons hA
  obtain ⟨v1, vs1, d1, ds1, p1, q1, rfl, rfl, rfl, h1, r1⟩ := trodAll_cons r0
  obtain ⟨rfl, rfl, rfl⟩ := trodAll_nil r1
  obtain rfl : args = #[v0, v1] := by cases args; simp_all
  obtain ⟨rfl, rfl⟩ := trodVars_none hV
  obtain ⟨a0, len0, cap0, rfl⟩ := okWide_slice Yba.underlying22 (hval 0 22 v0 rfl rfl)
  have k0 := h0
  have lt0 : ∀ x ∈ p0, x.block < W.heap.size := by obtain ⟨m, hm⟩ := k0; exact DataW.trod_lt m _ _ _ hm
  obtain ⟨z0, w0⟩ : ∃ zs, IsRow .u8 W a0 len0 cap0 zs := by
    obtain ⟨fuel, hf⟩ := h0
    rcases open_ints Yba.underlying22 Yba.underlying5 (by kernel_rfl) hf with ⟨hcs, _⟩ | ⟨x, l, c, zs, hcs, _, hl, hm, hz, _, hcell, hwz⟩
    · simp [Value.cells] at hcs
      obtain ⟨rfl, rfl, rfl⟩ := hcs
      exact ⟨[], .inl ⟨rfl, rfl, rfl, rfl⟩⟩
    · simp [Value.cells] at hcs
      obtain ⟨rfl, rfl, rfl⟩ := hcs
      exact ⟨zs, .inr ⟨_, rfl, hl, hm, by simpa using hz, hcell, hwz⟩⟩
  obtain ⟨a1, rfl, rfl, rfl⟩ := open_bool Yba.underlying4 (hval 1 4 v1 rfl rfl) h1
  clear hA0 hval0
  refine (walk a0 len0 cap0 z0 a1 W w0).mono fun e W' ⟨he, bel⟩ => ?_
  subst he
  exact ⟨_, rfl, _, _, _, [], _, [], hW', trodAll_mk1 (shut_bool Yba.underlying4 _), (trodAll_cons_mk (Below.trod laidOut (by kernel_rfl) (of_decide_eq_true (by kernel_rfl)) k0 bel lt0) (trodAll_cons_mk (shut_bool Yba.underlying4 _) trodAll_mk0)), rfl, bel.frame _, fun h => by cases h⟩

theorem over : Rows.lawS0714AThirtyTwoRow.holds Yba.pinned (OpenSpec.ofChange Rows.lawS0714AThirtyTwoSpec) :=
  OpenClaim.holds_of_wide 4 Yba.f4 rfl rfl rfl rfl rfl rfl rfl ⟨rfl, rfl, rfl, rfl, rfl⟩ rfl rfl rfl rfl rfl (by kernel_rfl) Yba.func4 (by kernel_rfl)
    (of_decide_eq_true (by kernel_rfl)) (by unfold Func.isWrapper; first | (rw [if_pos (by decide +kernel)]; kernel_rfl) | (rw [if_neg (by decide +kernel)]; exact ⟨rfl, rfl⟩))
    (fun os started H enc _ => lifted os started H enc)

/-- ████ THE STATEMENT ████ -/
theorem proved : Rows.LawS0714AThirtyTwoSaid := over
#print axioms proved
end Go.Proofs.Ybulkntm.lawS0714AThirtyTwo
