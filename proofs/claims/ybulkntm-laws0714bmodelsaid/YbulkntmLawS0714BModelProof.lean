/-
  A PROOF OF 'Rows.LawS0714BModelSaid' ('der.LawS0714BModel'). The row's step is the seat's shell as it was given.
-/
import Derived.Test.YbulkntmRows
import Derived.WalkKit
import Derived.ProofKit
import Derived.OpenShut
import Derived.ShutString
import Derived.ChangeOld
import Derived.Below
import Derived.WalkSpells
import Derived.WalkLawsBesides
import Derived.Deep.QuietTactic
import Derived.BigQuiet
import Derived.Test.YbulkntmOid
namespace Go.Proofs.Ybulkntm.lawS0714BModel
open Go.ChangeShapes Go.WideShapes Go.ChangeAt Go.RowKit
open Go.ChangeMaps (open_string shut_string)
set_option linter.unusedVariables false

theorem own : ownKnob Yba.prog.godebug = none := by kernel_rfl
theorem laidOut : laidOutB Yba.prog = true := by kernel_rfl

/-- WHAT THE WALK IS TOLD OF A SLICE OF INTEGERS THAT CAME IN: it is nil; or it leads to a row of 'cap' cells, the numbers 'zs' (the first 'len' are its elements, the rest its spare room), each fitting its kind. -/
def IsRow (k : IntKind) (w : World) (a : Option Addr) (len cap : Nat) (zs : List Int) : Prop :=
  (a = none ∧ len = 0 ∧ cap = 0 ∧ zs = []) ∨
  ∃ x, a = some x ∧ len ≤ cap ∧ cap ≤ maxLen ∧ zs.length = cap ∧ (∀ i, i < zs.length → w.cell? (x.add i) = some (.int k (zs.getD i 0))) ∧ ∀ n ∈ zs, (Lit.int k n).wf = true

/-! ### STEP 1: THE WALK -/
/-- Both contracts at one slice: the law answers true. 'hC', 'hM': what checkOID and the model answer, the second in whatever later world. -/
theorem walk_of (a0 : Option Addr) (len0 cap0 : Nat) (g : Nat → Int) (w : World) (hl : len0 ≤ 4096)
    (hC : Calls Yba.prog 8 #[.slice a0 len0 cap0] w (Checked8 g len0 w)) (hM : ∀ w1, Below w.heap.size w w1 → Calls Yba.prog 9 #[.slice a0 len0 cap0] w1 (Modelled9 g len0 w1)) :
    Calls Yba.prog 5 #[.slice a0 len0 cap0] w fun e w' => e = .returned (.bool true) ∧ Below w.heap.size w w' := by
  have hd1 : decide ((4096 : Int) < (len0 : Int)) = false := decide_eq_false (by omega)
  have HC : Hid (Calls Yba.prog 8 #[.slice a0 len0 cap0] w (Checked8 g len0 w)) := hC
  have HM : Hid (∀ w1, Below w.heap.size w w1 → Calls Yba.prog 9 #[.slice a0 len0 cap0] w1 (Modelled9 g len0 w1)) := hM
  clear hC hM
  go_enter Yba.func5, Yba.ntmps5
  go_wp2_with fail
  refine Calls.mono HC.out ?_
  rintro e w1 ⟨hy, hn, hb⟩
  clear HC
  by_cases hok : OidOk g len0
  · have he := hy hok
    have HM1 : Hid (∀ n, Calls Yba.prog 9 #[.slice a0 len0 cap0] (w1.drewN n) fun e w' => e = .returned (.bool true) ∧ w' = w1.drewN n) :=
      fun n => (HM.out (w1.drewN n) (below_drewN hb n)).mono fun e w' h => ⟨h.1 hok, h.2.2⟩
    clear hy hn HM
    subst he
    go_wp2
    go_quiet ((go_at_call 9; exact Calls.quiet_of_same (HM1.out _)))
    go_wp2
    go_ret
    exact ⟨rfl, below_drewN hb _⟩
  · obtain ⟨t, x, he⟩ := hn hok
    have HM1 : Hid (∀ n, Calls Yba.prog 9 #[.slice a0 len0 cap0] (w1.drewN n) fun e w' => e = .returned (.bool false) ∧ w' = w1.drewN n) :=
      fun n => (HM.out (w1.drewN n) (below_drewN hb n)).mono fun e w' h => ⟨h.2.1 hok, h.2.2⟩
    clear hy hn HM
    subst he
    go_wp2
    go_quiet ((go_at_call 9; exact Calls.quiet_of_same (HM1.out _)))
    go_wp2
    go_ret
    exact ⟨rfl, below_drewN hb _⟩

theorem walk (a0 : Option Addr) (len0 cap0 : Nat) (z0 : List Int) (w : World) (w0 : IsRow .u8 w a0 len0 cap0 z0) :
    Calls Yba.prog 5 #[.slice a0 len0 cap0] w fun e w' => e = .returned (.bool true) ∧ Below w.heap.size w w' := by
  by_cases hl : len0 ≤ 4096
  · by_cases h0 : len0 = 0
    · subst h0
      exact walk_of a0 0 cap0 (fun _ => 0) w hl (check_empty a0 cap0 _ w) (fun w1 _ => model_empty a0 cap0 _ w1)
    · rcases w0 with ⟨_, h, _, _⟩ | ⟨x, rfl, hle, hm, hz, hcell, hwf⟩
      · exact absurd h h0
      · obtain ⟨b, off, spot⟩ := x
        have h1 := hcell 0 (by omega)
        have hspot : spot = none := by simpa [Addr.add] using World.cell?_spot h1
        subst hspot
        have hc : ∀ k, k < len0 → w.cell? ⟨b, off + k, none⟩ = some (.int .u8 ((fun i => z0.getD i 0) k)) := fun k hk => by rw [← add_plain]; exact hcell k (by omega)
        have hg : ∀ k, k < len0 → 0 ≤ (fun i => z0.getD i 0) k ∧ (fun i => z0.getD i 0) k ≤ 255 := fun k hk => by
          have := range_u8 hwf k
          simpa using this
        exact walk_of _ len0 cap0 (fun i => z0.getD i 0) w hl (check_in b off len0 cap0 _ w (by omega) (by omega) hc hg)
          (fun w1 hb => model_in b off len0 cap0 _ w1 (by omega) (by omega) (fun k hk => cell_later hb (hc k hk)))
  · have hd1 : decide ((4096 : Int) < (len0 : Int)) = true := decide_eq_true (by omega)
    go_enter Yba.func5, Yba.ntmps5
    go_wp2
    go_ret
    exact ⟨rfl, Below.refl _ _⟩

/-! ### THE ROW's STEP: WRITTEN OUT: LEAVE IT -/
set_option maxRecDepth 100000 in
theorem lifted (os : Os) (started : os.Started) (H : Type) (enc : TypeId × Value → H) :
    ReturnsInHanded {} Yba.checked os 5 .any (Rows.lawS0714BModelSpec.pre6 enc Yba.prog Yba.f5 Rows.lawS0714BModelRow.domain false) (Rows.lawS0714BModelSpec.post enc Yba.prog Yba.f5 false true false false) := by
  refine returnsInHanded_of_change (C := Yba.checked) own started (by kernel_rfl) Yba.func5
    (ChangeSpec.witness6 (enc := enc) (C := Yba.checked) false ⟨#[], #[.slice none 0 0], []⟩ 8 (by kernel_rfl) (by kernel_rfl) (by kernel_rfl) (by kernel_rfl)) ?_
  intro W base args ds gs before hval0 hW hcnd _
  have hval : ∀ (j : Nat) t v, Yba.f5.params[j]? = some t → args[j]? = some v → Value.okWide Yba.prog W .any base t v := hval0
  have hW' := hW
  obtain ⟨p, q, hA0, hV, rfl, hfz, hnd⟩ := hW
  have hA : DataW.TrodAll enc Yba.prog W 0 (fun _ => true) true Yba.f5.params.toList args.toList ds p := hA0
  rw [Yba.params5] at hA hval
  obtain ⟨v0, vs0, d0, ds0, p0, q0, hargs, rfl, rfl, h0, r0⟩ := trodAll_cons hA
  obtain ⟨rfl, rfl, rfl⟩ := trodAll_nil r0
  obtain rfl : args = #[v0] := by cases args; simp_all
  obtain ⟨rfl, rfl⟩ := trodVars_none hV
  obtain ⟨a0, len0, cap0, rfl⟩ := okWide_slice Yba.underlying22 (hval 0 22 v0 rfl rfl)
  have k0 := h0
  have lt0 : ∀ x ∈ p0, x.block < W.heap.size := by obtain ⟨m, hm⟩ := k0; exact DataW.trod_lt m _ _ _ hm
  obtain ⟨z0, w0⟩ : ∃ zs, IsRow .u8 W a0 len0 cap0 zs := by
    obtain ⟨fuel, hf⟩ := h0
    rcases open_ints Yba.underlying22 Yba.underlying5 (by kernel_rfl) hf with ⟨hcs, _⟩ | ⟨x, l, c, zs, hcs, _, hl, hm, hz, _, hcell, hwz⟩
    · simp [Value.cells] at hcs
      obtain ⟨rfl, rfl, rfl⟩ := hcs
      exact ⟨[], .inl ⟨rfl, rfl, rfl, rfl⟩⟩
    · simp [Value.cells] at hcs
      obtain ⟨rfl, rfl, rfl⟩ := hcs
      exact ⟨zs, .inr ⟨_, rfl, hl, hm, by simpa using hz, hcell, hwz⟩⟩
  clear hA0 hval0
  refine (walk a0 len0 cap0 z0 W w0).mono fun e W' ⟨he, bel⟩ => ?_
  subst he
  exact ⟨_, rfl, _, _, _, [], _, [], hW', trodAll_mk1 (shut_bool Yba.underlying4 _), (trodAll_cons_mk (Below.trod laidOut (by kernel_rfl) (of_decide_eq_true (by kernel_rfl)) k0 bel lt0) trodAll_mk0), rfl, bel.frame _, fun h => by cases h⟩

theorem over : Rows.lawS0714BModelRow.holds Yba.pinned (OpenSpec.ofChange Rows.lawS0714BModelSpec) :=
  OpenClaim.holds_of_wide 5 Yba.f5 rfl rfl rfl rfl rfl rfl rfl ⟨rfl, rfl, rfl, rfl, rfl⟩ rfl rfl rfl rfl rfl (by kernel_rfl) Yba.func5 (by kernel_rfl)
    (of_decide_eq_true (by kernel_rfl)) (by unfold Func.isWrapper; first | (rw [if_pos (by decide +kernel)]; kernel_rfl) | (rw [if_neg (by decide +kernel)]; exact ⟨rfl, rfl⟩))
    (fun os started H enc _ => lifted os started H enc)

/-- ████ THE STATEMENT ████ -/
theorem proved : Rows.LawS0714BModelSaid := over
#print axioms proved
end Go.Proofs.Ybulkntm.lawS0714BModel
