/-
  A PROOF OF 'Rows.LawS0718COrderSaid' ('alloc.LawS0718COrder'). The row's step is the seat's shell as it was given.
-/
import Derived.Test.YbulknvqRows
import Derived.WalkKit
import Derived.ProofKit
import Derived.OpenShut
import Derived.ShutString
import Derived.Test.YbulknvqBytes
namespace Go.Proofs.Ybulknvq.lawS0718COrder
open Go.ChangeShapes Go.WideShapes Go.ChangeAt Go.RowKit
open Go.ChangeMaps (open_string shut_string)
set_option linter.unusedVariables false      -- a walk need not use every 'w<i>' (that an integer argument fits its kind)

theorem own : ownKnob Yba.prog.godebug = none := by kernel_rfl

/-! ### STEP 1: THE WALK -/
theorem walk_ordered (a0 a1 : Int) (w : World) (h0 : 0 ≤ a0) (h1 : a0 ≤ a1) (h2 : a1 ≤ 9223372036854775807) :
    Calls Yba.prog 4 #[.int .i64 a0, .int .i64 a1] w fun e w' => e = .returned (.bool true) ∧ Grown w w' := by
  have HM : Hid (bytesOut a0 ≤ bytesOut a1) := bytes_mono a0 a1 h0 h1 h2
  have HA := bytes_ge a0 h0 (by omega)
  have HB := bytes_ge a1 (by omega) h2
  go_enter Yba.func4, Yba.ntmps4
  go_wp2_with fail
  refine (bytes_any a0 _ (by omega)).mono ?_
  rintro e w' ⟨rfl, rfl⟩
  go_wp2_with fail
  refine (bytes_any a1 _ (by omega)).mono ?_
  rintro e w' ⟨rfl, rfl⟩
  have hm := HM.out
  clear HM
  generalize bytesOut a0 = r at hm HA ⊢
  generalize bytesOut a1 = t at hm HB ⊢
  go_wp2
  go_ret
  exact ⟨rfl, Grown.refl _⟩
theorem walk_swapped (a0 a1 : Int) (w : World) (h0 : 0 ≤ a1) (h1 : a1 < a0) (h2 : a0 ≤ 9223372036854775807) :
    Calls Yba.prog 4 #[.int .i64 a0, .int .i64 a1] w fun e w' => e = .returned (.bool true) ∧ Grown w w' := by
  have HM : Hid (bytesOut a1 ≤ bytesOut a0) := bytes_mono a1 a0 h0 (by omega) h2
  have HA := bytes_ge a0 (by omega) h2
  have HB := bytes_ge a1 h0 (by omega)
  go_enter Yba.func4, Yba.ntmps4
  go_wp2_with fail
  refine (bytes_any a1 _ (by omega)).mono ?_
  rintro e w' ⟨rfl, rfl⟩
  go_wp2_with fail
  refine (bytes_any a0 _ (by omega)).mono ?_
  rintro e w' ⟨rfl, rfl⟩
  have hm := HM.out
  clear HM
  generalize bytesOut a0 = r at hm HA ⊢
  generalize bytesOut a1 = t at hm HB ⊢
  go_wp2
  go_ret
  exact ⟨rfl, Grown.refl _⟩
theorem walk (a0 : Int) (a1 : Int) (w0 : (Lit.int .i64 a0).wf = true) (w1 : (Lit.int .i64 a1).wf = true) (w : World) :
    Calls Yba.prog 4 #[.int .i64 a0, .int .i64 a1] w fun e w' => e = .returned (.bool true) ∧ Grown w w' := by
  have b0 := bounds_i64 w0
  have b1 := bounds_i64 w1
  by_cases h0 : a0 < 0
  · have hd : decide (a0 < 0) = true := decide_eq_true h0
    go_enter Yba.func4, Yba.ntmps4
    go_wp2
    go_ret
    exact ⟨rfl, Grown.refl _⟩
  by_cases h1 : a1 < 0
  · have hd : decide (a0 < 0) = false := decide_eq_false h0
    have hd1 : decide (a1 < 0) = true := decide_eq_true h1
    go_enter Yba.func4, Yba.ntmps4
    go_wp2
    go_ret
    exact ⟨rfl, Grown.refl _⟩
  by_cases h2 : a0 ≤ a1
  · exact walk_ordered a0 a1 w (by omega) h2 (by omega)
  · exact walk_swapped a0 a1 w (by omega) (by omega) (by omega)

/-! ### THE ROW's STEP: WRITTEN OUT: LEAVE IT -/
set_option maxRecDepth 100000 in
theorem lifted (os : Os) (started : os.Started) (H : Type) (enc : TypeId × Value → H) :
    ReturnsInHanded {} Yba.checked os 4 .any (Rows.lawS0718COrderSpec.pre6 enc Yba.prog Yba.f4 Rows.lawS0718COrderRow.domain false) (Rows.lawS0718COrderSpec.post enc Yba.prog Yba.f4 false true false false) := by
  refine returnsInHanded_of_change (C := Yba.checked) own started (by kernel_rfl) Yba.func4
    (ChangeSpec.witness6 (enc := enc) (C := Yba.checked) false ⟨#[], #[.int .i64 0, .int .i64 0], []⟩ 8 (by kernel_rfl) (by kernel_rfl) (by kernel_rfl) (by kernel_rfl)) ?_
  intro W base args ds gs before hval0 hW hcnd _
  have hval : ∀ (j : Nat) t v, Yba.f4.params[j]? = some t → args[j]? = some v → Value.okWide Yba.prog W .any base t v := hval0
  have hW' := hW
  obtain ⟨p, q, hA0, hV, rfl, hfz, hnd⟩ := hW
  have hA : DataW.TrodAll enc Yba.prog W 0 (fun _ => true) true Yba.f4.params.toList args.toList ds p := hA0
  rw [Yba.params4] at hA hval
  obtain ⟨v0, vs0, d0, ds0, p0, q0, hargs, rfl, rfl, h0, r0⟩ := trodAll_cons hA
  obtain ⟨v1, vs1, d1, ds1, p1, q1, rfl, rfl, rfl, h1, r1⟩ := trodAll_cons r0
  obtain ⟨rfl, rfl, rfl⟩ := trodAll_nil r1
  obtain rfl : args = #[v0, v1] := by cases args; simp_all
  obtain ⟨rfl, rfl⟩ := trodVars_none hV
  obtain ⟨a0, rfl, rfl, rfl, w0⟩ := open_int Yba.underlying2 (hval 0 2 v0 rfl rfl) h0
  obtain ⟨a1, rfl, rfl, rfl, w1⟩ := open_int Yba.underlying2 (hval 1 2 v1 rfl rfl) h1
  clear hA0 hval0
  simp only [List.append_nil] at hW'
  refine (walk a0 a1 w0 w1 W).mono fun e W' ⟨he, hg⟩ => ?_
  subst he
  exact ⟨_, rfl, post_of_same (pa := []) (pv := []) hW' (fun _ _ _ => (trodAll_cons_mk (shut_bool Yba.underlying4 _) trodAll_mk0)) (fun sp _ => (trodAll_cons_mk (shut_int Yba.underlying2 w0) (trodAll_cons_mk (shut_int Yba.underlying2 w1) trodAll_mk0))) (fun _ _ => rfl) rfl
    (hg.frame _) hg.2.1 (ok_one (by kernel_rfl) rfl (okWide_bool_mk Yba.underlying4 _))⟩

theorem over : Rows.lawS0718COrderRow.holds Yba.pinned (OpenSpec.ofChange Rows.lawS0718COrderSpec) :=
  OpenClaim.holds_of_wide 4 Yba.f4 rfl rfl rfl rfl rfl rfl rfl ⟨rfl, rfl, rfl, rfl, rfl⟩ rfl rfl rfl rfl rfl (by kernel_rfl) Yba.func4 (by kernel_rfl)
    (of_decide_eq_true (by kernel_rfl)) (by unfold Func.isWrapper; first | (rw [if_pos (by decide +kernel)]; kernel_rfl) | (rw [if_neg (by decide +kernel)]; exact ⟨rfl, rfl⟩))
    (fun os started H enc _ => lifted os started H enc)

/-- ████ THE STATEMENT ████ -/
theorem proved : Rows.LawS0718COrderSaid :=
  over
#print axioms proved
end Go.Proofs.Ybulknvq.lawS0718COrder
