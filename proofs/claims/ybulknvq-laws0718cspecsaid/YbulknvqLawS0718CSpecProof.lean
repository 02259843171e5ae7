/-
  A PROOF OF 'Rows.LawS0718CSpecSaid' ('alloc.LawS0718CSpec'). The row's step is the seat's shell as it was given.
-/
import Derived.Test.YbulknvqRows
import Derived.WalkKit
import Derived.ProofKit
import Derived.OpenShut
import Derived.ShutString
import Derived.Test.YbulknvqBytes
namespace Go.Proofs.Ybulknvq.lawS0718CSpec
open Go.ChangeShapes Go.WideShapes Go.ChangeAt Go.RowKit
open Go.ChangeMaps (open_string shut_string)
set_option linter.unusedVariables false      -- a walk need not use every 'w<i>' (that an integer argument fits its kind)

theorem own : ownKnob Yba.prog.godebug = none := by kernel_rfl

/-! ### STEP 1: THE WALK -/
theorem walk (a0 : Int) (w0 : (Lit.int .i64 a0).wf = true) (w : World) :
    Calls Yba.prog 3 #[.int .i64 a0] w fun e w' => e = .returned (.bool true) ∧ Grown w w' := by
  have bb := bounds_i64 w0
  have bd : a0 ≤ 9223372036854775807 := by omega
  by_cases h0 : a0 = 0
  · subst h0
    have e : bytesOut 0 = 0 := rfl
    go_enter Yba.func3, Yba.ntmps3
    go_wp2_with fail
    refine (bytes_any 0 _ (by omega)).mono ?_
    rintro e w' ⟨rfl, rfl⟩
    rw [e]
    go_wp2
    go_ret
    exact ⟨rfl, Grown.refl _⟩
  have h0' : (a0 == 0) = false := by rw [beq_eq_false_iff_ne]; exact h0
  by_cases h1 : a0 ≤ 16
  · have e : bytesOut a0 = 16 := by simp [bytesOut, h0, h1]
    go_enter Yba.func3, Yba.ntmps3
    go_wp2_with fail
    refine (bytes_any a0 _ bd).mono ?_
    rintro e w' ⟨rfl, rfl⟩
    rw [e]
    go_wp2
    go_ret
    exact ⟨rfl, Grown.refl _⟩
  by_cases h2 : a0 ≤ 32768
  · have hs := bytes_small a0 h1 h2
    have HS : Hid _ := hs
    clear hs
    go_enter Yba.func3, Yba.ntmps3
    go_wp2_with fail
    refine (bytes_any a0 _ bd).mono ?_
    rintro e w' ⟨rfl, rfl⟩
    obtain ⟨r0, r1, r2, r3, r4⟩ := HS.out
    clear HS
    generalize bytesOut a0 = r at r0 r1 r2 r3 r4 ⊢
    have r2' : (r % 16 == 0) = true := by rw [beq_iff_eq]; exact r2
    clear r2
    go_wp2
    go_ret
    exact ⟨rfl, Grown.refl _⟩
  by_cases h3 : 9223372036854767615 < a0
  · have e := bytes_max a0 h3
    go_enter Yba.func3, Yba.ntmps3
    go_wp2_with fail
    refine (bytes_any a0 _ bd).mono ?_
    rintro e w' ⟨rfl, rfl⟩
    rw [e]
    go_wp2
    go_ret
    exact ⟨rfl, Grown.refl _⟩
  · have hs := bytes_large a0 h2 h3
    have HS : Hid _ := hs
    clear hs
    go_enter Yba.func3, Yba.ntmps3
    go_wp2_with fail
    refine (bytes_any a0 _ bd).mono ?_
    rintro e w' ⟨rfl, rfl⟩
    obtain ⟨r0, r1, r2, r3, r4⟩ := HS.out
    clear HS
    generalize bytesOut a0 = r at r0 r1 r2 r3 r4 ⊢
    have r2' : (r % 8192 == 0) = true := by rw [beq_iff_eq]; exact r2
    clear r2
    go_wp2
    go_ret
    exact ⟨rfl, Grown.refl _⟩

/-! ### THE ROW's STEP: WRITTEN OUT: LEAVE IT -/
set_option maxRecDepth 100000 in
theorem lifted (os : Os) (started : os.Started) (H : Type) (enc : TypeId × Value → H) :
    ReturnsInHanded {} Yba.checked os 3 .any (Rows.lawS0718CSpecSpec.pre6 enc Yba.prog Yba.f3 Rows.lawS0718CSpecRow.domain false) (Rows.lawS0718CSpecSpec.post enc Yba.prog Yba.f3 false true false false) := by
  refine returnsInHanded_of_change (C := Yba.checked) own started (by kernel_rfl) Yba.func3
    (ChangeSpec.witness6 (enc := enc) (C := Yba.checked) false ⟨#[], #[.int .i64 0], []⟩ 8 (by kernel_rfl) (by kernel_rfl) (by kernel_rfl) (by kernel_rfl)) ?_
  intro W base args ds gs before hval0 hW hcnd _
  have hval : ∀ (j : Nat) t v, Yba.f3.params[j]? = some t → args[j]? = some v → Value.okWide Yba.prog W .any base t v := hval0
  have hW' := hW
  obtain ⟨p, q, hA0, hV, rfl, hfz, hnd⟩ := hW
  have hA : DataW.TrodAll enc Yba.prog W 0 (fun _ => true) true Yba.f3.params.toList args.toList ds p := hA0
  rw [Yba.params3] at hA hval
  obtain ⟨v0, vs0, d0, ds0, p0, q0, hargs, rfl, rfl, h0, r0⟩ := trodAll_cons hA
  obtain ⟨rfl, rfl, rfl⟩ := trodAll_nil r0
  obtain rfl : args = #[v0] := by cases args; simp_all
  obtain ⟨rfl, rfl⟩ := trodVars_none hV
  obtain ⟨a0, rfl, rfl, rfl, w0⟩ := open_int Yba.underlying2 (hval 0 2 v0 rfl rfl) h0
  clear hA0 hval0
  simp only [List.append_nil] at hW'
  refine (walk a0 w0 W).mono fun e W' ⟨he, hg⟩ => ?_
  subst he
  exact ⟨_, rfl, post_of_same (pa := []) (pv := []) hW' (fun _ _ _ => (trodAll_cons_mk (shut_bool Yba.underlying4 _) trodAll_mk0)) (fun sp _ => (trodAll_cons_mk (shut_int Yba.underlying2 w0) trodAll_mk0)) (fun _ _ => rfl) rfl
    (hg.frame _) hg.2.1 (ok_one (by kernel_rfl) rfl (okWide_bool_mk Yba.underlying4 _))⟩

theorem over : Rows.lawS0718CSpecRow.holds Yba.pinned (OpenSpec.ofChange Rows.lawS0718CSpecSpec) :=
  OpenClaim.holds_of_wide 3 Yba.f3 rfl rfl rfl rfl rfl rfl rfl ⟨rfl, rfl, rfl, rfl, rfl⟩ rfl rfl rfl rfl rfl (by kernel_rfl) Yba.func3 (by kernel_rfl)
    (of_decide_eq_true (by kernel_rfl)) (by unfold Func.isWrapper; first | (rw [if_pos (by decide +kernel)]; kernel_rfl) | (rw [if_neg (by decide +kernel)]; exact ⟨rfl, rfl⟩))
    (fun os started H enc _ => lifted os started H enc)

/-- ████ THE STATEMENT ████ -/
theorem proved : Rows.LawS0718CSpecSaid :=
  over
#print axioms proved
end Go.Proofs.Ybulknvq.lawS0718CSpec
