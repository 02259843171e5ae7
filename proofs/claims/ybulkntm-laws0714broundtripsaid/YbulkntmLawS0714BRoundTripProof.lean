/-
  A PROOF OF 'Rows.LawS0714BRoundTripSaid' ('der.LawS0714BRoundTrip'). The row's step is the seat's shell as it was given.
-/
import Derived.Test.YbulkntmRows
import Derived.WalkKit
import Derived.ProofKit
import Derived.OpenShut
import Derived.ShutString
import Derived.ChangeOld
import Derived.Below
import Derived.WalkSpells
import Derived.WalkLawsBesides
import Derived.Test.YbulkntmEnc
namespace Go.Proofs.Ybulkntm.lawS0714BRoundTrip
open Go.ChangeShapes Go.WideShapes Go.ChangeAt Go.RowKit
open Go.ChangeMaps (open_string shut_string)
set_option linter.unusedVariables false

theorem own : ownKnob Yba.prog.godebug = none := by kernel_rfl
theorem laidOut : laidOutB Yba.prog = true := by kernel_rfl

/-- WHAT THE WALK IS TOLD OF A SLICE OF INTEGERS THAT CAME IN: it is nil; or it leads to a row of 'cap' cells, the numbers 'zs' (the first 'len' are its elements, the rest its spare room), each fitting its kind. -/
def IsRow (k : IntKind) (w : World) (a : Option Addr) (len cap : Nat) (zs : List Int) : Prop :=
  (a = none ∧ len = 0 ∧ cap = 0 ∧ zs = []) ∨
  ∃ x, a = some x ∧ len ≤ cap ∧ cap ≤ maxLen ∧ zs.length = cap ∧ (∀ i, i < zs.length → w.cell? (x.add i) = some (.int k (zs.getD i 0))) ∧ ∀ n ∈ zs, (Lit.int k n).wf = true

/-! ### STEP 1: THE WALK -/
theorem check_own {w : World} {B : Nat} {c : Value} {ys : List Int} (hown : w.ownsRow B 5 1 c ys.length (ys.map (Value.int .u8))) (hsub : Subs ys) (hl : ys.length ≤ 1000000) :
    Calls Yba.prog 8 #[c] w (Checked8 (fun i => ys.getD i 0) ys.length w) := by
  have hown2 := hown
  obtain ⟨_, h2⟩ := hown2
  rcases h2 with ⟨rfl, h0⟩ | ⟨g, cap, cur, rfl, _⟩
  · rw [h0]
    exact check_empty none 0 _ w
  · by_cases h0 : ys.length = 0
    · rw [h0]
      exact check_empty _ cap _ w
    · refine check_in g 0 ys.length cap _ w (by omega) (by omega) (fun k hk => ?_) hsub.range
      rw [Nat.zero_add, hown.cellAt k (by omega)]
      simp [List.getD, hk]

/-- the loop's step: the arcs' encodings so far, one more. -/
theorem rel_step {w wr w1 : World} {B : Nat} {c : Value} {ys us : List Int} (hsub : Subs ys) (hu : Sub us) (hown : w1.ownsRow B 5 1 c (ys.length + us.length) (ys.map (Value.int .u8) ++ us.map (Value.int .u8))) (hb : Below B w wr) (hb1 : Below B wr w1) :
    Subs (ys ++ us) ∧ w1.ownsRow B 5 1 c (ys ++ us).length ((ys ++ us).map (Value.int .u8)) ∧ Below B w w1 ∧ 0 < (ys ++ us).length := by
  refine ⟨subs_append hsub hu, ?_, hb.trans hb1, ?_⟩
  · rw [List.length_append, List.map_append]; exact hown
  · have := hu.pos; rw [List.length_append]; omega

set_option maxHeartbeats 800000 in
theorem walk_in (b off len0 cap0 : Nat) (z : Nat → Int) (w : World) (hl : len0 ≤ 1024) (h0 : 0 < len0)
    (hc : ∀ k, k < len0 → w.cell? ⟨b, off + k, none⟩ = some (.int .u64 (z k))) (hz : ∀ k, k < len0 → 0 ≤ z k ∧ z k < 18446744073709551616) (hbB : b < w.heap.size) :
    Calls Yba.prog 6 #[.slice (some ⟨b, off, none⟩) len0 cap0] w fun e w' => e = .returned (.bool true) ∧ Below w.heap.size w w' := by
  have hd1 : decide ((1024 : Int) < (len0 : Int)) = false := decide_eq_false (by omega)
  have hz0 : ((len0 : Int) == 0) = false := by rw [beq_eq_false_iff_ne]; omega
  go_enter Yba.func6, Yba.ntmps6
  go_wp2
  go_loopw [3, 4] (fun c i wr => ∃ (k : Nat) (ys : List Int), k ≤ len0 ∧ i = .int .i64 k ∧ Subs ys ∧ ys.length ≤ 10 * k ∧ (0 < k → 0 < ys.length) ∧ wr.ownsRow w.heap.size 5 1 c ys.length (ys.map (Value.int .u8)) ∧ Below w.heap.size w wr) (fun _ i _ => len0 - (intOf i).toNat)
  case atStart => exact ⟨0, [], Nat.zero_le _, rfl, subs_nil, by simp, fun h => absurd h (by omega), World.ownsRow_nil _ _ _ _, Below.refl _ _⟩
  case round =>
    obtain ⟨k, ys, hk, rfl, hsub, hlen, hpos, hown, hb⟩ := hrel
    by_cases hlt : k < len0
    · have hck : wr.cell? ⟨b, off + k, none⟩ = some (.int .u64 (z k)) := (hb.cell (by exact hbB)).trans (hc k hlt)
      have hzk := hz k hlt
      go_wp2_with fail
      refine (enc_any w.heap.size ys.length _ _ (z k) _ hzk.1 hzk.2 hb.size (by omega) hown).mono ?_
      rintro e w1 ⟨v', us, rfl, hu, hu10, hown1, hb1⟩
      have R := rel_step hsub hu hown1 hb hb1
      have HL : Hid ((ys ++ us).length ≤ 10 * (k + 1)) := by show _ ≤ _; rw [List.length_append]; omega
      clear hown1 hb1 hown hb hck hzk hsub hlen hpos hu hu10
      go_wp2
      go_roundw
      case rel => exact ⟨k + 1, ys ++ us, by omega, by go_num, R.1, HL.out, fun _ => R.2.2.2, R.2.1, R.2.2.1⟩
      case measure => simp [intOf]; omega
    · have hd : decide ((k : Int) < (len0 : Int)) = false := decide_eq_false (by omega)
      have hp := hpos (by omega)
      go_wp2_with fail
      refine Calls.mono (check_own hown hsub (by omega)) ?_
      rintro e w1 ⟨hy, hn, hb1⟩
      have he := hy (subs_ok hsub hp)
      clear hy hn
      subst he
      go_wp2
      go_ret
      exact ⟨rfl, hb.trans (hb1.mono hb.size)⟩

set_option maxHeartbeats 800000 in
theorem walk_none (a0 : Option Addr) (cap0 : Nat) (w : World) :
    Calls Yba.prog 6 #[.slice a0 0 cap0] w fun e w' => e = .returned (.bool true) ∧ Below w.heap.size w w' := by
  go_enter Yba.func6, Yba.ntmps6
  go_wp2
  go_loopw [3, 4] (fun c i wr => c = .slice none 0 0 ∧ i = .int .i64 0 ∧ wr = w) (fun _ _ _ => 0)
  case atStart => exact ⟨rfl, rfl, rfl⟩
  case round =>
    obtain ⟨rfl, rfl, rfl⟩ := hrel
    go_wp2_with fail
    refine Calls.mono (check_empty none 0 (fun _ => 0) _) ?_
    rintro e w1 ⟨hy, hn, hb1⟩
    obtain ⟨t, x, he⟩ := hn (by rintro ⟨h, _⟩; omega)
    clear hy hn
    subst he
    go_wp2
    go_ret
    exact ⟨rfl, hb1⟩

theorem walk (a0 : Option Addr) (len0 cap0 : Nat) (z0 : List Int) (w : World) (w0 : IsRow .u64 w a0 len0 cap0 z0) :
    Calls Yba.prog 6 #[.slice a0 len0 cap0] w fun e w' => e = .returned (.bool true) ∧ Below w.heap.size w w' := by
  by_cases hl : len0 ≤ 1024
  · by_cases h0 : len0 = 0
    · subst h0
      exact walk_none a0 cap0 w
    · rcases w0 with ⟨_, h, _, _⟩ | ⟨x, rfl, hle, hm, hz, hcell, hwf⟩
      · exact absurd h h0
      · obtain ⟨b, off, spot⟩ := x
        have h1 := hcell 0 (by omega)
        have hspot : spot = none := by simpa [Addr.add] using World.cell?_spot h1
        subst hspot
        have hc : ∀ k, k < len0 → w.cell? ⟨b, off + k, none⟩ = some (.int .u64 ((fun i => z0.getD i 0) k)) := fun k hk => by rw [← add_plain]; exact hcell k (by omega)
        have hg : ∀ k, k < len0 → 0 ≤ (fun i => z0.getD i 0) k ∧ (fun i => z0.getD i 0) k < 18446744073709551616 := fun k hk => by
          have hk' : k < z0.length := by omega
          have hmem : z0.getD k 0 ∈ z0 := by simp [List.getD, hk']
          have := bounds_u64 (hwf _ hmem)
          simp only
          omega
        exact walk_in b off len0 cap0 (fun i => z0.getD i 0) w hl (by omega) hc hg (by have := World.block_lt_of_cell? _ _ h1; simpa [Addr.add] using this)
  · have hd1 : decide ((1024 : Int) < (len0 : Int)) = true := decide_eq_true (by omega)
    go_enter Yba.func6, Yba.ntmps6
    go_wp2
    go_ret
    exact ⟨rfl, Below.refl _ _⟩

/-! ### THE ROW's STEP: WRITTEN OUT: LEAVE IT -/
set_option maxRecDepth 100000 in
theorem lifted (os : Os) (started : os.Started) (H : Type) (enc : TypeId × Value → H) :
    ReturnsInHanded {} Yba.checked os 6 .any (Rows.lawS0714BRoundTripSpec.pre6 enc Yba.prog Yba.f6 Rows.lawS0714BRoundTripRow.domain false) (Rows.lawS0714BRoundTripSpec.post enc Yba.prog Yba.f6 false true false false) := by
  refine returnsInHanded_of_change (C := Yba.checked) own started (by kernel_rfl) Yba.func6
    (ChangeSpec.witness6 (enc := enc) (C := Yba.checked) false ⟨#[], #[.slice none 0 0], []⟩ 8 (by kernel_rfl) (by kernel_rfl) (by kernel_rfl) (by kernel_rfl)) ?_
  intro W base args ds gs before hval0 hW hcnd _
  have hval : ∀ (j : Nat) t v, Yba.f6.params[j]? = some t → args[j]? = some v → Value.okWide Yba.prog W .any base t v := hval0
  have hW' := hW
  obtain ⟨p, q, hA0, hV, rfl, hfz, hnd⟩ := hW
  have hA : DataW.TrodAll enc Yba.prog W 0 (fun _ => true) true Yba.f6.params.toList args.toList ds p := hA0
  rw [Yba.params6] at hA hval
  obtain ⟨v0, vs0, d0, ds0, p0, q0, hargs, rfl, rfl, h0, r0⟩ := trodAll_cons hA
  obtain ⟨rfl, rfl, rfl⟩ := trodAll_nil r0
  obtain rfl : args = #[v0] := by cases args; simp_all
  obtain ⟨rfl, rfl⟩ := trodVars_none hV
  obtain ⟨a0, len0, cap0, rfl⟩ := okWide_slice Yba.underlying31 (hval 0 31 v0 rfl rfl)
  have k0 := h0
  have lt0 : ∀ x ∈ p0, x.block < W.heap.size := by obtain ⟨m, hm⟩ := k0; exact DataW.trod_lt m _ _ _ hm
  obtain ⟨z0, w0⟩ : ∃ zs, IsRow .u64 W a0 len0 cap0 zs := by
    obtain ⟨fuel, hf⟩ := h0
    rcases open_ints Yba.underlying31 Yba.underlying33 (by kernel_rfl) hf with ⟨hcs, _⟩ | ⟨x, l, c, zs, hcs, _, hl, hm, hz, _, hcell, hwz⟩
    · simp [Value.cells] at hcs
      obtain ⟨rfl, rfl, rfl⟩ := hcs
      exact ⟨[], .inl ⟨rfl, rfl, rfl, rfl⟩⟩
    · simp [Value.cells] at hcs
      obtain ⟨rfl, rfl, rfl⟩ := hcs
      exact ⟨zs, .inr ⟨_, rfl, hl, hm, by simpa using hz, hcell, hwz⟩⟩
  clear hA0 hval0
  refine (walk a0 len0 cap0 z0 W w0).mono fun e W' ⟨he, bel⟩ => ?_
  subst he
  exact ⟨_, rfl, _, _, _, [], _, [], hW', trodAll_mk1 (shut_bool Yba.underlying4 _), (trodAll_cons_mk (Below.trod laidOut (by kernel_rfl) (of_decide_eq_true (by kernel_rfl)) k0 bel lt0) trodAll_mk0), rfl, bel.frame _, fun h => by cases h⟩

theorem over : Rows.lawS0714BRoundTripRow.holds Yba.pinned (OpenSpec.ofChange Rows.lawS0714BRoundTripSpec) :=
  OpenClaim.holds_of_wide 6 Yba.f6 rfl rfl rfl rfl rfl rfl rfl ⟨rfl, rfl, rfl, rfl, rfl⟩ rfl rfl rfl rfl rfl (by kernel_rfl) Yba.func6 (by kernel_rfl)
    (of_decide_eq_true (by kernel_rfl)) (by unfold Func.isWrapper; first | (rw [if_pos (by decide +kernel)]; kernel_rfl) | (rw [if_neg (by decide +kernel)]; exact ⟨rfl, rfl⟩))
    (fun os started H enc _ => lifted os started H enc)

/-- ████ THE STATEMENT ████ -/
theorem proved : Rows.LawS0714BRoundTripSaid := over
#print axioms proved
end Go.Proofs.Ybulkntm.lawS0714BRoundTrip
