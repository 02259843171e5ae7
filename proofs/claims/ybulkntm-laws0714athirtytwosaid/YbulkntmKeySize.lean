/-
  CONTRACTS OF 'certwright.ed25519KeySize' (function 7).
-/
import Derived.Test.YbulkntmRows
import Derived.WalkKit
import Derived.WalkSpells
import Derived.WalkLawsBesides
namespace Go.Proofs.Ybulkntm
open Go.RowKit

/-- nil parameters, 32 octets: (256, nil). -/
theorem keySize_yes (a : Option Addr) (c : Nat) (w : World) :
    Calls Yba.prog 7 #[.slice none 0 0, .slice a 32 c] w fun e w' => e = .returned (.tuple #[.int .i64 256, .nilIface]) ∧ w' = w := by
  have hn := fun wx a n c => run_neq_slice_nil_any (P := Yba.prog) wx 22 5 a n c 0 0 Yba.underlying22
  go_enter Yba.func7, Yba.ntmps7
  go_wp2
  go_ret2
  exact ⟨rfl, rfl⟩

/-- nil parameters, another length: (0, an error). -/
theorem keySize_len (a : Option Addr) (n c : Nat) (hne : n ≠ 32) (w : World) :
    Calls Yba.prog 7 #[.slice none 0 0, .slice a n c] w fun e w' => (∃ t x, e = .returned (.tuple #[.int .i64 0, .iface t x])) ∧ Below w.heap.size w w' := by
  have hn := fun wx a n c => run_neq_slice_nil_any (P := Yba.prog) wx 22 5 a n c 0 0 Yba.underlying22
  have h32 : ((n : Int) != 32) = true := by rw [bne_iff_ne]; omega
  go_enter Yba.func7, Yba.ntmps7
  go_wp2
  go_ret2
  exact ⟨⟨_, _, rfl⟩, (Below.refl _ _).alloc (Nat.le_refl _) _⟩

/-- parameters that are not nil: (0, an error). -/
theorem keySize_params (p : Addr) (pl pc : Nat) (a : Option Addr) (n c : Nat) (w : World) :
    Calls Yba.prog 7 #[.slice (some p) pl pc, .slice a n c] w fun e w' => (∃ t x, e = .returned (.tuple #[.int .i64 0, .iface t x])) ∧ Below w.heap.size w w' := by
  have hn := fun wx a n c => run_neq_slice_nil_any (P := Yba.prog) wx 22 5 a n c 0 0 Yba.underlying22
  go_enter Yba.func7, Yba.ntmps7
  go_wp2
  go_ret2
  exact ⟨⟨_, _, rfl⟩, (Below.refl _ _).alloc (Nat.le_refl _) _⟩
end Go.Proofs.Ybulkntm
