/-
  'zzs0720csame' (9): true where both slices hold the same entries.
-/
import Derived.Test.YbulknwsFmtCmp
import Derived.Test.YbulknwsFmtEncode
namespace Go.Proofs.YbulknwsFmt
open Go.RowKit

set_option maxHeartbeats 1600000 in
theorem same_in (gb go gc b off cap : Nat) (L : List Ent) (w : World) (hl : L.length ≤ 1024) (HI : Hid (EntsIn w gb go L)) (HE : Hid (EntsIn w b off L)) :
    Calls Ybaf.prog 9 #[.slice (some ⟨gb, go, none⟩) L.length gc, .slice (some ⟨b, off, none⟩) L.length cap] w fun e w' => e = .returned (.bool true) ∧ Below w.heap.size w w' := by
  go_enter Ybaf.func9, Ybaf.ntmps9
  go_wp2
  go_loopw [5] (fun i wr => ∃ k : Nat, k ≤ L.length ∧ i = .int .i64 k ∧ Below w.heap.size w wr) (fun i _ => L.length - (intOf i).toNat)
  case atStart => exact ⟨0, Nat.zero_le _, rfl, Below.refl _ _⟩
  case round =>
    obtain ⟨k, hk, rfl, hb⟩ := hrel
    by_cases hlt : k < L.length
    · obtain ⟨fa, fc, la, lc, c0, c1, c2, c3, c4, c5, c6, c7, n1, n2, q1, q2⟩ := (HE.out k hlt).later hb
      obtain ⟨fa', fc', la', lc', d0, d1, d2, d3, d4, d5, d6, d7, m1, m2, p1, p2⟩ := (HI.out k hlt).later hb
      generalize L[k] = E at c0 c1 c2 c3 c4 c5 c6 c7 q1 q2 d0 d1 d2 d3 d4 d5 d6 d7 p1 p2
      have hbB : b < wr.heap.size := World.block_lt_of_cell? _ _ c0
      have hgB : gb < wr.heap.size := World.block_lt_of_cell? _ _ d0
      have P1 : Hid (BA wr fa' E.fb) := p1
      have P2 : Hid (BA wr la' E.lb) := p2
      have Q1 : Hid (BA wr fa E.fb) := q1
      have Q2 : Hid (BA wr la E.lb) := q2
      clear p1 p2 q1 q2 n1 n2 m1 m2
      have hb2 : ∀ o1 o2 : Obj, Below wr.heap.size wr ((wr.alloc o1).alloc o2) := fun o1 o2 => ((Below.refl _ _).alloc (Nat.le_refl _) _).alloc (by simp) _
      go_wp2_with fail
      refine (bytesEqual_same _ _ (P1.out.later (hb2 _ _)) (Q1.out.later (hb2 _ _))).mono ?_
      rintro e w' ⟨rfl, rfl⟩
      go_wp2_with fail
      refine (bytesEqual_same _ _ (P2.out.later (hb2 _ _)) (Q2.out.later (hb2 _ _))).mono ?_
      rintro e w' ⟨rfl, rfl⟩
      go_wp2
      go_roundw
      case rel => exact ⟨k + 1, by omega, by go_num, hb.trans ((hb2 _ _).mono hb.size)⟩
      case measure => simp [intOf]; omega
    · have hd : decide ((k : Int) < (L.length : Int)) = false := decide_eq_false (by omega)
      go_wp2
      go_ret
      exact ⟨rfl, hb⟩

theorem same_none (ia ea : Option Addr) (gc cap : Nat) (w : World) :
    Calls Ybaf.prog 9 #[.slice ia 0 gc, .slice ea 0 cap] w fun e w' => e = .returned (.bool true) ∧ Below w.heap.size w w' := by
  go_enter Ybaf.func9, Ybaf.ntmps9
  go_wp2
  go_loop [5] (fun i => i = .int .i64 0) (fun _ => 0)
  case atStart => rfl
  case round =>
    obtain rfl := hrel
    go_wp2
    go_ret
    exact ⟨rfl, Below.refl _ _⟩

theorem same_any (ia ea : Option Addr) (gc cap : Nat) (L : List Ent) (w : World) (hl : L.length ≤ 1024) (hI : ArgE w ia L) (hE : ArgE w ea L) :
    Calls Ybaf.prog 9 #[.slice ia L.length gc, .slice ea L.length cap] w fun e w' => e = .returned (.bool true) ∧ Below w.heap.size w w' := by
  by_cases h0 : L = []
  · subst h0
    exact same_none ia ea gc cap w
  · obtain ⟨gb, go, rfl, hi⟩ := hI h0
    obtain ⟨b, off, rfl, he⟩ := hE h0
    exact same_in gb go gc b off cap L w hl hi he
end Go.Proofs.YbulknwsFmt
