/-
  'bytes.Compare' (12), 'cmp.Compare[uint64]' (13), '(Key).Compare' (7), 'bytes.Equal' (17).
-/
import Derived.Test.YbulknwsFmtMem
import Derived.Lib.BytesEntry
import Derived.Laws.BytesArg
import Derived.Laws.Externs
namespace Go.Proofs.YbulknwsFmt
open Go.RowKit

def ints (l : List UInt8) : List Int := l.map fun b => (b.toNat : Int)
theorem ints_length (l : List UInt8) : (ints l).length = l.length := by simp [ints]
theorem bytesOf_ints (l : List UInt8) : Lib.bytesOf (ints l) = l := by
  unfold Lib.bytesOf ints
  rw [List.map_map]
  conv => rhs; rw [← List.map_id l]
  apply List.map_congr_left
  intro b _
  simp
theorem BA.ints {w : World} {ad : Addr} {l : List UInt8} (h : BA w (some ad) l) : ∀ j x, (ints l)[j]? = some x → w.cell? (ad.add j) = some (.int .u8 x) := by
  intro j x hj
  refine h.news j _ ?_
  simp only [YbulknwsFmt.ints, List.getElem?_map, Option.map_eq_some_iff, Lib.byteCells] at hj ⊢
  obtain ⟨b, hb, rfl⟩ := hj
  exact ⟨b, hb, rfl⟩

/-- 'string(..)' of a slice, as the entries read it. -/
theorem run_bytesOf {P : Program} {w : World} {a : Option Addr} {l : List UInt8} (c : Nat) (h : BA w a l) : (Extern.Bytes.bytesOf (.slice a l.length c)).run P w = .ok ⟨l.toArray⟩ w := by
  cases a with
  | none =>
    obtain rfl := h.none_nil
    rfl
  | some ad =>
    have := Lib.run_loadBytesX (P := P) w (ints l) ad .empty h.ints
    rw [ints_length, bytesOf_ints] at this
    show Sem.run P (Extern.Bytes.loadBytes ad l.length .empty) w = _
    rw [this]
    congr 1
    apply ByteArray.ext
    show (#[] : Array UInt8) ++ l.toArray = l.toArray
    simp

theorem run_compare {P : Program} {w : World} {a b : Option Addr} {p q : List UInt8} (c d : Nat) (hp : BA w a p) (hq : BA w b q) :
    (Extern.BytealgCompare.compare #[.slice a p.length c, .slice b q.length d]).run P w = .ok (.int .i64 (Lib.compareBytes p q)) w := by
  change Sem.run P (do pure (goInt (Extern.BytealgCompare.cmp (← Extern.Bytes.bytesOf (.slice a p.length c)) (← Extern.Bytes.bytesOf (.slice b q.length d))))) w = _
  simp only [Sem.run_bind, Sem.run_pure, run_bytesOf c hp, run_bytesOf d hq, Result.andThen]
  rw [Lib.cmp_eq]
  rfl

theorem run_call18 {w : World} {a b : Option Addr} {p q : List UInt8} (c d : Nat) (hp : BA w a p) (hq : BA w b q) :
    (callFunc 18 #[.slice a p.length c, .slice b q.length d]).run Ybaf.prog w = .ok (.value (.int .i64 (Lib.compareBytes p q))) w := by
  rw [run_callFunc_extern Ybaf.func18 (by kernel_rfl) (by kernel_rfl) (by kernel_rfl) (e := Extern.BytealgCompare.compare) (by kernel_rfl), run_compare c d hp hq]
  rfl

theorem bytesCompare_any {w : World} {a b : Option Addr} {p q : List UInt8} (c d : Nat) (hp : BA w a p) (hq : BA w b q) :
    Calls Ybaf.prog 12 #[.slice a p.length c, .slice b q.length d] w fun e w' => e = .returned (.int .i64 (Lib.compareBytes p q)) ∧ w' = w := by
  have hrun := run_call18 c d hp hq
  clear hp hq
  go_enter Ybaf.func12, Ybaf.ntmps12
  go_wp2
  go_ret
  exact ⟨rfl, rfl⟩

set_option maxHeartbeats 800000 in
theorem keyCompare_any {w : World} {a b : Option Addr} {p q : List UInt8} (c d v u : Nat) (hp : Hid (BA w a p)) (hq : Hid (BA w b q)) :
    Calls Ybaf.prog 7 #[.agg #[.slice a p.length c, .int .u64 v], .agg #[.slice b q.length d, .int .u64 u]] w fun e w' => e = .returned (.int .i64 (kcmp p v q u)) ∧ Below w.heap.size w w' := by
  have HB : Hid (Below w.heap.size w ((w.alloc (.cells #[.slice a p.length c, .int .u64 v] 29)).alloc (.cells #[.slice b q.length d, .int .u64 u] 29))) := ((Below.refl _ _).alloc (Nat.le_refl _) _).alloc (by simp) _
  by_cases h0 : Lib.compareBytes p q = 0
  · have h0' : (Lib.compareBytes p q != 0) = false := by rw [h0]; rfl
    by_cases h1 : v = u
    · have e : kcmp p v q u = 0 := by simp [kcmp, h0, h1]
      have h1' : ((v : Int) == (u : Int)) = true := by rw [beq_iff_eq]; omega
      rw [e]
      clear h0 h1 e
      go_enter Ybaf.func7, Ybaf.ntmps7
      go_wp2_with (first | (go_at_call 12; refine (bytesCompare_any c d (hp.out.later HB.out) (hq.out.later HB.out)).mono ?_; rintro e w' ⟨rfl, rfl⟩) | go_in)
      go_ret
      exact ⟨rfl, HB.out⟩
    · have h1' : ((v : Int) == (u : Int)) = false := by rw [beq_eq_false_iff_ne]; omega
      by_cases h2 : v = 0
      · have e : kcmp p v q u = -1 := by simp [kcmp, h0, h2]; omega
        have h2' : ((v : Int) == 0) = true := by rw [beq_iff_eq]; omega
        rw [e]
        clear h0 h1 h2 e
        go_enter Ybaf.func7, Ybaf.ntmps7
        go_wp2_with (first | (go_at_call 12; refine (bytesCompare_any c d (hp.out.later HB.out) (hq.out.later HB.out)).mono ?_; rintro e w' ⟨rfl, rfl⟩) | go_in)
        go_ret
        exact ⟨rfl, HB.out⟩
      · have h2' : ((v : Int) == 0) = false := by rw [beq_eq_false_iff_ne]; omega
        by_cases h3 : u = 0
        · have e : kcmp p v q u = 1 := by simp [kcmp, h0, h2, h3]
          have h3' : ((u : Int) == 0) = true := by rw [beq_iff_eq]; omega
          rw [e]
          clear h0 h1 h2 h3 e
          go_enter Ybaf.func7, Ybaf.ntmps7
          go_wp2_with (first | (go_at_call 12; refine (bytesCompare_any c d (hp.out.later HB.out) (hq.out.later HB.out)).mono ?_; rintro e w' ⟨rfl, rfl⟩) | go_in)
          go_ret
          exact ⟨rfl, HB.out⟩
        · have h3' : ((u : Int) == 0) = false := by rw [beq_eq_false_iff_ne]; omega
          by_cases h4 : u < v
          · have e : kcmp p v q u = -1 := by simp [kcmp, h0, h1, h2, h3, h4]
            have h4' : (u : Int) < (v : Int) := by omega
            rw [e]
            clear h0 h1 h2 h3 e
            go_enter Ybaf.func7, Ybaf.ntmps7
            go_wp2_with (first | (go_at_call 12; refine (bytesCompare_any c d (hp.out.later HB.out) (hq.out.later HB.out)).mono ?_; rintro e w' ⟨rfl, rfl⟩) | go_in)
            go_ret
            exact ⟨rfl, HB.out⟩
          · have e : kcmp p v q u = 1 := by simp [kcmp, h0, h1, h2, h3, h4]
            have h4' : decide ((u : Int) < (v : Int)) = false := decide_eq_false (by omega)
            have h5' : (v : Int) < (u : Int) := by omega
            rw [e]
            clear h0 h1 h2 h3 e
            go_enter Ybaf.func7, Ybaf.ntmps7
            go_wp2_with (first | (go_at_call 12; refine (bytesCompare_any c d (hp.out.later HB.out) (hq.out.later HB.out)).mono ?_; rintro e w' ⟨rfl, rfl⟩) | go_in)
            go_ret
            exact ⟨rfl, HB.out⟩
  · have e : kcmp p v q u = Lib.compareBytes p q := by simp [kcmp, h0]
    have h0' : (Lib.compareBytes p q != 0) = true := by rw [bne_iff_ne]; exact h0
    rw [e]
    clear h0 e
    go_enter Ybaf.func7, Ybaf.ntmps7
    go_wp2_with (first | (go_at_call 12; refine (bytesCompare_any c d (hp.out.later HB.out) (hq.out.later HB.out)).mono ?_; rintro e w' ⟨rfl, rfl⟩) | go_in)
    go_ret
    exact ⟨rfl, HB.out⟩

theorem run_convert_ba {P : Program} {w : World} {a : Option Addr} {l : List UInt8} (src e dst : TypeId) (hs : P.underlying src = some (.slice e)) (he : P.underlying e = some (.int .u8)) (hd : P.underlying dst = some .string) (c : Nat) (h : BA w a l) :
    (convert src dst (.slice a l.length c)).run P w = .ok (.string ⟨l.toArray⟩) w := by
  cases a with
  | none =>
    obtain rfl := h.none_nil
    exact run_convert_bytes_nil w src e hs he _ c dst hd
  | some ad =>
    have hl : (loadCells ad l.length).run P w = .ok ((ints l).map (Value.int .u8)).toArray w := by
      have := run_loadCells_list (P := P) w ad ((ints l).map (Value.int .u8)) (fun j v hj => by
        rw [List.getElem?_map, Option.map_eq_some_iff] at hj
        obtain ⟨x, hx, rfl⟩ := hj
        exact h.ints j x hx)
      simpa [ints_length] using this
    rw [run_convert_bytes_string w src dst e _ l.length c hs he hd, run_bytesToString w _ l.length c (ints l) hl, foldl_push_bytes]
    have e1 : (ints l).map (fun n => UInt8.ofNat n.toNat) = l := bytesOf_ints l
    rw [e1]
    simp [ByteArray.empty, ByteArray.emptyWithCapacity]
    rfl

theorem bytesEqual_same {w : World} {a b : Option Addr} {p : List UInt8} (c d : Nat) (hp : BA w a p) (hq : BA w b p) :
    Calls Ybaf.prog 17 #[.slice a p.length c, .slice b p.length d] w fun e w' => e = .returned (.bool true) ∧ w' = w := by
  have h1 := run_convert_ba 23 5 9 Ybaf.underlying23 Ybaf.underlying5 Ybaf.underlying9 c hp
  have h2 := run_convert_ba 23 5 9 Ybaf.underlying23 Ybaf.underlying5 Ybaf.underlying9 d hq
  clear hp hq
  go_enter Ybaf.func17, Ybaf.ntmps17
  go_wp2
  go_ret
  refine ⟨?_, rfl⟩
  simp
end Go.Proofs.YbulknwsFmt
