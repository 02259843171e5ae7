/-
  'LawS0720CChain' (4): the entries that it makes out of the numbers that came in.
-/
import Derived.Test.YbulknwsFmtIndex
import Derived.Test.YbulknwsFmtSame
import Derived.Deep.OwnRows
import Derived.BigRegion
namespace Go.Proofs.YbulknwsFmt
open Go.RowKit

structure Num where
  lv : Nat
  mn : Nat
  mx : Nat
  po : Nat
  ln : Nat
structure Num.Fits (e : Num) : Prop where
  lv : e.lv < 18446744073709551616
  mn : e.mn < 18446744073709551616
  mx : e.mx < 18446744073709551616
  po : e.po < 18446744073709551616
  ln : e.ln < 18446744073709551616
def NumIn (w : World) (b o : Nat) (e : Num) : Prop :=
  w.cell? ⟨b, o, none⟩ = some (.int .u64 e.lv) ∧ w.cell? ⟨b, o + 1, none⟩ = some (.int .u64 e.mn) ∧ w.cell? ⟨b, o + 2, none⟩ = some (.int .u64 e.mx) ∧ w.cell? ⟨b, o + 3, none⟩ = some (.int .u64 e.po) ∧ w.cell? ⟨b, o + 4, none⟩ = some (.int .u64 e.ln)
def NumsIn (w : World) (b o : Nat) (N : List Num) : Prop := ∀ i (h : i < N.length), NumIn w b (o + i * 5) N[i]
theorem NumIn.later {w wx : World} {b o : Nat} {e : Num} (h : NumIn w b o e) (hb : Below w.heap.size w wx) : NumIn wx b o e :=
  ⟨cell_later hb h.1, cell_later hb h.2.1, cell_later hb h.2.2.1, cell_later hb h.2.2.2.1, cell_later hb h.2.2.2.2⟩

/-- the entry made of number i. -/
def chainEnt (i : Nat) (e : Num) : Ent := ⟨chainP i, 0, chainP i, e.lv, e.mn, e.mx, e.po, e.ln⟩
/-- the entries made of the numbers N. -/
def chainOf (N : List Num) : List Ent := N.mapIdx chainEnt
theorem chainOf_length (N : List Num) : (chainOf N).length = N.length := by simp [chainOf]
theorem chainOf_get (N : List Num) (i : Nat) (h : i < (chainOf N).length) : (chainOf N)[i] = chainEnt i (N[i]'(by rw [chainOf_length] at h; exact h)) := by simp [chainOf]
theorem chainOf_fits {N : List Num} (h : ∀ e ∈ N, e.Fits) : ∀ e ∈ chainOf N, e.Fits 1024 := by
  intro e he
  obtain ⟨i, hi, rfl⟩ := List.getElem_of_mem he
  rw [chainOf_get]
  have hf := h (N[i]'(by rw [chainOf_length] at hi; exact hi)) (List.getElem_mem _)
  exact ⟨by simp [chainEnt, chainP], by simp [chainEnt], by simp [chainEnt, chainP], hf.lv, hf.mn, hf.mx, hf.po, hf.ln⟩
theorem chainOf_good {N : List Num} (hl : N.length ≤ 1024) : goodTo (chainOf N) (chainOf N).length := by
  refine chain_good (by rw [chainOf_length]; exact hl) (fun i hi => ?_)
  rw [chainOf_get]
  exact ⟨rfl, rfl, rfl⟩

/-- the octets of i. -/
theorem shr8_fin : ∀ n : Fin 1024, bits BinOp.and IntKind.i64 ((n.val : Nat) : Int) 255 % 256 = ((n.val % 256 : Nat) : Int) := by decide +kernel
theorem and255 (n : Nat) (h : n < 1024) : bits BinOp.and IntKind.i64 (n : Int) 255 % 256 = ((n % 256 : Nat) : Int) := shr8_fin ⟨n, h⟩

theorem Ybaf.info26 : (Ybaf.prog.info? 26).map (fun i => (i.zero, i.size, i.bytes)) = some (some (.agg #[.slice none 0 0, .int .u64 0, .slice none 0 0, .int .u64 0, .int .u64 0, .int .u64 0, .int .u64 0, .int .u64 0]), 8, 96) := by kernel_rfl

/-- what the block S of entries holds after k rounds: 'f' by the cell's number. -/
def Laid (wr : World) (S : Nat) (N : List Num) (k : Nat) (f : Nat → Value) : Prop :=
  ∀ j (_ : j < k) (h : j < N.length), ∃ pb, S < pb ∧ f (j * 8) = .slice (some ⟨pb, 0, none⟩) 2 2 ∧ f (j * 8 + 1) = .int .u64 0 ∧ f (j * 8 + 2) = .slice (some ⟨pb, 0, none⟩) 2 2 ∧ f (j * 8 + 3) = .int .u64 N[j].lv ∧
    f (j * 8 + 4) = .int .u64 N[j].mn ∧ f (j * 8 + 5) = .int .u64 N[j].mx ∧ f (j * 8 + 6) = .int .u64 N[j].po ∧ f (j * 8 + 7) = .int .u64 N[j].ln ∧ BA wr (some ⟨pb, 0, none⟩) (chainP j)

theorem laid_ents {w : World} {S : Nat} {N : List Num} {f : Nat → Value} (hr : w.rowIs S 26 (N.length * 8) f) (h : Laid w S N N.length f) : EntsIn w S 0 (chainOf N) := by
  intro i hi
  rw [chainOf_get]
  rw [chainOf_length] at hi
  obtain ⟨pb, _, f0, f1, f2, f3, f4, f5, f6, f7, hb⟩ := h i hi hi
  have hc : ∀ t, t < 8 → w.cell? ⟨S, 0 + i * 8 + t, none⟩ = some (f (i * 8 + t)) := fun t ht => by rw [Nat.zero_add]; exact hr.cell (by omega)
  refine ⟨some ⟨pb, 0, none⟩, 2, some ⟨pb, 0, none⟩, 2, ?_, ?_, ?_, ?_, ?_, ?_, ?_, ?_, fun e => by simp at e, fun e => by simp at e, hb, hb⟩
  · exact (hc 0 (by omega)).trans (congrArg some f0)
  · exact (hc 1 (by omega)).trans (congrArg some f1)
  · exact (hc 2 (by omega)).trans (congrArg some f2)
  · exact (hc 3 (by omega)).trans (congrArg some f3)
  · exact (hc 4 (by omega)).trans (congrArg some f4)
  · exact (hc 5 (by omega)).trans (congrArg some f5)
  · exact (hc 6 (by omega)).trans (congrArg some f6)
  · exact (hc 7 (by omega)).trans (congrArg some f7)

/-- 'make([]ZzS0720CEntry, n)'. -/
theorem make_es (n : Nat) (hn : n ≤ 1024) (wx : World) : (Instr.makeSlice 22 (.int .i64 (n : Int)) (.int .i64 (n : Int))).run Ybaf.prog wx = .ok (.slice (some ⟨wx.heap.size, 0, none⟩) n n) (wx.alloc (.cells (madeCells #[.slice none 0 0, .int .u64 0, .slice none 0 0, .int .u64 0, .int .u64 0, .int .u64 0, .int .u64 0, .int .u64 0] (n * 8)) 26)) := by
  obtain ⟨i0, hi, hz0, hz1, hz2⟩ := info_parts Ybaf.info26
  have h := run_make (P := Ybaf.prog) wx 22 26 i0 _ Ybaf.underlying22 hi hz0 .i64 .i64 (n : Int) (n : Int) (by omega) (Int.le_refl _) (by rw [hz2]; omega) (by omega)
  rw [hz1] at h
  simpa [Value.cells] using h
theorem made_row (w : World) (n : Nat) (z : Array Value) (t : TypeId) : (w.alloc (.cells (madeCells z n) t)).rowIs w.heap.size t n (fun i => z[i % z.size]!) :=
  ⟨madeCells z n, heap_alloc_new _ _, size_madeCells _ _, fun i hi => by simp [madeCells, hi]⟩

theorem BA.grown {w w' : World} {S pb : Nat} {l : List UInt8} (h : BA w (some ⟨pb, 0, none⟩) l) (hg : w.grownBy w' (some S)) (hp : S ≠ pb) : BA w' (some ⟨pb, 0, none⟩) l := fun hl => by
  obtain ⟨b, o, e, hc⟩ := h hl
  simp only [Option.some.injEq, Addr.mk.injEq, and_true] at e
  obtain ⟨rfl, rfl⟩ := e
  refine ⟨pb, 0, rfl, fun j hj => ?_⟩
  exact hg.cell (hc j hj) (fun e => hp (by simpa using e.symm))
theorem grownBy_drew (w : World) (r : Option Nat) : w.grownBy w.drew r := ⟨rfl, rfl, rfl, Nat.le_refl _, fun _ _ _ => rfl⟩

/-- the cells of an entry are written. -/
theorem chain_put {w W : World} {S pb k : Nat} {N : List Num} {f : Nat → Value} {E : Num} (hrow : W.rowIs S 26 (N.length * 8) f) (hlaid : Laid W S N k f) (_hk : k < N.length) (hE : N[k] = E) (hS : w.heap.size ≤ S) (hb : Below w.heap.size w W) (hp : S < pb) (hBA : BA W (some ⟨pb, 0, none⟩) (chainP k)) :
    ∃ f', ((((((((W.setCell ⟨S, k * 8, none⟩ (.slice (some ⟨pb, 0, none⟩) 2 2)).setCell ⟨S, k * 8 + 1, none⟩ (.int .u64 0)).setCell ⟨S, k * 8 + 2, none⟩ (.slice (some ⟨pb, 0, none⟩) 2 2)).setCell ⟨S, k * 8 + 3, none⟩ (.int .u64 E.lv)).setCell ⟨S, k * 8 + 4, none⟩ (.int .u64 E.mn)).setCell ⟨S, k * 8 + 5, none⟩ (.int .u64 E.mx)).setCell ⟨S, k * 8 + 6, none⟩ (.int .u64 E.po)).setCell ⟨S, k * 8 + 7, none⟩ (.int .u64 E.ln)).drew.rowIs S 26 (N.length * 8) f' ∧
      Laid ((((((((W.setCell ⟨S, k * 8, none⟩ (.slice (some ⟨pb, 0, none⟩) 2 2)).setCell ⟨S, k * 8 + 1, none⟩ (.int .u64 0)).setCell ⟨S, k * 8 + 2, none⟩ (.slice (some ⟨pb, 0, none⟩) 2 2)).setCell ⟨S, k * 8 + 3, none⟩ (.int .u64 E.lv)).setCell ⟨S, k * 8 + 4, none⟩ (.int .u64 E.mn)).setCell ⟨S, k * 8 + 5, none⟩ (.int .u64 E.mx)).setCell ⟨S, k * 8 + 6, none⟩ (.int .u64 E.po)).setCell ⟨S, k * 8 + 7, none⟩ (.int .u64 E.ln)).drew S N (k + 1) f' ∧
      Below w.heap.size w ((((((((W.setCell ⟨S, k * 8, none⟩ (.slice (some ⟨pb, 0, none⟩) 2 2)).setCell ⟨S, k * 8 + 1, none⟩ (.int .u64 0)).setCell ⟨S, k * 8 + 2, none⟩ (.slice (some ⟨pb, 0, none⟩) 2 2)).setCell ⟨S, k * 8 + 3, none⟩ (.int .u64 E.lv)).setCell ⟨S, k * 8 + 4, none⟩ (.int .u64 E.mn)).setCell ⟨S, k * 8 + 5, none⟩ (.int .u64 E.mx)).setCell ⟨S, k * 8 + 6, none⟩ (.int .u64 E.po)).setCell ⟨S, k * 8 + 7, none⟩ (.int .u64 E.ln)).drew := by
  have hg : W.grownBy ((((((((W.setCell ⟨S, k * 8, none⟩ (.slice (some ⟨pb, 0, none⟩) 2 2)).setCell ⟨S, k * 8 + 1, none⟩ (.int .u64 0)).setCell ⟨S, k * 8 + 2, none⟩ (.slice (some ⟨pb, 0, none⟩) 2 2)).setCell ⟨S, k * 8 + 3, none⟩ (.int .u64 E.lv)).setCell ⟨S, k * 8 + 4, none⟩ (.int .u64 E.mn)).setCell ⟨S, k * 8 + 5, none⟩ (.int .u64 E.mx)).setCell ⟨S, k * 8 + 6, none⟩ (.int .u64 E.po)).setCell ⟨S, k * 8 + 7, none⟩ (.int .u64 E.ln)).drew (some S) :=
    grownBy_trans (grownBy_set _ _ _ _) (grownBy_trans (grownBy_set _ _ _ _) (grownBy_trans (grownBy_set _ _ _ _) (grownBy_trans (grownBy_set _ _ _ _) (grownBy_trans (grownBy_set _ _ _ _) (grownBy_trans (grownBy_set _ _ _ _) (grownBy_trans (grownBy_set _ _ _ _) (grownBy_trans (grownBy_set _ _ _ _) (grownBy_drew _ _))))))))
  have hr := (((((((hrow.set (k * 8) (.slice (some ⟨pb, 0, none⟩) 2 2)).set (k * 8 + 1) (.int .u64 0)).set (k * 8 + 2) (.slice (some ⟨pb, 0, none⟩) 2 2)).set (k * 8 + 3) (.int .u64 E.lv)).set (k * 8 + 4) (.int .u64 E.mn)).set (k * 8 + 5) (.int .u64 E.mx)).set (k * 8 + 6) (.int .u64 E.po)).set (k * 8 + 7) (.int .u64 E.ln)
  refine ⟨_, hr.drew, ?_, below_grown hb hg hS hb.size⟩
  intro j hj hN
  by_cases e : j = k
  · subst e
    refine ⟨pb, hp, ?_, ?_, ?_, ?_, ?_, ?_, ?_, ?_, hBA.grown hg (by omega)⟩ <;> simp [hE]
  · obtain ⟨pb', hp', f0, f1, f2, f3, f4, f5, f6, f7, hb'⟩ := hlaid j (by omega) hN
    have hn : ∀ t u, t < 8 → u < 8 → ¬ (j * 8 + t = k * 8 + u) := fun t u ht hu he => by omega
    have h0 : ∀ t, t < 8 → ¬ (j * 8 + t = k * 8) := fun t ht he => by omega
    have h1 : ∀ u, u < 8 → ¬ (j * 8 = k * 8 + u) := fun u hu he => by omega
    have h2 : ¬ (j * 8 = k * 8) := by omega
    refine ⟨pb', hp', ?_, ?_, ?_, ?_, ?_, ?_, ?_, ?_, hb'.grown hg (by omega)⟩
    · simp only [h2, h1 1 (by omega), h1 2 (by omega), h1 3 (by omega), h1 4 (by omega), h1 5 (by omega), h1 6 (by omega), h1 7 (by omega), if_false]; exact f0
    · simp only [h0 1 (by omega), hn 1 1 (by omega) (by omega), hn 1 2 (by omega) (by omega), hn 1 3 (by omega) (by omega), hn 1 4 (by omega) (by omega), hn 1 5 (by omega) (by omega), hn 1 6 (by omega) (by omega), hn 1 7 (by omega) (by omega), if_false]; exact f1
    · simp only [h0 2 (by omega), hn 2 1 (by omega) (by omega), hn 2 2 (by omega) (by omega), hn 2 3 (by omega) (by omega), hn 2 4 (by omega) (by omega), hn 2 5 (by omega) (by omega), hn 2 6 (by omega) (by omega), hn 2 7 (by omega) (by omega), if_false]; exact f2
    · simp only [h0 3 (by omega), hn 3 1 (by omega) (by omega), hn 3 2 (by omega) (by omega), hn 3 3 (by omega) (by omega), hn 3 4 (by omega) (by omega), hn 3 5 (by omega) (by omega), hn 3 6 (by omega) (by omega), hn 3 7 (by omega) (by omega), if_false]; exact f3
    · simp only [h0 4 (by omega), hn 4 1 (by omega) (by omega), hn 4 2 (by omega) (by omega), hn 4 3 (by omega) (by omega), hn 4 4 (by omega) (by omega), hn 4 5 (by omega) (by omega), hn 4 6 (by omega) (by omega), hn 4 7 (by omega) (by omega), if_false]; exact f4
    · simp only [h0 5 (by omega), hn 5 1 (by omega) (by omega), hn 5 2 (by omega) (by omega), hn 5 3 (by omega) (by omega), hn 5 4 (by omega) (by omega), hn 5 5 (by omega) (by omega), hn 5 6 (by omega) (by omega), hn 5 7 (by omega) (by omega), if_false]; exact f5
    · simp only [h0 6 (by omega), hn 6 1 (by omega) (by omega), hn 6 2 (by omega) (by omega), hn 6 3 (by omega) (by omega), hn 6 4 (by omega) (by omega), hn 6 5 (by omega) (by omega), hn 6 6 (by omega) (by omega), hn 6 7 (by omega) (by omega), if_false]; exact f6
    · simp only [h0 7 (by omega), hn 7 1 (by omega) (by omega), hn 7 2 (by omega) (by omega), hn 7 3 (by omega) (by omega), hn 7 4 (by omega) (by omega), hn 7 5 (by omega) (by omega), hn 7 6 (by omega) (by omega), hn 7 7 (by omega) (by omega), if_false]; exact f7

/-- the two octets of i, in a block of their own. -/
theorem chain_octets (w : World) (k : Nat) (hk : k < 1024) : BA (w.alloc (.cells #[.int .u8 ((k : Int) / 256), .int .u8 (bits BinOp.and IntKind.i64 (k : Int) 255 % 256)] 5)) (some ⟨w.heap.size, 0, none⟩) (chainP k) := by
  intro _
  refine ⟨w.heap.size, 0, rfl, fun j hj => ?_⟩
  have h1 := toNat_small (k / 256) (by omega)
  have h2 := toNat_small (k % 256) (by omega)
  have hj2 : j = 0 ∨ j = 1 := by simp [chainP] at hj; omega
  rcases hj2 with rfl | rfl
  · simp [chainP, h1]
  · simp only [Nat.zero_add, chainP, List.getElem_cons_succ, List.getElem_cons_zero, h2, and255 k hk]
    simp
theorem laid_below {w w' : World} {S k : Nat} {N : List Num} {f : Nat → Value} (h : Laid w S N k f) (hb : Below w.heap.size w w') : Laid w' S N k f := fun j hj hN => by
  obtain ⟨pb, hp, f0, f1, f2, f3, f4, f5, f6, f7, hb'⟩ := h j hj hN
  exact ⟨pb, hp, f0, f1, f2, f3, f4, f5, f6, f7, hb'.later hb⟩

set_option maxHeartbeats 1600000 in
theorem chain_in (a : Option Addr) (b off cap : Nat) (N : List Num) (w : World) (hl : N.length ≤ 1024) (ha : 0 < N.length → a = some ⟨b, off, none⟩) (HE : Hid (NumsIn w b off N)) (HF : Hid (∀ e ∈ N, e.Fits)) :
    Calls Ybaf.prog 4 #[.slice a N.length cap] w fun e w' => e = .returned (.bool true) ∧ Below w.heap.size w w' := by
  have hd1 : decide ((1024 : Int) < (N.length : Int)) = false := decide_eq_false (by omega)
  have hmk := fun wx => make_es N.length hl wx
  go_enter Ybaf.func4, Ybaf.ntmps4
  go_wp2
  go_loopw [4, 5] (fun i p wr => ∃ (k : Nat) (f : Nat → Value), k ≤ N.length ∧ i = .int .i64 k ∧ wr.rowIs w.heap.size 26 (N.length * 8) f ∧ Laid wr w.heap.size N k f ∧ Below w.heap.size w wr) (fun i _ _ => N.length - (intOf i).toNat)
  case atStart => exact ⟨0, _, Nat.zero_le _, rfl, made_row w _ _ _, fun j hj => absurd hj (by omega), (Below.refl _ _).alloc (Nat.le_refl _) _⟩
  case round =>
    obtain ⟨k, f, hk, rfl, hrow, hlaid, hb⟩ := hrel
    by_cases hlt : k < N.length
    · obtain rfl := ha (by omega)
      obtain ⟨c0, c1, c2, c3, c4⟩ := (HE.out k hlt).later hb
      obtain ⟨E, hE⟩ : ∃ E, N[k] = E := ⟨_, rfl⟩
      rw [hE] at c0 c1 c2 c3 c4
      have HK : Hid (N[k] = E) := hE
      clear hE
      have hbr : b < wr.heap.size := World.block_lt_of_cell? _ _ c0
      have hSr : w.heap.size < wr.heap.size := hrow.lt
      go_wp2
      obtain ⟨W, hW⟩ : ∃ W, W = wr.alloc (.cells #[.int .u8 ((k : Int) / 256), .int .u8 (bits BinOp.and IntKind.i64 (k : Int) 255 % 256)] 5) := ⟨_, rfl⟩
      rw [← hW]
      have hbW : Below wr.heap.size wr W := by rw [hW]; exact (Below.refl _ _).alloc (Nat.le_refl _) _
      have HW : Hid (W = wr.alloc (.cells #[.int .u8 ((k : Int) / 256), .int .u8 (bits BinOp.and IntKind.i64 (k : Int) 255 % 256)] 5)) := hW
      clear hW
      replace c0 := cell_later hbW c0
      replace c1 := cell_later hbW c1
      replace c2 := cell_later hbW c2
      replace c3 := cell_later hbW c3
      replace c4 := cell_later hbW c4
      replace hrow := hrow.of_block (hbW.block _ hSr)
      have hs0 := hrow.cell (i := k * 8) (by omega)
      have hs1 := hrow.cell (i := k * 8 + 1) (by omega)
      have hs2 := hrow.cell (i := k * 8 + 2) (by omega)
      have hs3 := hrow.cell (i := k * 8 + 3) (by omega)
      have hs4 := hrow.cell (i := k * 8 + 4) (by omega)
      have hs5 := hrow.cell (i := k * 8 + 5) (by omega)
      have hs6 := hrow.cell (i := k * 8 + 6) (by omega)
      have hs7 := hrow.cell (i := k * 8 + 7) (by omega)
      have hf0 := hrow.frozen (k * 8)
      have hf1 := hrow.frozen (k * 8 + 1)
      have hf2 := hrow.frozen (k * 8 + 2)
      have hf3 := hrow.frozen (k * 8 + 3)
      have hf4 := hrow.frozen (k * 8 + 4)
      have hf5 := hrow.frozen (k * 8 + 5)
      have hf6 := hrow.frozen (k * 8 + 6)
      have hf7 := hrow.frozen (k * 8 + 7)
      have hki : (k : Int) < (N.length : Int) := by omega
      have hBA : BA W (some ⟨wr.heap.size, 0, none⟩) (chainP k) := by rw [HW.out]; exact chain_octets wr k (by omega)
      have HR := chain_put (w := w) hrow (laid_below hlaid hbW) hlt HK.out (Nat.le_refl _) (hb.trans (hbW.mono hb.size)) hSr hBA
      have HRR : Hid _ := HR
      clear HR hBA hlaid
      go_region
      go_wp2
      go_roundw
      case rel =>
        obtain ⟨f', r1, r2, r3⟩ := HRR.out
        exact ⟨k + 1, f', by omega, by go_num, r1, r2, r3⟩
      case measure => simp [intOf]; omega
    · have hd : decide ((k : Int) < (N.length : Int)) = false := decide_eq_false (by omega)
      obtain rfl : k = N.length := by omega
      have hents := laid_ents hrow hlaid
      have HA : Hid (ArgE wr (some ⟨w.heap.size, 0, none⟩) (chainOf N)) := fun _ => ⟨_, _, rfl, hents⟩
      have HFF : Hid (∀ e ∈ chainOf N, e.Fits 1024) := chainOf_fits HF.out
      have HLn : Hid ((chainOf N).length = N.length) := chainOf_length N
      clear hents hrow hlaid HE HF
      go_wp2_with fail
      have HC := encode_any (some ⟨w.heap.size, 0, none⟩) N.length (chainOf N) wr (by rw [HLn.out]; omega) HA.out HFF.out
      rw [HLn.out] at HC
      refine HC.mono ?_
      clear HC
      rintro e w1 ⟨v1, rfl, hown1, hb1⟩
      have HO : Hid (w1.ownsRow wr.heap.size 5 1 v1 (encAll (chainOf N)).length (Lib.byteCells (encAll (chainOf N)))) := hown1
      clear hown1
      go_wp2_with fail
      refine Calls.mono (decode_own (by rw [HLn.out]; omega) HFF.out HO.out) ?_
      rintro e w2 ⟨hres, hb2⟩
      have hBd : Below w.heap.size w w2 := hb.trans ((hb1.trans (hb2.mono hb1.size)).mono hb.size)
      have hBr : Below wr.heap.size wr w2 := hb1.trans (hb2.mono hb1.size)
      rcases hres with ⟨hgood, ia, icap, rfl, hA2⟩ | ⟨hbad, t, y, rfl⟩
      · have HS := same_any ia (some ⟨w.heap.size, 0, none⟩) icap N.length (chainOf N) w2 (by rw [HLn.out]; omega) hA2 (HA.out.later hBr)
        rw [HLn.out] at HS ⊢
        have HSS : Hid (Calls Ybaf.prog 9 #[.slice ia N.length icap, .slice (some ⟨w.heap.size, 0, none⟩) N.length N.length] w2 fun e w' => e = .returned (.bool true) ∧ Below w2.heap.size w2 w') := HS
        clear HS hA2 hgood HO
        go_wp2_with fail
        refine Calls.mono HSS.out ?_
        rintro e w3 ⟨rfl, hb3⟩
        go_wp2
        go_ret
        exact ⟨rfl, hBd.trans (hb3.mono hBd.size)⟩
      · exact absurd (chainOf_good hl) hbad
end Go.Proofs.YbulknwsFmt
