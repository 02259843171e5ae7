/-
  WHAT LIES IN MEMORY: octets behind a slice's address, entries of eight cells, what a call that appends to its own row leaves as it was.
-/
import Derived.Test.YbulknwsFmtRows
import Derived.Test.YbulknwsFmtPlain
import Derived.WalkKit
import Derived.WalkSpells
import Derived.WalkLawsBesides
import Derived.Lib.UnsafeStr
import Derived.Lib.VarintMem
namespace Go.Proofs.YbulknwsFmt
open Go.RowKit

theorem Ybaf.info5 : (Ybaf.prog.info? 5).map (fun i => (i.zero, i.size, i.bytes)) = some (some (.int .u8 0), 1, 1) := by kernel_rfl

/-- The octets l lie at the address a (of no octet nothing is said). -/
def BA (w : World) (a : Option Addr) (l : List UInt8) : Prop :=
  l ≠ [] → ∃ b o, a = some ⟨b, o, none⟩ ∧ ∀ j (hj : j < l.length), w.cell? ⟨b, o + j, none⟩ = some (.int .u8 (l[j]).toNat)
theorem BA.later {w wx : World} {a : Option Addr} {l : List UInt8} (h : BA w a l) (hb : Below w.heap.size w wx) : BA wx a l := fun hl => by
  obtain ⟨b, o, e, hc⟩ := h hl
  exact ⟨b, o, e, fun j hj => cell_later hb (hc j hj)⟩
theorem BA.nil (w : World) (a : Option Addr) : BA w a [] := fun h => absurd rfl h

/-- An entry's eight cells from ⟨b, o⟩ on. -/
def EntIn (w : World) (b o : Nat) (e : Ent) : Prop :=
  ∃ fa fc la lc, w.cell? ⟨b, o, none⟩ = some (.slice fa e.fb.length fc) ∧ w.cell? ⟨b, o + 1, none⟩ = some (.int .u64 e.fv) ∧
    w.cell? ⟨b, o + 2, none⟩ = some (.slice la e.lb.length lc) ∧ w.cell? ⟨b, o + 3, none⟩ = some (.int .u64 e.lv) ∧
    w.cell? ⟨b, o + 4, none⟩ = some (.int .u64 e.mn) ∧ w.cell? ⟨b, o + 5, none⟩ = some (.int .u64 e.mx) ∧
    w.cell? ⟨b, o + 6, none⟩ = some (.int .u64 e.po) ∧ w.cell? ⟨b, o + 7, none⟩ = some (.int .u64 e.ln) ∧ (fa = none → fc = 0) ∧ (la = none → lc = 0) ∧ BA w fa e.fb ∧ BA w la e.lb
theorem EntIn.later {w wx : World} {b o : Nat} {e : Ent} (h : EntIn w b o e) (hb : Below w.heap.size w wx) : EntIn wx b o e := by
  obtain ⟨fa, fc, la, lc, h0, h1, h2, h3, h4, h5, h6, h7, n1, n2, h8, h9⟩ := h
  exact ⟨fa, fc, la, lc, cell_later hb h0, cell_later hb h1, cell_later hb h2, cell_later hb h3, cell_later hb h4, cell_later hb h5, cell_later hb h6, cell_later hb h7, n1, n2, h8.later hb, h9.later hb⟩
/-- The entries L lie one behind the other from ⟨b, o⟩ on. -/
def EntsIn (w : World) (b o : Nat) (L : List Ent) : Prop := ∀ i (h : i < L.length), EntIn w b (o + i * 8) L[i]
theorem EntsIn.later {w wx : World} {b o : Nat} {L : List Ent} (h : EntsIn w b o L) (hb : Below w.heap.size w wx) : EntsIn wx b o L := fun i hi => (h i hi).later hb

/-- What a call that appends to its own row of octets (blocks from B on) leaves: all below B; and every block whose elements are no octets. -/
structure Fr (B : Nat) (w w' : World) : Prop where
  below : Below B w w'
  other : ∀ (k : Nat) (c : Array Value) (t : TypeId) (fr : Nat × Nat), w.heap[k]? = some (.cells c t fr) → t ≠ 5 → w'.heap[k]? = some (.cells c t fr)
theorem Fr.refl (B : Nat) (w : World) : Fr B w w := ⟨Below.refl _ _, fun _ _ _ _ h _ => h⟩
theorem Fr.trans {B : Nat} {a b c : World} (h : Fr B a b) (k : Fr B b c) : Fr B a c := ⟨h.below.trans k.below, fun i x t fr hi ht => k.other i x t fr (h.other i x t fr hi ht) ht⟩
theorem Fr.alloc {B : Nat} {a w : World} (h : Fr B a w) (hB : B ≤ w.heap.size) (o : Obj) : Fr B a (w.alloc o) :=
  h.trans ⟨(Below.refl _ _).alloc hB o, fun k c t fr hk _ => by
    rw [Below.heap_alloc _ _ _ (Array.getElem?_eq_some_iff.1 hk).1]; exact hk⟩
/-- An owned row's block holds octets. -/
theorem own_five {w : World} {B n : Nat} {v : Value} {xs : List Value} (h : w.ownsRow B 5 1 v n xs) {k : Nat} (hk : v.ownBlock = some k) : ∃ c, w.heap[k]? = some (.cells c 5 (0, 0)) := by
  obtain ⟨_, h2⟩ := h
  rcases h2 with ⟨rfl, _⟩ | ⟨g, cap, cur, rfl, _, hh, _⟩
  · simp [Value.ownBlock] at hk
  · simp [Value.ownBlock] at hk
    subst hk
    exact ⟨cur, hh⟩
theorem Fr.grown {B n : Nat} {a w w' : World} {v : Value} {xs : List Value} (h : Fr B a w) (hown : w.ownsRow B 5 1 v n xs) (hg : w.grownBy w' v.ownBlock) (hB : B ≤ w.heap.size) : Fr B a w' :=
  h.trans ⟨(Below.refl _ _).grown hg hB (fun k hk => (hown.lt k hk).1), fun k c t fr hk ht => by
    rw [hg.block k (Array.getElem?_eq_some_iff.1 hk).1 (fun e => by
      obtain ⟨c', hc'⟩ := own_five hown e.symm
      rw [hc'] at hk
      simp at hk
      exact ht hk.2.1.symm)]
    exact hk⟩

theorem one_news (w : World) (x : Value) (t : TypeId) : ∀ j u, [x][j]? = some u → (w.alloc (.cells #[x] t)).cell? ((⟨w.heap.size, 0, none⟩ : Addr).add j) = some u := by
  intro j u hj
  match j, hj with
  | 0, hj => simp at hj; subst hj; simp [Addr.add]
theorem one_cell (k : IntKind) (x : Int) : ∀ u ∈ [Value.int k x], u.oneCell' = true := by
  intro u hu; simp at hu; subst hu; rfl
theorem bytes_cell (l : List UInt8) : ∀ u ∈ Lib.byteCells l, u.oneCell' = true := by
  intro u hu
  obtain ⟨b, _, rfl⟩ := List.mem_map.1 hu
  rfl
/-- the octets behind an address, as an append asks for them. -/
theorem BA.news {w : World} {ad : Addr} {l : List UInt8} (h : BA w (some ad) l) : ∀ j u, (Lib.byteCells l)[j]? = some u → w.cell? (ad.add j) = some u := by
  intro j u hj
  simp only [Lib.byteCells, List.getElem?_map, Option.map_eq_some_iff] at hj
  obtain ⟨x, hx, rfl⟩ := hj
  obtain ⟨hlt, hx'⟩ := List.getElem?_eq_some_iff.1 hx
  obtain ⟨b, o, e, hc⟩ := h (fun e => by simp [e] at hlt)
  simp only [Option.some.injEq] at e
  subst e
  have := hc j hlt
  rw [hx'] at this
  have ea : (⟨b, o, none⟩ : Addr).add j = ⟨b, o + j, none⟩ := by unfold Addr.add; split <;> simp_all
  rw [ea]
  exact this
theorem BA.none_nil {w : World} {l : List UInt8} (h : BA w none l) : l = [] := Classical.byContradiction fun hl => by
  obtain ⟨b, o, e, _⟩ := h hl
  cases e
end Go.Proofs.YbulknwsFmt
