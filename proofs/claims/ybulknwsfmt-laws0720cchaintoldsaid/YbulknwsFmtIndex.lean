/-
  'decodeIndex' (8) on what the encoder wrote.
-/
import Derived.Test.YbulknwsFmtDec
import Derived.Test.YbulknwsFmtCmp
import Derived.Test.YbulknwsFmtEncode
import Derived.Deep.LoopGhost
import Derived.Deep.RegionWith
import Derived.Deep.CutRange
import Derived.BigQuiet
namespace Go.Proofs.YbulknwsFmt
open Go.RowKit

theorem Ybaf.info46 : (Ybaf.prog.info? 46).map (fun i => (i.zero, i.size, i.bytes)) = some (some (.agg #[.slice none 0 0, .int .u64 0, .slice none 0 0, .int .u64 0, .int .u64 0, .int .u64 0, .int .u64 0, .int .u64 0]), 8, 96) := by kernel_rfl

/-- '(*decoder).fail' where there is no error yet. -/
theorem fail_any (D : Nat) (s : ByteArray) (x : Value) (w : World) (hd : DecIs w D x .nilIface) :
    Calls Ybaf.prog 16 #[.pointer (some ⟨D, 0, none⟩), .string s] w fun e w' => e = .returned (.tuple #[]) ∧ ∃ t y, DecIs w' D x (.iface t y) ∧ w.grownBy w' (some D) := by
  obtain ⟨d0, d1, f0, f1⟩ := hd.cells
  have hlt := hd.lt
  go_enter Ybaf.func16, Ybaf.ntmps16
  go_wp2
  go_end0
  exact ⟨rfl, _, _, (hd.set1 _).of_block (Below.heap_alloc _ _ _ (by simp [World.setCell]; omega)), grownBy_trans (grownBy_set _ _ _ _) (grownBy_alloc _ _ _)⟩

/-- The cells of an index entry. -/
def idxCells (g fo lo : Nat) (e : Ent) : List Value :=
  [.slice (some ⟨g, fo, none⟩) e.fb.length e.fb.length, .int .u64 e.fv, .slice (some ⟨g, lo, none⟩) e.lb.length e.lb.length, .int .u64 e.lv, .int .u64 e.mn, .int .u64 e.mx, .int .u64 e.po, .int .u64 e.ln]
/-- The cells xs hold the first k entries of L; their prefixes lie in w0's block g. -/
structure IdxOf (w0 : World) (g : Nat) (L : List Ent) (k : Nat) (xs : List Value) : Prop where
  len : xs.length = k * 8
  ent : ∀ i (_ : i < k) (h : i < L.length), ∃ fo lo, BA w0 (some ⟨g, fo, none⟩) L[i].fb ∧ BA w0 (some ⟨g, lo, none⟩) L[i].lb ∧ ∀ j, j < 8 → xs[i * 8 + j]? = (idxCells g fo lo L[i])[j]?
theorem idxOf_nil (w0 : World) (g : Nat) (L : List Ent) : IdxOf w0 g L 0 [] := ⟨rfl, fun i h => absurd h (by omega)⟩
theorem IdxOf.snoc {w0 : World} {g k : Nat} {L : List Ent} {xs : List Value} (h : IdxOf w0 g L k xs) (hk : k < L.length) {fo lo : Nat} (h1 : BA w0 (some ⟨g, fo, none⟩) L[k].fb) (h2 : BA w0 (some ⟨g, lo, none⟩) L[k].lb) :
    IdxOf w0 g L (k + 1) (xs ++ idxCells g fo lo L[k]) := by
  have hl := h.len
  refine ⟨by rw [List.length_append, hl]; simp [idxCells]; omega, fun i hi hL => ?_⟩
  by_cases e : i = k
  · subst e
    refine ⟨fo, lo, h1, h2, fun j hj => ?_⟩
    rw [List.getElem?_append_right (by omega)]
    congr 1
    omega
  · obtain ⟨fo', lo', q1, q2, q3⟩ := h.ent i (by omega) hL
    refine ⟨fo', lo', q1, q2, fun j hj => ?_⟩
    rw [List.getElem?_append_left (by omega)]
    exact q3 j hj
/-- From the owned row of the index to the entries in memory. -/
theorem IdxOf.ents {w0 w : World} {B g k gi cap : Nat} {L : List Ent} {xs : List Value} (h : IdxOf w0 g L k xs) (hk : k = L.length) (hb : Below w0.heap.size w0 w) (hown : w.ownsRow B 46 8 (.slice (some ⟨gi, 0, none⟩) k cap) k xs) : EntsIn w gi 0 L := by
  intro i hi
  obtain ⟨fo, lo, q1, q2, q3⟩ := h.ent i (by omega) hi
  have hc : ∀ j, j < 8 → w.cell? ⟨gi, 0 + i * 8 + j, none⟩ = (idxCells g fo lo L[i])[j]? := fun j hj => by
    rw [Nat.zero_add, hown.cellAt (i * 8 + j) (by omega)]
    exact q3 j hj
  exact ⟨some ⟨g, fo, none⟩, _, some ⟨g, lo, none⟩, _, hc 0 (by omega), hc 1 (by omega), hc 2 (by omega), hc 3 (by omega), hc 4 (by omega), hc 5 (by omega), hc 6 (by omega), hc 7 (by omega),
    fun e => by simp at e, fun e => by simp at e, q1.later hb, q2.later hb⟩

theorem frozen_of_eight {w : World} {T : Nat} {t : TypeId} {cs : Array Value} (h : w.heap[T]? = some (.cells cs t (0, 0))) : w.frozen? ⟨T, 6, none⟩ = false ∧ w.frozen? ⟨T, 7, none⟩ = false := by
  simp [World.frozen?, h]
theorem own_form {w : World} {B k : Nat} {v : Value} {xs : List Value} (h : w.ownsRow B 46 8 v k xs) : ∃ ia cap, v = .slice ia k cap ∧ (0 < k → ∃ gi, ia = some ⟨gi, 0, none⟩) := by
  rcases h.2 with ⟨rfl, rfl⟩ | ⟨gi, cap, cur, rfl, _⟩
  · exact ⟨none, 0, rfl, fun h => absurd h (by omega)⟩
  · exact ⟨_, cap, rfl, fun _ => ⟨gi, rfl⟩⟩
theorem own_kept {w w' : World} {B D k : Nat} {v : Value} {xs : List Value} (h : w.ownsRow B 46 8 v k xs) (hg : w.grownBy w' (some D)) (hD : D < B) : w'.ownsRow B 46 8 v k xs := by
  obtain ⟨h1, h2⟩ := h
  refine ⟨h1, ?_⟩
  rcases h2 with h2 | ⟨gi, cap, cur, hv, hB, hh, r⟩
  · exact Or.inl h2
  · refine Or.inr ⟨gi, cap, cur, hv, hB, ?_, r⟩
    rw [hg.block gi (Array.getElem?_eq_some_iff.1 hh).1 (fun e => by simp at e; omega)]
    exact hh
/-- the entry's block once its last two cells are written. -/
theorem ent_put {w0 w : World} {D g o c T : Nat} {l : List UInt8} {c0 c1 c2 c3 c4 c5 c6 c7 : Value} (h : DSt w0 w D g o c l) (hDT : D < T) (hT : w.heap[T]? = some (.cells #[c0, c1, c2, c3, c4, c5, c6, c7] 46 (0, 0))) (x y : Value) :
    DSt w0 ((w.setCell ⟨T, 6, none⟩ x).setCell ⟨T, 7, none⟩ y) D g o c l ∧ w.grownBy ((w.setCell ⟨T, 6, none⟩ x).setCell ⟨T, 7, none⟩ y) (some T) ∧
      ((w.setCell ⟨T, 6, none⟩ x).setCell ⟨T, 7, none⟩ y).heap[T]? = some (.cells #[c0, c1, c2, c3, c4, c5, x, y] 46 (0, 0)) := by
  have hg : w.grownBy ((w.setCell ⟨T, 6, none⟩ x).setCell ⟨T, 7, none⟩ y) (some T) := grownBy_trans (grownBy_set _ _ _ _) (grownBy_set _ _ _ _)
  have hlt := h.dec.lt
  have hold := h.old
  refine ⟨⟨h.dec.of_block (hg.block D hlt (fun e => by simp at e; omega)), h.cap, h.max, h.ba, (h.low.setCell (by simp; omega) _).setCell (by simp; omega) _, h.old⟩, hg, ?_⟩
  simp [World.setCell, Array.getElem?_modify, hT]
theorem idx_news (w : World) (g fo lo : Nat) (e : Ent) (t : TypeId) : ∀ j u, (idxCells g fo lo e)[j]? = some u →
    (w.alloc (.cells #[.slice (some ⟨g, fo, none⟩) e.fb.length e.fb.length, .int .u64 e.fv, .slice (some ⟨g, lo, none⟩) e.lb.length e.lb.length, .int .u64 e.lv, .int .u64 e.mn, .int .u64 e.mx, .int .u64 e.po, .int .u64 e.ln] t)).cell? ((⟨w.heap.size, 0, none⟩ : Addr).add j) = some u := by
  intro j u hj
  have ea : (⟨w.heap.size, 0, none⟩ : Addr).add j = ⟨w.heap.size, j, none⟩ := by unfold Addr.add; split <;> simp_all
  rw [ea]
  have hh := heap_alloc_new w (.cells (idxCells g fo lo e).toArray t)
  have : (w.alloc (.cells (idxCells g fo lo e).toArray t)).cell? ⟨w.heap.size, j, none⟩ = (idxCells g fo lo e)[j]? := by
    simp only [World.cell?, hh]
    simp
  exact this.trans hj
theorem idx_one (g fo lo : Nat) (e : Ent) : ∀ u ∈ idxCells g fo lo e, u.oneCell' = true := by
  intro u hu
  simp only [idxCells, List.mem_cons, List.not_mem_nil, or_false] at hu
  rcases hu with rfl | rfl | rfl | rfl | rfl | rfl | rfl | rfl <;> rfl
theorem DSt.below {w0 w w' : World} {D g o c : Nat} {l : List UInt8} (h : DSt w0 w D g o c l) (hb : Below w.heap.size w w') : DSt w0 w' D g o c l :=
  ⟨h.dec.of_block (hb.block _ h.dec.lt), h.cap, h.max, h.ba, h.low.trans (hb.mono h.low.size), h.old⟩
theorem own_below {w w' : World} {B k : Nat} {v : Value} {xs : List Value} (h : w.ownsRow B 46 8 v k xs) (hb : Below w.heap.size w w') : w'.ownsRow B 46 8 v k xs := by
  obtain ⟨h1, h2⟩ := h
  refine ⟨h1, ?_⟩
  rcases h2 with h2 | ⟨gi, cap, cur, hv, hB, hh, r⟩
  · exact Or.inl h2
  · refine Or.inr ⟨gi, cap, cur, hv, hB, ?_, r⟩
    rw [hb.block gi (Array.getElem?_eq_some_iff.1 hh).1]
    exact hh
theorem dst_grown {w0 w w' : World} {D g o c k : Nat} {l : List UInt8} {v : Value} {xs : List Value} {ob : Obj} (h : DSt w0 w D g o c l) (hown : w.ownsRow (D + 1) 46 8 v k xs) (hg : (w.alloc ob).grownBy w' v.ownBlock) : DSt w0 w' D g o c l := by
  have ha := h.alloc ob
  refine ⟨ha.dec.of_block (hg.block D ha.dec.lt (fun e => by have := (hown.lt D e.symm).1; omega)), h.cap, h.max, h.ba, ?_, h.old⟩
  exact ha.low.grown hg ha.low.size (fun j hj => by have := (hown.lt j hj).1; have := h.old; omega)
theorem dec_grown {w0 w w' : World} {D k : Nat} {v s e : Value} {xs : List Value} {ob : Obj} (hd : DecIs w D s e) (hb : Below w0.heap.size w0 w) (ho : w0.heap.size ≤ D) (hown : w.ownsRow (D + 1) 46 8 v k xs) (hg : (w.alloc ob).grownBy w' v.ownBlock) : DecIs w' D s e ∧ Below w0.heap.size w0 w' := by
  have ha := hd.of_block (w' := w.alloc ob) (Below.heap_alloc _ _ _ hd.lt)
  refine ⟨ha.of_block (hg.block D ha.lt (fun e => by have := (hown.lt D e.symm).1; omega)), ?_⟩
  exact (hb.alloc hb.size ob).grown hg (by have := hb.size; simp; omega) (fun j hj => by have := (hown.lt j hj).1; omega)
theorem good_bad {L : List Ent} {k : Nat} (hk : k < L.length) (h : badAt L k = true) : ¬ goodTo L L.length := fun hg => by rw [hg k hk] at h; cases h
theorem bad_in {L : List Ent} {k : Nat} {E : Ent} (hk : k < L.length) (hE : L[k] = E) (h : 0 < kcmp E.fb E.fv E.lb E.lv) : badAt L k = true := by
  subst hE
  cases k with
  | zero => rw [badAt_zero hk]; simp [Ent.badIn, h]
  | succ m => rw [badAt_succ hk]; simp [Ent.badIn, h]
theorem bad_first {L : List Ent} {E : Ent} (hk : 0 < L.length) (hE : L[0] = E) (h : ¬ 0 < kcmp E.fb E.fv E.lb E.lv) : badAt L 0 = false := by
  subst hE
  rw [badAt_zero hk]; simp only [Ent.badIn]; exact decide_eq_false h
theorem bad_next {L : List Ent} {m : Nat} {E : Ent} (hk : m + 1 < L.length) (hE : L[m + 1] = E) (h : ¬ 0 < kcmp E.fb E.fv E.lb E.lv) : badAt L (m + 1) = decide (0 < kcmp (L[m]'(by omega)).lb (L[m]'(by omega)).lv E.fb E.fv) := by
  subst hE
  rw [badAt_succ hk]; simp only [Ent.badIn, Ent.badBehind, decide_eq_false h, Bool.false_or]
theorem compareBytes_cases : ∀ p q : List UInt8, Lib.compareBytes p q = -1 ∨ Lib.compareBytes p q = 0 ∨ Lib.compareBytes p q = 1
  | [], [] => by simp [Lib.compareBytes]
  | [], _ :: _ => by simp [Lib.compareBytes]
  | _ :: _, [] => by simp [Lib.compareBytes]
  | a :: r, b :: t => by
    unfold Lib.compareBytes
    have := compareBytes_cases r t
    split
    · simp
    · split
      · simp
      · exact this
theorem kcmp_cases (p : List UInt8) (v : Nat) (q : List UInt8) (u : Nat) : kcmp p v q u = -1 ∨ kcmp p v q u = 0 ∨ kcmp p v q u = 1 := by
  unfold kcmp
  have := compareBytes_cases p q
  split
  · exact this
  · split
    · simp
    · split
      · simp
      · split
        · simp
        · split <;> simp
/-! ### a region that draws its order, walked once in a class of worlds (Derived/Deep/Quiet.lean's theorem, the class given) -/
theorem wp_region_class {P : Program} {id : Nat} {Q : Exit → Act → World → Prop} {a : Act} {w : World} {l : List Oper} (C : World → Prop) (hm : P.follows .mixedOrders = true) (hB : Region.lexB .any l.toArray = true) (hC : C w.drew)
    (h : wpQuiet P l.toArray C (fun a' => ∀ w', C w' → Q .normal a' w') l a) : (Code.region id l.toArray true).wp P Q a w :=
  wp_region_quiet (C := C) hm hB hC (by simpa using h)
theorem wpQuiet_val {P : Program} {ops : Array Oper} {C : World → Prop} {Q : Act → Prop} {a : Act} {o : Oper} {rest : List Oper} {v : Value} (hw : Region.wanted o (yielded ops a.tmps) = true) (hq : ∀ w, C w → o.quietAt P a C w v)
    (h : wpQuiet P ops C Q rest (a.put o.dst v)) : wpQuiet P ops C Q (o :: rest) a := by
  unfold wpQuiet
  rw [if_pos hw]
  exact ⟨v, hq, h⟩
theorem wrap_small (n : Nat) (h : n ≤ 1024) : IntKind.i64.wrap (n : Int) = (n : Int) := by
  simp [IntKind.wrap, IntKind.bits, IntKind.signed]
  split <;> omega
theorem encAll_drop {L : List Ent} {k : Nat} (h : k < L.length) : encAll (L.drop k) = keyEnc L[k].fb L[k].fv ++ (keyEnc L[k].lb L[k].lv ++ (Lib.uvarint L[k].mn ++ (Lib.uvarint L[k].mx ++ (Lib.uvarint L[k].po ++ (Lib.uvarint L[k].ln ++ encAll (L.drop (k + 1))))))) := by
  rw [List.drop_eq_getElem_cons h, encAll_cons]
  simp [Ent.enc]

/-- what decodeIndex answers. -/
def Decoded (w0 : World) (L : List Ent) (e : Ending) (w' : World) : Prop :=
  ((goodTo L L.length ∧ ∃ ia cap, e = .returned (.tuple #[.slice ia L.length cap, .nilIface]) ∧ ArgE w' ia L) ∨ (¬ goodTo L L.length ∧ ∃ t y, e = .returned (.tuple #[.slice none 0 0, .iface t y]))) ∧ Below w0.heap.size w0 w'
/-- what the loop holds: so many rounds at most are to come. -/
def Rel (w0 : World) (g : Nat) (L : List Ent) (m : Nat) (v : Value) (wr : World) : Prop :=
  (∃ k o c xs, m = L.length - k + 1 ∧ k ≤ L.length ∧ DSt w0 wr w0.heap.size g o c (encAll (L.drop k)) ∧ goodTo L k ∧ wr.ownsRow (w0.heap.size + 1) 46 8 v k xs ∧ IdxOf w0 g L k xs) ∨
  (m = 0 ∧ ¬ goodTo L L.length ∧ Below w0.heap.size w0 wr ∧ ∃ a n c t y, DecIs wr w0.heap.size (.slice a n c) (.iface t y))

set_option maxHeartbeats 1600000 in
theorem decode_in (g c : Nat) (L : List Ent) (w0 : World) (hl : L.length ≤ 1024) (HF : Hid (∀ e ∈ L, e.Fits 1024)) (hc : (encAll L).length ≤ c) (hc2 : c ≤ 9223372036854775807) (HB : Hid (BA w0 (some ⟨g, 0, none⟩) (encAll L))) :
    Calls Ybaf.prog 8 #[.slice (some ⟨g, 0, none⟩) (encAll L).length c] w0 (Decoded w0 L) := by
  go_enter Ybaf.func8, Ybaf.ntmps8
  go_wp2
  go_loopg [5] (L.length + 1) (fun m v wr => Rel w0 g L m v wr)
  case atStart => exact Or.inl ⟨0, 0, c, [], by omega, Nat.zero_le _, ⟨heap_alloc_new _ _, hc, hc2, HB.out, (Below.refl _ _).alloc (Nat.le_refl _) _, Nat.le_refl _⟩, goodTo_zero L, World.ownsRow_nil _ _ _ _, idxOf_nil _ _ _⟩
  case round =>
    rcases hrel with ⟨k, o, c, xs, hm, hk, hst, hgood, hown, hidx⟩ | ⟨hm, hbad, hlow, a, n, c, t, y, hd⟩
    · obtain ⟨ia, icap, hv, hia⟩ := own_form hown
      subst hv
      by_cases hlt : k < L.length
      · rw [encAll_drop hlt] at hst
        have hfit := HF.out _ (List.getElem_mem hlt)
        obtain ⟨E, hE⟩ : ∃ E, L[k] = E := ⟨_, rfl⟩
        rw [hE] at hst hfit
        have HK : Hid (L[k] = E) := hE
        clear hE
        obtain ⟨d0, d1, f0, f1⟩ := hst.dec.cells
        have hpos : 0 < (keyEnc E.fb E.fv ++ (keyEnc E.lb E.lv ++ (Lib.uvarint E.mn ++ (Lib.uvarint E.mx ++ (Lib.uvarint E.po ++ (Lib.uvarint E.ln ++ encAll (L.drop (k + 1)))))))).length := by
          have := Lib.uvarint_pos E.mn
          simp only [List.length_append]; omega
        generalize hN : (keyEnc E.fb E.fv ++ (keyEnc E.lb E.lv ++ (Lib.uvarint E.mn ++ (Lib.uvarint E.mx ++ (Lib.uvarint E.po ++ (Lib.uvarint E.ln ++ encAll (L.drop (k + 1)))))))).length = N at d0 hpos
        clear hN
        go_wp2_with fail
        refine (key_dec hfit.fb hfit.fv hst).mono ?_
        rintro e w1 ⟨fo, o1, c1, rfl, bf, s1, g1⟩
        clear d0 d1 f0 f1
        go_wp2_with fail
        refine (key_dec hfit.lb hfit.lv s1).mono ?_
        rintro e w2 ⟨lo, o2, c2, rfl, bl, s2, g2⟩
        go_wp2_with fail
        refine (uvarint_dec hfit.mn s2).mono ?_
        rintro e w3 ⟨o3, c3, rfl, s3, g3⟩
        go_wp2_with fail
        refine (uvarint_dec hfit.mx s3).mono ?_
        rintro e w4 ⟨o4, c4, rfl, s4, g4⟩
        go_wp2_with fail
        refine (uvarint_dec hfit.po (s4.alloc _)).mono ?_
        rintro e w5 ⟨o5, c5, rfl, s5, g5⟩
        go_wp2_with fail
        refine (uvarint_dec hfit.ln s5).mono ?_
        rintro e w6 ⟨o6, c6, rfl, s6, g6⟩
        have hDT : w0.heap.size ≠ w4.heap.size := by have := s4.dec.lt; omega
        have hT : w6.heap[w4.heap.size]? = some (.cells #[.slice (some ⟨g, fo, none⟩) E.fb.length E.fb.length, .int .u64 E.fv, .slice (some ⟨g, lo, none⟩) E.lb.length E.lb.length, .int .u64 E.lv, .int .u64 E.mn, .int .u64 E.mx, .int .u64 0, .int .u64 0] 46 (0, 0)) := by
          rw [(grownBy_trans g5 g6).block _ (by simp) (fun e => by simp at e; omega)]
          exact heap_alloc_new _ _
        have hZ := cells_of_eight hT
        obtain ⟨y6, y7⟩ := frozen_of_eight hT
        obtain ⟨x0, x1, x2, x3, x4, x5, x6, x7⟩ := hZ
        have hDT' : w0.heap.size < w4.heap.size := s4.dec.lt
        have hrT : wr.heap.size ≤ w4.heap.size := (grownBy_trans g1 (grownBy_trans g2 (grownBy_trans g3 g4))).size
        obtain ⟨sW, gW, hTW⟩ := ent_put s6 hDT' hT (.int .u64 E.po) (.int .u64 E.ln)
        have gA : wr.grownBy w6 (some w0.heap.size) := grownBy_trans g1 (grownBy_trans g2 (grownBy_trans g3 (grownBy_trans g4 (grownBy_trans (grownBy_alloc _ _ _) (grownBy_trans g5 g6)))))
        have gB := grownBy_new gA gW hrT
        clear s1 s2 s3 s4 s5 s6 g1 g2 g3 g4 g5 g6 gA gW hT
        go_wp2
        clear x0 x1 x2 x3 x4 x5 x6 x7 y6 y7
        generalize (w6.setCell ⟨w4.heap.size, 6, none⟩ (.int .u64 E.po)).setCell ⟨w4.heap.size, 7, none⟩ (.int .u64 E.ln) = W at sW hTW gB ⊢
        generalize w4.heap.size = T at *
        have hownW := own_kept hown gB (by omega)
        clear hown gB hst hDT
        go_cut [55] from 9 to 60 (fun t w => t = .bool (badAt L k) ∧ Below W.heap.size W w)
        case first =>
          obtain ⟨d0, d1, f0, f1⟩ := sW.dec.cells
          obtain ⟨x0, x1, x2, x3, x4, x5, x6, x7⟩ := cells_of_eight hTW
          have HF1 : Hid (∀ wx, Below W.heap.size W wx → BA wx (some ⟨g, fo, none⟩) E.fb) := fun wx hx => bf.later (sW.low.trans (hx.mono sW.low.size))
          have HL1 : Hid (∀ wx, Below W.heap.size W wx → BA wx (some ⟨g, lo, none⟩) E.lb) := fun wx hx => bl.later (sW.low.trans (hx.mono sW.low.size))
          obtain ⟨r1, hr1⟩ : ∃ r1, kcmp E.fb E.fv E.lb E.lv = r1 := ⟨_, rfl⟩
          have HC : Hid (∀ wx, Below W.heap.size W wx → Calls Ybaf.prog 7 #[.agg #[.slice (some ⟨g, fo, none⟩) E.fb.length E.fb.length, .int .u64 E.fv], .agg #[.slice (some ⟨g, lo, none⟩) E.lb.length E.lb.length, .int .u64 E.lv]] wx fun e w' => e = .returned (.int .i64 (kcmp E.fb E.fv E.lb E.lv)) ∧ Below W.heap.size W w') := fun wx hx =>
            (keyCompare_any (w := wx) E.fb.length E.lb.length E.fv E.lv (HF1.out wx hx) (HL1.out wx hx)).mono fun e w' h => ⟨h.1, hx.trans (h.2.mono hx.size)⟩
          rw [hr1] at HC
          by_cases h1 : 0 < r1
          · have HBK : Hid (badAt L k = true) := bad_in hlt HK.out (by rw [hr1]; exact h1)
            have HXX : Hid (∀ wx, Below W.heap.size W wx → wx.cell? ⟨w0.heap.size, 1, none⟩ = some .nilIface ∧ wx.cell? ⟨T, 0, none⟩ = some (.slice (some ⟨g, fo, none⟩) E.fb.length E.fb.length) ∧ wx.cell? ⟨T, 1, none⟩ = some (.int .u64 E.fv) ∧ wx.cell? ⟨T, 2, none⟩ = some (.slice (some ⟨g, lo, none⟩) E.lb.length E.lb.length) ∧ wx.cell? ⟨T, 3, none⟩ = some (.int .u64 E.lv)) :=
              fun wx hx => ⟨cell_later hx d1, cell_later hx x0, cell_later hx x1, cell_later hx x2, cell_later hx x3⟩
            clear hgood hownW hidx hia hfit hpos hrT hc hc2 HF HB HF1 HL1 bf bl hr1 d0 d1 f0 f1 x0 x1 x2 x3 x4 x5 x6 x7
            refine wp_region_class (fun w' => Below W.heap.size W w') (by kernel_rfl) (by kernel_rfl) ((Below.refl _ _).drew) ?_
            iterate 29 (first | go_big_quiet_skip | (go_big_quiet_want; refine ⟨?_, ?_, ?_⟩; rotate_left; (· intro wx hx; obtain ⟨z1, z2, z3, z4, z5⟩ := HXX.out wx hx; simp only [Oper.quietAt]; go_simp; first | with_reducible rfl | (go_at_call 7; exact HC.out wx hx)); simp only [Act.put, List.setIfInBounds_toArray, List.set_cons_zero, List.set_cons_succ]; go_big_quiet_on))
            refine wpQuiet_nil ?_
            intro wx hx
            go_wp2_with fail
            go_meet
            case rel => exact ⟨by rw [HBK.out], hx⟩
          · by_cases hk0 : k = 0
            · subst hk0
              have HBK : Hid (badAt L 0 = false) := bad_first hlt HK.out (by rw [hr1]; exact h1)
              have HXX : Hid (∀ wx, Below W.heap.size W wx → wx.cell? ⟨w0.heap.size, 1, none⟩ = some .nilIface ∧ wx.cell? ⟨T, 0, none⟩ = some (.slice (some ⟨g, fo, none⟩) E.fb.length E.fb.length) ∧ wx.cell? ⟨T, 1, none⟩ = some (.int .u64 E.fv) ∧ wx.cell? ⟨T, 2, none⟩ = some (.slice (some ⟨g, lo, none⟩) E.lb.length E.lb.length) ∧ wx.cell? ⟨T, 3, none⟩ = some (.int .u64 E.lv)) :=
                fun wx hx => ⟨cell_later hx d1, cell_later hx x0, cell_later hx x1, cell_later hx x2, cell_later hx x3⟩
              clear hgood hownW hidx hia hfit hpos hrT hc hc2 HF HB HF1 HL1 bf bl hr1 d0 d1 f0 f1 x0 x1 x2 x3 x4 x5 x6 x7
              refine wp_region_class (fun w' => Below W.heap.size W w') (by kernel_rfl) (by kernel_rfl) ((Below.refl _ _).drew) ?_
              iterate 29 (first | go_big_quiet_skip | (go_big_quiet_want; refine ⟨?_, ?_, ?_⟩; rotate_left; (· intro wx hx; obtain ⟨z1, z2, z3, z4, z5⟩ := HXX.out wx hx; simp only [Oper.quietAt]; go_simp; first | with_reducible rfl | (go_at_call 7; exact HC.out wx hx)); simp only [Act.put, List.setIfInBounds_toArray, List.set_cons_zero, List.set_cons_succ]; go_big_quiet_on))
              refine wpQuiet_nil ?_
              intro wx hx
              go_wp2_with fail
              go_meet
              case rel => exact ⟨by rw [HBK.out], hx⟩
            · obtain ⟨m, rfl⟩ : ∃ m, k = m + 1 := ⟨k - 1, by omega⟩
              obtain ⟨gi, rfl⟩ := hia (by omega)
              have hwm := wrap_small m (by omega)
              have hlm : (m : Int) < (m : Int) + 1 := by omega
              have hm' : m < L.length := by omega
              obtain ⟨fo', lo', q1, q2, q3⟩ := hidx.ent m (by omega) hm'
              have i2 : W.cell? ⟨gi, m * 8 + 2, none⟩ = some (.slice (some ⟨g, lo', none⟩) (L[m]'hm').lb.length (L[m]'hm').lb.length) := by rw [hownW.cellAt (m * 8 + 2) (by omega), q3 2 (by omega)]; rfl
              have i3 : W.cell? ⟨gi, m * 8 + 3, none⟩ = some (.int .u64 (L[m]'hm').lv) := by rw [hownW.cellAt (m * 8 + 3) (by omega), q3 3 (by omega)]; rfl
              have HBK : Hid (badAt L (m + 1) = decide (0 < kcmp (L[m]'hm').lb (L[m]'hm').lv E.fb E.fv)) := bad_next hlt HK.out (by rw [hr1]; exact h1)
              generalize L[m]'hm' = F at i2 i3 HBK q1 q2
              have HC2 : Hid (∀ wx, Below W.heap.size W wx → Calls Ybaf.prog 7 #[.agg #[.slice (some ⟨g, lo', none⟩) F.lb.length F.lb.length, .int .u64 F.lv], .agg #[.slice (some ⟨g, fo, none⟩) E.fb.length E.fb.length, .int .u64 E.fv]] wx fun e w' => e = .returned (.int .i64 (kcmp F.lb F.lv E.fb E.fv)) ∧ Below W.heap.size W w') := fun wx hx =>
                (keyCompare_any (w := wx) F.lb.length E.fb.length F.lv E.fv (q2.later (sW.low.trans (hx.mono sW.low.size))) (HF1.out wx hx)).mono fun e w' h => ⟨h.1, hx.trans (h.2.mono hx.size)⟩
              have HXX : Hid (∀ wx, Below W.heap.size W wx → wx.cell? ⟨w0.heap.size, 1, none⟩ = some .nilIface ∧ wx.cell? ⟨T, 0, none⟩ = some (.slice (some ⟨g, fo, none⟩) E.fb.length E.fb.length) ∧ wx.cell? ⟨T, 1, none⟩ = some (.int .u64 E.fv) ∧ wx.cell? ⟨T, 2, none⟩ = some (.slice (some ⟨g, lo, none⟩) E.lb.length E.lb.length) ∧ wx.cell? ⟨T, 3, none⟩ = some (.int .u64 E.lv) ∧ wx.cell? ⟨gi, m * 8 + 2, none⟩ = some (.slice (some ⟨g, lo', none⟩) F.lb.length F.lb.length) ∧ wx.cell? ⟨gi, m * 8 + 3, none⟩ = some (.int .u64 F.lv)) :=
                fun wx hx => ⟨cell_later hx d1, cell_later hx x0, cell_later hx x1, cell_later hx x2, cell_later hx x3, cell_later hx i2, cell_later hx i3⟩
              clear hgood hownW hidx hia hfit hpos hrT hc hc2 HF HB HF1 HL1 bf bl hr1 d0 d1 f0 f1 x0 x1 x2 x3 x4 x5 x6 x7 q1 q2 q3 i2 i3
              refine wp_region_class (fun w' => Below W.heap.size W w') (by kernel_rfl) (by kernel_rfl) ((Below.refl _ _).drew) ?_
              iterate 29 (first | go_big_quiet_skip | (go_big_quiet_want; refine ⟨?_, ?_, ?_⟩; rotate_left; (· intro wx hx; obtain ⟨z1, z2, z3, z4, z5, z6, z7⟩ := HXX.out wx hx; simp only [Oper.quietAt]; go_simp; first | with_reducible rfl | (go_at_call_of 7 (Value.int IntKind.u64 (E.lv : Int)); exact HC.out wx hx) | (go_at_call 7; exact HC2.out wx hx)); simp only [Act.put, List.setIfInBounds_toArray, List.set_cons_zero, List.set_cons_succ]; go_big_quiet_on))
              refine wpQuiet_nil ?_
              intro wx hx
              go_wp2_with fail
              go_meet
              case rel => exact ⟨by rw [HBK.out], hx⟩
        case rest =>
          obtain ⟨rfl, hbc⟩ := hcut
          have sC := sW.below hbc
          have hTC := (hbc.block T (Array.getElem?_eq_some_iff.1 hTW).1).trans hTW
          have hownC := own_below hownW hbc
          clear sW hTW hownW hbc hia
          obtain ⟨i0, hi, hz0, hz1, hz2⟩ := info_parts Ybaf.info46
          obtain ⟨x0, x1, x2, x3, x4, x5, x6, x7⟩ := cells_of_eight hTC
          cases hbk : badAt L k
          · have HB : Hid (badAt L k = false) := hbk
            clear hbk
            go_wp2_with (at_builtin; go_loud (refine wpList_append_own _ rfl _ _ 31 rfl (w0.heap.size + 1) 46 i0 _ 8 96 Ybaf.underlying31 hi hz0 hz1 hz2 rfl (by decide) _ k xs rfl (hownC.alloc _) ⟨wc.heap.size, 0, none⟩ 1 1 (idxCells g fo lo E) rfl rfl (idx_news _ _ _ _ _ _) (idx_one _ _ _ _) (by unfold maxLen; omega) (by omega) (by have := sC.low.size; simp; omega) ?_); intro v' w7 hown' hgrow _)
            have R := dst_grown sC hownC hgrow
            have I := hidx.snoc hlt (fo := fo) (lo := lo) (by rw [HK.out]; exact bf) (by rw [HK.out]; exact bl)
            rw [HK.out] at I
            go_roundg (L.length - (k + 1) + 1)
            case measure => omega
            case rel => exact Or.inl ⟨k + 1, o6, c6, _, rfl, by omega, R, goodTo_succ hgood HB.out, hown', I⟩
          · have HB : Hid (badAt L k = true) := hbk
            clear hbk
            go_wp2_with fail
            refine (fail_any _ _ _ _ sC.dec).mono ?_
            rintro e w7 ⟨rfl, t, y, hd7, g7⟩
            have hT7 := (g7.block T (Array.getElem?_eq_some_iff.1 hTC).1 (fun e => by simp at e; omega)).trans hTC
            have hown7 := own_kept hownC g7 (by omega)
            have hb7 := below_grown sC.low g7 sC.old sC.low.size
            clear x0 x1 x2 x3 x4 x5 x6 x7
            obtain ⟨x0, x1, x2, x3, x4, x5, x6, x7⟩ := cells_of_eight hT7
            go_wp2_with (at_builtin; go_loud (refine wpList_append_own _ rfl _ _ 31 rfl (w0.heap.size + 1) 46 i0 _ 8 96 Ybaf.underlying31 hi hz0 hz1 hz2 rfl (by decide) _ k xs rfl (hown7.alloc _) ⟨w7.heap.size, 0, none⟩ 1 1 (idxCells g fo lo E) rfl rfl (idx_news _ _ _ _ _ _) (idx_one _ _ _ _) (by unfold maxLen; omega) (by omega) (by have := hb7.size; have := hd7.lt; simp; omega) ?_); intro v' w8 hown' hgrow _)
            have R := dec_grown hd7 hb7 (Nat.le_refl _) hown7 hgrow
            go_roundg 0
            case measure => omega
            case rel => exact Or.inr ⟨rfl, good_bad hlt HB.out, R.2, _, _, _, _, _, R.1⟩
      · obtain rfl : k = L.length := by omega
        rw [List.drop_length, encAll_nil] at hst
        obtain ⟨d0, d1, f0, f1⟩ := hst.dec.cells
        have hlow := hst.low
        have HA : Hid (ArgE wr ia L) := fun hL => by
          have h0 : 0 < L.length := by cases L with | nil => exact absurd rfl hL | cons _ _ => simp
          obtain ⟨gi, rfl⟩ := hia h0
          exact ⟨gi, 0, rfl, hidx.ents rfl hlow hown⟩
        have HG : Hid (goodTo L L.length) := hgood
        clear hst hown hidx hia hgood HF HB hm
        simp only [List.length_nil] at d0
        go_wp2
        go_ret2
        exact ⟨Or.inl ⟨HG.out, ia, icap, rfl, HA.out⟩, hlow⟩
    · obtain ⟨d0, d1, f0, f1⟩ := hd.cells
      have HG : Hid (¬ goodTo L L.length) := hbad
      clear hd hbad HF HB hm
      by_cases hn : n = 0
      · subst hn
        go_wp2
        go_quiet (fail)
        go_wp2
        go_ret2
        exact ⟨Or.inr ⟨HG.out, t, y, rfl⟩, below_drewN hlow _⟩
      · have hd : (0 : Int) < (n : Int) := by omega
        go_wp2
        go_quiet (fail)
        go_wp2
        go_ret2
        exact ⟨Or.inr ⟨HG.out, t, y, rfl⟩, below_drewN hlow _⟩

theorem decode_none (w0 : World) : Calls Ybaf.prog 8 #[.slice none 0 0] w0 (Decoded w0 []) := by
  go_enter Ybaf.func8, Ybaf.ntmps8
  go_wp2
  go_loopw [5] (fun v wr => v = .slice none 0 0 ∧ wr = w0.alloc (.cells #[.slice none 0 0, .nilIface] 53)) (fun _ _ => 0)
  case atStart => exact ⟨rfl, rfl⟩
  case round =>
    obtain ⟨rfl, rfl⟩ := hrel
    go_wp2
    go_ret2
    exact ⟨Or.inl ⟨goodTo_zero [], none, 0, rfl, fun h => absurd rfl h⟩, (Below.refl _ _).alloc (Nat.le_refl _) _⟩

theorem encAll_eq_nil {L : List Ent} (h : (encAll L).length = 0) : L = [] := by
  cases L with
  | nil => rfl
  | cons e r =>
    rw [encAll_cons, List.length_append] at h
    have := e.enc_pos
    omega

/-- decodeIndex on a row of the call's own that holds what the encoder wrote. -/
theorem decode_own {w : World} {B : Nat} {v : Value} {L : List Ent} (hl : L.length ≤ 1024) (hF : ∀ e ∈ L, e.Fits 1024) (hown : w.ownsRow B 5 1 v (encAll L).length (Lib.byteCells (encAll L))) :
    Calls Ybaf.prog 8 #[v] w (Decoded w L) := by
  have hown2 := hown
  obtain ⟨_, h2⟩ := hown2
  rcases h2 with ⟨rfl, h0⟩ | ⟨g, cap, cur, rfl, _, _, hnc, hcm, _⟩
  · obtain rfl := encAll_eq_nil h0
    exact decode_none w
  · refine decode_in g cap L w hl hF hnc (by unfold maxLen at hcm; omega) ?_
    intro _
    refine ⟨g, 0, rfl, fun j hj => ?_⟩
    rw [Nat.zero_add, hown.cellAt j (by omega)]
    simp [Lib.byteCells, hj]
end Go.Proofs.YbulknwsFmt
