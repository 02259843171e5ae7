/-
  THE DECODER's METHODS ON WHAT THE ENCODER WROTE: '(*decoder).uvarint' (15), '.bytes' (20), '.key' (14).
-/
import Derived.Test.YbulknwsFmtMem
import Derived.Test.YbulknwsFmtShelf
namespace Go.Proofs.YbulknwsFmt
open Go.RowKit

/-- The decoder in block D: what is left to read, and its error. -/
def DecIs (w : World) (D : Nat) (s e : Value) : Prop := w.heap[D]? = some (.cells #[s, e] 53 (0, 0))
theorem DecIs.cells {w : World} {D : Nat} {s e : Value} (h : DecIs w D s e) : w.cell? ⟨D, 0, none⟩ = some s ∧ w.cell? ⟨D, 1, none⟩ = some e ∧ w.frozen? ⟨D, 0, none⟩ = false ∧ w.frozen? ⟨D, 1, none⟩ = false := by
  unfold DecIs at h
  simp [World.cell?, World.frozen?, h]
theorem DecIs.set0 {w : World} {D : Nat} {s e : Value} (h : DecIs w D s e) (s' : Value) : DecIs (w.setCell ⟨D, 0, none⟩ s') D s' e := by
  unfold DecIs at h ⊢
  simp [World.setCell, Array.getElem?_modify, h]
theorem DecIs.set1 {w : World} {D : Nat} {s e : Value} (h : DecIs w D s e) (e' : Value) : DecIs (w.setCell ⟨D, 1, none⟩ e') D s e' := by
  unfold DecIs at h ⊢
  simp [World.setCell, Array.getElem?_modify, h]
theorem DecIs.lt {w : World} {D : Nat} {s e : Value} (h : DecIs w D s e) : D < w.heap.size := (Array.getElem?_eq_some_iff.1 h).1
theorem DecIs.of_block {w w' : World} {D : Nat} {s e : Value} (h : DecIs w D s e) (hb : w'.heap[D]? = w.heap[D]?) : DecIs w' D s e := hb.trans h

theorem grownBy_refl (w : World) (r : Option Nat) : w.grownBy w r := ⟨rfl, rfl, rfl, Nat.le_refl _, fun _ _ _ => rfl⟩
theorem grownBy_trans {a b c : World} {r : Option Nat} (h : a.grownBy b r) (k : b.grownBy c r) : a.grownBy c r :=
  ⟨k.os.trans h.os, k.tape.trans h.tape, k.output.trans h.output, Nat.le_trans h.size k.size, fun i hi hr => (k.block i (Nat.lt_of_lt_of_le hi h.size) hr).trans (h.block i hi hr)⟩
theorem grownBy_set (w : World) (D o : Nat) (v : Value) : w.grownBy (w.setCell ⟨D, o, none⟩ v) (some D) :=
  ⟨rfl, rfl, rfl, by simp [World.setCell], fun k _ hk => Below.heap_setCell _ _ _ _ (fun e => hk (by rw [e]))⟩
theorem grownBy_alloc (w : World) (o : Obj) (r : Option Nat) : w.grownBy (w.alloc o) r := ⟨rfl, rfl, rfl, by simp, fun k hk _ => Below.heap_alloc _ _ _ hk⟩
theorem below_grown {B D : Nat} {a w w' : World} (h : Below B a w) (hg : w.grownBy w' (some D)) (hD : B ≤ D) (hB : B ≤ w.heap.size) : Below B a w' := h.grown hg hB (fun k hk => by cases hk; exact hD)

/-- binary.Uvarint at what AppendUvarint wrote. -/
theorem uvarint_read (g o c x : Nat) (rest : List UInt8) (w : World) (hx : x < 18446744073709551616) (h : ∀ j (hj : j < (Lib.uvarint x ++ rest).length), w.cell? ⟨g, o + j, none⟩ = some (.int .u8 ((Lib.uvarint x ++ rest)[j]).toNat)) :
    Calls Ybaf.prog 21 #[.slice (some ⟨g, o, none⟩) (Lib.uvarint x ++ rest).length c] w fun e w' => e = .returned (.tuple #[.int .u64 x, .int .i64 ((Lib.uvarint x).length : Int)]) ∧ w' = w := by
  have := Ybaf.binary_Uvarint g o _ c (Lib.uvarint x ++ rest) w rfl h
  rw [dec_enc x hx rest] at this
  exact this

set_option maxHeartbeats 400000 in
theorem uvarint_room (D g o c x m n : Nat) (w : World) (hc : m < c) (hm1 : 1 ≤ m) (hd : DecIs w D (.slice (some ⟨g, o, none⟩) (m + n) c) .nilIface)
    (H : Hid (Calls Ybaf.prog 21 #[.slice (some ⟨g, o, none⟩) (m + n) c] w fun e w' => e = .returned (.tuple #[.int .u64 x, .int .i64 (m : Int)]) ∧ w' = w)) :
    Calls Ybaf.prog 15 #[.pointer (some ⟨D, 0, none⟩)] w fun e w' => e = .returned (.int .u64 x) ∧ w' = w.setCell ⟨D, 0, none⟩ (.slice (some ⟨g, o + m, none⟩) n (c - m)) := by
  obtain ⟨d0, d1, f0, f1⟩ := hd.cells
  clear hd
  go_enter Ybaf.func15, Ybaf.ntmps15
  go_wp2_with (go_at_call 21; refine Calls.mono H.out ?_; rintro e w' ⟨rfl, rfl⟩)
  go_ret
  exact ⟨rfl, rfl⟩

set_option maxHeartbeats 400000 in
theorem uvarint_full (D g o x m : Nat) (w : World) (hm1 : 1 ≤ m) (hd : DecIs w D (.slice (some ⟨g, o, none⟩) m m) .nilIface)
    (H : Hid (Calls Ybaf.prog 21 #[.slice (some ⟨g, o, none⟩) m m] w fun e w' => e = .returned (.tuple #[.int .u64 x, .int .i64 (m : Int)]) ∧ w' = w)) :
    Calls Ybaf.prog 15 #[.pointer (some ⟨D, 0, none⟩)] w fun e w' => e = .returned (.int .u64 x) ∧ w' = w.setCell ⟨D, 0, none⟩ (.slice (some ⟨g, o, none⟩) 0 0) := by
  obtain ⟨d0, d1, f0, f1⟩ := hd.cells
  clear hd
  go_enter Ybaf.func15, Ybaf.ntmps15
  go_wp2_with (go_at_call 21; refine Calls.mono H.out ?_; rintro e w' ⟨rfl, rfl⟩)
  go_ret
  exact ⟨rfl, rfl⟩

/-- The decoder in block D, the octets l left, at ⟨g, o⟩; no error. 'w0': the world in which the octets were laid. -/
structure DSt (w0 w : World) (D g o c : Nat) (l : List UInt8) : Prop where
  dec : DecIs w D (.slice (some ⟨g, o, none⟩) l.length c) .nilIface
  cap : l.length ≤ c
  max : c ≤ 9223372036854775807
  ba : BA w0 (some ⟨g, o, none⟩) l
  low : Below w0.heap.size w0 w
  old : w0.heap.size ≤ D

theorem BA.front {w : World} {g o : Nat} {p q : List UInt8} (h : BA w (some ⟨g, o, none⟩) (p ++ q)) : BA w (some ⟨g, o, none⟩) p := fun hp => by
  obtain ⟨b, o', e, hc⟩ := h (by simp [hp])
  simp only [Option.some.injEq, Addr.mk.injEq, and_true] at e
  obtain ⟨rfl, rfl⟩ := e
  refine ⟨_, _, rfl, fun j hj => ?_⟩
  have := hc j (by rw [List.length_append]; omega)
  rw [List.getElem_append_left hj] at this
  exact this
theorem BA.back {w : World} {g o : Nat} {p q : List UInt8} (h : BA w (some ⟨g, o, none⟩) (p ++ q)) : BA w (some ⟨g, o + p.length, none⟩) q := fun hq => by
  obtain ⟨b, o', e, hc⟩ := h (by simp [hq])
  simp only [Option.some.injEq, Addr.mk.injEq, and_true] at e
  obtain ⟨rfl, rfl⟩ := e
  refine ⟨_, _, rfl, fun j hj => ?_⟩
  have := hc (p.length + j) (by rw [List.length_append]; omega)
  rw [List.getElem_append_right (by omega)] at this
  simp only [Nat.add_sub_cancel_left] at this
  rw [Nat.add_assoc]
  exact this
theorem DSt.cut {w0 w : World} {D g o c : Nat} {p q : List UInt8} (h : DSt w0 w D g o c (p ++ q)) (o' c' : Nat) (hc : q.length ≤ c') (hm : c' ≤ c) (hb : BA w0 (some ⟨g, o', none⟩) q) :
    DSt w0 (w.setCell ⟨D, 0, none⟩ (.slice (some ⟨g, o', none⟩) q.length c')) D g o' c' q :=
  ⟨h.dec.set0 _, hc, by have := h.max; omega, hb, h.low.setCell h.old _, h.old⟩

theorem uvarint_dec {w0 w : World} {D g o c x : Nat} {rest : List UInt8} (hx : x < 18446744073709551616) (h : DSt w0 w D g o c (Lib.uvarint x ++ rest)) :
    Calls Ybaf.prog 15 #[.pointer (some ⟨D, 0, none⟩)] w fun e w' => ∃ o' c', e = .returned (.int .u64 x) ∧ DSt w0 w' D g o' c' rest ∧ w.grownBy w' (some D) := by
  have hpos := Lib.uvarint_pos x
  have hlen : (Lib.uvarint x ++ rest).length = (Lib.uvarint x).length + rest.length := List.length_append
  have hcell := h.ba.later h.low (by intro e; simp [e] at hlen; omega)
  obtain ⟨b, o', e, hc⟩ := hcell
  simp only [Option.some.injEq, Addr.mk.injEq, and_true] at e
  obtain ⟨rfl, rfl⟩ := e
  have H := uvarint_read g o c x rest w hx hc
  have hd := h.dec
  have hcap := h.cap
  rw [hlen] at H hd hcap
  by_cases hcm : (Lib.uvarint x).length < c
  · refine (uvarint_room D g o c x _ rest.length w hcm hpos hd H).mono ?_
    rintro e w' ⟨rfl, rfl⟩
    exact ⟨_, _, rfl, h.cut _ _ (by omega) (by omega) h.ba.back, grownBy_set _ _ _ _⟩
  · have hr : rest = [] := List.eq_nil_of_length_eq_zero (by omega)
    subst hr
    have hce : c = (Lib.uvarint x).length := by simp at hcap; omega
    subst hce
    simp only [List.length_nil, Nat.add_zero] at H hd
    refine (uvarint_full D g o x _ w hpos hd H).mono ?_
    rintro e w' ⟨rfl, rfl⟩
    exact ⟨_, _, rfl, h.cut _ 0 (by simp) (by omega) (BA.nil _ _), grownBy_set _ _ _ _⟩

set_option maxHeartbeats 400000 in
theorem bytes_room (D g o c m n : Nat) (w : World) (hc : m < c) (hn : m + n ≤ c) (hs : c ≤ 9223372036854775807) (hd : DecIs w D (.slice (some ⟨g, o, none⟩) (m + n) c) .nilIface) :
    Calls Ybaf.prog 20 #[.pointer (some ⟨D, 0, none⟩), .int .u64 (m : Int)] w fun e w' => e = .returned (.slice (some ⟨g, o, none⟩) m m) ∧ w' = w.setCell ⟨D, 0, none⟩ (.slice (some ⟨g, o + m, none⟩) n (c - m)) := by
  obtain ⟨d0, d1, f0, f1⟩ := hd.cells
  clear hd
  go_enter Ybaf.func20, Ybaf.ntmps20
  go_wp2
  go_ret
  exact ⟨rfl, rfl⟩

set_option maxHeartbeats 400000 in
theorem bytes_full (D g o m : Nat) (w : World) (hs : m ≤ 9223372036854775807) (hd : DecIs w D (.slice (some ⟨g, o, none⟩) m m) .nilIface) :
    Calls Ybaf.prog 20 #[.pointer (some ⟨D, 0, none⟩), .int .u64 (m : Int)] w fun e w' => e = .returned (.slice (some ⟨g, o, none⟩) m m) ∧ w' = w.setCell ⟨D, 0, none⟩ (.slice (some ⟨g, o, none⟩) 0 0) := by
  obtain ⟨d0, d1, f0, f1⟩ := hd.cells
  clear hd
  go_enter Ybaf.func20, Ybaf.ntmps20
  go_wp2
  go_ret
  exact ⟨rfl, rfl⟩

theorem bytes_dec {w0 w : World} {D g o c : Nat} {p rest : List UInt8} (h : DSt w0 w D g o c (p ++ rest)) :
    Calls Ybaf.prog 20 #[.pointer (some ⟨D, 0, none⟩), .int .u64 (p.length : Int)] w fun e w' => ∃ o1 o' c', e = .returned (.slice (some ⟨g, o1, none⟩) p.length p.length) ∧ BA w0 (some ⟨g, o1, none⟩) p ∧ DSt w0 w' D g o' c' rest ∧ w.grownBy w' (some D) := by
  have hlen : (p ++ rest).length = p.length + rest.length := List.length_append
  have hd := h.dec
  have hcap := h.cap
  have hmax := h.max
  rw [hlen] at hd hcap
  by_cases hcm : p.length < c
  · refine (bytes_room D g o c p.length rest.length w hcm hcap hmax hd).mono ?_
    rintro e w' ⟨rfl, rfl⟩
    exact ⟨_, _, _, rfl, h.ba.front, h.cut _ _ (by omega) (by omega) h.ba.back, grownBy_set _ _ _ _⟩
  · have hr : rest = [] := List.eq_nil_of_length_eq_zero (by omega)
    subst hr
    have hce : c = p.length := by simp at hcap; omega
    subst hce
    simp only [List.length_nil, Nat.add_zero] at hd
    refine (bytes_full D g o p.length w hmax hd).mono ?_
    rintro e w' ⟨rfl, rfl⟩
    exact ⟨_, _, _, rfl, h.ba.front, h.cut _ 0 (by simp) (by omega) (BA.nil _ _), grownBy_set _ _ _ _⟩

theorem DSt.alloc {w0 w : World} {D g o c : Nat} {l : List UInt8} (h : DSt w0 w D g o c l) (ob : Obj) : DSt w0 (w.alloc ob) D g o c l :=
  ⟨h.dec.of_block (Below.heap_alloc _ _ _ h.dec.lt), h.cap, h.max, h.ba, h.low.alloc h.low.size ob, h.old⟩

theorem cells_of_two {w : World} {T : Nat} {t : TypeId} {c0 c1 : Value} (h : w.heap[T]? = some (.cells #[c0, c1] t (0, 0))) :
    w.cell? ⟨T, 0, none⟩ = some c0 ∧ w.cell? ⟨T, 1, none⟩ = some c1 ∧ w.frozen? ⟨T, 0, none⟩ = false ∧ w.frozen? ⟨T, 1, none⟩ = false := by
  simp [World.cell?, World.frozen?, h]
theorem cells_put {w : World} {T : Nat} {t : TypeId} {c0 c1 : Value} (h : w.heap[T]? = some (.cells #[c0, c1] t (0, 0))) (x y : Value) :
    (w.setCell ⟨T, 0, none⟩ x).cell? ⟨T, 0, none⟩ = some x ∧ ((w.setCell ⟨T, 0, none⟩ x).setCell ⟨T, 1, none⟩ y).cell? ⟨T, 1, none⟩ = some y := by
  simp [World.cell?, World.setCell, Array.getElem?_modify, h]
/-- the result's slot is written: a block of the call's own, not the decoder's. -/
theorem key_store {w0 w : World} {D g o c K : Nat} {l : List UInt8} (h : DSt w0 w D g o c l) (hK : D < K) (x y : Value) :
    DSt w0 ((w.setCell ⟨K, 0, none⟩ x).setCell ⟨K, 1, none⟩ y) D g o c l ∧ w.grownBy ((w.setCell ⟨K, 0, none⟩ x).setCell ⟨K, 1, none⟩ y) (some K) := by
  have hg : w.grownBy ((w.setCell ⟨K, 0, none⟩ x).setCell ⟨K, 1, none⟩ y) (some K) := grownBy_trans (grownBy_set _ _ _ _) (grownBy_set _ _ _ _)
  have hlt := h.dec.lt
  have hold := h.old
  exact ⟨⟨h.dec.of_block (hg.block D hlt (fun e => by simp at e; omega)), h.cap, h.max, h.ba, (h.low.setCell (by simp; omega) _).setCell (by simp; omega) _, h.old⟩, hg⟩
theorem grownBy_new {w w1 w2 : World} {r : Option Nat} {K : Nat} (h : w.grownBy w1 r) (hg : w1.grownBy w2 (some K)) (hK : w.heap.size ≤ K := by omega) : w.grownBy w2 r :=
  ⟨hg.os.trans h.os, hg.tape.trans h.tape, hg.output.trans h.output, Nat.le_trans h.size hg.size, fun k hk hr => (hg.block k (Nat.lt_of_lt_of_le hk h.size) (fun e => by simp at e; omega)).trans (h.block k hk hr)⟩

set_option maxHeartbeats 400000 in
theorem key_dec {w0 w : World} {D g o c v : Nat} {p rest : List UInt8} (hp : p.length ≤ 1024) (hv : v < 18446744073709551616) (h : DSt w0 w D g o c (keyEnc p v ++ rest)) :
    Calls Ybaf.prog 14 #[.pointer (some ⟨D, 0, none⟩)] w fun e w' => ∃ o1 o' c', e = .returned (.agg #[.slice (some ⟨g, o1, none⟩) p.length p.length, .int .u64 v]) ∧ BA w0 (some ⟨g, o1, none⟩) p ∧ DSt w0 w' D g o' c' rest ∧ w.grownBy w' (some D) := by
  have e1 : keyEnc p v ++ rest = Lib.uvarint p.length ++ (p ++ (Lib.uvarint v ++ rest)) := by simp [keyEnc]
  rw [e1] at h
  have HK := h.dec.lt
  go_enter Ybaf.func14, Ybaf.ntmps14
  go_wp2_with fail
  refine (uvarint_dec (by omega) (h.alloc _)).mono ?_
  rintro e w1 ⟨o1, c1, rfl, s1, g1⟩
  go_wp2_with fail
  refine (bytes_dec s1).mono ?_
  rintro e w2 ⟨q, o2, c2, rfl, b2, s2, g2⟩
  go_wp2_with fail
  refine (uvarint_dec hv s2).mono ?_
  rintro e w3 ⟨o3, c3, rfl, s3, g3⟩
  have hK : w3.heap[w.heap.size]? = some (.cells #[.slice none 0 0, .int .u64 0] 29 (0, 0)) := by
    have gg := grownBy_trans g1 (grownBy_trans g2 g3)
    rw [gg.block _ (by simp) (fun e => by simp at e; omega)]
    exact heap_alloc_new _ _
  have gg : w.grownBy w3 (some D) := grownBy_trans (grownBy_alloc _ _ _) (grownBy_trans g1 (grownBy_trans g2 g3))
  obtain ⟨k0, k1, k2, k3⟩ := cells_of_two hK
  clear s1 s2 g1 g2 g3
  have HS := key_store s3 (K := w.heap.size) (by omega) (.slice (some ⟨g, q, none⟩) p.length p.length) (.int .u64 v)
  have z := cells_put hK (.slice (some ⟨g, q, none⟩) p.length p.length) (.int .u64 v)
  obtain ⟨z0, z1⟩ := z
  go_wp2
  refine bodyPost_ret (v := .agg #[.slice (some ⟨g, q, none⟩) p.length p.length, .int .u64 v]) (by simp [results, Ybaf.results14, go_sem, z0, z1]) rfl ⟨q, o3, c3, rfl, b2, HS.1, ?_⟩
  exact grownBy_new gg HS.2
end Go.Proofs.YbulknwsFmt
