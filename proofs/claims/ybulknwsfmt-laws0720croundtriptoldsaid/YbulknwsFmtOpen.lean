/-
  A SLICE OF ENTRIES THAT CAME IN, OPENED.
-/
import Derived.Test.YbulknwsFmtEncode
import Derived.ProofKit
import Derived.OpenShut
import Derived.Deep.Slices
namespace Go.Proofs.YbulknwsFmt
open Go.ChangeShapes Go.WideShapes Go.ChangeAt Go.RowKit Go.Deep

theorem Ybaf.cells26 : Ybaf.prog.cellsOf 26 = 8 := by kernel_rfl
theorem Ybaf.cells24 : Ybaf.prog.cellsOf 24 = 1 := by kernel_rfl
theorem Ybaf.cells23 : Ybaf.prog.cellsOf 23 = 1 := by kernel_rfl
theorem Ybaf.cells5 : Ybaf.prog.cellsOf 5 = 1 := by kernel_rfl

section
variable {H : Type} {enc : TypeId × Value → H} {W : World}

/-- A slice of octets in a cell. -/
theorem open_octets {fuel : Nat} {c : Value} {x : DataW H × List MemPlace} (h : DataW.trod enc Ybaf.prog W 0 (fun _ => true) true fuel 23 [c] = some x) :
    ∃ a l cap, c = .slice a l.length cap ∧ (a = none → cap = 0) ∧ BA W a l ∧ l.length ≤ maxLen := by
  rcases open_ints Ybaf.underlying23 Ybaf.underlying5 Ybaf.cells5 h with ⟨hcs, _⟩ | ⟨ad, len, cap, zs, hcs, _, hl, hm, hz, _, hcell, hwz⟩
  · simp only [List.cons.injEq, and_true] at hcs
    exact ⟨none, [], 0, hcs, fun _ => rfl, BA.nil _ _, by simp⟩
  · simp only [List.cons.injEq, and_true] at hcs
    simp only [if_true] at hz
    refine ⟨some ad, (zs.take len).map (fun z => z.toNat.toUInt8), cap, ?_, fun e => by simp at e, ?_, ?_⟩
    · rw [hcs]; simp; omega
    · intro hne
      have hpos : 0 < len := by
        rcases Nat.eq_zero_or_pos len with h0 | h0
        · subst h0; simp at hne
        · exact h0
      obtain ⟨b, off, spot⟩ := ad
      have hspot : spot = none := by simpa [Addr.add] using World.cell?_spot (hcell 0 (by omega))
      subst hspot
      refine ⟨b, off, rfl, fun j hj => ?_⟩
      have hjl : j < len ∧ j < zs.length := by simp at hj; omega
      have hc := hcell j hjl.2
      rw [add_plain] at hc
      rw [hc]
      have hr := bounds_u8 (hwz (zs[j]'hjl.2) (List.getElem_mem _))
      simp only [List.getElem_map, List.getElem_take, List.getD, List.getElem?_eq_getElem hjl.2, Option.getD_some]
      rw [toNat_small _ (by omega)]
      congr 2
      omega
    · simp; omega

theorem open_word {fuel : Nat} {c : Value} {x : DataW H × List MemPlace} (h : DataW.trod enc Ybaf.prog W 0 (fun _ => true) true fuel 24 [c] = some x) :
    ∃ n : Nat, c = .int .u64 n ∧ n < 18446744073709551616 := by
  obtain ⟨n, hc, _, hw⟩ := DataW.trod_int Ybaf.underlying24 h
  simp only [List.cons.injEq, and_true] at hc
  have := bounds_u64 hw
  obtain ⟨m, rfl⟩ := Int.eq_ofNat_of_zero_le this.1
  exact ⟨m, hc, by omega⟩

theorem eight {cs : List Value} (h : cs.length = 8) : ∃ c0 c1 c2 c3 c4 c5 c6 c7, cs = [c0, c1, c2, c3, c4, c5, c6, c7] := by
  match cs, h with
  | [c0, c1, c2, c3, c4, c5, c6, c7], _ => exact ⟨c0, c1, c2, c3, c4, c5, c6, c7, rfl⟩

theorem open_ent {fuel : Nat} {cs : List Value} {x : DataW H × List MemPlace} (h : DataW.trod enc Ybaf.prog W 0 (fun _ => true) true fuel 26 cs = some x) :
    ∃ (e : Ent) (fa : Option Addr) (fc : Nat) (la : Option Addr) (lc : Nat), e.Fits maxLen ∧ cs = [.slice fa e.fb.length fc, .int .u64 e.fv, .slice la e.lb.length lc, .int .u64 e.lv, .int .u64 e.mn, .int .u64 e.mx, .int .u64 e.po, .int .u64 e.ln] ∧
      (fa = none → fc = 0) ∧ (la = none → lc = 0) ∧ BA W fa e.fb ∧ BA W la e.lb := by
  obtain ⟨xs, n, _, _, hlen, hxl, hf⟩ := DataW.trod_struct Ybaf.underlying26 h
  rw [Ybaf.cells26] at hlen
  obtain ⟨c0, c1, c2, c3, c4, c5, c6, c7, rfl⟩ := eight hlen
  have hx : ∀ i, i < 8 → ∃ y, xs[i]? = some y := fun i hi => ⟨_, List.getElem?_eq_getElem (by rw [hxl]; exact hi)⟩
  obtain ⟨y0, e0⟩ := hx 0 (by omega)
  obtain ⟨y1, e1⟩ := hx 1 (by omega)
  obtain ⟨y2, e2⟩ := hx 2 (by omega)
  obtain ⟨y3, e3⟩ := hx 3 (by omega)
  obtain ⟨y4, e4⟩ := hx 4 (by omega)
  obtain ⟨y5, e5⟩ := hx 5 (by omega)
  obtain ⟨y6, e6⟩ := hx 6 (by omega)
  obtain ⟨y7, e7⟩ := hx 7 (by omega)
  have f0 := hf 0 { name := "First", type := 23, offset := 0, embedded := false, tag := "", pkgPath := "", byteOffset := 0 } rfl
  have f1 := hf 1 { name := "FirstV", type := 24, offset := 1, embedded := false, tag := "", pkgPath := "", byteOffset := 24 } rfl
  have f2 := hf 2 { name := "Last", type := 23, offset := 2, embedded := false, tag := "", pkgPath := "", byteOffset := 32 } rfl
  have f3 := hf 3 { name := "LastV", type := 24, offset := 3, embedded := false, tag := "", pkgPath := "", byteOffset := 56 } rfl
  have f4 := hf 4 { name := "Min", type := 24, offset := 4, embedded := false, tag := "", pkgPath := "", byteOffset := 64 } rfl
  have f5 := hf 5 { name := "Max", type := 24, offset := 5, embedded := false, tag := "", pkgPath := "", byteOffset := 72 } rfl
  have f6 := hf 6 { name := "Off", type := 24, offset := 6, embedded := false, tag := "", pkgPath := "", byteOffset := 80 } rfl
  have f7 := hf 7 { name := "Len", type := 24, offset := 7, embedded := false, tag := "", pkgPath := "", byteOffset := 88 } rfl
  simp only [Ybaf.cells23, Ybaf.cells24, List.drop_zero, List.drop_succ_cons, List.take_succ_cons, List.take_zero] at f0 f1 f2 f3 f4 f5 f6 f7
  obtain ⟨fa, fb, fc, rfl, n1, b1, l1⟩ := open_octets (f0.trans e0)
  obtain ⟨fv, rfl, w1⟩ := open_word (f1.trans e1)
  obtain ⟨la, lb, lc, rfl, n2, b2, l2⟩ := open_octets (f2.trans e2)
  obtain ⟨lv, rfl, w3⟩ := open_word (f3.trans e3)
  obtain ⟨mn, rfl, w4⟩ := open_word (f4.trans e4)
  obtain ⟨mx, rfl, w5⟩ := open_word (f5.trans e5)
  obtain ⟨po, rfl, w6⟩ := open_word (f6.trans e6)
  obtain ⟨ln, rfl, w7⟩ := open_word (f7.trans e7)
  exact ⟨⟨fb, fv, lb, lv, mn, mx, po, ln⟩, fa, fc, la, lc, ⟨l1, w1, l2, w3, w4, w5, w6, w7⟩, rfl, n1, n2, b1, b2⟩

theorem open_ents {fuel : Nat} {a : Option Addr} {len cap : Nat} {x : DataW H × List MemPlace} (h : DataW.trod enc Ybaf.prog W 0 (fun _ => true) true fuel 22 [.slice a len cap] = some x) :
    ∃ L : List Ent, L.length = len ∧ ArgE W a L ∧ ∀ e ∈ L, e.Fits maxLen := by
  rcases open_slice Ybaf.underlying22 h with ⟨hcs, _⟩ | ⟨ad, len', cap', m, n, D, Pl, hcs, _, hl, _, hm, _, hel⟩
  · simp only [List.cons.injEq, Value.slice.injEq, and_true] at hcs
    obtain ⟨rfl, rfl, rfl⟩ := hcs
    exact ⟨[], rfl, fun h => absurd rfl h, fun e he => absurd he (by simp)⟩
  · simp only [List.cons.injEq, Value.slice.injEq, and_true] at hcs
    obtain ⟨rfl, rfl, rfl⟩ := hcs
    simp only [if_true] at hm
    rw [Ybaf.cells26] at hel
    have hE : ∀ i, i < len → ∃ e : Ent, e.Fits maxLen ∧ ∃ (fa : Option Addr) (fc : Nat) (la : Option Addr) (lc : Nat), (∀ j, j < 8 → W.cell? ((ad.add (i * 8)).add j) = [Value.slice fa e.fb.length fc, .int .u64 e.fv, .slice la e.lb.length lc, .int .u64 e.lv, .int .u64 e.mn, .int .u64 e.mx, .int .u64 e.po, .int .u64 e.ln][j]?) ∧
        (fa = none → fc = 0) ∧ (la = none → lc = 0) ∧ BA W fa e.fb ∧ BA W la e.lb := fun i hi => by
      obtain ⟨cs', hcells, ht⟩ := hel i (by omega)
      obtain ⟨_, _, hc⟩ := World.cells?_some hcells
      obtain ⟨e, fa, fc, la, lc, hfit, rfl, r⟩ := open_ent ht
      exact ⟨e, hfit, fa, fc, la, lc, hc, r⟩
    obtain ⟨f, hf⟩ := @choose_lt Ent ⟨⟨[], 0, [], 0, 0, 0, 0, 0⟩⟩ len _ hE
    refine ⟨(List.range len).map f, by simp, fun hne => ?_, fun e he => ?_⟩
    · have hpos : 0 < len := by
        rcases Nat.eq_zero_or_pos len with h0 | h0
        · subst h0; simp at hne
        · exact h0
      obtain ⟨b, off, spot⟩ := ad
      have hspot : spot = none := by
        obtain ⟨_, fa, fc, la, lc, hc, _⟩ := hf 0 hpos
        have := hc 0 (by omega)
        simpa [Addr.add] using World.cell?_spot this
      subst hspot
      refine ⟨b, off, rfl, fun i hi => ?_⟩
      have hi' : i < len := by simpa using hi
      obtain ⟨_, fa, fc, la, lc, hc, n1, n2, b1, b2⟩ := hf i hi'
      have hcc : ∀ j, j < 8 → W.cell? ⟨b, off + i * 8 + j, none⟩ = [Value.slice fa (f i).fb.length fc, .int .u64 (f i).fv, .slice la (f i).lb.length lc, .int .u64 (f i).lv, .int .u64 (f i).mn, .int .u64 (f i).mx, .int .u64 (f i).po, .int .u64 (f i).ln][j]? := fun j hj => by
        have := hc j hj
        rw [add_plain, add_plain] at this
        exact this
      simp only [List.getElem_map, List.getElem_range]
      exact ⟨fa, fc, la, lc, hcc 0 (by omega), hcc 1 (by omega), hcc 2 (by omega), hcc 3 (by omega), hcc 4 (by omega), hcc 5 (by omega), hcc 6 (by omega), hcc 7 (by omega), n1, n2, b1, b2⟩
    · obtain ⟨i, hi, rfl⟩ := List.mem_map.1 he
      exact (hf i (by simpa using hi)).1
end
end Go.Proofs.YbulknwsFmt
