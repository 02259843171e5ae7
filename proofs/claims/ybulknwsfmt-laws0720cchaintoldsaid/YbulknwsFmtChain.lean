/-
  'Rows.LawS0720CChainToldSaid' ('keyshroud.LawS0720CChain'): the told card. The road never comes to fmt.Sprintf (the decoder reads what the encoder wrote), so no text of fmt's is asked.
-/
import Derived.Test.YbulknwsFmtCards
import Derived.Test.YbulknwsFmtChainW
import Derived.ProofKit
import Derived.OpenShut
import Derived.ChangeOld
import Derived.Below
import Derived.Deep.Slices
import Derived.Stop.JoinedTold
import Derived.SevenToldRow
namespace Go.Proofs.YbulknwsFmt.lawS0720CChain
open Go.ChangeShapes Go.WideShapes Go.ChangeAt Go.RowKit Go.Deep

theorem cells41 : Ybaf.prog.cellsOf 41 = 5 := by kernel_rfl
theorem cells24 : Ybaf.prog.cellsOf 24 = 1 := by kernel_rfl

section
variable {H : Type} {enc : TypeId × Value → H} {W : World}

theorem open_word {fuel : Nat} {c : Value} {x : DataW H × List MemPlace} (h : DataW.trod enc Ybaf.prog W 0 (fun _ => true) true fuel 24 [c] = some x) :
    ∃ n : Nat, c = .int .u64 n ∧ n < 18446744073709551616 := by
  obtain ⟨n, hc, _, hw⟩ := DataW.trod_int Ybaf.underlying24 h
  simp only [List.cons.injEq, and_true] at hc
  have := bounds_u64 hw
  obtain ⟨m, rfl⟩ := Int.eq_ofNat_of_zero_le this.1
  exact ⟨m, hc, by omega⟩

theorem five {cs : List Value} (h : cs.length = 5) : ∃ c0 c1 c2 c3 c4, cs = [c0, c1, c2, c3, c4] := by
  match cs, h with
  | [c0, c1, c2, c3, c4], _ => exact ⟨c0, c1, c2, c3, c4, rfl⟩

theorem open_num {fuel : Nat} {cs : List Value} {x : DataW H × List MemPlace} (h : DataW.trod enc Ybaf.prog W 0 (fun _ => true) true fuel 41 cs = some x) :
    ∃ e : Num, e.Fits ∧ cs = [.int .u64 e.lv, .int .u64 e.mn, .int .u64 e.mx, .int .u64 e.po, .int .u64 e.ln] := by
  obtain ⟨xs, n, _, _, hlen, hxl, hf⟩ := DataW.trod_struct Ybaf.underlying41 h
  rw [cells41] at hlen
  obtain ⟨c0, c1, c2, c3, c4, rfl⟩ := five hlen
  have hx : ∀ i, i < 5 → ∃ y, xs[i]? = some y := fun i hi => ⟨_, List.getElem?_eq_getElem (by rw [hxl]; exact hi)⟩
  obtain ⟨y0, e0⟩ := hx 0 (by omega)
  obtain ⟨y1, e1⟩ := hx 1 (by omega)
  obtain ⟨y2, e2⟩ := hx 2 (by omega)
  obtain ⟨y3, e3⟩ := hx 3 (by omega)
  obtain ⟨y4, e4⟩ := hx 4 (by omega)
  have f0 := hf 0 { name := "LastV", type := 24, offset := 0, embedded := false, tag := "", pkgPath := "", byteOffset := 0 } rfl
  have f1 := hf 1 { name := "Min", type := 24, offset := 1, embedded := false, tag := "", pkgPath := "", byteOffset := 8 } rfl
  have f2 := hf 2 { name := "Max", type := 24, offset := 2, embedded := false, tag := "", pkgPath := "", byteOffset := 16 } rfl
  have f3 := hf 3 { name := "Off", type := 24, offset := 3, embedded := false, tag := "", pkgPath := "", byteOffset := 24 } rfl
  have f4 := hf 4 { name := "Len", type := 24, offset := 4, embedded := false, tag := "", pkgPath := "", byteOffset := 32 } rfl
  simp only [cells24, List.drop_zero, List.drop_succ_cons, List.take_succ_cons, List.take_zero] at f0 f1 f2 f3 f4
  obtain ⟨lv, rfl, w3⟩ := open_word (f0.trans e0)
  obtain ⟨mn, rfl, w4⟩ := open_word (f1.trans e1)
  obtain ⟨mx, rfl, w5⟩ := open_word (f2.trans e2)
  obtain ⟨po, rfl, w6⟩ := open_word (f3.trans e3)
  obtain ⟨ln, rfl, w7⟩ := open_word (f4.trans e4)
  exact ⟨⟨lv, mn, mx, po, ln⟩, ⟨w3, w4, w5, w6, w7⟩, rfl⟩

theorem open_nums {fuel : Nat} {a : Option Addr} {len cap : Nat} {x : DataW H × List MemPlace} (h : DataW.trod enc Ybaf.prog W 0 (fun _ => true) true fuel 38 [.slice a len cap] = some x) :
    ∃ (N : List Num) (b off : Nat), N.length = len ∧ (0 < N.length → a = some ⟨b, off, none⟩) ∧ NumsIn W b off N ∧ ∀ e ∈ N, e.Fits := by
  rcases open_slice Ybaf.underlying38 h with ⟨hcs, _⟩ | ⟨ad, len', cap', m, n, D, Pl, hcs, _, hl, _, hm, _, hel⟩
  · simp only [List.cons.injEq, Value.slice.injEq, and_true] at hcs
    obtain ⟨rfl, rfl, rfl⟩ := hcs
    exact ⟨[], 0, 0, rfl, fun h => absurd h (by simp), fun i hi => absurd hi (by simp), fun e he => absurd he (by simp)⟩
  · simp only [List.cons.injEq, Value.slice.injEq, and_true] at hcs
    obtain ⟨rfl, rfl, rfl⟩ := hcs
    simp only [if_true] at hm
    rw [cells41] at hel
    have hE : ∀ i, i < len → ∃ e : Num, e.Fits ∧ ∀ j, j < 5 → W.cell? ((ad.add (i * 5)).add j) = [Value.int .u64 e.lv, .int .u64 e.mn, .int .u64 e.mx, .int .u64 e.po, .int .u64 e.ln][j]? := fun i hi => by
      obtain ⟨cs', hcells, ht⟩ := hel i (by omega)
      obtain ⟨_, _, hc⟩ := World.cells?_some hcells
      obtain ⟨e, hfit, rfl⟩ := open_num ht
      exact ⟨e, hfit, hc⟩
    obtain ⟨f, hf⟩ := @choose_lt Num ⟨⟨0, 0, 0, 0, 0⟩⟩ len _ hE
    obtain ⟨b, off, spot⟩ := ad
    have hspot : 0 < len → spot = none := fun hpos => by
      have := (hf 0 hpos).2 0 (by omega)
      simpa [Addr.add] using World.cell?_spot this
    refine ⟨(List.range len).map f, b, off, by simp, fun h0 => ?_, fun i hi => ?_, fun e he => ?_⟩
    · rw [hspot (by simpa using h0)]
    · have hi' : i < len := by simpa using hi
      obtain rfl := hspot (by omega)
      have hcc : ∀ j, j < 5 → W.cell? ⟨b, off + i * 5 + j, none⟩ = [Value.int .u64 (f i).lv, .int .u64 (f i).mn, .int .u64 (f i).mx, .int .u64 (f i).po, .int .u64 (f i).ln][j]? := fun j hj => by
        have := (hf i hi').2 j hj
        rw [add_plain, add_plain] at this
        exact this
      simp only [List.getElem_map, List.getElem_range]
      exact ⟨hcc 0 (by omega), hcc 1 (by omega), hcc 2 (by omega), hcc 3 (by omega), hcc 4 (by omega)⟩
    · obtain ⟨i, hi, rfl⟩ := List.mem_map.1 he
      exact (hf i (by simpa using hi)).1
end

theorem chain_any (a : Option Addr) (b off cap : Nat) (N : List Num) (w : World) (ha : 0 < N.length → a = some ⟨b, off, none⟩) (hE : NumsIn w b off N) (hF : ∀ e ∈ N, e.Fits) :
    Calls Ybaf.prog 4 #[.slice a N.length cap] w fun e w' => e = .returned (.bool true) ∧ Below w.heap.size w w' := by
  by_cases hl : N.length ≤ 1024
  · exact chain_in a b off cap N w hl ha hE hF
  · have hd1 : decide ((1024 : Int) < (N.length : Int)) = true := decide_eq_true (by omega)
    clear ha hE hF
    go_enter Ybaf.func4, Ybaf.ntmps4
    go_wp2
    go_ret
    exact ⟨rfl, Below.refl _ _⟩

theorem own : ownKnob Ybaf.prog.godebug = none := by kernel_rfl
theorem laidOut : laidOutB Ybaf.prog = true := by kernel_rfl
theorem stops : Ybaf.pinned.checked.prog.stops = ["fmt.Sprintf"] := by kernel_rfl
theorem stopKnobs : Ybaf.pinned.checked.prog.stopKnobs = [] := by kernel_rfl
theorem quiet (os : Os) : Stop.quiet Ybaf.pinned.checked.prog os := by
  intro k hk
  rw [stopKnobs] at hk
  cases hk

set_option maxRecDepth 100000 in
set_option maxHeartbeats 1600000 in
theorem lifted (os : Os) (started : os.Started) (H : Type) (enc : TypeId × Value → H) :
    ReturnsInTold none {} Ybaf.checked os 4 .any Input.okWide ((OpenSpec.ofChange Rows.lawS0720CChainSpec).preRow enc Ybaf.prog Ybaf.f4 [] false []) (fun F => ((OpenSpec.ofChange Rows.lawS0720CChainSpec).at F).post enc Ybaf.prog Ybaf.f4 false true false false) (aloneAtReturn Ybaf.prog) nothingAlways := by
  refine returnsInTold_of_row (C := Ybaf.checked) (s := OpenSpec.ofChange Rows.lawS0720CChainSpec) (by kernel_rfl) own started (by kernel_rfl) Ybaf.func4
    (OpenSpec.witness_stopped (enc := enc) (C := Ybaf.checked) false ⟨#[], #[.slice none 0 0], []⟩ 8 (by kernel_rfl) (by kernel_rfl) (by kernel_rfl) (by kernel_rfl)) ?_
  intro F W base args ds gs before _ hF hval0 hW _ _ hsz _ _
  have hval : ∀ (j : Nat) t v, Ybaf.f4.params[j]? = some t → args[j]? = some v → Value.okWide Ybaf.prog W .any base t v := hval0
  have hW' := hW
  obtain ⟨p, q, hA0, hV, rfl, _, _⟩ := hW
  have hA : DataW.TrodAll enc Ybaf.prog W 0 (fun _ => true) true Ybaf.f4.params.toList args.toList ds p := hA0
  rw [Ybaf.params4] at hA hval
  obtain ⟨v0, d0, rfl, rfl, h0⟩ := trodAll_one hA
  obtain ⟨rfl, rfl⟩ := trodVars_none hV
  obtain ⟨a0, len, cap, rfl⟩ := okWide_slice Ybaf.underlying38 (hval 0 38 v0 rfl rfl)
  have k0 := h0
  have lt0 : ∀ x ∈ p, x.block < W.heap.size := by obtain ⟨m, hm⟩ := k0; exact DataW.trod_lt m _ _ _ hm
  obtain ⟨fuel, hf⟩ := h0
  obtain ⟨N, b, off, rfl, ha, hE, hFit⟩ := open_nums (by simpa [Value.cells] using hf)
  clear hA0 hval0
  refine (chain_any a0 b off cap N W ha hE hFit).mono fun e W' ⟨he, bel⟩ => ?_
  subst he
  exact ⟨_, rfl, _, _, _, [], _, [], hW', trodAll_mk1 (shut_bool Ybaf.underlying4 _), trodAll_mk1 (Below.trod laidOut (by kernel_rfl) (of_decide_eq_true (by kernel_rfl)) k0 bel lt0), rfl, bel.frame _, fun h => by cases h⟩

/-- THE STATEMENT. -/
theorem proved : Rows.LawS0720CChainToldSaid :=
  Claim7.holds_of_told_any 4 Ybaf.f4 "fmt.Sprintf" [] [] _ _ _ (by kernel_rfl) rfl rfl rfl laidOut (by kernel_rfl) rfl ⟨rfl, rfl, rfl, rfl, rfl, rfl, rfl⟩ rfl rfl (by kernel_rfl) (by kernel_rfl) Ybaf.func4 (by kernel_rfl)
    (of_decide_eq_true (by kernel_rfl)) (of_decide_eq_true (by kernel_rfl)) stops.symm rfl stopKnobs.symm (by kernel_rfl)
    (by kernel_rfl) (by kernel_rfl) (by kernel_rfl) (by kernel_rfl) (by kernel_rfl) (by kernel_rfl) (by kernel_rfl) (by kernel_rfl) (by kernel_rfl) rfl (by kernel_rfl) rfl rfl
    rfl rfl
    rfl (by kernel_rfl) (by kernel_rfl) (by kernel_rfl) (by decide) (by kernel_rfl)
    (OpenClaim.moreEntering_of (by kernel_rfl) (by kernel_rfl) (by kernel_rfl) (by kernel_rfl) (by kernel_rfl) (by kernel_rfl) (by kernel_rfl) (by kernel_rfl) (by kernel_rfl) (by kernel_rfl))
    ⟨_, WideRow.started_initial, quiet _⟩
    (fun os started _ H enc _ => lifted os started H enc)
#print axioms proved
end Go.Proofs.YbulknwsFmt.lawS0720CChain
