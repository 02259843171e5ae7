/-
  'LawS0720CRoundTrip' (3): the walk.
-/
import Derived.Test.YbulknwsFmtIndex
import Derived.Test.YbulknwsFmtSame
import Derived.BigRegion
namespace Go.Proofs.YbulknwsFmt
open Go.RowKit

theorem fits_of {e : Ent} {m n : Nat} (h : e.Fits m) (h1 : e.fb.length ≤ n) (h2 : e.lb.length ≤ n) : e.Fits n := ⟨h1, h.fv, h2, h.lv, h.mn, h.mx, h.po, h.ln⟩

theorem own_five_below {w w' : World} {B k : Nat} {v : Value} {xs : List Value} (h : w.ownsRow B 5 1 v k xs) (hb : Below w.heap.size w w') : w'.ownsRow B 5 1 v k xs := by
  obtain ⟨h1, h2⟩ := h
  refine ⟨h1, ?_⟩
  rcases h2 with h2 | ⟨gi, cap, cur, hv, hB, hh, r⟩
  · exact Or.inl h2
  · refine Or.inr ⟨gi, cap, cur, hv, hB, ?_, r⟩
    rw [hb.block gi (Array.getElem?_eq_some_iff.1 hh).1]
    exact hh
/-- the flag 'ordered' behind one entry. -/
theorem flag_zero {L : List Ent} {E : Ent} {g : Bool} (hk : 0 < L.length) (hE : L[0] = E) (_hG : g = true ↔ goodTo L 0) : (if 0 < kcmp E.fb E.fv E.lb E.lv then false else g) = true ↔ goodTo L 1 := by
  have hb : badAt L 0 = E.badIn := by rw [badAt_zero hk, hE]
  have hg : g = true := _hG.2 (goodTo_zero L)
  unfold Ent.badIn at hb
  by_cases h : 0 < kcmp E.fb E.fv E.lb E.lv
  · simp only [h, if_true]
    refine ⟨fun h => by simp at h, fun hgt => ?_⟩
    have := hgt 0 (by omega)
    rw [hb] at this
    simp [h] at this
  · simp only [h, if_false]
    exact ⟨fun _ => goodTo_succ (goodTo_zero L) (by rw [hb]; exact decide_eq_false h), fun _ => hg⟩
theorem flag_succ {L : List Ent} {E F : Ent} {m : Nat} {g : Bool} (hk : m + 1 < L.length) (hE : L[m + 1] = E) (hF : L[m] = F) (hG : g = true ↔ goodTo L (m + 1)) :
    (if 0 < kcmp F.lb F.lv E.fb E.fv then false else if 0 < kcmp E.fb E.fv E.lb E.lv then false else g) = true ↔ goodTo L (m + 1 + 1) := by
  have hb : badAt L (m + 1) = (E.badIn || F.badBehind E) := by rw [badAt_succ hk, hE, hF]
  unfold Ent.badIn Ent.badBehind at hb
  have hn : ∀ h : goodTo L (m + 1 + 1), badAt L (m + 1) = false := fun h => h (m + 1) (by omega)
  by_cases h1 : 0 < kcmp F.lb F.lv E.fb E.fv
  · simp only [h1, if_true]
    refine ⟨fun h => by simp at h, fun h => ?_⟩
    have := hn h
    rw [hb] at this
    simp [h1] at this
  · by_cases h2 : 0 < kcmp E.fb E.fv E.lb E.lv
    · simp only [h1, h2, if_true, if_false]
      refine ⟨fun h => by simp at h, fun h => ?_⟩
      have := hn h
      rw [hb] at this
      simp [h2] at this
    · simp only [h1, h2, if_false]
      constructor
      · intro h
        exact goodTo_succ (hG.1 h) (by rw [hb]; simp [h1, h2])
      · intro h
        exact hG.2 (fun i hi => h i (by omega))

set_option maxHeartbeats 1600000 in
theorem round_in (b off cap : Nat) (L : List Ent) (m : Nat) (w : World) (hl : L.length ≤ 256) (HE : Hid (EntsIn w b off L)) (HF : Hid (∀ e ∈ L, e.Fits m)) :
    Calls Ybaf.prog 3 #[.slice (some ⟨b, off, none⟩) L.length cap] w fun e w' => e = .returned (.bool true) ∧ Below w.heap.size w w' := by
  have hd1 : decide ((256 : Int) < (L.length : Int)) = false := decide_eq_false (by omega)
  go_enter Ybaf.func3, Ybaf.ntmps3
  go_wp2
  go_loop [3] (fun i => ∃ k : Nat, k ≤ L.length ∧ i = .int .i64 k ∧ Hid (∀ j (h : j < L.length), j < k → L[j].fb.length ≤ 1024 ∧ L[j].lb.length ≤ 1024)) (fun i => L.length - (intOf i).toNat)
  case atStart => exact ⟨0, Nat.zero_le _, rfl, fun j h hj => absurd hj (by omega)⟩
  case round =>
    obtain ⟨k, hk, rfl, HS⟩ := hrel
    by_cases hlt : k < L.length
    · obtain ⟨fa, fc, la, lc, c0, c1, c2, c3, c4, c5, c6, c7, n1, n2, q1, q2⟩ := HE.out k hlt
      clear c1 c3 c4 c5 c6 c7 n1 n2 q1 q2
      obtain ⟨E, hE⟩ : ∃ E, L[k] = E := ⟨_, rfl⟩
      rw [hE] at c0 c2
      have HK : Hid (L[k] = E) := hE
      clear hE
      by_cases h1 : E.fb.length ≤ 1024
      · have g1 : decide ((1024 : Int) < (E.fb.length : Int)) = false := decide_eq_false (by omega)
        by_cases h2 : E.lb.length ≤ 1024
        · have g2 : decide ((1024 : Int) < (E.lb.length : Int)) = false := decide_eq_false (by omega)
          go_wp2
          go_round
          case rel =>
            refine ⟨k + 1, by omega, by go_num, fun j h hj => ?_⟩
            by_cases e : j = k
            · subst e; rw [HK.out]; exact ⟨h1, h2⟩
            · exact HS.out j h (by omega)
          case measure => simp [intOf]; omega
        · have g2 : decide ((1024 : Int) < (E.lb.length : Int)) = true := decide_eq_true (by omega)
          go_wp2
          go_ret
          exact ⟨rfl, Below.refl _ _⟩
      · have g1 : decide ((1024 : Int) < (E.fb.length : Int)) = true := decide_eq_true (by omega)
        go_wp2
        go_ret
        exact ⟨rfl, Below.refl _ _⟩
    · have hd : decide ((k : Int) < (L.length : Int)) = false := decide_eq_false (by omega)
      have hF : ∀ e ∈ L, e.Fits 1024 := fun e he => by
        obtain ⟨j, hj, rfl⟩ := List.getElem_of_mem he
        obtain ⟨s1, s2⟩ := HS.out j hj (by omega)
        exact fits_of (HF.out _ he) s1 s2
      have HF2 : Hid (∀ e ∈ L, e.Fits 1024) := hF
      clear HF HS hF
      go_wp2_with fail
      refine (encode_any (some ⟨b, off, none⟩) cap L w (by omega) (fun _ => ⟨b, off, rfl, HE.out⟩) HF2.out).mono ?_
      rintro e w1 ⟨v1, rfl, hown1, hb1⟩
      have HO : Hid (w1.ownsRow w.heap.size 5 1 v1 (encAll L).length (Lib.byteCells (encAll L))) := hown1
      clear hown1
      go_wp2
      go_loopw [5, 6] (fun o i wr => ∃ (q : Nat) (g : Bool), q ≤ L.length ∧ i = .int .i64 q ∧ o = .bool g ∧ Hid (g = true ↔ goodTo L q) ∧ Below w1.heap.size w1 wr) (fun _ i _ => L.length - (intOf i).toNat)
      case atStart => exact ⟨0, true, Nat.zero_le _, rfl, rfl, ⟨fun _ => goodTo_zero L, fun _ => rfl⟩, Below.refl _ _⟩
      case round =>
        obtain ⟨q, g, hq, rfl, rfl, HG, hb2⟩ := hrel
        by_cases hqt : q < L.length
        · obtain ⟨fa, fc, la, lc, c0, c1, c2, c3, c4, c5, c6, c7, n1, n2, q1, q2⟩ := ((HE.out q hqt).later hb1).later hb2
          clear c4 c5 c6 c7 n1 n2
          obtain ⟨E, hE⟩ : ∃ E, L[q] = E := ⟨_, rfl⟩
          rw [hE] at c0 c1 c2 c3 q1 q2
          have HK : Hid (L[q] = E) := hE
          clear hE
          have hbB : b < wr.heap.size := World.block_lt_of_cell? _ _ c0
          have hz : ∀ o1 o2 : Obj, Below wr.heap.size wr (((wr.alloc o1).alloc o2).drew.drew) := fun o1 o2 => (((Below.refl _ _).alloc (Nat.le_refl _) _).alloc (by simp) _).drew.drew
          go_wp2
          go_region
          go_wp2
          go_region
          go_wp2_with fail
          refine (keyCompare_any fc lc E.fv E.lv (by exact q1.later (hz _ _)) (by exact q2.later (hz _ _))).mono ?_
          rintro e wc ⟨rfl, hbc⟩
          have hBc : Below wr.heap.size wr wc := (hz _ _).trans (hbc.mono (by simp; omega))
          have hcf0 : wc.cell? ⟨wr.heap.size, 0, none⟩ = some (.slice fa E.fb.length fc) := by
            rw [hbc.cell (p := ⟨wr.heap.size, 0, none⟩) (by simp; omega)]; simp
          have hcf1 : wc.cell? ⟨wr.heap.size, 1, none⟩ = some (.int .u64 E.fv) := by
            rw [hbc.cell (p := ⟨wr.heap.size, 1, none⟩) (by simp; omega)]; simp
          have Q1 : Hid (BA wc fa E.fb) := q1.later hBc
          clear hbc c0 c1 c2 c3 q1 q2
          obtain ⟨r1, hr1⟩ : ∃ r1, kcmp E.fb E.fv E.lb E.lv = r1 := ⟨_, rfl⟩
          rw [hr1]
          have HR1 : Hid (kcmp E.fb E.fv E.lb E.lv = r1) := hr1
          clear hr1
          by_cases hq0 : q = 0
          · subst hq0
            have HGN := flag_zero hqt HK.out HG.out
            rw [HR1.out] at HGN
            by_cases h1 : 0 < r1
            · have hd1 : decide (0 < r1) = true := decide_eq_true h1
              rw [if_pos h1] at HGN
              go_wp2
              go_roundw
              case rel => exact ⟨1, false, by omega, by go_num, rfl, HGN, hb2.trans (hBc.mono hb2.size)⟩
              case measure => simp [intOf]; omega
            · have hd1 : decide (0 < r1) = false := decide_eq_false h1
              rw [if_neg h1] at HGN
              go_wp2
              go_roundw
              case rel => exact ⟨1, g, by omega, by go_num, rfl, HGN, hb2.trans (hBc.mono hb2.size)⟩
              case measure => simp [intOf]; omega
          · obtain ⟨m, rfl⟩ : ∃ m, q = m + 1 := ⟨q - 1, by omega⟩
            have hm' : m < L.length := by omega
            obtain ⟨fa', fc', la', lc', e0, e1, e2, e3, e4, e5, e6, e7, k1, k2, p1, p2⟩ := (((HE.out m hm').later hb1).later hb2).later hBc
            clear e0 e1 e4 e5 e6 e7 k1 k2 p1
            obtain ⟨F, hF⟩ : ∃ F, L[m]'hm' = F := ⟨_, rfl⟩
            rw [hF] at e2 e3 p2
            have HGN := flag_succ hqt HK.out hF HG.out
            rw [HR1.out] at HGN
            have P2 : Hid (BA wc la' F.lb) := p2
            have hwm := wrap_small m (by omega)
            have hm0 : (0 : Int) ≤ (m : Int) := by omega
            have hmL : (m : Int) < (L.length : Int) := by omega
            have hz1 : ∀ o1 : Obj, Below wc.heap.size wc ((wc.alloc o1).drew) := fun o1 => ((Below.refl _ _).alloc (Nat.le_refl _) _).drew
            have hwrc : wr.heap.size < wc.heap.size := World.block_lt_of_cell? _ _ hcf0
            have hbc' : b < wc.heap.size := World.block_lt_of_cell? _ _ e2
            clear hF p2 HG
            by_cases h1 : 0 < r1
            · have hd1 : decide (0 < r1) = true := decide_eq_true h1
              rw [if_pos h1] at HGN
              go_wp2
              go_region
              go_wp2_with fail
              refine (keyCompare_any lc' fc F.lv E.fv (by exact P2.out.later (hz1 _)) (by exact Q1.out.later (hz1 _))).mono ?_
              rintro e wd ⟨rfl, hbd⟩
              have hBd : Below wc.heap.size wc wd := (hz1 _).trans (hbd.mono (by simp))
              clear hbd
              obtain ⟨r2, hr2⟩ : ∃ r2, kcmp F.lb F.lv E.fb E.fv = r2 := ⟨_, rfl⟩
              rw [hr2] at HGN ⊢
              clear hr2
              by_cases h2 : 0 < r2
              · have hd2 : decide (0 < r2) = true := decide_eq_true h2
                rw [if_pos h2] at HGN
                go_wp2
                go_roundw
                case rel => exact ⟨m + 1 + 1, false, by omega, by go_num, rfl, HGN, hb2.trans ((hBc.trans (hBd.mono hBc.size)).mono hb2.size)⟩
                case measure => simp [intOf]; omega
              · have hd2 : decide (0 < r2) = false := decide_eq_false h2
                rw [if_neg h2] at HGN
                go_wp2
                go_roundw
                case rel => exact ⟨m + 1 + 1, false, by omega, by go_num, rfl, HGN, hb2.trans ((hBc.trans (hBd.mono hBc.size)).mono hb2.size)⟩
                case measure => simp [intOf]; omega
            · have hd1 : decide (0 < r1) = false := decide_eq_false h1
              rw [if_neg h1] at HGN
              go_wp2
              go_region
              go_wp2_with fail
              refine (keyCompare_any lc' fc F.lv E.fv (by exact P2.out.later (hz1 _)) (by exact Q1.out.later (hz1 _))).mono ?_
              rintro e wd ⟨rfl, hbd⟩
              have hBd : Below wc.heap.size wc wd := (hz1 _).trans (hbd.mono (by simp))
              clear hbd
              obtain ⟨r2, hr2⟩ : ∃ r2, kcmp F.lb F.lv E.fb E.fv = r2 := ⟨_, rfl⟩
              rw [hr2] at HGN ⊢
              clear hr2
              by_cases h2 : 0 < r2
              · have hd2 : decide (0 < r2) = true := decide_eq_true h2
                rw [if_pos h2] at HGN
                go_wp2
                go_roundw
                case rel => exact ⟨m + 1 + 1, false, by omega, by go_num, rfl, HGN, hb2.trans ((hBc.trans (hBd.mono hBc.size)).mono hb2.size)⟩
                case measure => simp [intOf]; omega
              · have hd2 : decide (0 < r2) = false := decide_eq_false h2
                rw [if_neg h2] at HGN
                go_wp2
                go_roundw
                case rel => exact ⟨m + 1 + 1, g, by omega, by go_num, rfl, HGN, hb2.trans ((hBc.trans (hBd.mono hBc.size)).mono hb2.size)⟩
                case measure => simp [intOf]; omega
        · have hdq : decide ((q : Int) < (L.length : Int)) = false := decide_eq_false (by omega)
          obtain rfl : q = L.length := by omega
          have hownR := own_five_below HO.out hb2
          have hbW : Below w.heap.size w wr := hb1.trans (hb2.mono hb1.size)
          go_wp2_with fail
          refine Calls.mono (decode_own (by omega) HF2.out hownR) ?_
          rintro e wd ⟨hres, hbd⟩
          have hBd : Below w.heap.size w wd := hbW.trans (hbd.mono hbW.size)
          rcases hres with ⟨hgood, ia, icap, rfl, hA⟩ | ⟨hbad, t, y, rfl⟩
          · obtain rfl : g = true := HG.out.2 hgood
            have HA : Hid (ArgE wd ia L) := hA
            clear hA hgood HG HO hownR
            go_wp2_with fail
            refine (same_any ia (some ⟨b, off, none⟩) icap cap L _ (by omega) HA.out (fun _ => ⟨b, off, rfl, HE.out.later hBd⟩)).mono ?_
            rintro e we ⟨rfl, hbe⟩
            go_wp2
            go_ret
            exact ⟨rfl, hBd.trans (hbe.mono hBd.size)⟩
          · obtain rfl : g = false := by cases g with | false => rfl | true => exact absurd (HG.out.1 rfl) hbad
            clear hbad HG HO hownR
            have heq := fun wx a n c => Lib.run_eql_slice_nil (P := Ybaf.prog) wx 31 46 a n c 0 0 Ybaf.underlying31
            go_wp2
            go_ret
            exact ⟨rfl, hBd⟩
end Go.Proofs.YbulknwsFmt
