/-
  Contracts and lemmas: LehS LehG.
-/
import Derived.Test.YtgmienggfaahlaaGreatDoorK25
import Derived.Test.YtgmienggfaahlaaGreatDoorK14
import Derived.Test.YtgmienggfaahlaaGreatDoorK13
import Derived.Test.YtgmienggfaahlaaGreatDoorK17
set_option linter.unusedSimpArgs false
set_option linter.unusedVariables false
set_option maxRecDepth 100000
set_option maxHeartbeats 8000000
namespace Go.Proofs.YtgmienggfaahlaaGreatDoor
open Go.RowKit Go.Bg Dg
def SimIs (A B : Nat) (w : World) (e : Ending) (w' : World) : Prop :=
  ∃ u0 u1 v0 v1 even, e = .returned (.tuple #[.int .u64 (u0 : Nat), .int .u64 (u1 : Nat), .int .u64 (v0 : Nat), .int .u64 (v1 : Nat), .bool even]) ∧ SimRes A B u0 u1 v0 v1 even ∧ Below w.heap.size w w'
theorem simulate_same (ba bb ga gb n m ca cb A B : Nat) (w : World) (p0 : w.cell? ⟨ba, 1, none⟩ = some (.slice (some ⟨ga, 0, none⟩) n ca)) (q0 : w.cell? ⟨bb, 1, none⟩ = some (.slice (some ⟨gb, 0, none⟩) m cb)) (hA : NumAt .u64 W64 w (some ⟨ga, 0, none⟩) n ca A) (hB : NumAt .u64 W64 w (some ⟨gb, 0, none⟩) m cb B) (hm : 2 ≤ m) (hle : B ≤ A) (hn : n ≤ 900000) (hnm : n = m) :
    Calls Tryz.prog 237 #[.pointer (some ⟨ba, 0, none⟩), .pointer (some ⟨bb, 0, none⟩)] w (SimIs A B w) := by
  obtain ⟨p, hp⟩ : ∃ p, n = p + 2 := ⟨n - 2, by omega⟩
  obtain ⟨p1, hp1⟩ : ∃ p1, p1 = p + 1 := ⟨_, rfl⟩
  have hmb : m ≤ 900000 := by omega
  have hi1 : (n : Int) - 1 = p1 := by omega
  have hi2 : (n : Int) - 2 = p := by omega
  have l1 : (p1 : Int) < n := by omega
  have l2 : (p : Int) < n := by omega
  have hca := hA.nc
  have hcam := hA.cm
  have hcb := hB.nc
  have hcbm := hB.cm
  unfold maxLen at hcam hcbm
  have hAl : A < W64 ^ (p + 2) := by rw [← hp]; exact hA.lt
  have hB0 : 0 < B := by
    rcases hB.top with h | h
    · omega
    · exact Nat.lt_of_lt_of_le (Nat.pow_pos W64_pos) h
  have x1 := hA.cell (i := p1) (by omega)
  have x0 := hA.cell (i := p) (by omega)
  rw [Nat.zero_add] at x1 x0
  have y0' : 0 < dg W64 A p1 := by
    rw [hp1, top_word hAl]
    rcases hA.top with h | h
    · omega
    · rw [show n - 1 = p + 1 from by omega] at h
      exact Nat.div_pos h (Nat.pow_pos W64_pos)
  have yl : dg W64 A p1 < 18446744073709551616 := W64_lt (dg_lt W64_pos _ _)
  obtain ⟨hz1, hz2⟩ := lz_sum y0' (show dg W64 A p1 < W64 from yl)
  obtain ⟨hz3, hz4⟩ := lz_top y0' (show dg W64 A p1 < W64 from yl)
  have HNL := Lib.hid (fun w' => nlz_any (dg W64 A p1) y0' yl w')
  obtain ⟨s, hs⟩ : ∃ s, s = lz (dg W64 A p1) := ⟨_, rfl⟩
  rw [← hs] at hz2 hz4 HNL
  clear hs hz1 hz3
  obtain ⟨t, hst⟩ : ∃ t, s + t = 64 := ⟨64 - s, by omega⟩
  have hsub : (64 : Int) - s = t := by omega
  have ht0 : 0 < t := by omega
  obtain ⟨T, hT⟩ : ∃ T, T = W64 ^ p * 2 ^ t := ⟨_, rfl⟩
  have hT0 : 0 < T := by rw [hT]; exact Nat.mul_pos (Nat.pow_pos W64_pos) (Nat.pow_pos (by decide))
  have htA := sim_top hst hAl (by rw [← hp1]; exact hz4)
  rw [← hT, ← hp1] at htA
  have hOA := bits_orS (dg W64 A p1) (dg W64 A p) s t (dg_lt W64_pos _ _)
  rw [htA.1] at hOA
  obtain ⟨X, hX⟩ : ∃ X, X = A / T := ⟨_, rfl⟩
  rw [← hX] at hOA htA
  have hXl : X < 18446744073709551616 := htA.2
  obtain ⟨Y, hY⟩ : ∃ Y, Y = B / T := ⟨_, rfl⟩
  have hYX : Y ≤ X := by rw [hX, hY]; exact Nat.div_le_div_right hle
  have hBl : B < W64 ^ (p + 2) := by rw [← hp, hnm]; exact hB.lt
  have z1 := hB.cell (i := p1) (by omega)
  have z0 := hB.cell (i := p) (by omega)
  rw [Nat.zero_add] at z1 z0
  have hdle : dg W64 B p1 ≤ dg W64 A p1 := by
    rw [hp1, top_word hAl, top_word hBl]; exact Nat.div_le_div_right hle
  have htB := sim_top hst hBl (by rw [← hp1]; exact Nat.lt_of_le_of_lt (Nat.mul_le_mul_right _ hdle) hz4)
  rw [← hT, ← hp1] at htB
  have hOB := bits_orS (dg W64 B p1) (dg W64 B p) s t (dg_lt W64_pos _ _)
  rw [htB.1, ← hY] at hOB
  have yb1 : dg W64 B p1 < 18446744073709551616 := W64_lt (dg_lt W64_pos _ _)
  have yb0 : dg W64 B p < 18446744073709551616 := W64_lt (dg_lt W64_pos _ _)
  have ya0 : dg W64 A p < 18446744073709551616 := W64_lt (dg_lt W64_pos _ _)
  have l3 : (p1 : Int) < m := by omega
  have l4 : (p : Int) < m := by omega
  have hnm' : ((n : Int) == m) = true := by simp; omega
  have HST := Lib.hid (SimAt.start (show X < W64 from htA.2) hYX)
  have HDN := Lib.hid (fun (a1 a2 u0 u1 u2 v0 v1 v2 : Nat) (even : Bool) (h : SimAt X Y a1 a2 u0 u1 u2 v0 v1 v2 even) => h.done hX hY hT0 hB0)
  clear htA hX hY hT hT0 hB0 hle hAl hp hp1 hA hB hz4 y0'
  clear htB hBl hdle hnm
  generalize dg W64 A p1 = ax1 at *
  generalize dg W64 A p = ax0 at *
  generalize dg W64 B p1 = bx1 at *
  generalize dg W64 B p = bx0 at *
  go_enter Tryz.func237, Tryz.ntmps237
  go_wp2_with fail
  refine (HNL.out _).mono ?_
  rintro e w1 ⟨rfl, rfl⟩
  go_upto_region 5 with fail
  go_quiet (fail)
  clear x0 x1 p0 hOA
  have hb1 : Below w1.heap.size w1 (w1.drewN nq) := below_drewN (Below.refl _ _) nq
  have q1 := cell_keep q0 hb1
  have z1' := cell_keep z1 hb1
  have z0' := cell_keep z0 hb1
  clear q0 z1 z0
  generalize w1.drewN nq = W1 at *
  go_upto_region 8 with fail
  go_quiet (fail)
  have HB1 := Lib.hid (hb1.trans (below_drewN (Below.refl _ _) nq : Below w1.heap.size W1 (W1.drewN nq)))
  clear q1 z1' z0' hOB hb1
  generalize W1.drewN nq = W2 at *
  go_upto_region 11 with fail
  go_wp2
  go_loopw [4, 5, 6, 7, 8, 9, 10, 11, 12, 16, 17] (fun s4 s5 s6 s7 s8 s9 s10 s11 s12 _ _ wr => ∃ (u0 u1 v0 v1 u2 v2 a1 a2 : Nat) (even : Bool), s4 = .int .u64 u0 ∧ s5 = .int .u64 u1 ∧ s6 = .int .u64 v0 ∧ s7 = .int .u64 v1 ∧ s8 = .bool even ∧ s9 = .int .u64 a1 ∧ s10 = .int .u64 a2 ∧ s11 = .int .u64 u2 ∧ s12 = .int .u64 v2 ∧ SimAt X Y a1 a2 u0 u1 u2 v0 v1 v2 even ∧ Below w1.heap.size w1 wr)
    (fun _ _ _ _ _ _ s10 _ _ _ _ _ => (intOf s10).toNat)
  case atStart => exact ⟨0, 1, 0, 0, 0, 1, X, Y, false, rfl, rfl, rfl, rfl, rfl, rfl, rfl, rfl, rfl, HST.out, HB1.out⟩
  case round =>
    obtain ⟨u0, u1, v0, v1, u2, v2, a1, a2, even, rfl, rfl, rfl, rfl, rfl, rfl, rfl, rfl, rfl, hI, hbw⟩ := hrel
    have HI := Lib.hid hI
    have HBW := Lib.hid hbw
    have HBS := Lib.hid hbw.size
    obtain ⟨e0, e1, e2, e3, e4, e5, e6⟩ := hI.lt
    unfold W64 at e0 e1 e2 e3 e4 e5 e6
    have e7 := hI.st.le
    clear hI hbw
    by_cases c1 : v2 ≤ a2
    · have hro := HI.out.room c1
      unfold W64 at hro
      obtain ⟨f0, f1, f2⟩ := hro
      have g1 : (v2 : Int) ≤ a2 := by omega
      have g2 : IntKind.u64.wrap ((a1 : Int) - (a2 : Int)) = (a1 : Int) - a2 := by rw [IntKind.wrap_u64]; omega
      have g3 : IntKind.u64.wrap ((v1 : Int) + (v2 : Int)) = (v1 : Int) + v2 := by rw [IntKind.wrap_u64]; omega
      by_cases c2 : v1 + v2 ≤ a1 - a2
      · have g4 : (v1 : Int) + v2 ≤ (a1 : Int) - a2 := by omega
        have hS := HI.out.step c1 c2
        have HS := Lib.hid hS.1
        have hqq : a1 / a2 < 18446744073709551616 := Nat.lt_of_le_of_lt (Nat.div_le_self _ _) (by omega)
        have hrr : a1 % a2 < a2 := Nat.mod_lt _ f0
        have hz : ((a2 : Int) == 0) = false := by simp; omega
        have hz' : ¬ (a2 : Int) = 0 := by omega
        have hq1 : (a1 : Int) / (a2 : Int) = ((a1 / a2 : Nat) : Int) := by simp
        have hq2 : (a1 : Int).tdiv (a2 : Int) = ((a1 / a2 : Nat) : Int) := by rw [Int.tdiv_eq_ediv_of_nonneg (Int.natCast_nonneg _)]; simp
        have hr1 : (a1 : Int) % (a2 : Int) = ((a1 % a2 : Nat) : Int) := by simp
        have hr2 : (a1 : Int).tmod (a2 : Int) = ((a1 % a2 : Nat) : Int) := by rw [Int.tmod_eq_emod_of_nonneg (Int.natCast_nonneg _)]; simp
        have hul := hS.2.1
        have hvl := hS.2.2
        unfold W64 at hul hvl
        have hm1 : ((a1 / a2 : Nat) : Int) * (u2 : Int) = ((a1 / a2 * u2 : Nat) : Int) := by simp
        have hm2 : ((a1 / a2 : Nat) : Int) * (v2 : Int) = ((a1 / a2 * v2 : Nat) : Int) := by simp
        clear hS
        generalize a1 / a2 = q at *
        generalize a1 % a2 = r at *
        obtain ⟨qu, hqu⟩ : ∃ qu, qu = q * u2 := ⟨_, rfl⟩
        obtain ⟨qv, hqv⟩ : ∃ qv, qv = q * v2 := ⟨_, rfl⟩
        rw [← hqu] at hm1 hul HS
        rw [← hqv] at hm2 hvl HS
        clear hqu hqv
        have hw1 : IntKind.u64.wrap ((u1 : Int) + (qu : Int)) = ((u1 + qu : Nat) : Int) := by rw [IntKind.wrap_u64]; omega
        have hw2 : IntKind.u64.wrap ((v1 : Int) + (qv : Int)) = ((v1 + qv : Nat) : Int) := by rw [IntKind.wrap_u64]; omega
        have hc1 : ((u1 + qu : Nat) : Int) = (u1 : Int) + qu := by omega
        have hc2 : ((v1 + qv : Nat) : Int) = (v1 : Int) + qv := by omega
        have hd0 : ∀ k, Below w1.heap.size w1 (wr.drewN k) := fun k => HBW.out.trans (below_drewN (Below.refl _ _) k)
        have HD0 := Lib.hid hd0
        clear hd0
        go_upto_region 15 with fail
        go_quiet (fail)
        go_wp2
        go_roundw
        case rel => exact ⟨u1, u2, v1, v2, u1 + qu, v1 + qv, a2, r, !even, rfl, rfl, rfl, rfl, rfl, rfl, rfl, by simp only [hc1], by simp only [hc2], HS.out, HD0.out _⟩
        case measure => simp [intOf]; omega
      · have g4 : ¬ (v1 : Int) + v2 ≤ (a1 : Int) - a2 := by omega
        go_wp2
        exact bodyPost_ret (v := .tuple #[.int .u64 (u0 : Nat), .int .u64 (u1 : Nat), .int .u64 (v0 : Nat), .int .u64 (v1 : Nat), .bool even]) (by simp [results, Tryz.results237, go_sem]) rfl ⟨_, _, _, _, _, rfl, HDN.out _ _ _ _ _ _ _ _ _ HI.out, HBW.out⟩
    · have g1 : ¬ (v2 : Int) ≤ a2 := by omega
      go_wp2
      exact bodyPost_ret (v := .tuple #[.int .u64 (u0 : Nat), .int .u64 (u1 : Nat), .int .u64 (v0 : Nat), .int .u64 (v1 : Nat), .bool even]) (by simp [results, Tryz.results237, go_sem]) rfl ⟨_, _, _, _, _, rfl, HDN.out _ _ _ _ _ _ _ _ _ HI.out, HBW.out⟩
theorem simulate_one (ba bb ga gb n m ca cb A B : Nat) (w : World) (p0 : w.cell? ⟨ba, 1, none⟩ = some (.slice (some ⟨ga, 0, none⟩) n ca)) (q0 : w.cell? ⟨bb, 1, none⟩ = some (.slice (some ⟨gb, 0, none⟩) m cb)) (hA : NumAt .u64 W64 w (some ⟨ga, 0, none⟩) n ca A) (hB : NumAt .u64 W64 w (some ⟨gb, 0, none⟩) m cb B) (hm : 2 ≤ m) (hle : B ≤ A) (hn : n ≤ 900000) (hnm : n = m + 1) :
    Calls Tryz.prog 237 #[.pointer (some ⟨ba, 0, none⟩), .pointer (some ⟨bb, 0, none⟩)] w (SimIs A B w) := by
  obtain ⟨p, hp⟩ : ∃ p, n = p + 2 := ⟨n - 2, by omega⟩
  obtain ⟨p1, hp1⟩ : ∃ p1, p1 = p + 1 := ⟨_, rfl⟩
  have hmb : m ≤ 900000 := by omega
  have hi1 : (n : Int) - 1 = p1 := by omega
  have hi2 : (n : Int) - 2 = p := by omega
  have l1 : (p1 : Int) < n := by omega
  have l2 : (p : Int) < n := by omega
  have hca := hA.nc
  have hcam := hA.cm
  have hcb := hB.nc
  have hcbm := hB.cm
  unfold maxLen at hcam hcbm
  have hAl : A < W64 ^ (p + 2) := by rw [← hp]; exact hA.lt
  have hB0 : 0 < B := by
    rcases hB.top with h | h
    · omega
    · exact Nat.lt_of_lt_of_le (Nat.pow_pos W64_pos) h
  have x1 := hA.cell (i := p1) (by omega)
  have x0 := hA.cell (i := p) (by omega)
  rw [Nat.zero_add] at x1 x0
  have y0' : 0 < dg W64 A p1 := by
    rw [hp1, top_word hAl]
    rcases hA.top with h | h
    · omega
    · rw [show n - 1 = p + 1 from by omega] at h
      exact Nat.div_pos h (Nat.pow_pos W64_pos)
  have yl : dg W64 A p1 < 18446744073709551616 := W64_lt (dg_lt W64_pos _ _)
  obtain ⟨hz1, hz2⟩ := lz_sum y0' (show dg W64 A p1 < W64 from yl)
  obtain ⟨hz3, hz4⟩ := lz_top y0' (show dg W64 A p1 < W64 from yl)
  have HNL := Lib.hid (fun w' => nlz_any (dg W64 A p1) y0' yl w')
  obtain ⟨s, hs⟩ : ∃ s, s = lz (dg W64 A p1) := ⟨_, rfl⟩
  rw [← hs] at hz2 hz4 HNL
  clear hs hz1 hz3
  obtain ⟨t, hst⟩ : ∃ t, s + t = 64 := ⟨64 - s, by omega⟩
  have hsub : (64 : Int) - s = t := by omega
  have ht0 : 0 < t := by omega
  obtain ⟨T, hT⟩ : ∃ T, T = W64 ^ p * 2 ^ t := ⟨_, rfl⟩
  have hT0 : 0 < T := by rw [hT]; exact Nat.mul_pos (Nat.pow_pos W64_pos) (Nat.pow_pos (by decide))
  have htA := sim_top hst hAl (by rw [← hp1]; exact hz4)
  rw [← hT, ← hp1] at htA
  have hOA := bits_orS (dg W64 A p1) (dg W64 A p) s t (dg_lt W64_pos _ _)
  rw [htA.1] at hOA
  obtain ⟨X, hX⟩ : ∃ X, X = A / T := ⟨_, rfl⟩
  rw [← hX] at hOA htA
  have hXl : X < 18446744073709551616 := htA.2
  obtain ⟨Y, hY⟩ : ∃ Y, Y = B / T := ⟨_, rfl⟩
  have hYX : Y ≤ X := by rw [hX, hY]; exact Nat.div_le_div_right hle
  have hBl : B < W64 ^ (p + 1) := by rw [show p + 1 = m from by omega]; exact hB.lt
  have z0 := hB.cell (i := p) (by omega)
  rw [Nat.zero_add] at z0
  have htB := sim_one (t := t) hBl
  rw [← hT, ← hY] at htB
  have hOB : (dg W64 B p : Int) / 2 ^ t = (Y : Int) := by
    have : ((dg W64 B p / 2 ^ t : Nat) : Int) = (Y : Int) := by rw [htB]
    simpa using this
  have yb0 : dg W64 B p < 18446744073709551616 := W64_lt (dg_lt W64_pos _ _)
  have ya0 : dg W64 A p < 18446744073709551616 := W64_lt (dg_lt W64_pos _ _)
  have l4 : (p : Int) < m := by omega
  have hnm' : ((n : Int) == m) = false := by simp; omega
  have hnm2 : ((n : Int) == (m : Int) + 1) = true := by simp; omega
  have HST := Lib.hid (SimAt.start (show X < W64 from htA.2) hYX)
  have HDN := Lib.hid (fun (a1 a2 u0 u1 u2 v0 v1 v2 : Nat) (even : Bool) (h : SimAt X Y a1 a2 u0 u1 u2 v0 v1 v2 even) => h.done hX hY hT0 hB0)
  clear htA hX hY hT hT0 hB0 hle hAl hp hp1 hA hB hz4 y0'
  clear htB hBl hnm
  generalize dg W64 A p1 = ax1 at *
  generalize dg W64 A p = ax0 at *
  generalize dg W64 B p = bx0 at *
  go_enter Tryz.func237, Tryz.ntmps237
  go_wp2_with fail
  refine (HNL.out _).mono ?_
  rintro e w1 ⟨rfl, rfl⟩
  go_upto_region 5 with fail
  go_quiet (fail)
  clear x0 x1 p0 hOA
  have hb1 : Below w1.heap.size w1 (w1.drewN nq) := below_drewN (Below.refl _ _) nq
  have q1 := cell_keep q0 hb1
  have z0' := cell_keep z0 hb1
  clear q0 z0
  generalize w1.drewN nq = W1 at *
  have HB1 := Lib.hid hb1
  clear hb1
  go_upto_region 11 with fail
  go_wp2
  go_loopw [4, 5, 6, 7, 8, 9, 10, 11, 12, 16, 17] (fun s4 s5 s6 s7 s8 s9 s10 s11 s12 _ _ wr => ∃ (u0 u1 v0 v1 u2 v2 a1 a2 : Nat) (even : Bool), s4 = .int .u64 u0 ∧ s5 = .int .u64 u1 ∧ s6 = .int .u64 v0 ∧ s7 = .int .u64 v1 ∧ s8 = .bool even ∧ s9 = .int .u64 a1 ∧ s10 = .int .u64 a2 ∧ s11 = .int .u64 u2 ∧ s12 = .int .u64 v2 ∧ SimAt X Y a1 a2 u0 u1 u2 v0 v1 v2 even ∧ Below w1.heap.size w1 wr)
    (fun _ _ _ _ _ _ s10 _ _ _ _ _ => (intOf s10).toNat)
  case atStart => exact ⟨0, 1, 0, 0, 0, 1, X, Y, false, rfl, rfl, rfl, rfl, rfl, rfl, rfl, rfl, rfl, HST.out, HB1.out⟩
  case round =>
    obtain ⟨u0, u1, v0, v1, u2, v2, a1, a2, even, rfl, rfl, rfl, rfl, rfl, rfl, rfl, rfl, rfl, hI, hbw⟩ := hrel
    have HI := Lib.hid hI
    have HBW := Lib.hid hbw
    have HBS := Lib.hid hbw.size
    obtain ⟨e0, e1, e2, e3, e4, e5, e6⟩ := hI.lt
    unfold W64 at e0 e1 e2 e3 e4 e5 e6
    have e7 := hI.st.le
    clear hI hbw
    by_cases c1 : v2 ≤ a2
    · have hro := HI.out.room c1
      unfold W64 at hro
      obtain ⟨f0, f1, f2⟩ := hro
      have g1 : (v2 : Int) ≤ a2 := by omega
      have g2 : IntKind.u64.wrap ((a1 : Int) - (a2 : Int)) = (a1 : Int) - a2 := by rw [IntKind.wrap_u64]; omega
      have g3 : IntKind.u64.wrap ((v1 : Int) + (v2 : Int)) = (v1 : Int) + v2 := by rw [IntKind.wrap_u64]; omega
      by_cases c2 : v1 + v2 ≤ a1 - a2
      · have g4 : (v1 : Int) + v2 ≤ (a1 : Int) - a2 := by omega
        have hS := HI.out.step c1 c2
        have HS := Lib.hid hS.1
        have hqq : a1 / a2 < 18446744073709551616 := Nat.lt_of_le_of_lt (Nat.div_le_self _ _) (by omega)
        have hrr : a1 % a2 < a2 := Nat.mod_lt _ f0
        have hz : ((a2 : Int) == 0) = false := by simp; omega
        have hz' : ¬ (a2 : Int) = 0 := by omega
        have hq1 : (a1 : Int) / (a2 : Int) = ((a1 / a2 : Nat) : Int) := by simp
        have hq2 : (a1 : Int).tdiv (a2 : Int) = ((a1 / a2 : Nat) : Int) := by rw [Int.tdiv_eq_ediv_of_nonneg (Int.natCast_nonneg _)]; simp
        have hr1 : (a1 : Int) % (a2 : Int) = ((a1 % a2 : Nat) : Int) := by simp
        have hr2 : (a1 : Int).tmod (a2 : Int) = ((a1 % a2 : Nat) : Int) := by rw [Int.tmod_eq_emod_of_nonneg (Int.natCast_nonneg _)]; simp
        have hul := hS.2.1
        have hvl := hS.2.2
        unfold W64 at hul hvl
        have hm1 : ((a1 / a2 : Nat) : Int) * (u2 : Int) = ((a1 / a2 * u2 : Nat) : Int) := by simp
        have hm2 : ((a1 / a2 : Nat) : Int) * (v2 : Int) = ((a1 / a2 * v2 : Nat) : Int) := by simp
        clear hS
        generalize a1 / a2 = q at *
        generalize a1 % a2 = r at *
        obtain ⟨qu, hqu⟩ : ∃ qu, qu = q * u2 := ⟨_, rfl⟩
        obtain ⟨qv, hqv⟩ : ∃ qv, qv = q * v2 := ⟨_, rfl⟩
        rw [← hqu] at hm1 hul HS
        rw [← hqv] at hm2 hvl HS
        clear hqu hqv
        have hw1 : IntKind.u64.wrap ((u1 : Int) + (qu : Int)) = ((u1 + qu : Nat) : Int) := by rw [IntKind.wrap_u64]; omega
        have hw2 : IntKind.u64.wrap ((v1 : Int) + (qv : Int)) = ((v1 + qv : Nat) : Int) := by rw [IntKind.wrap_u64]; omega
        have hc1 : ((u1 + qu : Nat) : Int) = (u1 : Int) + qu := by omega
        have hc2 : ((v1 + qv : Nat) : Int) = (v1 : Int) + qv := by omega
        have hd0 : ∀ k, Below w1.heap.size w1 (wr.drewN k) := fun k => HBW.out.trans (below_drewN (Below.refl _ _) k)
        have HD0 := Lib.hid hd0
        clear hd0
        go_upto_region 15 with fail
        go_quiet (fail)
        go_wp2
        go_roundw
        case rel => exact ⟨u1, u2, v1, v2, u1 + qu, v1 + qv, a2, r, !even, rfl, rfl, rfl, rfl, rfl, rfl, rfl, by simp only [hc1], by simp only [hc2], HS.out, HD0.out _⟩
        case measure => simp [intOf]; omega
      · have g4 : ¬ (v1 : Int) + v2 ≤ (a1 : Int) - a2 := by omega
        go_wp2
        exact bodyPost_ret (v := .tuple #[.int .u64 (u0 : Nat), .int .u64 (u1 : Nat), .int .u64 (v0 : Nat), .int .u64 (v1 : Nat), .bool even]) (by simp [results, Tryz.results237, go_sem]) rfl ⟨_, _, _, _, _, rfl, HDN.out _ _ _ _ _ _ _ _ _ HI.out, HBW.out⟩
    · have g1 : ¬ (v2 : Int) ≤ a2 := by omega
      go_wp2
      exact bodyPost_ret (v := .tuple #[.int .u64 (u0 : Nat), .int .u64 (u1 : Nat), .int .u64 (v0 : Nat), .int .u64 (v1 : Nat), .bool even]) (by simp [results, Tryz.results237, go_sem]) rfl ⟨_, _, _, _, _, rfl, HDN.out _ _ _ _ _ _ _ _ _ HI.out, HBW.out⟩
theorem simulate_far (ba bb ga gb n m ca cb A B : Nat) (w : World) (p0 : w.cell? ⟨ba, 1, none⟩ = some (.slice (some ⟨ga, 0, none⟩) n ca)) (q0 : w.cell? ⟨bb, 1, none⟩ = some (.slice (some ⟨gb, 0, none⟩) m cb)) (hA : NumAt .u64 W64 w (some ⟨ga, 0, none⟩) n ca A) (hB : NumAt .u64 W64 w (some ⟨gb, 0, none⟩) m cb B) (hm : 2 ≤ m) (hle : B ≤ A) (hn : n ≤ 900000) (hnm : m + 2 ≤ n) :
    Calls Tryz.prog 237 #[.pointer (some ⟨ba, 0, none⟩), .pointer (some ⟨bb, 0, none⟩)] w (SimIs A B w) := by
  obtain ⟨p, hp⟩ : ∃ p, n = p + 2 := ⟨n - 2, by omega⟩
  obtain ⟨p1, hp1⟩ : ∃ p1, p1 = p + 1 := ⟨_, rfl⟩
  have hmb : m ≤ 900000 := by omega
  have hi1 : (n : Int) - 1 = p1 := by omega
  have hi2 : (n : Int) - 2 = p := by omega
  have l1 : (p1 : Int) < n := by omega
  have l2 : (p : Int) < n := by omega
  have hca := hA.nc
  have hcam := hA.cm
  have hcb := hB.nc
  have hcbm := hB.cm
  unfold maxLen at hcam hcbm
  have hAl : A < W64 ^ (p + 2) := by rw [← hp]; exact hA.lt
  have hB0 : 0 < B := by
    rcases hB.top with h | h
    · omega
    · exact Nat.lt_of_lt_of_le (Nat.pow_pos W64_pos) h
  have x1 := hA.cell (i := p1) (by omega)
  have x0 := hA.cell (i := p) (by omega)
  rw [Nat.zero_add] at x1 x0
  have y0' : 0 < dg W64 A p1 := by
    rw [hp1, top_word hAl]
    rcases hA.top with h | h
    · omega
    · rw [show n - 1 = p + 1 from by omega] at h
      exact Nat.div_pos h (Nat.pow_pos W64_pos)
  have yl : dg W64 A p1 < 18446744073709551616 := W64_lt (dg_lt W64_pos _ _)
  obtain ⟨hz1, hz2⟩ := lz_sum y0' (show dg W64 A p1 < W64 from yl)
  obtain ⟨hz3, hz4⟩ := lz_top y0' (show dg W64 A p1 < W64 from yl)
  have HNL := Lib.hid (fun w' => nlz_any (dg W64 A p1) y0' yl w')
  obtain ⟨s, hs⟩ : ∃ s, s = lz (dg W64 A p1) := ⟨_, rfl⟩
  rw [← hs] at hz2 hz4 HNL
  clear hs hz1 hz3
  obtain ⟨t, hst⟩ : ∃ t, s + t = 64 := ⟨64 - s, by omega⟩
  have hsub : (64 : Int) - s = t := by omega
  have ht0 : 0 < t := by omega
  obtain ⟨T, hT⟩ : ∃ T, T = W64 ^ p * 2 ^ t := ⟨_, rfl⟩
  have hT0 : 0 < T := by rw [hT]; exact Nat.mul_pos (Nat.pow_pos W64_pos) (Nat.pow_pos (by decide))
  have htA := sim_top hst hAl (by rw [← hp1]; exact hz4)
  rw [← hT, ← hp1] at htA
  have hOA := bits_orS (dg W64 A p1) (dg W64 A p) s t (dg_lt W64_pos _ _)
  rw [htA.1] at hOA
  obtain ⟨X, hX⟩ : ∃ X, X = A / T := ⟨_, rfl⟩
  rw [← hX] at hOA htA
  have hXl : X < 18446744073709551616 := htA.2
  obtain ⟨Y, hY⟩ : ∃ Y, Y = B / T := ⟨_, rfl⟩
  have hYX : Y ≤ X := by rw [hX, hY]; exact Nat.div_le_div_right hle
  have hY0 : Y = 0 := by rw [hY, hT]; exact sim_none hB.lt (by omega)
  have ya0 : dg W64 A p < 18446744073709551616 := W64_lt (dg_lt W64_pos _ _)
  have hnm' : ((n : Int) == m) = false := by simp; omega
  have hnm2 : ((n : Int) == (m : Int) + 1) = false := by simp; omega
  have HST := Lib.hid (SimAt.start (show X < W64 from htA.2) hYX)
  have HDN := Lib.hid (fun (a1 a2 u0 u1 u2 v0 v1 v2 : Nat) (even : Bool) (h : SimAt X Y a1 a2 u0 u1 u2 v0 v1 v2 even) => h.done hX hY hT0 hB0)
  clear htA hX hY hT hT0 hB0 hle hAl hp hp1 hA hB hz4 y0'
  clear hnm
  subst hY0
  generalize dg W64 A p1 = ax1 at *
  generalize dg W64 A p = ax0 at *
  go_enter Tryz.func237, Tryz.ntmps237
  go_wp2_with fail
  refine (HNL.out _).mono ?_
  rintro e w1 ⟨rfl, rfl⟩
  go_upto_region 5 with fail
  go_quiet (fail)
  clear x0 x1 p0 hOA
  have hb1 : Below w1.heap.size w1 (w1.drewN nq) := below_drewN (Below.refl _ _) nq
  generalize w1.drewN nq = W1 at *
  have HB1 := Lib.hid hb1
  clear hb1
  go_upto_region 11 with fail
  go_wp2
  go_loopw [4, 5, 6, 7, 8, 9, 10, 11, 12, 16, 17] (fun s4 s5 s6 s7 s8 s9 s10 s11 s12 _ _ wr => ∃ (u0 u1 v0 v1 u2 v2 a1 a2 : Nat) (even : Bool), s4 = .int .u64 u0 ∧ s5 = .int .u64 u1 ∧ s6 = .int .u64 v0 ∧ s7 = .int .u64 v1 ∧ s8 = .bool even ∧ s9 = .int .u64 a1 ∧ s10 = .int .u64 a2 ∧ s11 = .int .u64 u2 ∧ s12 = .int .u64 v2 ∧ SimAt X 0 a1 a2 u0 u1 u2 v0 v1 v2 even ∧ Below w1.heap.size w1 wr)
    (fun _ _ _ _ _ _ s10 _ _ _ _ _ => (intOf s10).toNat)
  case atStart => exact ⟨0, 1, 0, 0, 0, 1, X, 0, false, rfl, rfl, rfl, rfl, rfl, rfl, rfl, rfl, rfl, HST.out, HB1.out⟩
  case round =>
    obtain ⟨u0, u1, v0, v1, u2, v2, a1, a2, even, rfl, rfl, rfl, rfl, rfl, rfl, rfl, rfl, rfl, hI, hbw⟩ := hrel
    have HI := Lib.hid hI
    have HBW := Lib.hid hbw
    have HBS := Lib.hid hbw.size
    obtain ⟨e0, e1, e2, e3, e4, e5, e6⟩ := hI.lt
    unfold W64 at e0 e1 e2 e3 e4 e5 e6
    have e7 := hI.st.le
    clear hI hbw
    by_cases c1 : v2 ≤ a2
    · have hro := HI.out.room c1
      unfold W64 at hro
      obtain ⟨f0, f1, f2⟩ := hro
      have g1 : (v2 : Int) ≤ a2 := by omega
      have g2 : IntKind.u64.wrap ((a1 : Int) - (a2 : Int)) = (a1 : Int) - a2 := by rw [IntKind.wrap_u64]; omega
      have g3 : IntKind.u64.wrap ((v1 : Int) + (v2 : Int)) = (v1 : Int) + v2 := by rw [IntKind.wrap_u64]; omega
      by_cases c2 : v1 + v2 ≤ a1 - a2
      · have g4 : (v1 : Int) + v2 ≤ (a1 : Int) - a2 := by omega
        have hS := HI.out.step c1 c2
        have HS := Lib.hid hS.1
        have hqq : a1 / a2 < 18446744073709551616 := Nat.lt_of_le_of_lt (Nat.div_le_self _ _) (by omega)
        have hrr : a1 % a2 < a2 := Nat.mod_lt _ f0
        have hz : ((a2 : Int) == 0) = false := by simp; omega
        have hz' : ¬ (a2 : Int) = 0 := by omega
        have hq1 : (a1 : Int) / (a2 : Int) = ((a1 / a2 : Nat) : Int) := by simp
        have hq2 : (a1 : Int).tdiv (a2 : Int) = ((a1 / a2 : Nat) : Int) := by rw [Int.tdiv_eq_ediv_of_nonneg (Int.natCast_nonneg _)]; simp
        have hr1 : (a1 : Int) % (a2 : Int) = ((a1 % a2 : Nat) : Int) := by simp
        have hr2 : (a1 : Int).tmod (a2 : Int) = ((a1 % a2 : Nat) : Int) := by rw [Int.tmod_eq_emod_of_nonneg (Int.natCast_nonneg _)]; simp
        have hul := hS.2.1
        have hvl := hS.2.2
        unfold W64 at hul hvl
        have hm1 : ((a1 / a2 : Nat) : Int) * (u2 : Int) = ((a1 / a2 * u2 : Nat) : Int) := by simp
        have hm2 : ((a1 / a2 : Nat) : Int) * (v2 : Int) = ((a1 / a2 * v2 : Nat) : Int) := by simp
        clear hS
        generalize a1 / a2 = q at *
        generalize a1 % a2 = r at *
        obtain ⟨qu, hqu⟩ : ∃ qu, qu = q * u2 := ⟨_, rfl⟩
        obtain ⟨qv, hqv⟩ : ∃ qv, qv = q * v2 := ⟨_, rfl⟩
        rw [← hqu] at hm1 hul HS
        rw [← hqv] at hm2 hvl HS
        clear hqu hqv
        have hw1 : IntKind.u64.wrap ((u1 : Int) + (qu : Int)) = ((u1 + qu : Nat) : Int) := by rw [IntKind.wrap_u64]; omega
        have hw2 : IntKind.u64.wrap ((v1 : Int) + (qv : Int)) = ((v1 + qv : Nat) : Int) := by rw [IntKind.wrap_u64]; omega
        have hc1 : ((u1 + qu : Nat) : Int) = (u1 : Int) + qu := by omega
        have hc2 : ((v1 + qv : Nat) : Int) = (v1 : Int) + qv := by omega
        have hd0 : ∀ k, Below w1.heap.size w1 (wr.drewN k) := fun k => HBW.out.trans (below_drewN (Below.refl _ _) k)
        have HD0 := Lib.hid hd0
        clear hd0
        go_upto_region 15 with fail
        go_quiet (fail)
        go_wp2
        go_roundw
        case rel => exact ⟨u1, u2, v1, v2, u1 + qu, v1 + qv, a2, r, !even, rfl, rfl, rfl, rfl, rfl, rfl, rfl, by simp only [hc1], by simp only [hc2], HS.out, HD0.out _⟩
        case measure => simp [intOf]; omega
      · have g4 : ¬ (v1 : Int) + v2 ≤ (a1 : Int) - a2 := by omega
        go_wp2
        exact bodyPost_ret (v := .tuple #[.int .u64 (u0 : Nat), .int .u64 (u1 : Nat), .int .u64 (v0 : Nat), .int .u64 (v1 : Nat), .bool even]) (by simp [results, Tryz.results237, go_sem]) rfl ⟨_, _, _, _, _, rfl, HDN.out _ _ _ _ _ _ _ _ _ HI.out, HBW.out⟩
    · have g1 : ¬ (v2 : Int) ≤ a2 := by omega
      go_wp2
      exact bodyPost_ret (v := .tuple #[.int .u64 (u0 : Nat), .int .u64 (u1 : Nat), .int .u64 (v0 : Nat), .int .u64 (v1 : Nat), .bool even]) (by simp [results, Tryz.results237, go_sem]) rfl ⟨_, _, _, _, _, rfl, HDN.out _ _ _ _ _ _ _ _ _ HI.out, HBW.out⟩
theorem simulate_any (ba bb ga gb n m ca cb A B : Nat) (w : World) (p0 : w.cell? ⟨ba, 1, none⟩ = some (.slice (some ⟨ga, 0, none⟩) n ca)) (q0 : w.cell? ⟨bb, 1, none⟩ = some (.slice (some ⟨gb, 0, none⟩) m cb)) (hA : NumAt .u64 W64 w (some ⟨ga, 0, none⟩) n ca A) (hB : NumAt .u64 W64 w (some ⟨gb, 0, none⟩) m cb B) (hm : 2 ≤ m) (hle : B ≤ A) (hn : n ≤ 900000) :
    Calls Tryz.prog 237 #[.pointer (some ⟨ba, 0, none⟩), .pointer (some ⟨bb, 0, none⟩)] w (SimIs A B w) := by
  have hmn : m ≤ n := len_le W64_gt hB.top (Nat.lt_of_le_of_lt hle hA.lt)
  by_cases h1 : n = m
  · exact simulate_same ba bb ga gb n m ca cb A B w p0 q0 hA hB hm hle hn h1
  · by_cases h2 : n = m + 1
    · exact simulate_one ba bb ga gb n m ca cb A B w p0 q0 hA hB hm hle hn h2
    · exact simulate_far ba bb ga gb n m ca cb A B w p0 q0 hA hB hm hle hn (by omega)
theorem intOwn_below {d p : Nat} {s : Bool} {R : Nat} {w W w' : World} {e : Ending} (hb : Below w.heap.size w W) (h : IntOwn d p s R W e w') : IntOwn d p s R w e w' := by
  obtain ⟨h1, h2, g, n, c, h3, h4⟩ := h
  exact ⟨h1, (Upd.of_below hb).trans h2, g, n, c, h3, Nat.le_trans hb.size h4⟩
theorem rg_at {w : World} {x : Rg} (h : RA w x) (hs : x.s = false) : BigAt 155 w x.b 0 false x.N := hs ▸ h.big (fun h' => by rw [hs] at h'; cases h')
theorem rg_form {w : World} {x : Rg} (h : RA w x) (hn : 0 < x.n) : ∃ g, x.a = some ⟨g, 0, none⟩ := by
  rcases h.num.buf with ⟨h1, h2⟩ | ⟨g, cur, h1, _⟩
  · have := h.num.num.nc; omega
  · exact ⟨g, h1⟩
theorem rg_pos {w : World} {x : Rg} (h : RA w x) (h0 : 0 < x.N) : 0 < x.n := by have := natAt_pos_len h.num.num; simpa [h0] using this
theorem rg_zero {w : World} {x : Rg} (h : RA w x) (h0 : x.n = 0) : x.N = 0 := by have := h.num.num.lt; rw [h0] at this; simpa using this
theorem rg_some {w : World} {x : Rg} (h : RA w x) (h0 : 0 < x.n) : 0 < x.N := by
  rcases h.num.num.top with h1 | h1
  · omega
  · exact Nat.lt_of_lt_of_le (Nat.pow_pos W64_pos) h1
theorem rg_word {w : World} {x : Rg} (h : RA w x) (h1 : x.n = 1) : x.N < 18446744073709551616 := by have := h.num.num.lt; rw [h1, Nat.pow_one] at this; exact this
theorem rg_cell {w : World} {x : Rg} {g : Nat} (h : RA w x) (h1 : x.n = 1) (ha : x.a = some ⟨g, 0, none⟩) : w.cell? ⟨g, 0, none⟩ = some (.int .u64 (x.N : Nat)) := by
  have h2 := h.num.num
  rw [ha] at h2
  have h3 := h2.cell (i := 0) (by omega)
  rw [Nat.add_zero] at h3
  rw [h3]
  unfold dg
  rw [Nat.pow_zero, Nat.div_one, Nat.mod_eq_of_lt (show x.N < W64 from rg_word h h1)]
theorem rg_store {w : World} {x : Rg} {g G : Nat} (h : RA w x) (h1 : x.n = 1) (ha : x.a = some ⟨g, 0, none⟩) (hG0 : 0 < G) (hG : G < 18446744073709551616) :
    RTo x ⟨x.b, x.s, x.a, 1, x.c, G⟩ w (w.setCell ⟨g, 0, none⟩ (.int .u64 (G : Nat))) := by
  have hgb : x.b ≠ g := fun e => h.notIn h (by rw [ha, e]; exact inB_is _ _ _)
  have hc := h.num.num.nc
  have hcm := h.num.num.cm
  rcases h.num.buf with ⟨h2, h3⟩ | ⟨g', cur, h2, hb, hs⟩
  · rw [ha] at h2; cases h2
  · rw [ha] at h2
    injection h2 with h2
    injection h2 with h2 _ _
    subst h2
    have hset := hb.set 0 (.int .u64 (G : Nat))
    refine ⟨rfl, ⟨h.blk.upd (Upd.set1 w g 0 _) hgb, ?_, ?_, ?_⟩, (Upd.set1 w g 0 _).mono (fun k _ hk => .inr (by rw [hk, ha]; exact inB_is _ _ _)), fun k hk => .inl hk⟩
    · rw [cell?_setCell_ne hgb]; exact h.c0
    · rw [cell?_setCell_ne hgb]
      have hc1 := h.c1
      rw [h1] at hc1
      exact hc1
    · refine ⟨⟨by rw [Nat.pow_one]; exact hG, .inr (by simp; omega), by rw [← h1]; exact hc, hcm, fun _ => ⟨g, 0, ha, fun i hi => ?_⟩⟩, .inr ⟨g, _, ha, hset, by simpa using hs⟩⟩
      have hi1 : i < 1 := hi
      obtain rfl : i = 0 := by omega
      have e : dg W64 G 0 = G := by unfold dg; rw [Nat.pow_zero, Nat.div_one]; exact Nat.mod_eq_of_lt (show G < W64 from hG)
      rw [Nat.zero_add, hset.cell, Array.getElem?_setIfInBounds, if_pos rfl, if_pos (by omega)]
      show some (Value.int .u64 (G : Nat)) = some (Value.int .u64 (dg W64 G 0 : Nat))
      rw [e]
theorem four_start {w W1 w2 W3 w4 W6 : World} {N M g1 n1 c1 g2 n2 c2 : Nat} (hW1 : W1 = w.alloc (.cells #[.bool false, .slice none 0 0] 168)) (hU2 : Upd (· = w.heap.size) W1 w2) (hA : RA w2 ⟨w.heap.size, false, some ⟨g1, 0, none⟩, n1, c1, N⟩) (hg1 : W1.heap.size ≤ g1)
    (hW3 : W3 = w2.alloc (.cells #[.bool false, .slice none 0 0] 168)) (hU4 : Upd (· = w2.heap.size) W3 w4) (hB : RA w4 ⟨w2.heap.size, false, some ⟨g2, 0, none⟩, n2, c2, M⟩) (hg2 : W3.heap.size ≤ g2)
    (hW6 : W6 = (w4.alloc (.cells #[.bool false, .slice none 0 0] 168)).alloc (.cells #[.bool false, .slice none 0 0] 168)) :
    Four w.heap.size w ⟨w.heap.size, false, some ⟨g1, 0, none⟩, n1, c1, N⟩ ⟨w2.heap.size, false, some ⟨g2, 0, none⟩, n2, c2, M⟩ ⟨w4.heap.size, false, none, 0, 0, 0⟩ ⟨w4.heap.size + 1, false, none, 0, 0, 0⟩ W6 := by
  have s1 : W1.heap.size = w.heap.size + 1 := by rw [hW1]; simp
  have s3 : W3.heap.size = w2.heap.size + 1 := by rw [hW3]; simp
  have s6 : W6.heap.size = w4.heap.size + 1 + 1 := by rw [hW6]; simp
  have hs2 := hU2.size
  have hs4 := hU4.size
  have g1l : g1 < w2.heap.size := hA.num.inLt g1 (inB_is _ _ _)
  have g2l : g2 < w4.heap.size := hB.num.inLt g2 (inB_is _ _ _)
  have b3 : Below w2.heap.size w2 W3 := by rw [hW3]; exact Below.alloc' (Below.refl _ _) _
  have b6 : Below w4.heap.size w4 W6 := by rw [hW6]; exact Below.alloc' (Below.alloc' (Below.refl _ _) _) _
  have b1 : Below w.heap.size w W1 := by rw [hW1]; exact Below.alloc' (Below.refl _ _) _
  have hA4 : RA w4 ⟨w.heap.size, false, some ⟨g1, 0, none⟩, n1, c1, N⟩ := (hA.keep b3).apart hU4 (by
    rintro k (rfl | hk) h
    · show False; have h : w.heap.size = w2.heap.size := h; omega
    · have := inB_some hk; have h : k = w2.heap.size := h; omega)
  have hq : RA W6 ⟨w4.heap.size, false, none, 0, 0, 0⟩ := by
    have h := (newInt_is w4).keep (show Below (w4.alloc (.cells #[.bool false, .slice none 0 0] 168)).heap.size _ W6 from by rw [hW6]; exact Below.alloc' (Below.refl _ _) _)
    have hb := BlkAt.keep (BlkAt.new w4 #[.bool false, .slice none 0 0] 168) (show Below (w4.alloc (.cells #[.bool false, .slice none 0 0] 168)).heap.size _ W6 from by rw [hW6]; exact Below.alloc' (Below.refl _ _) _)
    exact ⟨h.blk, hb.cell 0, hb.cell 1, BigN.nil _ _⟩
  have hr : RA W6 ⟨w4.heap.size + 1, false, none, 0, 0, 0⟩ := by
    have hb : BlkAt W6 (w4.heap.size + 1) #[.bool false, .slice none 0 0] 168 := by
      rw [hW6]
      have := BlkAt.new (w4.alloc (.cells #[.bool false, .slice none 0 0] 168)) #[.bool false, .slice none 0 0] 168
      simpa using this
    exact ⟨⟨_, _, hb, by decide⟩, hb.cell 0, hb.cell 1, BigN.nil _ _⟩
  have bel : Below w.heap.size w W6 := by
    have h2 := hU2.below b1 (by omega) (fun k _ e => by subst e; exact Nat.le_refl _)
    have h3 := h2.trans (b3.mono (by omega))
    have h4 := hU4.below h3 (by omega) (fun k _ e => by subst e; omega)
    exact h4.trans (b6.mono (by omega))
  refine ⟨hA4.keep b6, hB.keep b6, hq, hr, ?_, ?_, ?_, ?_, ?_, ?_, ?_, bel, by omega⟩
  · rintro k (h1 | h1) (h2 | h2)
    · have h1 : k = w.heap.size := h1; have h2 : k = w2.heap.size := h2; omega
    · have h1 : k = w.heap.size := h1; have := inB_some h2; omega
    · have := inB_some h1; have h2 : k = w2.heap.size := h2; omega
    · have := inB_some h1; have := inB_some h2; omega
  · rintro k (h1 | h1) (h2 | h2)
    · have h1 : k = w.heap.size := h1; have h2 : k = w4.heap.size := h2; omega
    · exact inB_none h2
    · have := inB_some h1; have h2 : k = w4.heap.size := h2; omega
    · exact inB_none h2
  · rintro k (h1 | h1) (h2 | h2)
    · have h1 : k = w.heap.size := h1; have h2 : k = w4.heap.size + 1 := h2; omega
    · exact inB_none h2
    · have := inB_some h1; have h2 : k = w4.heap.size + 1 := h2; omega
    · exact inB_none h2
  · rintro k (h1 | h1) (h2 | h2)
    · have h1 : k = w2.heap.size := h1; have h2 : k = w4.heap.size := h2; omega
    · exact inB_none h2
    · have := inB_some h1; have h2 : k = w4.heap.size := h2; omega
    · exact inB_none h2
  · rintro k (h1 | h1) (h2 | h2)
    · have h1 : k = w2.heap.size := h1; have h2 : k = w4.heap.size + 1 := h2; omega
    · exact inB_none h2
    · have := inB_some h1; have h2 : k = w4.heap.size + 1 := h2; omega
    · exact inB_none h2
  · rintro k (h1 | h1) (h2 | h2)
    · have h1 : k = w4.heap.size := h1; have h2 : k = w4.heap.size + 1 := h2; omega
    · exact inB_none h2
    · exact (inB_none h1).elim
    · exact inB_none h2
  · rintro k ((h1 | h1) | (h1 | h1) | (h1 | h1) | (h1 | h1))
    · have h1 : k = w.heap.size := h1; omega
    · have := inB_some h1; omega
    · have h1 : k = w2.heap.size := h1; omega
    · have := inB_some h1; omega
    · have h1 : k = w4.heap.size := h1; omega
    · exact (inB_none h1).elim
    · have h1 : k = w4.heap.size + 1 := h1; omega
    · exact (inB_none h1).elim
end Go.Proofs.YtgmienggfaahlaaGreatDoor
