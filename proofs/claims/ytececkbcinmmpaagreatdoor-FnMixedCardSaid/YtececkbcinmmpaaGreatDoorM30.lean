/-
  Contracts and lemmas: LehS.
-/
import Derived.Test.YtececkbcinmmpaaGreatDoorM28
import Derived.Test.YtececkbcinmmpaaGreatDoorM16
import Derived.Test.YtececkbcinmmpaaGreatDoorM15
import Derived.Test.YtececkbcinmmpaaGreatDoorM24
set_option linter.unusedSimpArgs false
set_option linter.unusedVariables false
set_option maxRecDepth 100000
set_option maxHeartbeats 8000000
namespace Go.Proofs.YtececkbcinmmpaaGreatDoor
open Go.RowKit Go.Bg Dg
def SimIs (A B : Nat) (w : World) (e : Ending) (w' : World) : Prop :=
  ∃ u0 u1 v0 v1 even, e = .returned (.tuple #[.int .u64 (u0 : Nat), .int .u64 (u1 : Nat), .int .u64 (v0 : Nat), .int .u64 (v1 : Nat), .bool even]) ∧ SimRes A B u0 u1 v0 v1 even ∧ Below w.heap.size w w'
theorem simulate_same (ba bb ga gb n m ca cb A B : Nat) (w : World) (p0 : w.cell? ⟨ba, 1, none⟩ = some (.slice (some ⟨ga, 0, none⟩) n ca)) (q0 : w.cell? ⟨bb, 1, none⟩ = some (.slice (some ⟨gb, 0, none⟩) m cb)) (hA : NumAt .u64 W64 w (some ⟨ga, 0, none⟩) n ca A) (hB : NumAt .u64 W64 w (some ⟨gb, 0, none⟩) m cb B) (hm : 2 ≤ m) (hle : B ≤ A) (hn : n ≤ 900000) (hnm : n = m) :
    Calls Tryz.prog 245 #[.pointer (some ⟨ba, 0, none⟩), .pointer (some ⟨bb, 0, none⟩)] w (SimIs A B w) := by
  obtain ⟨p, hp⟩ : ∃ p, n = p + 2 := ⟨n - 2, by omega⟩
  obtain ⟨p1, hp1⟩ : ∃ p1, p1 = p + 1 := ⟨_, rfl⟩
  have hmb : m ≤ 900000 := by omega
  have hi1 : (n : Int) - 1 = p1 := by omega
  have hi2 : (n : Int) - 2 = p := by omega
  have l1 : (p1 : Int) < n := by omega
  have l2 : (p : Int) < n := by omega
  have hca := hA.nc
  have hcam := hA.cm
  have hcb := hB.nc
  have hcbm := hB.cm
  unfold maxLen at hcam hcbm
  have hAl : A < W64 ^ (p + 2) := by rw [← hp]; exact hA.lt
  have hB0 : 0 < B := by
    rcases hB.top with h | h
    · omega
    · exact Nat.lt_of_lt_of_le (Nat.pow_pos W64_pos) h
  have x1 := hA.cell (i := p1) (by omega)
  have x0 := hA.cell (i := p) (by omega)
  rw [Nat.zero_add] at x1 x0
  have y0' : 0 < dg W64 A p1 := by
    rw [hp1, top_word hAl]
    rcases hA.top with h | h
    · omega
    · rw [show n - 1 = p + 1 from by omega] at h
      exact Nat.div_pos h (Nat.pow_pos W64_pos)
  have yl : dg W64 A p1 < 18446744073709551616 := W64_lt (dg_lt W64_pos _ _)
  obtain ⟨hz1, hz2⟩ := lz_sum y0' (show dg W64 A p1 < W64 from yl)
  obtain ⟨hz3, hz4⟩ := lz_top y0' (show dg W64 A p1 < W64 from yl)
  have HNL := Lib.hid (fun w' => nlz_any (dg W64 A p1) y0' yl w')
  obtain ⟨s, hs⟩ : ∃ s, s = lz (dg W64 A p1) := ⟨_, rfl⟩
  rw [← hs] at hz2 hz4 HNL
  clear hs hz1 hz3
  obtain ⟨t, hst⟩ : ∃ t, s + t = 64 := ⟨64 - s, by omega⟩
  have hsub : (64 : Int) - s = t := by omega
  have ht0 : 0 < t := by omega
  obtain ⟨T, hT⟩ : ∃ T, T = W64 ^ p * 2 ^ t := ⟨_, rfl⟩
  have hT0 : 0 < T := by rw [hT]; exact Nat.mul_pos (Nat.pow_pos W64_pos) (Nat.pow_pos (by decide))
  have htA := sim_top hst hAl (by rw [← hp1]; exact hz4)
  rw [← hT, ← hp1] at htA
  have hOA := bits_orS (dg W64 A p1) (dg W64 A p) s t (dg_lt W64_pos _ _)
  rw [htA.1] at hOA
  obtain ⟨X, hX⟩ : ∃ X, X = A / T := ⟨_, rfl⟩
  rw [← hX] at hOA htA
  have hXl : X < 18446744073709551616 := htA.2
  obtain ⟨Y, hY⟩ : ∃ Y, Y = B / T := ⟨_, rfl⟩
  have hYX : Y ≤ X := by rw [hX, hY]; exact Nat.div_le_div_right hle
  have hBl : B < W64 ^ (p + 2) := by rw [← hp, hnm]; exact hB.lt
  have z1 := hB.cell (i := p1) (by omega)
  have z0 := hB.cell (i := p) (by omega)
  rw [Nat.zero_add] at z1 z0
  have hdle : dg W64 B p1 ≤ dg W64 A p1 := by
    rw [hp1, top_word hAl, top_word hBl]; exact Nat.div_le_div_right hle
  have htB := sim_top hst hBl (by rw [← hp1]; exact Nat.lt_of_le_of_lt (Nat.mul_le_mul_right _ hdle) hz4)
  rw [← hT, ← hp1] at htB
  have hOB := bits_orS (dg W64 B p1) (dg W64 B p) s t (dg_lt W64_pos _ _)
  rw [htB.1, ← hY] at hOB
  have yb1 : dg W64 B p1 < 18446744073709551616 := W64_lt (dg_lt W64_pos _ _)
  have yb0 : dg W64 B p < 18446744073709551616 := W64_lt (dg_lt W64_pos _ _)
  have ya0 : dg W64 A p < 18446744073709551616 := W64_lt (dg_lt W64_pos _ _)
  have l3 : (p1 : Int) < m := by omega
  have l4 : (p : Int) < m := by omega
  have hnm' : ((n : Int) == m) = true := by simp; omega
  have HST := Lib.hid (SimAt.start (show X < W64 from htA.2) hYX)
  have HDN := Lib.hid (fun (a1 a2 u0 u1 u2 v0 v1 v2 : Nat) (even : Bool) (h : SimAt X Y a1 a2 u0 u1 u2 v0 v1 v2 even) => h.done hX hY hT0 hB0)
  clear htA hX hY hT hT0 hB0 hle hAl hp hp1 hA hB hz4 y0'
  clear htB hBl hdle hnm
  generalize dg W64 A p1 = ax1 at *
  generalize dg W64 A p = ax0 at *
  generalize dg W64 B p1 = bx1 at *
  generalize dg W64 B p = bx0 at *
  go_enter Tryz.func245, Tryz.ntmps245
  go_wp2_with fail
  refine (HNL.out _).mono ?_
  rintro e w1 ⟨rfl, rfl⟩
  go_upto_region 5 with fail
  go_quiet (fail)
  clear x0 x1 p0 hOA
  have hb1 : Below w1.heap.size w1 (w1.drewN nq) := below_drewN (Below.refl _ _) nq
  have q1 := cell_keep q0 hb1
  have z1' := cell_keep z1 hb1
  have z0' := cell_keep z0 hb1
  clear q0 z1 z0
  generalize w1.drewN nq = W1 at *
  go_upto_region 8 with fail
  go_quiet (fail)
  have HB1 := Lib.hid (hb1.trans (below_drewN (Below.refl _ _) nq : Below w1.heap.size W1 (W1.drewN nq)))
  clear q1 z1' z0' hOB hb1
  generalize W1.drewN nq = W2 at *
  go_upto_region 11 with fail
  go_wp2
  go_loopw [4, 5, 6, 7, 8, 9, 10, 11, 12, 16, 17] (fun s4 s5 s6 s7 s8 s9 s10 s11 s12 _ _ wr => ∃ (u0 u1 v0 v1 u2 v2 a1 a2 : Nat) (even : Bool), s4 = .int .u64 u0 ∧ s5 = .int .u64 u1 ∧ s6 = .int .u64 v0 ∧ s7 = .int .u64 v1 ∧ s8 = .bool even ∧ s9 = .int .u64 a1 ∧ s10 = .int .u64 a2 ∧ s11 = .int .u64 u2 ∧ s12 = .int .u64 v2 ∧ SimAt X Y a1 a2 u0 u1 u2 v0 v1 v2 even ∧ Below w1.heap.size w1 wr)
    (fun _ _ _ _ _ _ s10 _ _ _ _ _ => (intOf s10).toNat)
  case atStart => exact ⟨0, 1, 0, 0, 0, 1, X, Y, false, rfl, rfl, rfl, rfl, rfl, rfl, rfl, rfl, rfl, HST.out, HB1.out⟩
  case round =>
    obtain ⟨u0, u1, v0, v1, u2, v2, a1, a2, even, rfl, rfl, rfl, rfl, rfl, rfl, rfl, rfl, rfl, hI, hbw⟩ := hrel
    have HI := Lib.hid hI
    have HBW := Lib.hid hbw
    have HBS := Lib.hid hbw.size
    obtain ⟨e0, e1, e2, e3, e4, e5, e6⟩ := hI.lt
    unfold W64 at e0 e1 e2 e3 e4 e5 e6
    have e7 := hI.st.le
    clear hI hbw
    by_cases c1 : v2 ≤ a2
    · have hro := HI.out.room c1
      unfold W64 at hro
      obtain ⟨f0, f1, f2⟩ := hro
      have g1 : (v2 : Int) ≤ a2 := by omega
      have g2 : IntKind.u64.wrap ((a1 : Int) - (a2 : Int)) = (a1 : Int) - a2 := by rw [IntKind.wrap_u64]; omega
      have g3 : IntKind.u64.wrap ((v1 : Int) + (v2 : Int)) = (v1 : Int) + v2 := by rw [IntKind.wrap_u64]; omega
      by_cases c2 : v1 + v2 ≤ a1 - a2
      · have g4 : (v1 : Int) + v2 ≤ (a1 : Int) - a2 := by omega
        have hS := HI.out.step c1 c2
        have HS := Lib.hid hS.1
        have hqq : a1 / a2 < 18446744073709551616 := Nat.lt_of_le_of_lt (Nat.div_le_self _ _) (by omega)
        have hrr : a1 % a2 < a2 := Nat.mod_lt _ f0
        have hz : ((a2 : Int) == 0) = false := by simp; omega
        have hz' : ¬ (a2 : Int) = 0 := by omega
        have hq1 : (a1 : Int) / (a2 : Int) = ((a1 / a2 : Nat) : Int) := by simp
        have hq2 : (a1 : Int).tdiv (a2 : Int) = ((a1 / a2 : Nat) : Int) := by rw [Int.tdiv_eq_ediv_of_nonneg (Int.natCast_nonneg _)]; simp
        have hr1 : (a1 : Int) % (a2 : Int) = ((a1 % a2 : Nat) : Int) := by simp
        have hr2 : (a1 : Int).tmod (a2 : Int) = ((a1 % a2 : Nat) : Int) := by rw [Int.tmod_eq_emod_of_nonneg (Int.natCast_nonneg _)]; simp
        have hul := hS.2.1
        have hvl := hS.2.2
        unfold W64 at hul hvl
        have hm1 : ((a1 / a2 : Nat) : Int) * (u2 : Int) = ((a1 / a2 * u2 : Nat) : Int) := by simp
        have hm2 : ((a1 / a2 : Nat) : Int) * (v2 : Int) = ((a1 / a2 * v2 : Nat) : Int) := by simp
        clear hS
        generalize a1 / a2 = q at *
        generalize a1 % a2 = r at *
        obtain ⟨qu, hqu⟩ : ∃ qu, qu = q * u2 := ⟨_, rfl⟩
        obtain ⟨qv, hqv⟩ : ∃ qv, qv = q * v2 := ⟨_, rfl⟩
        rw [← hqu] at hm1 hul HS
        rw [← hqv] at hm2 hvl HS
        clear hqu hqv
        have hw1 : IntKind.u64.wrap ((u1 : Int) + (qu : Int)) = ((u1 + qu : Nat) : Int) := by rw [IntKind.wrap_u64]; omega
        have hw2 : IntKind.u64.wrap ((v1 : Int) + (qv : Int)) = ((v1 + qv : Nat) : Int) := by rw [IntKind.wrap_u64]; omega
        have hc1 : ((u1 + qu : Nat) : Int) = (u1 : Int) + qu := by omega
        have hc2 : ((v1 + qv : Nat) : Int) = (v1 : Int) + qv := by omega
        have hd0 : ∀ k, Below w1.heap.size w1 (wr.drewN k) := fun k => HBW.out.trans (below_drewN (Below.refl _ _) k)
        have HD0 := Lib.hid hd0
        clear hd0
        go_upto_region 15 with fail
        go_quiet (fail)
        go_wp2
        go_roundw
        case rel => exact ⟨u1, u2, v1, v2, u1 + qu, v1 + qv, a2, r, !even, rfl, rfl, rfl, rfl, rfl, rfl, rfl, by simp only [hc1], by simp only [hc2], HS.out, HD0.out _⟩
        case measure => simp [intOf]; omega
      · have g4 : ¬ (v1 : Int) + v2 ≤ (a1 : Int) - a2 := by omega
        go_wp2
        exact bodyPost_ret (v := .tuple #[.int .u64 (u0 : Nat), .int .u64 (u1 : Nat), .int .u64 (v0 : Nat), .int .u64 (v1 : Nat), .bool even]) (by simp [results, Tryz.results245, go_sem]) rfl ⟨_, _, _, _, _, rfl, HDN.out _ _ _ _ _ _ _ _ _ HI.out, HBW.out⟩
    · have g1 : ¬ (v2 : Int) ≤ a2 := by omega
      go_wp2
      exact bodyPost_ret (v := .tuple #[.int .u64 (u0 : Nat), .int .u64 (u1 : Nat), .int .u64 (v0 : Nat), .int .u64 (v1 : Nat), .bool even]) (by simp [results, Tryz.results245, go_sem]) rfl ⟨_, _, _, _, _, rfl, HDN.out _ _ _ _ _ _ _ _ _ HI.out, HBW.out⟩
theorem simulate_one (ba bb ga gb n m ca cb A B : Nat) (w : World) (p0 : w.cell? ⟨ba, 1, none⟩ = some (.slice (some ⟨ga, 0, none⟩) n ca)) (q0 : w.cell? ⟨bb, 1, none⟩ = some (.slice (some ⟨gb, 0, none⟩) m cb)) (hA : NumAt .u64 W64 w (some ⟨ga, 0, none⟩) n ca A) (hB : NumAt .u64 W64 w (some ⟨gb, 0, none⟩) m cb B) (hm : 2 ≤ m) (hle : B ≤ A) (hn : n ≤ 900000) (hnm : n = m + 1) :
    Calls Tryz.prog 245 #[.pointer (some ⟨ba, 0, none⟩), .pointer (some ⟨bb, 0, none⟩)] w (SimIs A B w) := by
  obtain ⟨p, hp⟩ : ∃ p, n = p + 2 := ⟨n - 2, by omega⟩
  obtain ⟨p1, hp1⟩ : ∃ p1, p1 = p + 1 := ⟨_, rfl⟩
  have hmb : m ≤ 900000 := by omega
  have hi1 : (n : Int) - 1 = p1 := by omega
  have hi2 : (n : Int) - 2 = p := by omega
  have l1 : (p1 : Int) < n := by omega
  have l2 : (p : Int) < n := by omega
  have hca := hA.nc
  have hcam := hA.cm
  have hcb := hB.nc
  have hcbm := hB.cm
  unfold maxLen at hcam hcbm
  have hAl : A < W64 ^ (p + 2) := by rw [← hp]; exact hA.lt
  have hB0 : 0 < B := by
    rcases hB.top with h | h
    · omega
    · exact Nat.lt_of_lt_of_le (Nat.pow_pos W64_pos) h
  have x1 := hA.cell (i := p1) (by omega)
  have x0 := hA.cell (i := p) (by omega)
  rw [Nat.zero_add] at x1 x0
  have y0' : 0 < dg W64 A p1 := by
    rw [hp1, top_word hAl]
    rcases hA.top with h | h
    · omega
    · rw [show n - 1 = p + 1 from by omega] at h
      exact Nat.div_pos h (Nat.pow_pos W64_pos)
  have yl : dg W64 A p1 < 18446744073709551616 := W64_lt (dg_lt W64_pos _ _)
  obtain ⟨hz1, hz2⟩ := lz_sum y0' (show dg W64 A p1 < W64 from yl)
  obtain ⟨hz3, hz4⟩ := lz_top y0' (show dg W64 A p1 < W64 from yl)
  have HNL := Lib.hid (fun w' => nlz_any (dg W64 A p1) y0' yl w')
  obtain ⟨s, hs⟩ : ∃ s, s = lz (dg W64 A p1) := ⟨_, rfl⟩
  rw [← hs] at hz2 hz4 HNL
  clear hs hz1 hz3
  obtain ⟨t, hst⟩ : ∃ t, s + t = 64 := ⟨64 - s, by omega⟩
  have hsub : (64 : Int) - s = t := by omega
  have ht0 : 0 < t := by omega
  obtain ⟨T, hT⟩ : ∃ T, T = W64 ^ p * 2 ^ t := ⟨_, rfl⟩
  have hT0 : 0 < T := by rw [hT]; exact Nat.mul_pos (Nat.pow_pos W64_pos) (Nat.pow_pos (by decide))
  have htA := sim_top hst hAl (by rw [← hp1]; exact hz4)
  rw [← hT, ← hp1] at htA
  have hOA := bits_orS (dg W64 A p1) (dg W64 A p) s t (dg_lt W64_pos _ _)
  rw [htA.1] at hOA
  obtain ⟨X, hX⟩ : ∃ X, X = A / T := ⟨_, rfl⟩
  rw [← hX] at hOA htA
  have hXl : X < 18446744073709551616 := htA.2
  obtain ⟨Y, hY⟩ : ∃ Y, Y = B / T := ⟨_, rfl⟩
  have hYX : Y ≤ X := by rw [hX, hY]; exact Nat.div_le_div_right hle
  have hBl : B < W64 ^ (p + 1) := by rw [show p + 1 = m from by omega]; exact hB.lt
  have z0 := hB.cell (i := p) (by omega)
  rw [Nat.zero_add] at z0
  have htB := sim_one (t := t) hBl
  rw [← hT, ← hY] at htB
  have hOB : (dg W64 B p : Int) / 2 ^ t = (Y : Int) := by
    have : ((dg W64 B p / 2 ^ t : Nat) : Int) = (Y : Int) := by rw [htB]
    simpa using this
  have yb0 : dg W64 B p < 18446744073709551616 := W64_lt (dg_lt W64_pos _ _)
  have ya0 : dg W64 A p < 18446744073709551616 := W64_lt (dg_lt W64_pos _ _)
  have l4 : (p : Int) < m := by omega
  have hnm' : ((n : Int) == m) = false := by simp; omega
  have hnm2 : ((n : Int) == (m : Int) + 1) = true := by simp; omega
  have HST := Lib.hid (SimAt.start (show X < W64 from htA.2) hYX)
  have HDN := Lib.hid (fun (a1 a2 u0 u1 u2 v0 v1 v2 : Nat) (even : Bool) (h : SimAt X Y a1 a2 u0 u1 u2 v0 v1 v2 even) => h.done hX hY hT0 hB0)
  clear htA hX hY hT hT0 hB0 hle hAl hp hp1 hA hB hz4 y0'
  clear htB hBl hnm
  generalize dg W64 A p1 = ax1 at *
  generalize dg W64 A p = ax0 at *
  generalize dg W64 B p = bx0 at *
  go_enter Tryz.func245, Tryz.ntmps245
  go_wp2_with fail
  refine (HNL.out _).mono ?_
  rintro e w1 ⟨rfl, rfl⟩
  go_upto_region 5 with fail
  go_quiet (fail)
  clear x0 x1 p0 hOA
  have hb1 : Below w1.heap.size w1 (w1.drewN nq) := below_drewN (Below.refl _ _) nq
  have q1 := cell_keep q0 hb1
  have z0' := cell_keep z0 hb1
  clear q0 z0
  generalize w1.drewN nq = W1 at *
  have HB1 := Lib.hid hb1
  clear hb1
  go_upto_region 11 with fail
  go_wp2
  go_loopw [4, 5, 6, 7, 8, 9, 10, 11, 12, 16, 17] (fun s4 s5 s6 s7 s8 s9 s10 s11 s12 _ _ wr => ∃ (u0 u1 v0 v1 u2 v2 a1 a2 : Nat) (even : Bool), s4 = .int .u64 u0 ∧ s5 = .int .u64 u1 ∧ s6 = .int .u64 v0 ∧ s7 = .int .u64 v1 ∧ s8 = .bool even ∧ s9 = .int .u64 a1 ∧ s10 = .int .u64 a2 ∧ s11 = .int .u64 u2 ∧ s12 = .int .u64 v2 ∧ SimAt X Y a1 a2 u0 u1 u2 v0 v1 v2 even ∧ Below w1.heap.size w1 wr)
    (fun _ _ _ _ _ _ s10 _ _ _ _ _ => (intOf s10).toNat)
  case atStart => exact ⟨0, 1, 0, 0, 0, 1, X, Y, false, rfl, rfl, rfl, rfl, rfl, rfl, rfl, rfl, rfl, HST.out, HB1.out⟩
  case round =>
    obtain ⟨u0, u1, v0, v1, u2, v2, a1, a2, even, rfl, rfl, rfl, rfl, rfl, rfl, rfl, rfl, rfl, hI, hbw⟩ := hrel
    have HI := Lib.hid hI
    have HBW := Lib.hid hbw
    have HBS := Lib.hid hbw.size
    obtain ⟨e0, e1, e2, e3, e4, e5, e6⟩ := hI.lt
    unfold W64 at e0 e1 e2 e3 e4 e5 e6
    have e7 := hI.st.le
    clear hI hbw
    by_cases c1 : v2 ≤ a2
    · have hro := HI.out.room c1
      unfold W64 at hro
      obtain ⟨f0, f1, f2⟩ := hro
      have g1 : (v2 : Int) ≤ a2 := by omega
      have g2 : IntKind.u64.wrap ((a1 : Int) - (a2 : Int)) = (a1 : Int) - a2 := by rw [IntKind.wrap_u64]; omega
      have g3 : IntKind.u64.wrap ((v1 : Int) + (v2 : Int)) = (v1 : Int) + v2 := by rw [IntKind.wrap_u64]; omega
      by_cases c2 : v1 + v2 ≤ a1 - a2
      · have g4 : (v1 : Int) + v2 ≤ (a1 : Int) - a2 := by omega
        have hS := HI.out.step c1 c2
        have HS := Lib.hid hS.1
        have hqq : a1 / a2 < 18446744073709551616 := Nat.lt_of_le_of_lt (Nat.div_le_self _ _) (by omega)
        have hrr : a1 % a2 < a2 := Nat.mod_lt _ f0
        have hz : ((a2 : Int) == 0) = false := by simp; omega
        have hz' : ¬ (a2 : Int) = 0 := by omega
        have hq1 : (a1 : Int) / (a2 : Int) = ((a1 / a2 : Nat) : Int) := by simp
        have hq2 : (a1 : Int).tdiv (a2 : Int) = ((a1 / a2 : Nat) : Int) := by rw [Int.tdiv_eq_ediv_of_nonneg (Int.natCast_nonneg _)]; simp
        have hr1 : (a1 : Int) % (a2 : Int) = ((a1 % a2 : Nat) : Int) := by simp
        have hr2 : (a1 : Int).tmod (a2 : Int) = ((a1 % a2 : Nat) : Int) := by rw [Int.tmod_eq_emod_of_nonneg (Int.natCast_nonneg _)]; simp
        have hul := hS.2.1
        have hvl := hS.2.2
        unfold W64 at hul hvl
        have hm1 : ((a1 / a2 : Nat) : Int) * (u2 : Int) = ((a1 / a2 * u2 : Nat) : Int) := by simp
        have hm2 : ((a1 / a2 : Nat) : Int) * (v2 : Int) = ((a1 / a2 * v2 : Nat) : Int) := by simp
        clear hS
        generalize a1 / a2 = q at *
        generalize a1 % a2 = r at *
        obtain ⟨qu, hqu⟩ : ∃ qu, qu = q * u2 := ⟨_, rfl⟩
        obtain ⟨qv, hqv⟩ : ∃ qv, qv = q * v2 := ⟨_, rfl⟩
        rw [← hqu] at hm1 hul HS
        rw [← hqv] at hm2 hvl HS
        clear hqu hqv
        have hw1 : IntKind.u64.wrap ((u1 : Int) + (qu : Int)) = ((u1 + qu : Nat) : Int) := by rw [IntKind.wrap_u64]; omega
        have hw2 : IntKind.u64.wrap ((v1 : Int) + (qv : Int)) = ((v1 + qv : Nat) : Int) := by rw [IntKind.wrap_u64]; omega
        have hc1 : ((u1 + qu : Nat) : Int) = (u1 : Int) + qu := by omega
        have hc2 : ((v1 + qv : Nat) : Int) = (v1 : Int) + qv := by omega
        have hd0 : ∀ k, Below w1.heap.size w1 (wr.drewN k) := fun k => HBW.out.trans (below_drewN (Below.refl _ _) k)
        have HD0 := Lib.hid hd0
        clear hd0
        go_upto_region 15 with fail
        go_quiet (fail)
        go_wp2
        go_roundw
        case rel => exact ⟨u1, u2, v1, v2, u1 + qu, v1 + qv, a2, r, !even, rfl, rfl, rfl, rfl, rfl, rfl, rfl, by simp only [hc1], by simp only [hc2], HS.out, HD0.out _⟩
        case measure => simp [intOf]; omega
      · have g4 : ¬ (v1 : Int) + v2 ≤ (a1 : Int) - a2 := by omega
        go_wp2
        exact bodyPost_ret (v := .tuple #[.int .u64 (u0 : Nat), .int .u64 (u1 : Nat), .int .u64 (v0 : Nat), .int .u64 (v1 : Nat), .bool even]) (by simp [results, Tryz.results245, go_sem]) rfl ⟨_, _, _, _, _, rfl, HDN.out _ _ _ _ _ _ _ _ _ HI.out, HBW.out⟩
    · have g1 : ¬ (v2 : Int) ≤ a2 := by omega
      go_wp2
      exact bodyPost_ret (v := .tuple #[.int .u64 (u0 : Nat), .int .u64 (u1 : Nat), .int .u64 (v0 : Nat), .int .u64 (v1 : Nat), .bool even]) (by simp [results, Tryz.results245, go_sem]) rfl ⟨_, _, _, _, _, rfl, HDN.out _ _ _ _ _ _ _ _ _ HI.out, HBW.out⟩
theorem simulate_far (ba bb ga gb n m ca cb A B : Nat) (w : World) (p0 : w.cell? ⟨ba, 1, none⟩ = some (.slice (some ⟨ga, 0, none⟩) n ca)) (q0 : w.cell? ⟨bb, 1, none⟩ = some (.slice (some ⟨gb, 0, none⟩) m cb)) (hA : NumAt .u64 W64 w (some ⟨ga, 0, none⟩) n ca A) (hB : NumAt .u64 W64 w (some ⟨gb, 0, none⟩) m cb B) (hm : 2 ≤ m) (hle : B ≤ A) (hn : n ≤ 900000) (hnm : m + 2 ≤ n) :
    Calls Tryz.prog 245 #[.pointer (some ⟨ba, 0, none⟩), .pointer (some ⟨bb, 0, none⟩)] w (SimIs A B w) := by
  obtain ⟨p, hp⟩ : ∃ p, n = p + 2 := ⟨n - 2, by omega⟩
  obtain ⟨p1, hp1⟩ : ∃ p1, p1 = p + 1 := ⟨_, rfl⟩
  have hmb : m ≤ 900000 := by omega
  have hi1 : (n : Int) - 1 = p1 := by omega
  have hi2 : (n : Int) - 2 = p := by omega
  have l1 : (p1 : Int) < n := by omega
  have l2 : (p : Int) < n := by omega
  have hca := hA.nc
  have hcam := hA.cm
  have hcb := hB.nc
  have hcbm := hB.cm
  unfold maxLen at hcam hcbm
  have hAl : A < W64 ^ (p + 2) := by rw [← hp]; exact hA.lt
  have hB0 : 0 < B := by
    rcases hB.top with h | h
    · omega
    · exact Nat.lt_of_lt_of_le (Nat.pow_pos W64_pos) h
  have x1 := hA.cell (i := p1) (by omega)
  have x0 := hA.cell (i := p) (by omega)
  rw [Nat.zero_add] at x1 x0
  have y0' : 0 < dg W64 A p1 := by
    rw [hp1, top_word hAl]
    rcases hA.top with h | h
    · omega
    · rw [show n - 1 = p + 1 from by omega] at h
      exact Nat.div_pos h (Nat.pow_pos W64_pos)
  have yl : dg W64 A p1 < 18446744073709551616 := W64_lt (dg_lt W64_pos _ _)
  obtain ⟨hz1, hz2⟩ := lz_sum y0' (show dg W64 A p1 < W64 from yl)
  obtain ⟨hz3, hz4⟩ := lz_top y0' (show dg W64 A p1 < W64 from yl)
  have HNL := Lib.hid (fun w' => nlz_any (dg W64 A p1) y0' yl w')
  obtain ⟨s, hs⟩ : ∃ s, s = lz (dg W64 A p1) := ⟨_, rfl⟩
  rw [← hs] at hz2 hz4 HNL
  clear hs hz1 hz3
  obtain ⟨t, hst⟩ : ∃ t, s + t = 64 := ⟨64 - s, by omega⟩
  have hsub : (64 : Int) - s = t := by omega
  have ht0 : 0 < t := by omega
  obtain ⟨T, hT⟩ : ∃ T, T = W64 ^ p * 2 ^ t := ⟨_, rfl⟩
  have hT0 : 0 < T := by rw [hT]; exact Nat.mul_pos (Nat.pow_pos W64_pos) (Nat.pow_pos (by decide))
  have htA := sim_top hst hAl (by rw [← hp1]; exact hz4)
  rw [← hT, ← hp1] at htA
  have hOA := bits_orS (dg W64 A p1) (dg W64 A p) s t (dg_lt W64_pos _ _)
  rw [htA.1] at hOA
  obtain ⟨X, hX⟩ : ∃ X, X = A / T := ⟨_, rfl⟩
  rw [← hX] at hOA htA
  have hXl : X < 18446744073709551616 := htA.2
  obtain ⟨Y, hY⟩ : ∃ Y, Y = B / T := ⟨_, rfl⟩
  have hYX : Y ≤ X := by rw [hX, hY]; exact Nat.div_le_div_right hle
  have hY0 : Y = 0 := by rw [hY, hT]; exact sim_none hB.lt (by omega)
  have ya0 : dg W64 A p < 18446744073709551616 := W64_lt (dg_lt W64_pos _ _)
  have hnm' : ((n : Int) == m) = false := by simp; omega
  have hnm2 : ((n : Int) == (m : Int) + 1) = false := by simp; omega
  have HST := Lib.hid (SimAt.start (show X < W64 from htA.2) hYX)
  have HDN := Lib.hid (fun (a1 a2 u0 u1 u2 v0 v1 v2 : Nat) (even : Bool) (h : SimAt X Y a1 a2 u0 u1 u2 v0 v1 v2 even) => h.done hX hY hT0 hB0)
  clear htA hX hY hT hT0 hB0 hle hAl hp hp1 hA hB hz4 y0'
  clear hnm
  subst hY0
  generalize dg W64 A p1 = ax1 at *
  generalize dg W64 A p = ax0 at *
  go_enter Tryz.func245, Tryz.ntmps245
  go_wp2_with fail
  refine (HNL.out _).mono ?_
  rintro e w1 ⟨rfl, rfl⟩
  go_upto_region 5 with fail
  go_quiet (fail)
  clear x0 x1 p0 hOA
  have hb1 : Below w1.heap.size w1 (w1.drewN nq) := below_drewN (Below.refl _ _) nq
  generalize w1.drewN nq = W1 at *
  have HB1 := Lib.hid hb1
  clear hb1
  go_upto_region 11 with fail
  go_wp2
  go_loopw [4, 5, 6, 7, 8, 9, 10, 11, 12, 16, 17] (fun s4 s5 s6 s7 s8 s9 s10 s11 s12 _ _ wr => ∃ (u0 u1 v0 v1 u2 v2 a1 a2 : Nat) (even : Bool), s4 = .int .u64 u0 ∧ s5 = .int .u64 u1 ∧ s6 = .int .u64 v0 ∧ s7 = .int .u64 v1 ∧ s8 = .bool even ∧ s9 = .int .u64 a1 ∧ s10 = .int .u64 a2 ∧ s11 = .int .u64 u2 ∧ s12 = .int .u64 v2 ∧ SimAt X 0 a1 a2 u0 u1 u2 v0 v1 v2 even ∧ Below w1.heap.size w1 wr)
    (fun _ _ _ _ _ _ s10 _ _ _ _ _ => (intOf s10).toNat)
  case atStart => exact ⟨0, 1, 0, 0, 0, 1, X, 0, false, rfl, rfl, rfl, rfl, rfl, rfl, rfl, rfl, rfl, HST.out, HB1.out⟩
  case round =>
    obtain ⟨u0, u1, v0, v1, u2, v2, a1, a2, even, rfl, rfl, rfl, rfl, rfl, rfl, rfl, rfl, rfl, hI, hbw⟩ := hrel
    have HI := Lib.hid hI
    have HBW := Lib.hid hbw
    have HBS := Lib.hid hbw.size
    obtain ⟨e0, e1, e2, e3, e4, e5, e6⟩ := hI.lt
    unfold W64 at e0 e1 e2 e3 e4 e5 e6
    have e7 := hI.st.le
    clear hI hbw
    by_cases c1 : v2 ≤ a2
    · have hro := HI.out.room c1
      unfold W64 at hro
      obtain ⟨f0, f1, f2⟩ := hro
      have g1 : (v2 : Int) ≤ a2 := by omega
      have g2 : IntKind.u64.wrap ((a1 : Int) - (a2 : Int)) = (a1 : Int) - a2 := by rw [IntKind.wrap_u64]; omega
      have g3 : IntKind.u64.wrap ((v1 : Int) + (v2 : Int)) = (v1 : Int) + v2 := by rw [IntKind.wrap_u64]; omega
      by_cases c2 : v1 + v2 ≤ a1 - a2
      · have g4 : (v1 : Int) + v2 ≤ (a1 : Int) - a2 := by omega
        have hS := HI.out.step c1 c2
        have HS := Lib.hid hS.1
        have hqq : a1 / a2 < 18446744073709551616 := Nat.lt_of_le_of_lt (Nat.div_le_self _ _) (by omega)
        have hrr : a1 % a2 < a2 := Nat.mod_lt _ f0
        have hz : ((a2 : Int) == 0) = false := by simp; omega
        have hz' : ¬ (a2 : Int) = 0 := by omega
        have hq1 : (a1 : Int) / (a2 : Int) = ((a1 / a2 : Nat) : Int) := by simp
        have hq2 : (a1 : Int).tdiv (a2 : Int) = ((a1 / a2 : Nat) : Int) := by rw [Int.tdiv_eq_ediv_of_nonneg (Int.natCast_nonneg _)]; simp
        have hr1 : (a1 : Int) % (a2 : Int) = ((a1 % a2 : Nat) : Int) := by simp
        have hr2 : (a1 : Int).tmod (a2 : Int) = ((a1 % a2 : Nat) : Int) := by rw [Int.tmod_eq_emod_of_nonneg (Int.natCast_nonneg _)]; simp
        have hul := hS.2.1
        have hvl := hS.2.2
        unfold W64 at hul hvl
        have hm1 : ((a1 / a2 : Nat) : Int) * (u2 : Int) = ((a1 / a2 * u2 : Nat) : Int) := by simp
        have hm2 : ((a1 / a2 : Nat) : Int) * (v2 : Int) = ((a1 / a2 * v2 : Nat) : Int) := by simp
        clear hS
        generalize a1 / a2 = q at *
        generalize a1 % a2 = r at *
        obtain ⟨qu, hqu⟩ : ∃ qu, qu = q * u2 := ⟨_, rfl⟩
        obtain ⟨qv, hqv⟩ : ∃ qv, qv = q * v2 := ⟨_, rfl⟩
        rw [← hqu] at hm1 hul HS
        rw [← hqv] at hm2 hvl HS
        clear hqu hqv
        have hw1 : IntKind.u64.wrap ((u1 : Int) + (qu : Int)) = ((u1 + qu : Nat) : Int) := by rw [IntKind.wrap_u64]; omega
        have hw2 : IntKind.u64.wrap ((v1 : Int) + (qv : Int)) = ((v1 + qv : Nat) : Int) := by rw [IntKind.wrap_u64]; omega
        have hc1 : ((u1 + qu : Nat) : Int) = (u1 : Int) + qu := by omega
        have hc2 : ((v1 + qv : Nat) : Int) = (v1 : Int) + qv := by omega
        have hd0 : ∀ k, Below w1.heap.size w1 (wr.drewN k) := fun k => HBW.out.trans (below_drewN (Below.refl _ _) k)
        have HD0 := Lib.hid hd0
        clear hd0
        go_upto_region 15 with fail
        go_quiet (fail)
        go_wp2
        go_roundw
        case rel => exact ⟨u1, u2, v1, v2, u1 + qu, v1 + qv, a2, r, !even, rfl, rfl, rfl, rfl, rfl, rfl, rfl, by simp only [hc1], by simp only [hc2], HS.out, HD0.out _⟩
        case measure => simp [intOf]; omega
      · have g4 : ¬ (v1 : Int) + v2 ≤ (a1 : Int) - a2 := by omega
        go_wp2
        exact bodyPost_ret (v := .tuple #[.int .u64 (u0 : Nat), .int .u64 (u1 : Nat), .int .u64 (v0 : Nat), .int .u64 (v1 : Nat), .bool even]) (by simp [results, Tryz.results245, go_sem]) rfl ⟨_, _, _, _, _, rfl, HDN.out _ _ _ _ _ _ _ _ _ HI.out, HBW.out⟩
    · have g1 : ¬ (v2 : Int) ≤ a2 := by omega
      go_wp2
      exact bodyPost_ret (v := .tuple #[.int .u64 (u0 : Nat), .int .u64 (u1 : Nat), .int .u64 (v0 : Nat), .int .u64 (v1 : Nat), .bool even]) (by simp [results, Tryz.results245, go_sem]) rfl ⟨_, _, _, _, _, rfl, HDN.out _ _ _ _ _ _ _ _ _ HI.out, HBW.out⟩
theorem simulate_any (ba bb ga gb n m ca cb A B : Nat) (w : World) (p0 : w.cell? ⟨ba, 1, none⟩ = some (.slice (some ⟨ga, 0, none⟩) n ca)) (q0 : w.cell? ⟨bb, 1, none⟩ = some (.slice (some ⟨gb, 0, none⟩) m cb)) (hA : NumAt .u64 W64 w (some ⟨ga, 0, none⟩) n ca A) (hB : NumAt .u64 W64 w (some ⟨gb, 0, none⟩) m cb B) (hm : 2 ≤ m) (hle : B ≤ A) (hn : n ≤ 900000) :
    Calls Tryz.prog 245 #[.pointer (some ⟨ba, 0, none⟩), .pointer (some ⟨bb, 0, none⟩)] w (SimIs A B w) := by
  have hmn : m ≤ n := len_le W64_gt hB.top (Nat.lt_of_le_of_lt hle hA.lt)
  by_cases h1 : n = m
  · exact simulate_same ba bb ga gb n m ca cb A B w p0 q0 hA hB hm hle hn h1
  · by_cases h2 : n = m + 1
    · exact simulate_one ba bb ga gb n m ca cb A B w p0 q0 hA hB hm hle hn h2
    · exact simulate_far ba bb ga gb n m ca cb A B w p0 q0 hA hB hm hle hn (by omega)
end Go.Proofs.YtececkbcinmmpaaGreatDoor
