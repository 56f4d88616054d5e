/-
  nat.cmp, Int.Cmp.
-/
import Derived.Test.YtdepmbpickonoaaGreatDoorBigG
import Derived.Test.YtdepmbpickonoaaGreatDoorSpec2
import Derived.LaidEqlPtr
set_option linter.unusedSimpArgs false
set_option linter.unusedVariables false
namespace Go.Bg
open Go.RowKit
theorem quiet_of2 {P : Program} {f : FuncId} {args : Array Value} {w : World} {q n : Nat} {v : Value}
    (h : Calls P f args (w.drewN (q + n)) fun e w' => e = .returned v ∧ ∃ m, w' = (w.drewN (q + n)).drewN m) : Calls P f args (w.drewN (q + n)) fun e w'' => e = .returned v ∧ ∃ m, w'' = w.drewN (q + m) :=
  h.mono fun _ _ ⟨he, m, hm⟩ => ⟨he, n + m, by rw [hm, World.drewN_drewN, Nat.add_assoc]⟩
theorem NumAt.drewN {k : IntKind} {B : Nat} {w : World} {a : Option Addr} {n c N : Nat} (h : NumAt k B w a n c N) (m : Nat) : NumAt k B (w.drewN m) a n c N := h.keep (below_of_drewN ⟨m, rfl⟩)
end Go.Bg
namespace Go.Proofs.YtdepmbpickonoaaGreatDoor
open Go.RowKit Go.Bg Dg

set_option maxRecDepth 100000 in
set_option maxHeartbeats 2000000 in
theorem natCmp_any (a1 a2 : Option Addr) (n1 n2 c1 c2 N1 N2 : Nat) (w : World) (h1 : NumAt .u64 W64 w a1 n1 c1 N1) (h2 : NumAt .u64 W64 w a2 n2 c2 N2) :
    Calls Tryz.prog 43 #[.slice a1 n1 c1, .slice a2 n2 c2] w fun e w' => e = .returned (.int .i64 (cmpI N1 N2)) ∧ ∃ m, w' = w.drewN m := by
  have hm1 := h1.cm
  have hm2 := h2.cm
  have hc1 := h1.nc
  have hc2 := h2.nc
  unfold maxLen at hm1 hm2
  rcases Nat.lt_trichotomy n1 n2 with hlt | heq | hgt
  · have hr : cmpI N1 N2 = -1 := if_pos (lt_of_len W64_gt h1.lt h2.top hlt)
    rw [hr]
    clear hr h1 h2
    have hne : ((n1 : Int) == n2) = false := by simp; omega
    go_enter Tryz.func43, Tryz.ntmps43
    go_wp2
    go_ret
    exact ⟨rfl, 0, rfl⟩
  · subst heq
    by_cases hz : n1 = 0
    · subst hz
      have e1 : N1 = 0 := by have := h1.lt; simpa using this
      have e2 : N2 = 0 := by have := h2.lt; simpa using this
      subst e1
      subst e2
      clear h1 h2
      go_enter Tryz.func43, Tryz.ntmps43
      go_wp2
      go_ret
      exact ⟨rfl, 0, rfl⟩
    have hz1 : ((n1 : Int) == 0) = false := by simpa using hz
    obtain ⟨b1, o1, rfl, _⟩ := h1.form (by omega)
    obtain ⟨b2, o2, rfl, _⟩ := h2.form (by omega)
    have H1 := Lib.hid h1
    have H2 := Lib.hid h2
    have HA := Lib.hid (show N1 / W64 ^ n1 = N2 / W64 ^ n1 from by rw [Nat.div_eq_of_lt h1.lt, Nat.div_eq_of_lt h2.lt])
    clear h1 h2
    go_enter Tryz.func43, Tryz.ntmps43
    go_wp2
    go_loopw [7] (fun i wr => ∃ k : Nat, k < n1 ∧ i = .int .i64 (k : Int) ∧ N1 / W64 ^ (k + 1) = N2 / W64 ^ (k + 1) ∧ ∃ q, wr = w.drewN q) (fun i _ => (intOf i).toNat)
    case atStart => exact ⟨n1 - 1, by omega, by go_num, by rw [show n1 - 1 + 1 = n1 from by omega]; exact HA.out, 0, rfl⟩
    case round =>
      obtain ⟨k, hm, rfl, heq, q, rfl⟩ := hrel
      have e1 := H1.out.cell (i := k) (by omega)
      have e2 := H2.out.cell (i := k) (by omega)
      have d1 : dg W64 N1 k < 18446744073709551616 := W64_lt (dg_lt W64_pos _ _)
      have d2 : dg W64 N2 k < 18446744073709551616 := W64_lt (dg_lt W64_pos _ _)
      have HE := Lib.hid heq
      clear heq
      rcases Nat.lt_trichotomy (dg W64 N1 k) (dg W64 N2 k) with hX | hX | hX
      · have HR := Lib.hid (show cmpI N1 N2 = -1 from if_pos (lt_of_cut HE.out hX))
        have hb : decide (dg W64 N1 k < dg W64 N2 k) = true := by simpa using hX
        have hb2 : ((dg W64 N1 k : Int) == dg W64 N2 k) = false := by simp; omega
        generalize dg W64 N1 k = x1 at *
        generalize dg W64 N2 k = x2 at *
        clear hX
        by_cases h0 : 0 < k
        · have hk : decide (0 < (k : Int)) = true := by simpa using h0
          go_wp2
          go_quiet (fail)
          go_wp2
          go_quiet (fail)
          go_wp2
          go_ret
          exact ⟨ret_int HR.out.symm, drewN_ex (by (try simp only [World.drewN_drewN]); exact rfl)⟩
        · have hk : decide (0 < (k : Int)) = false := by simp; omega
          go_wp2
          go_quiet (fail)
          go_wp2
          go_quiet (fail)
          go_wp2
          go_ret
          exact ⟨ret_int HR.out.symm, drewN_ex (by (try simp only [World.drewN_drewN]); exact rfl)⟩
      · have HEQ := Lib.hid (eq_of_cut HE.out hX)
        generalize dg W64 N1 k = x1 at *
        generalize dg W64 N2 k = x2 at *
        subst hX
        by_cases h0 : 0 < k
        · have hk : decide (0 < (k : Int)) = true := by simpa using h0
          go_wp2
          go_quiet (fail)
          go_wp2
          go_roundw
          case rel => exact ⟨k - 1, by omega, by go_num, by rw [show k - 1 + 1 = k from by omega]; exact HEQ.out, drewN_ex (by (try simp only [World.drewN_drewN]); exact rfl)⟩
          case measure => simp [intOf]; omega
        · have hk : decide (0 < (k : Int)) = false := by simp; omega
          have hr : cmpI N1 N2 = 0 := by
            have := HEQ.out
            obtain rfl : k = 0 := by omega
            simp at this
            rw [cmpI, if_neg (by omega), if_neg (by omega)]
          have HR := Lib.hid hr
          clear hr
          go_wp2
          go_quiet (fail)
          go_wp2
          go_quiet (fail)
          go_wp2
          go_quiet (fail)
          go_wp2
          go_ret
          exact ⟨ret_int HR.out.symm, drewN_ex (by (try simp only [World.drewN_drewN]); exact rfl)⟩
      · have HR := Lib.hid (show cmpI N1 N2 = 1 from (by rw [cmpI, if_neg (Nat.not_lt_of_gt (lt_of_cut HE.out.symm hX)), if_pos (lt_of_cut HE.out.symm hX)]))
        have hb : decide (dg W64 N1 k < dg W64 N2 k) = false := by simp; omega
        have hb1 : decide (dg W64 N2 k < dg W64 N1 k) = true := by simpa using hX
        have hb2 : ((dg W64 N1 k : Int) == dg W64 N2 k) = false := by simp; omega
        generalize dg W64 N1 k = x1 at *
        generalize dg W64 N2 k = x2 at *
        clear hX
        by_cases h0 : 0 < k
        · have hk : decide (0 < (k : Int)) = true := by simpa using h0
          go_wp2
          go_quiet (fail)
          go_wp2
          go_quiet (fail)
          go_wp2
          go_quiet (fail)
          go_wp2
          go_ret
          exact ⟨ret_int HR.out.symm, drewN_ex (by (try simp only [World.drewN_drewN]); exact rfl)⟩
        · have hk : decide (0 < (k : Int)) = false := by simp; omega
          go_wp2
          go_quiet (fail)
          go_wp2
          go_quiet (fail)
          go_wp2
          go_quiet (fail)
          go_wp2
          go_ret
          exact ⟨ret_int HR.out.symm, drewN_ex (by (try simp only [World.drewN_drewN]); exact rfl)⟩
  · have h := lt_of_len W64_gt h2.lt h1.top hgt
    have hr : cmpI N1 N2 = 1 := by rw [cmpI, if_neg (by omega), if_pos h]
    rw [hr]
    clear hr h h1 h2
    have hne : ((n1 : Int) == n2) = false := by simp; omega
    go_enter Tryz.func43, Tryz.ntmps43
    go_wp2
    go_ret
    exact ⟨rfl, 0, rfl⟩
end Go.Proofs.YtdepmbpickonoaaGreatDoor
