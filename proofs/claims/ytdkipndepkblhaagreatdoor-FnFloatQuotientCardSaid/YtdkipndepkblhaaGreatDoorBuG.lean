/-
  nat.cmp, Int.Cmp.
  Int.Cmp, match, Compare.
  match of two integers; Compare.
  Compare of two integers; the thin package's Compare.
  NewInt.
  nat.set, Int.Set, Int.Neg into a number that holds nothing yet.
-/
import Derived.Test.YtdkipndepkblhaaGreatDoorBuF
import Derived.Test.YtdkipndepkblhaaGreatDoorBuB
import Derived.LaidEqlPtr
import Derived.Laws.CopyOwn
import Derived.Lib.Builder
set_option linter.unusedSimpArgs false
set_option linter.unusedVariables false
namespace Go.Bg
open Go.RowKit
theorem quiet_of2 {P : Program} {f : FuncId} {args : Array Value} {w : World} {q n : Nat} {v : Value}
    (h : Calls P f args (w.drewN (q + n)) fun e w' => e = .returned v ∧ ∃ m, w' = (w.drewN (q + n)).drewN m) : Calls P f args (w.drewN (q + n)) fun e w'' => e = .returned v ∧ ∃ m, w'' = w.drewN (q + m) :=
  h.mono fun _ _ ⟨he, m, hm⟩ => ⟨he, n + m, by rw [hm, World.drewN_drewN, Nat.add_assoc]⟩
theorem NumAt.drewN {k : IntKind} {B : Nat} {w : World} {a : Option Addr} {n c N : Nat} (h : NumAt k B w a n c N) (m : Nat) : NumAt k B (w.drewN m) a n c N := h.keep (below_of_drewN ⟨m, rfl⟩)
end Go.Bg
namespace Go.Proofs.YtdkipndepkblhaaGreatDoor
open Go.RowKit Go.Bg Dg

set_option maxRecDepth 100000 in
set_option maxHeartbeats 2000000 in
theorem natCmp_any (a1 a2 : Option Addr) (n1 n2 c1 c2 N1 N2 : Nat) (w : World) (h1 : NumAt .u64 W64 w a1 n1 c1 N1) (h2 : NumAt .u64 W64 w a2 n2 c2 N2) :
    Calls Tryz.prog 125 #[.slice a1 n1 c1, .slice a2 n2 c2] w fun e w' => e = .returned (.int .i64 (cmpI N1 N2)) ∧ ∃ m, w' = w.drewN m := by
  have hm1 := h1.cm
  have hm2 := h2.cm
  have hc1 := h1.nc
  have hc2 := h2.nc
  unfold maxLen at hm1 hm2
  rcases Nat.lt_trichotomy n1 n2 with hlt | heq | hgt
  · have hr : cmpI N1 N2 = -1 := if_pos (lt_of_len W64_gt h1.lt h2.top hlt)
    rw [hr]
    clear hr h1 h2
    have hne : ((n1 : Int) == n2) = false := by simp; omega
    go_enter Tryz.func125, Tryz.ntmps125
    go_wp2
    go_ret
    exact ⟨rfl, 0, rfl⟩
  · subst heq
    by_cases hz : n1 = 0
    · subst hz
      have e1 : N1 = 0 := by have := h1.lt; simpa using this
      have e2 : N2 = 0 := by have := h2.lt; simpa using this
      subst e1
      subst e2
      clear h1 h2
      go_enter Tryz.func125, Tryz.ntmps125
      go_wp2
      go_ret
      exact ⟨rfl, 0, rfl⟩
    have hz1 : ((n1 : Int) == 0) = false := by simpa using hz
    obtain ⟨b1, o1, rfl, _⟩ := h1.form (by omega)
    obtain ⟨b2, o2, rfl, _⟩ := h2.form (by omega)
    have H1 := Lib.hid h1
    have H2 := Lib.hid h2
    have HA := Lib.hid (show N1 / W64 ^ n1 = N2 / W64 ^ n1 from by rw [Nat.div_eq_of_lt h1.lt, Nat.div_eq_of_lt h2.lt])
    clear h1 h2
    go_enter Tryz.func125, Tryz.ntmps125
    go_wp2
    go_loopw [7] (fun i wr => ∃ k : Nat, k < n1 ∧ i = .int .i64 (k : Int) ∧ N1 / W64 ^ (k + 1) = N2 / W64 ^ (k + 1) ∧ ∃ q, wr = w.drewN q) (fun i _ => (intOf i).toNat)
    case atStart => exact ⟨n1 - 1, by omega, by go_num, by rw [show n1 - 1 + 1 = n1 from by omega]; exact HA.out, 0, rfl⟩
    case round =>
      obtain ⟨k, hm, rfl, heq, q, rfl⟩ := hrel
      have e1 := H1.out.cell (i := k) (by omega)
      have e2 := H2.out.cell (i := k) (by omega)
      have d1 : dg W64 N1 k < 18446744073709551616 := W64_lt (dg_lt W64_pos _ _)
      have d2 : dg W64 N2 k < 18446744073709551616 := W64_lt (dg_lt W64_pos _ _)
      have HE := Lib.hid heq
      clear heq
      rcases Nat.lt_trichotomy (dg W64 N1 k) (dg W64 N2 k) with hX | hX | hX
      · have HR := Lib.hid (show cmpI N1 N2 = -1 from if_pos (lt_of_cut HE.out hX))
        have hb : decide (dg W64 N1 k < dg W64 N2 k) = true := by simpa using hX
        have hb2 : ((dg W64 N1 k : Int) == dg W64 N2 k) = false := by simp; omega
        generalize dg W64 N1 k = x1 at *
        generalize dg W64 N2 k = x2 at *
        clear hX
        by_cases h0 : 0 < k
        · have hk : decide (0 < (k : Int)) = true := by simpa using h0
          go_wp2
          go_quiet (fail)
          go_wp2
          go_quiet (fail)
          go_wp2
          go_ret
          exact ⟨ret_int HR.out.symm, drewN_ex (by (try simp only [World.drewN_drewN]); exact rfl)⟩
        · have hk : decide (0 < (k : Int)) = false := by simp; omega
          go_wp2
          go_quiet (fail)
          go_wp2
          go_quiet (fail)
          go_wp2
          go_ret
          exact ⟨ret_int HR.out.symm, drewN_ex (by (try simp only [World.drewN_drewN]); exact rfl)⟩
      · have HEQ := Lib.hid (eq_of_cut HE.out hX)
        generalize dg W64 N1 k = x1 at *
        generalize dg W64 N2 k = x2 at *
        subst hX
        by_cases h0 : 0 < k
        · have hk : decide (0 < (k : Int)) = true := by simpa using h0
          go_wp2
          go_quiet (fail)
          go_wp2
          go_roundw
          case rel => exact ⟨k - 1, by omega, by go_num, by rw [show k - 1 + 1 = k from by omega]; exact HEQ.out, drewN_ex (by (try simp only [World.drewN_drewN]); exact rfl)⟩
          case measure => simp [intOf]; omega
        · have hk : decide (0 < (k : Int)) = false := by simp; omega
          have hr : cmpI N1 N2 = 0 := by
            have := HEQ.out
            obtain rfl : k = 0 := by omega
            simp at this
            rw [cmpI, if_neg (by omega), if_neg (by omega)]
          have HR := Lib.hid hr
          clear hr
          go_wp2
          go_quiet (fail)
          go_wp2
          go_quiet (fail)
          go_wp2
          go_quiet (fail)
          go_wp2
          go_ret
          exact ⟨ret_int HR.out.symm, drewN_ex (by (try simp only [World.drewN_drewN]); exact rfl)⟩
      · have HR := Lib.hid (show cmpI N1 N2 = 1 from (by rw [cmpI, if_neg (Nat.not_lt_of_gt (lt_of_cut HE.out.symm hX)), if_pos (lt_of_cut HE.out.symm hX)]))
        have hb : decide (dg W64 N1 k < dg W64 N2 k) = false := by simp; omega
        have hb1 : decide (dg W64 N2 k < dg W64 N1 k) = true := by simpa using hX
        have hb2 : ((dg W64 N1 k : Int) == dg W64 N2 k) = false := by simp; omega
        generalize dg W64 N1 k = x1 at *
        generalize dg W64 N2 k = x2 at *
        clear hX
        by_cases h0 : 0 < k
        · have hk : decide (0 < (k : Int)) = true := by simpa using h0
          go_wp2
          go_quiet (fail)
          go_wp2
          go_quiet (fail)
          go_wp2
          go_quiet (fail)
          go_wp2
          go_ret
          exact ⟨ret_int HR.out.symm, drewN_ex (by (try simp only [World.drewN_drewN]); exact rfl)⟩
        · have hk : decide (0 < (k : Int)) = false := by simp; omega
          go_wp2
          go_quiet (fail)
          go_wp2
          go_quiet (fail)
          go_wp2
          go_quiet (fail)
          go_wp2
          go_ret
          exact ⟨ret_int HR.out.symm, drewN_ex (by (try simp only [World.drewN_drewN]); exact rfl)⟩
  · have h := lt_of_len W64_gt h2.lt h1.top hgt
    have hr : cmpI N1 N2 = 1 := by rw [cmpI, if_neg (by omega), if_pos h]
    rw [hr]
    clear hr h h1 h2
    have hne : ((n1 : Int) == n2) = false := by simp; omega
    go_enter Tryz.func125, Tryz.ntmps125
    go_wp2
    go_ret
    exact ⟨rfl, 0, rfl⟩
end Go.Proofs.YtdkipndepkblhaaGreatDoor

set_option linter.unusedSimpArgs false
set_option linter.unusedVariables false
namespace Go.Proofs.YtdkipndepkblhaaGreatDoor
open Go.RowKit Go.Bg Dg

def cmpZ (x y : Int) : Int := if x < y then -1 else if y < x then 1 else 0

theorem cmpZ_sg (s t : Bool) (N M : Nat) (hs : s = true → 0 < N) (ht : t = true → 0 < M) :
    cmpZ (sg s N) (sg t M) = if s = t then (if s then -cmpI N M else cmpI N M) else if s then -1 else 1 := by
  unfold cmpZ cmpI sg
  cases s <;> cases t <;> simp only [if_true, if_false, Bool.false_eq_true, Bool.true_eq_false] at hs ht ⊢ <;> repeat' split
  all_goals (simp at *; try omega)

theorem wrap_neg_cmpI (N M : Nat) : wrap64 (-cmpI N M) = -cmpI N M := by
  have h : -1 ≤ cmpI N M ∧ cmpI N M ≤ 1 := by
    unfold cmpI; split
    · omega
    · split <;> omega
  unfold wrap64
  omega

theorem infoBigIntSize : (Tryz.prog.info? 143).map (·.size) = some 2 := by kernel_rfl

set_option maxRecDepth 100000 in
set_option maxHeartbeats 2000000 in
theorem intCmp_any (b1 o1 b2 o2 : Nat) (s t : Bool) (N M : Nat) (w : World) (h1 : BigAt 151 w b1 o1 s N) (h2 : BigAt 151 w b2 o2 t M) :
    Calls Tryz.prog 195 #[.pointer (some ⟨b1, o1, none⟩), .pointer (some ⟨b2, o2, none⟩)] w fun e w' => e = .returned (.int .i64 (cmpZ (sg s N) (sg t M))) ∧ ∃ m, w' = w.drewN m := by
  obtain ⟨j, hj, hj2⟩ := Option.map_eq_some_iff.1 infoBigIntSize
  have HR := Lib.hid (cmpZ_sg s t N M h1.zero h2.zero)
  obtain ⟨a, n, c, p0, p1, hN⟩ := h1.val
  obtain ⟨a', n', c', q0, q1, hM⟩ := h2.val
  by_cases hp : b1 = b2 ∧ o1 = o2
  · obtain ⟨rfl, rfl⟩ := hp
    have hq := run_eql_ptr_same (P := Tryz.prog) w ⟨b1, o1, none⟩ Tryz.underlying85 hj
    have e0 : s = t := by rw [p0] at q0; simpa using q0
    subst e0
    have e1 : N = M := by
      rw [p1] at q1
      injection q1 with q1; injection q1 with qa qn qc
      subst qa; subst qn
      refine eq_of_digits hN.num.lt hM.num.lt (fun i hi => ?_)
      obtain ⟨b, off, rfl, _⟩ := hN.num.form (by omega)
      have x1 := hN.num.cell hi
      have x2 := hM.num.cell hi
      rw [x1] at x2
      injection x2 with x2; injection x2 with _ x2; exact Int.ofNat.inj x2
    subst e1
    have hr : cmpZ (sg s N) (sg s N) = 0 := by simp [cmpZ]
    rw [hr]
    clear HR hr hN hM h1 h2 hj2
    go_enter Tryz.func195, Tryz.ntmps195
    go_wp2
    go_ret
    exact ⟨rfl, 0, rfl⟩
  · obtain ⟨cur1, e1, k1, _⟩ := h1.blk
    obtain ⟨cur2, e2, k2, _⟩ := h2.blk
    have hq := run_eql_ptr_other (P := Tryz.prog) (a := ⟨b1, o1, none⟩) (b := ⟨b2, o2, none⟩) w Tryz.underlying85 hj (by rw [hj2]; decide) (by intro h; apply hp; injection h with h h' _; exact ⟨h, h'⟩) k1 k2
    have HN := Lib.hid hN.num
    have HM := Lib.hid hM.num
    clear k1 k2 hj2 hN hM h1 h2 hp
    cases s <;> cases t
    · go_enter Tryz.func195, Tryz.ntmps195
      go_wp2
      go_quiet (fail)
      go_wp2
      go_quiet (first | (go_at_call 125; refine quiet_of2 (natCmp_any _ _ _ _ _ _ N M _ (HN.out.drewN _) (HM.out.drewN _))))
      go_wp2
      go_ret
      refine ⟨ret_int ?_, drewN_ex (by (try simp only [World.drewN_drewN]); exact rfl)⟩
      rw [HR.out]; simp
    · go_enter Tryz.func195, Tryz.ntmps195
      go_wp2
      go_quiet (fail)
      go_wp2
      go_ret
      exact ⟨ret_int (by rw [HR.out]; simp), drewN_ex (by (try simp only [World.drewN_drewN]); exact rfl)⟩
    · go_enter Tryz.func195, Tryz.ntmps195
      go_wp2
      go_quiet (fail)
      go_wp2
      go_ret
      exact ⟨ret_int (by rw [HR.out]; simp), drewN_ex (by (try simp only [World.drewN_drewN]); exact rfl)⟩
    · go_enter Tryz.func195, Tryz.ntmps195
      go_wp2
      go_quiet (fail)
      go_wp2
      go_quiet (first | (go_at_call 125; refine quiet_of2 (natCmp_any _ _ _ _ _ _ N M _ (HN.out.drewN _) (HM.out.drewN _))))
      go_wp2
      go_ret
      refine ⟨ret_int ?_, drewN_ex (by (try simp only [World.drewN_drewN]); exact rfl)⟩
      rw [HR.out, wrap_neg_cmpI]; simp
end Go.Proofs.YtdkipndepkblhaaGreatDoor

set_option linter.unusedSimpArgs false
set_option linter.unusedVariables false
namespace Go.Proofs.YtdkipndepkblhaaGreatDoor
open Go.RowKit Go.Bg Dg

def CBig (w : World) (v : Value) (z : Int) : Prop := ∃ b o s N, v = .iface 93 (.agg #[.pointer (some ⟨b, o, none⟩)]) ∧ BigAt 151 w b o s N ∧ sg s N = z
theorem CBig.keep {w w' : World} {v : Value} {z : Int} (h : CBig w v z) (hb : Below w.heap.size w w') : CBig w' v z := by
  obtain ⟨b, o, s, N, rfl, h1, h2⟩ := h; exact ⟨b, o, s, N, rfl, h1.keep hb, h2⟩

/-- two integers in one form -/
def CSame (w : World) (u1 : Value) (z1 : Int) (u2 : Value) (z2 : Int) : Prop :=
  (u1 = .iface 82 (.int .i64 z1) ∧ fit64 z1 = true ∧ u2 = .iface 82 (.int .i64 z2) ∧ fit64 z2 = true) ∨ (CBig w u1 z1 ∧ CBig w u2 z2)

theorem fit64_bd {z : Int} (h : fit64 z = true) : -9223372036854775808 ≤ z ∧ z < 9223372036854775808 := by
  unfold fit64 at h; simpa using h

set_option maxRecDepth 100000 in
set_option maxHeartbeats 1000000 in
theorem match0Int_any (x : Int) (hx : fit64 x = true) (v : Value) (z : Int) (w : World) (h : CBig w v z) :
    Calls Tryz.prog 121 #[.iface 82 (.int .i64 x), v] w fun e w' => ∃ u, e = .returned (.tuple #[u, v]) ∧ CBig w' u x ∧ CBig w' v z ∧ Below w.heap.size w w' := by
  obtain ⟨b, o, s, N, rfl, hI, hz⟩ := h
  have HI := Lib.hid hI
  have HX := Lib.hid (fit64_bd hx)
  obtain ⟨_, _, _, t4, _, _, _, _, _⟩ := ta_intVal
  obtain ⟨_, _, u3, _, _, _, _, _, _⟩ := ta_int64Val
  clear hI hx
  go_enter Tryz.func121, Tryz.ntmps121
  go_wp2_with fail
  refine (i64toi_any x HX.out _).mono ?_
  rintro e w1 ⟨b', rfl, hJ, hB⟩
  go_wp2
  exact bodyPost_ret (v := .tuple #[.iface 93 (.agg #[.pointer (some ⟨b', 0, none⟩)]), .iface 93 (.agg #[.pointer (some ⟨b, o, none⟩)])]) (by simp [results, Tryz.results121, go_sem]) rfl
    ⟨_, rfl, ⟨_, _, _, _, rfl, hJ, sg_natAbs x⟩, ⟨_, _, _, _, rfl, HI.out.keep hB, hz⟩, hB⟩

set_option maxRecDepth 100000 in
set_option maxHeartbeats 1000000 in
theorem matchInt_any (v1 v2 : Value) (z1 z2 : Int) (w : World) (h1 : CInt w v1 z1) (h2 : CInt w v2 z2) :
    Calls Tryz.prog 59 #[v1, v2] w fun e w' => ∃ u1 u2, e = .returned (.tuple #[u1, u2]) ∧ CSame w' u1 z1 u2 z2 ∧ Below w.heap.size w w' := by
  have H1 := Lib.hid h1
  have H2 := Lib.hid h2
  rcases h1 with ⟨rfl, f1⟩ | ⟨b1, o1, s1, N1, rfl, k1, e1⟩ <;> rcases h2 with ⟨rfl, f2⟩ | ⟨b2, o2, s2, N2, rfl, k2, e2⟩
  · have F1 := Lib.hid f1
    have F2 := Lib.hid f2
    clear f1 f2
    go_enter Tryz.func59, Tryz.ntmps59
    go_wp2_with fail
    refine (ordInt_any _ z1 _ H1.out).mono ?_
    rintro e w1 ⟨rfl, rfl⟩
    go_wp2_with fail
    refine (ordInt_any _ z2 _ H2.out).mono ?_
    rintro e w1 ⟨rfl, rfl⟩
    simp only [ordOf, if_true]
    go_wp2
    exact bodyPost_ret (v := .tuple #[.iface 82 (.int .i64 z1), .iface 82 (.int .i64 z2)]) (by simp [results, Tryz.results59, go_sem]) rfl
      ⟨_, _, rfl, .inl ⟨rfl, F1.out, rfl, F2.out⟩, Below.refl _ _⟩
  · have F1 := Lib.hid f1
    have K2 := Lib.hid (show CBig w _ z2 from ⟨_, _, _, _, rfl, k2, e2⟩)
    clear f1 k2
    go_enter Tryz.func59, Tryz.ntmps59
    go_wp2_with fail
    refine (ordInt_any _ z1 _ H1.out).mono ?_
    rintro e w1 ⟨rfl, rfl⟩
    go_wp2_with fail
    refine (ordInt_any _ z2 _ H2.out).mono ?_
    rintro e w1 ⟨rfl, rfl⟩
    simp only [ordOf, if_true, if_neg (show ¬ (93 = 82) from by decide)]
    go_wp2_with fail
    refine (match0Int_any z1 F1.out _ z2 _ K2.out).mono ?_
    rintro e w1 ⟨u, rfl, hu, hv, hB⟩
    go_wp2
    exact bodyPost_ret (v := .tuple #[u, .iface 93 (.agg #[.pointer (some ⟨b2, o2, none⟩)])]) (by simp [results, Tryz.results59, go_sem]) rfl
      ⟨_, _, rfl, .inr ⟨hu, hv⟩, hB⟩
  · have F2 := Lib.hid f2
    have K1 := Lib.hid (show CBig w _ z1 from ⟨_, _, _, _, rfl, k1, e1⟩)
    clear f2 k1
    go_enter Tryz.func59, Tryz.ntmps59
    go_wp2_with fail
    refine (ordInt_any _ z1 _ H1.out).mono ?_
    rintro e w1 ⟨rfl, rfl⟩
    go_wp2_with fail
    refine (ordInt_any _ z2 _ H2.out).mono ?_
    rintro e w1 ⟨rfl, rfl⟩
    simp only [ordOf, if_true, if_neg (show ¬ (93 = 82) from by decide)]
    go_wp2_with fail
    refine (match0Int_any z2 F2.out _ z1 _ K1.out).mono ?_
    rintro e w1 ⟨u, rfl, hu, hv, hB⟩
    go_wp2
    exact bodyPost_ret (v := .tuple #[.iface 93 (.agg #[.pointer (some ⟨b1, o1, none⟩)]), u]) (by simp [results, Tryz.results59, go_sem]) rfl
      ⟨_, _, rfl, .inr ⟨hv, hu⟩, hB⟩
  · have K1 := Lib.hid (show CBig w _ z1 from ⟨_, _, _, _, rfl, k1, e1⟩)
    have K2 := Lib.hid (show CBig w _ z2 from ⟨_, _, _, _, rfl, k2, e2⟩)
    clear k1 k2
    go_enter Tryz.func59, Tryz.ntmps59
    go_wp2_with fail
    refine (ordInt_any _ z1 _ H1.out).mono ?_
    rintro e w1 ⟨rfl, rfl⟩
    go_wp2_with fail
    refine (ordInt_any _ z2 _ H2.out).mono ?_
    rintro e w1 ⟨rfl, rfl⟩
    simp only [ordOf, if_neg (show ¬ (93 = 82) from by decide)]
    go_wp2
    exact bodyPost_ret (v := .tuple #[.iface 93 (.agg #[.pointer (some ⟨b1, o1, none⟩)]), .iface 93 (.agg #[.pointer (some ⟨b2, o2, none⟩)])]) (by simp [results, Tryz.results59, go_sem]) rfl
      ⟨_, _, rfl, .inr ⟨K1.out, K2.out⟩, Below.refl _ _⟩
end Go.Proofs.YtdkipndepkblhaaGreatDoor

set_option linter.unusedSimpArgs false
set_option linter.unusedVariables false
namespace Go.Proofs.YtdkipndepkblhaaGreatDoor
open Go.RowKit Go.Bg Dg

theorem cmpB_cmpZ (k : Nat) (x y : Int) : cmpB k (cmpZ x y) = if k = 0 then decide (x = y) else if k = 1 then decide (x ≠ y) else if k = 2 then decide (x < y) else if k = 3 then decide (x ≤ y) else if k = 4 then decide (y < x) else decide (y ≤ x) := by
  unfold cmpB cmpZ
  rcases Int.lt_trichotomy x y with h | h | h
  · have h1 : ¬ x = y := by omega
    have h2 : ¬ y < x := by omega
    have h3 : x ≤ y := by omega
    have h4 : ¬ y ≤ x := by omega
    simp [h, h1, h2, h3, h4]
  · subst h; simp
  · have h1 : ¬ x = y := by omega
    have h2 : ¬ x < y := by omega
    have h3 : y ≤ x := by omega
    have h4 : ¬ x ≤ y := by omega
    simp [h, h1, h2, h3, h4]

theorem field_intVal (p : Value) (w : World) : (Instr.field 93 (.agg #[p]) 0).run Tryz.prog w = .ok p w := by kernel_rfl

end Go.Proofs.YtdkipndepkblhaaGreatDoor

set_option linter.unusedSimpArgs false
set_option linter.unusedVariables false
namespace Go.Bg
open Go.RowKit Dg
theorem bigN_row1 {T : TypeId} {w : World} {g x : Nat} (hg : BlkAt w g #[.int .u64 (x : Nat)] T) (h0 : 0 < x) (h1 : x < W64) : BigN T w (some ⟨g, 0, none⟩) 1 1 x := by
  refine ⟨⟨by simpa using h1, .inr (by simp; omega), Nat.le_refl _, by simp [maxLen], fun _ => ⟨g, 0, rfl, fun i hi => ?_⟩⟩, .inr ⟨g, _, rfl, hg, rfl⟩⟩
  obtain rfl : i = 0 := by omega
  rw [hg.cell]
  simp [dg, Nat.mod_eq_of_lt h1]
theorem bigAt_new {T T2 : TypeId} {w : World} {s : Bool} {a : Option Addr} {n c N : Nat} (hN : BigN T w a n c N) (hT : T2 ≠ T) (hz : s = true → 0 < N) :
    BigAt T (w.alloc (.cells #[.bool s, .slice a n c] T2)) w.heap.size 0 s N := by
  have hb := BlkAt.new w #[.bool s, .slice a n c] T2
  exact ⟨⟨_, _, hb, hT⟩, ⟨a, n, c, hb.cell 0, hb.cell 1, hN.keep ((Below.refl _ _).alloc (Nat.le_refl _) _)⟩, hz⟩
end Go.Bg
namespace Go.Proofs.YtdkipndepkblhaaGreatDoor
open Go.RowKit Go.Bg Dg

set_option maxRecDepth 100000 in
set_option maxHeartbeats 1000000 in
theorem newIntOf_any (x : Int) (hx : -9223372036854775808 ≤ x ∧ x < 9223372036854775808) (w : World) :
    Calls Tryz.prog 64 #[.int .i64 x] w fun e w' => ∃ b, e = .returned (.pointer (some ⟨b, 0, none⟩)) ∧ w.heap.size ≤ b ∧ BigAt 151 w' b 0 (decide (x < 0)) x.natAbs ∧ Below w.heap.size w w' := by
  rcases Int.lt_trichotomy x 0 with h | h | h
  · have HE := Lib.hid (show IntKind.u64.wrap (-IntKind.u64.wrap x) = (x.natAbs : Int) from by rw [IntKind.wrap_u64, IntKind.wrap_u64]; omega)
    have HB := Lib.hid (Below.alloc' (Below.alloc' (Below.refl w.heap.size w) (.cells #[.int .u64 (x.natAbs : Nat)] 151)) (.cells #[.bool true, .slice (some ⟨w.heap.size, 0, none⟩) 1 1] 143))
    have HN := Lib.hid (bigAt_new (s := true) (T2 := 143) (bigN_row1 (BlkAt.new w #[.int .u64 (x.natAbs : Nat)] 151) (by omega) (show x.natAbs < W64 from by unfold W64; omega)) (by decide) (fun _ => by omega))
    have HD := Lib.hid (show decide (x < 0) = true from by simp; omega)
    go_enter Tryz.func64, Tryz.ntmps64
    go_wp2
    rw [HE.out]
    go_ret
    rw [HD.out]
    exact ⟨_, rfl, Nat.le_add_right _ 1, by simpa using HN.out, by simpa using HB.out⟩
  · subst h
    have HB := Lib.hid (Below.alloc' (Below.refl w.heap.size w) (.cells #[.bool false, .slice none 0 0] 143))
    have HN := Lib.hid (bigAt_new (s := false) (BigN.nil 151 w) (T2 := 143) (by decide) (by simp))
    go_enter Tryz.func64, Tryz.ntmps64
    go_wp2
    go_ret
    exact ⟨_, rfl, Nat.le_refl _, HN.out, HB.out⟩
  · obtain ⟨m, rfl⟩ := Int.eq_ofNat_of_zero_le (Int.le_of_lt h)
    rw [Int.natAbs_natCast]
    have HB := Lib.hid (Below.alloc' (Below.alloc' (Below.refl w.heap.size w) (.cells #[.int .u64 (m : Nat)] 151)) (.cells #[.bool false, .slice (some ⟨w.heap.size, 0, none⟩) 1 1] 143))
    have HN := Lib.hid (bigAt_new (s := false) (T2 := 143) (bigN_row1 (BlkAt.new w #[.int .u64 (m : Nat)] 151) (by omega) (show m < W64 from by unfold W64; omega)) (by decide) (by simp))
    have HD := Lib.hid (show decide ((m : Int) < 0) = false from by simp)
    go_enter Tryz.func64, Tryz.ntmps64
    go_wp2
    go_ret
    rw [HD.out]
    exact ⟨_, rfl, Nat.le_add_right _ 1, by simpa using HN.out, by simpa using HB.out⟩
end Go.Proofs.YtdkipndepkblhaaGreatDoor

set_option linter.unusedSimpArgs false
set_option linter.unusedVariables false
namespace Go.Bg
open Go.RowKit Dg
theorem run_neq_ptr_other {P : Program} (w : World) {tp te : TypeId} {j : TypeInfo} {a b : Addr} {ca cb : Array Value} {ta tb : TypeId} (hp : P.underlying tp = some (.pointer te)) (hte : P.info? te = some j) (hsz : j.size ≠ 0)
    (hne : a ≠ b) (ha : w.heap[a.block]? = some (.cells ca ta (0, 0))) (hb : w.heap[b.block]? = some (.cells cb tb (0, 0))) :
    (binOp .neq tp (.pointer (some a)) (.pointer (some b))).run P w = .ok (.bool true) w := by
  have h : ∀ d : Nat, (Op.equalIn (d + 1) tp (.pointer (some a)) (.pointer (some b))).run P w = .ok false w := fun d => by
    simp [Op.equalIn, run_underlying hp, sizeOf, typeInfo, hte, hsz, run_sameAddr_other w hne ha hb]
  simp only [binOp]
  simp [Op.equal, Op.maxDepth, h 9999]

/-- the words of a number, in a list -/
def wl (N n : Nat) : List Value := (List.range n).map (fun i => Value.int .u64 (dg W64 N i : Nat))
theorem wl_get {N n i : Nat} (h : i < n) : (wl N n)[i]? = some (.int .u64 (dg W64 N i : Nat)) := by simp [wl, h]
theorem wl_len (N n : Nat) : (wl N n).length = n := by simp [wl]

/-- a row behind a copy of a number's words to its start -/
theorem bigN_spliced {T : TypeId} {w w' : World} {g c n N : Nat} {a : Option Addr} (hN : NumAt .u64 W64 w a n c N) {c' : Nat} (hc' : n ≤ c') (hm : c' ≤ maxLen) (cur : List Value) (hl : cur.length = c')
    (hg : w'.heap[g]? = some (.cells (splice cur 0 (wl N n)).toArray T (0, 0))) : BigN T w' (some ⟨g, 0, none⟩) n c' N := by
  have hb : BlkAt w' g (splice cur 0 (wl N n)).toArray T := hg
  have hs : (splice cur 0 (wl N n)).length = c' := by simp [splice, wl_len]; omega
  refine ⟨⟨hN.lt, hN.top, hc', hm, fun hn => ⟨g, 0, rfl, fun i hi => ?_⟩⟩, .inr ⟨g, _, rfl, hb, by simpa using hs⟩⟩
  rw [hb.cell]
  simp only [Nat.zero_add, List.getElem?_toArray, splice, List.take_zero, List.nil_append]
  rw [List.getElem?_append_left (by rw [wl_len]; exact hi)]
  exact wl_get hi
end Go.Bg
namespace Go.Proofs.YtdkipndepkblhaaGreatDoor
open Go.RowKit Go.Bg Dg

theorem infoWordSize : (Tryz.prog.info? 151).map (·.size) = some 1 := by kernel_rfl

set_option maxRecDepth 100000 in
set_option maxHeartbeats 1000000 in
theorem natSet_nil (a : Option Addr) (n c N : Nat) (w : World) (h : NumAt .u64 W64 w a n c N) (hn : n ≤ 1000000) :
    Calls Tryz.prog 132 #[.slice none 0 0, .slice a n c] w (GivesN 151 N w) := by
  have HH := Lib.hid h
  have hnc := h.nc
  have hcm := h.cm
  unfold maxLen at hcm
  by_cases h0 : n = 0
  · subst h0
    have HN := Lib.hid (show N = 0 from by have := h.lt; simpa using this)
    clear h
    go_enter Tryz.func132, Tryz.ntmps132
    go_wp2_with fail
    refine (make_nil 0 (by omega) _).mono ?_
    rintro e w1 (⟨_, rfl, rfl⟩ | ⟨c', h0, _⟩)
    case inr => omega
    go_wp2_with (with_reducible refine wpList_copy_nothing (o := ⟨some 11, _, _, _, _, _⟩) rfl (.tmp 9) (.tmp 10) 141 141 rfl 151 Tryz.underlying141 infoWordSize _ _ _ _ _ _ rfl rfl (by simp) ?_)
    go_wp2
    go_ret
    exact ⟨none, 0, 0, rfl, by rw [HN.out]; exact BigN.nil _ _, Below.refl _ _⟩
  · clear h
    go_enter Tryz.func132, Tryz.ntmps132
    go_wp2_with fail
    refine (make_nil n hn _).mono ?_
    rintro e w1 (⟨h, _⟩ | ⟨c', hc0, hc1, hc2, rfl, hw⟩)
    case inl => omega
    have hb : BlkAt w1 w.heap.size (Array.replicate c' (.int .u64 0)) 151 := by rw [hw]; exact BlkAt.new _ _ _
    have hB1 : Below w.heap.size w w1 := by rw [hw]; exact (Below.refl _ _).alloc (Nat.le_refl _) _
    have H1 := Lib.hid (HH.out.keep hB1)
    have hg : w1.heap[w.heap.size]? = some (.cells (List.replicate c' (Value.int .u64 0)).toArray 151 (0, 0)) := by
      have := hb; unfold BlkAt at this; simpa using this
    have HG := Lib.hid hg
    have HB := Lib.hid hB1
    have HC := Lib.hid (show ∃ ad, a = some ad ∧ ∀ j v, (wl N n)[j]? = some v → w1.cell? (ad.add j) = some v from by
      obtain ⟨b, off, rfl, hcell⟩ := H1.out.cells (by omega)
      refine ⟨_, rfl, fun j v hj => ?_⟩
      have hjn : j < n := by
        have := (List.getElem?_eq_some_iff.1 hj).1
        rwa [wl_len] at this
      rw [wl_get hjn] at hj
      rw [← hj, ← hcell j hjn]
      unfold Addr.add
      split
      · next h => subst h; rfl
      · rfl)
    clear hb hB1 hg hw
    have HM := Lib.hid (show (wl N n).length = Nat.min n n from by rw [wl_len]; exact (Nat.min_self n).symm)
    have HT := Lib.hid (show 0 + (wl N n).length ≤ (List.replicate c' (Value.int .u64 0)).length from by rw [wl_len]; simp; omega)
    have HO := Lib.hid (show ∀ v ∈ wl N n, v.oneCell' = true from by intro v hv; simp only [wl, List.mem_map] at hv; obtain ⟨_, _, rfl⟩ := hv; rfl)
    go_wp2_with ((with_reducible refine wpList_copy_splice (o := ⟨some 11, _, _, _, _, _⟩) rfl (.tmp 9) (.tmp 10) 141 141 rfl 151 Tryz.underlying141 infoWordSize _ _ _ _ _ _ rfl rfl w.heap.size 0 _ _ HG.out (wl N n) HM.out (fun _ => ⟨rfl, HC.out⟩) HT.out HO.out w.heap.size w HB.out (Nat.le_refl _) ?_); intro w2 hg2 hb2)
    go_wp2
    go_ret
    exact ⟨_, _, _, rfl, bigN_spliced H1.out hc1 (by unfold maxLen; omega) _ (by simp) hg2, hb2⟩

set_option maxRecDepth 100000 in
set_option maxHeartbeats 1000000 in
theorem intSet_new (b o b1 o1 : Nat) (s : Bool) (N : Nat) (w : World) (h : NewInt w b o) (h1 : BigAt 151 w b1 o1 s N) (hne : b ≠ b1 ∨ o ≠ o1) (L : Nat) (hL : L ≤ 1000000) (hN : N < W64 ^ L) :
    Calls Tryz.prog 160 #[.pointer (some ⟨b, o, none⟩), .pointer (some ⟨b1, o1, none⟩)] w (IntIs b o s N w) := by
  obtain ⟨j, hj, hj2⟩ := Option.map_eq_some_iff.1 infoBigIntSize
  obtain ⟨cur1, e1, k1, _⟩ := h.blk
  obtain ⟨cur2, e2, k2, _⟩ := h1.blk
  have hq := run_neq_ptr_other (P := Tryz.prog) (a := ⟨b, o, none⟩) (b := ⟨b1, o1, none⟩) w Tryz.underlying85 hj (by rw [hj2]; decide) (by intro h; injection h with h h' _; omega) k1 k2
  obtain ⟨a, n, c, p0, p1, hNN⟩ := h1.val
  have hn : n ≤ 1000000 := Nat.le_trans (len_le W64_gt hNN.num.top hN) hL
  have HZ := Lib.hid h1.zero
  have HH := Lib.hid h
  have HN := Lib.hid hNN
  have H1 := Lib.hid h1
  have q1 := h.c1
  clear h h1 hNN hN k1 k2 hj2
  have hd0 : Below w.heap.size w w.drew := (Below.refl _ _).drew
  go_enter Tryz.func160, Tryz.ntmps160
  go_upto_region 2 with fail
  go_region_with
    ((go_at_call 132; (with_reducible refine (natSet_nil a n c N _ ?_ hn).mono ?_); exact (HN.out.keep hd0).num; rintro e w1 ⟨a2, n2, c2, rfl, hN2, hB⟩; have hB1 := Below.then hd0 (Nat.le_refl _) hB; have HF := Lib.hid (HH.out.made hB1 hN2 HZ.out); have h' := HH.out.keep hB1; obtain ⟨u0, k0⟩ := h'.c0; have k1 := h'.c1; have f0 := h'.blk.frozen o; have f1 := h'.blk.frozen (o + 1); have p0' : w1.cell? ⟨b1, o1, none⟩ = some (.bool s) := cell_keep p0 hB1; have p0'' : ∀ v, (w1.setCell ⟨b, o + 1, none⟩ v).cell? ⟨b1, o1, none⟩ = some (.bool s) := (fun v => by
      rw [World.cell?_setCell_other _ _ _ _ (fun hh => ?_)]
      · exact p0'
      · injection hh with hb ho _
        subst hb
        subst ho
        rw [k1] at p0'
        cases p0'); have k0' : ∀ v, (w1.setCell ⟨b, o + 1, none⟩ v).cell? ⟨b, o, none⟩ = some u0 := (fun v => by rw [World.cell?_setCell_other _ _ _ _ (fun hh => by injection hh with _ hh _; omega)]; exact k0); clear h' p0'))
  all_goals
    clear p0 p1 q1
    go_wp2
    go_ret
    exact HF.out

set_option maxRecDepth 100000 in
set_option maxHeartbeats 1000000 in
theorem intNeg_new (b o b1 o1 : Nat) (s : Bool) (N : Nat) (w : World) (h : NewInt w b o) (h1 : BigAt 151 w b1 o1 s N) (hne : b ≠ b1 ∨ o ≠ o1) (L : Nat) (hL : L ≤ 1000000) (hN : N < W64 ^ L) :
    Calls Tryz.prog 103 #[.pointer (some ⟨b, o, none⟩), .pointer (some ⟨b1, o1, none⟩)] w (IntIs b o (!s && decide (0 < N)) N w) := by
  have HS := Lib.hid (intSet_new b o b1 o1 s N w h h1 hne L hL hN)
  clear h h1
  go_enter Tryz.func103, Tryz.ntmps103
  go_wp2_with fail
  refine HS.out.mono ?_
  rintro e w1 ⟨rfl, hI, hU⟩
  have HT := Lib.hid (fun t ht => hI.signed (t := t) ht)
  have HU := Lib.hid hU
  have f0 := hI.blk.frozen o
  obtain ⟨a, n, c, h0, h1, hNN⟩ := hI.val
  have HP := Lib.hid (natAt_pos_len hNN.num)
  clear hNN hI hU
  by_cases hn : 0 < n
  · go_wp2
    go_ret
    have hp : 0 < N := by have := HP.out; simpa [hn] using this.symm
    exact ⟨rfl, by simpa [hp] using HT.out (!s) (fun _ => hp), HU.out.trans (UpdI.set0 _ _ _ _)⟩
  · go_wp2
    go_ret
    have hp : ¬ 0 < N := by have := HP.out; simpa [hn] using this
    exact ⟨rfl, by simpa [hp] using HT.out false (by simp), HU.out.trans (UpdI.set0 _ _ _ _)⟩
end Go.Proofs.YtdkipndepkblhaaGreatDoor
