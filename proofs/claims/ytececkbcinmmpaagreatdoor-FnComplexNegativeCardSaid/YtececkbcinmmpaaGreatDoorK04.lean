/-
  Contracts and lemmas: BigH BigI BigJ TolA TolB TolC.
-/
import Derived.LaidEqlPtr
import Derived.Test.YtececkbcinmmpaaGreatDoorK03
set_option linter.unusedSimpArgs false
set_option linter.unusedVariables false
set_option maxRecDepth 100000
set_option maxHeartbeats 8000000
namespace Go.Bg
open Go.RowKit
theorem quiet_of2 {P : Program} {f : FuncId} {args : Array Value} {w : World} {q n : Nat} {v : Value}
    (h : Calls P f args (w.drewN (q + n)) fun e w' => e = .returned v ∧ ∃ m, w' = (w.drewN (q + n)).drewN m) : Calls P f args (w.drewN (q + n)) fun e w'' => e = .returned v ∧ ∃ m, w'' = w.drewN (q + m) :=
  h.mono fun _ _ ⟨he, m, hm⟩ => ⟨he, n + m, by rw [hm, World.drewN_drewN, Nat.add_assoc]⟩
theorem NumAt.drewN {k : IntKind} {B : Nat} {w : World} {a : Option Addr} {n c N : Nat} (h : NumAt k B w a n c N) (m : Nat) : NumAt k B (w.drewN m) a n c N := h.keep (below_of_drewN ⟨m, rfl⟩)
end Go.Bg
namespace Go.Proofs.YtececkbcinmmpaaGreatDoor
open Go.RowKit Go.Bg Dg
theorem natCmp_any (a1 a2 : Option Addr) (n1 n2 c1 c2 N1 N2 : Nat) (w : World) (h1 : NumAt .u64 W64 w a1 n1 c1 N1) (h2 : NumAt .u64 W64 w a2 n2 c2 N2) :
    Calls Tryz.prog 145 #[.slice a1 n1 c1, .slice a2 n2 c2] w fun e w' => e = .returned (.int .i64 (cmpI N1 N2)) ∧ ∃ m, w' = w.drewN m := by
  have hm1 := h1.cm
  have hm2 := h2.cm
  have hc1 := h1.nc
  have hc2 := h2.nc
  unfold maxLen at hm1 hm2
  rcases Nat.lt_trichotomy n1 n2 with hlt | heq | hgt
  · have hr : cmpI N1 N2 = -1 := if_pos (lt_of_len W64_gt h1.lt h2.top hlt)
    rw [hr]
    clear hr h1 h2
    have hne : ((n1 : Int) == n2) = false := by simp; omega
    go_enter Tryz.func145, Tryz.ntmps145
    go_wp2
    go_ret
    exact ⟨rfl, 0, rfl⟩
  · subst heq
    by_cases hz : n1 = 0
    · subst hz
      have e1 : N1 = 0 := by have := h1.lt; simpa using this
      have e2 : N2 = 0 := by have := h2.lt; simpa using this
      subst e1
      subst e2
      clear h1 h2
      go_enter Tryz.func145, Tryz.ntmps145
      go_wp2
      go_ret
      exact ⟨rfl, 0, rfl⟩
    have hz1 : ((n1 : Int) == 0) = false := by simpa using hz
    obtain ⟨b1, o1, rfl, _⟩ := h1.form (by omega)
    obtain ⟨b2, o2, rfl, _⟩ := h2.form (by omega)
    have H1 := Lib.hid h1
    have H2 := Lib.hid h2
    have HA := Lib.hid (show N1 / W64 ^ n1 = N2 / W64 ^ n1 from by rw [Nat.div_eq_of_lt h1.lt, Nat.div_eq_of_lt h2.lt])
    clear h1 h2
    go_enter Tryz.func145, Tryz.ntmps145
    go_wp2
    go_loopw [7] (fun i wr => ∃ k : Nat, k < n1 ∧ i = .int .i64 (k : Int) ∧ N1 / W64 ^ (k + 1) = N2 / W64 ^ (k + 1) ∧ ∃ q, wr = w.drewN q) (fun i _ => (intOf i).toNat)
    case atStart => exact ⟨n1 - 1, by omega, by go_num, by rw [show n1 - 1 + 1 = n1 from by omega]; exact HA.out, 0, rfl⟩
    case round =>
      obtain ⟨k, hm, rfl, heq, q, rfl⟩ := hrel
      have e1 := H1.out.cell (i := k) (by omega)
      have e2 := H2.out.cell (i := k) (by omega)
      have d1 : dg W64 N1 k < 18446744073709551616 := W64_lt (dg_lt W64_pos _ _)
      have d2 : dg W64 N2 k < 18446744073709551616 := W64_lt (dg_lt W64_pos _ _)
      have HE := Lib.hid heq
      clear heq
      rcases Nat.lt_trichotomy (dg W64 N1 k) (dg W64 N2 k) with hX | hX | hX
      · have HR := Lib.hid (show cmpI N1 N2 = -1 from if_pos (lt_of_cut HE.out hX))
        have hb : decide (dg W64 N1 k < dg W64 N2 k) = true := by simpa using hX
        have hb2 : ((dg W64 N1 k : Int) == dg W64 N2 k) = false := by simp; omega
        generalize dg W64 N1 k = x1 at *
        generalize dg W64 N2 k = x2 at *
        clear hX
        by_cases h0 : 0 < k
        · have hk : decide (0 < (k : Int)) = true := by simpa using h0
          go_wp2
          go_quiet (fail)
          go_wp2
          go_quiet (fail)
          go_wp2
          go_ret
          exact ⟨ret_int HR.out.symm, drewN_ex (by (try simp only [World.drewN_drewN]); exact rfl)⟩
        · have hk : decide (0 < (k : Int)) = false := by simp; omega
          go_wp2
          go_quiet (fail)
          go_wp2
          go_quiet (fail)
          go_wp2
          go_ret
          exact ⟨ret_int HR.out.symm, drewN_ex (by (try simp only [World.drewN_drewN]); exact rfl)⟩
      · have HEQ := Lib.hid (eq_of_cut HE.out hX)
        generalize dg W64 N1 k = x1 at *
        generalize dg W64 N2 k = x2 at *
        subst hX
        by_cases h0 : 0 < k
        · have hk : decide (0 < (k : Int)) = true := by simpa using h0
          go_wp2
          go_quiet (fail)
          go_wp2
          go_roundw
          case rel => exact ⟨k - 1, by omega, by go_num, by rw [show k - 1 + 1 = k from by omega]; exact HEQ.out, drewN_ex (by (try simp only [World.drewN_drewN]); exact rfl)⟩
          case measure => simp [intOf]; omega
        · have hk : decide (0 < (k : Int)) = false := by simp; omega
          have hr : cmpI N1 N2 = 0 := by
            have := HEQ.out
            obtain rfl : k = 0 := by omega
            simp at this
            rw [cmpI, if_neg (by omega), if_neg (by omega)]
          have HR := Lib.hid hr
          clear hr
          go_wp2
          go_quiet (fail)
          go_wp2
          go_quiet (fail)
          go_wp2
          go_quiet (fail)
          go_wp2
          go_ret
          exact ⟨ret_int HR.out.symm, drewN_ex (by (try simp only [World.drewN_drewN]); exact rfl)⟩
      · have HR := Lib.hid (show cmpI N1 N2 = 1 from (by rw [cmpI, if_neg (Nat.not_lt_of_gt (lt_of_cut HE.out.symm hX)), if_pos (lt_of_cut HE.out.symm hX)]))
        have hb : decide (dg W64 N1 k < dg W64 N2 k) = false := by simp; omega
        have hb1 : decide (dg W64 N2 k < dg W64 N1 k) = true := by simpa using hX
        have hb2 : ((dg W64 N1 k : Int) == dg W64 N2 k) = false := by simp; omega
        generalize dg W64 N1 k = x1 at *
        generalize dg W64 N2 k = x2 at *
        clear hX
        by_cases h0 : 0 < k
        · have hk : decide (0 < (k : Int)) = true := by simpa using h0
          go_wp2
          go_quiet (fail)
          go_wp2
          go_quiet (fail)
          go_wp2
          go_quiet (fail)
          go_wp2
          go_ret
          exact ⟨ret_int HR.out.symm, drewN_ex (by (try simp only [World.drewN_drewN]); exact rfl)⟩
        · have hk : decide (0 < (k : Int)) = false := by simp; omega
          go_wp2
          go_quiet (fail)
          go_wp2
          go_quiet (fail)
          go_wp2
          go_quiet (fail)
          go_wp2
          go_ret
          exact ⟨ret_int HR.out.symm, drewN_ex (by (try simp only [World.drewN_drewN]); exact rfl)⟩
  · have h := lt_of_len W64_gt h2.lt h1.top hgt
    have hr : cmpI N1 N2 = 1 := by rw [cmpI, if_neg (by omega), if_pos h]
    rw [hr]
    clear hr h h1 h2
    have hne : ((n1 : Int) == n2) = false := by simp; omega
    go_enter Tryz.func145, Tryz.ntmps145
    go_wp2
    go_ret
    exact ⟨rfl, 0, rfl⟩
def cmpZ (x y : Int) : Int := if x < y then -1 else if y < x then 1 else 0
theorem cmpZ_sg (s t : Bool) (N M : Nat) (hs : s = true → 0 < N) (ht : t = true → 0 < M) :
    cmpZ (sg s N) (sg t M) = if s = t then (if s then -cmpI N M else cmpI N M) else if s then -1 else 1 := by
  unfold cmpZ cmpI sg
  cases s <;> cases t <;> simp only [if_true, if_false, Bool.false_eq_true, Bool.true_eq_false] at hs ht ⊢ <;> repeat' split
  all_goals (simp at *; try omega)
theorem wrap_neg_cmpI (N M : Nat) : wrap64 (-cmpI N M) = -cmpI N M := by
  have h : -1 ≤ cmpI N M ∧ cmpI N M ≤ 1 := by
    unfold cmpI; split
    · omega
    · split <;> omega
  unfold wrap64
  omega
theorem infoBigIntSize : (Tryz.prog.info? 155).map (·.size) = some 2 := by kernel_rfl
theorem intCmp_any (b1 o1 b2 o2 : Nat) (s t : Bool) (N M : Nat) (w : World) (h1 : BigAt 139 w b1 o1 s N) (h2 : BigAt 139 w b2 o2 t M) :
    Calls Tryz.prog 128 #[.pointer (some ⟨b1, o1, none⟩), .pointer (some ⟨b2, o2, none⟩)] w fun e w' => e = .returned (.int .i64 (cmpZ (sg s N) (sg t M))) ∧ ∃ m, w' = w.drewN m := by
  obtain ⟨j, hj, hj2⟩ := Option.map_eq_some_iff.1 infoBigIntSize
  have HR := Lib.hid (cmpZ_sg s t N M h1.zero h2.zero)
  obtain ⟨a, n, c, p0, p1, hN⟩ := h1.val
  obtain ⟨a', n', c', q0, q1, hM⟩ := h2.val
  by_cases hp : b1 = b2 ∧ o1 = o2
  · obtain ⟨rfl, rfl⟩ := hp
    have hq := run_eql_ptr_same (P := Tryz.prog) w ⟨b1, o1, none⟩ Tryz.underlying94 hj
    have e0 : s = t := by rw [p0] at q0; simpa using q0
    subst e0
    have e1 : N = M := by
      rw [p1] at q1
      injection q1 with q1; injection q1 with qa qn qc
      subst qa; subst qn
      refine eq_of_digits hN.num.lt hM.num.lt (fun i hi => ?_)
      obtain ⟨b, off, rfl, _⟩ := hN.num.form (by omega)
      have x1 := hN.num.cell hi
      have x2 := hM.num.cell hi
      rw [x1] at x2
      injection x2 with x2; injection x2 with _ x2; exact Int.ofNat.inj x2
    subst e1
    have hr : cmpZ (sg s N) (sg s N) = 0 := by simp [cmpZ]
    rw [hr]
    clear HR hr hN hM h1 h2 hj2
    go_enter Tryz.func128, Tryz.ntmps128
    go_wp2
    go_ret
    exact ⟨rfl, 0, rfl⟩
  · obtain ⟨cur1, e1, k1, _⟩ := h1.blk
    obtain ⟨cur2, e2, k2, _⟩ := h2.blk
    have hq := run_eql_ptr_other (P := Tryz.prog) (a := ⟨b1, o1, none⟩) (b := ⟨b2, o2, none⟩) w Tryz.underlying94 hj (by rw [hj2]; decide) (by intro h; apply hp; injection h with h h' _; exact ⟨h, h'⟩) k1 k2
    have HN := Lib.hid hN.num
    have HM := Lib.hid hM.num
    clear k1 k2 hj2 hN hM h1 h2 hp
    cases s <;> cases t
    · go_enter Tryz.func128, Tryz.ntmps128
      go_wp2
      go_quiet (fail)
      go_wp2
      go_quiet (first | (go_at_call 145; refine quiet_of2 (natCmp_any _ _ _ _ _ _ N M _ (HN.out.drewN _) (HM.out.drewN _))))
      go_wp2
      go_ret
      refine ⟨ret_int ?_, drewN_ex (by (try simp only [World.drewN_drewN]); exact rfl)⟩
      rw [HR.out]; simp
    · go_enter Tryz.func128, Tryz.ntmps128
      go_wp2
      go_quiet (fail)
      go_wp2
      go_ret
      exact ⟨ret_int (by rw [HR.out]; simp), drewN_ex (by (try simp only [World.drewN_drewN]); exact rfl)⟩
    · go_enter Tryz.func128, Tryz.ntmps128
      go_wp2
      go_quiet (fail)
      go_wp2
      go_ret
      exact ⟨ret_int (by rw [HR.out]; simp), drewN_ex (by (try simp only [World.drewN_drewN]); exact rfl)⟩
    · go_enter Tryz.func128, Tryz.ntmps128
      go_wp2
      go_quiet (fail)
      go_wp2
      go_quiet (first | (go_at_call 145; refine quiet_of2 (natCmp_any _ _ _ _ _ _ N M _ (HN.out.drewN _) (HM.out.drewN _))))
      go_wp2
      go_ret
      refine ⟨ret_int ?_, drewN_ex (by (try simp only [World.drewN_drewN]); exact rfl)⟩
      rw [HR.out, wrap_neg_cmpI]; simp
def CBig (w : World) (v : Value) (z : Int) : Prop := ∃ b o s N, v = .iface 102 (.agg #[.pointer (some ⟨b, o, none⟩)]) ∧ BigAt 139 w b o s N ∧ sg s N = z
theorem CBig.keep {w w' : World} {v : Value} {z : Int} (h : CBig w v z) (hb : Below w.heap.size w w') : CBig w' v z := by
  obtain ⟨b, o, s, N, rfl, h1, h2⟩ := h; exact ⟨b, o, s, N, rfl, h1.keep hb, h2⟩
def CSame (w : World) (u1 : Value) (z1 : Int) (u2 : Value) (z2 : Int) : Prop :=
  (u1 = .iface 91 (.int .i64 z1) ∧ fit64 z1 = true ∧ u2 = .iface 91 (.int .i64 z2) ∧ fit64 z2 = true) ∨ (CBig w u1 z1 ∧ CBig w u2 z2)
theorem fit64_bd {z : Int} (h : fit64 z = true) : -9223372036854775808 ≤ z ∧ z < 9223372036854775808 := by
  unfold fit64 at h; simpa using h
theorem match0Int_any (x : Int) (hx : fit64 x = true) (v : Value) (z : Int) (w : World) (h : CBig w v z) :
    Calls Tryz.prog 141 #[.iface 91 (.int .i64 x), v] w fun e w' => ∃ u, e = .returned (.tuple #[u, v]) ∧ CBig w' u x ∧ CBig w' v z ∧ Below w.heap.size w w' := by
  obtain ⟨b, o, s, N, rfl, hI, hz⟩ := h
  have HI := Lib.hid hI
  have HX := Lib.hid (fit64_bd hx)
  obtain ⟨_, _, _, t4, _, _, _, _, _⟩ := ta_intVal
  obtain ⟨_, _, u3, _, _, _, _, _, _⟩ := ta_int64Val
  clear hI hx
  go_enter Tryz.func141, Tryz.ntmps141
  go_wp2_with fail
  refine (i64toi_any x HX.out _).mono ?_
  rintro e w1 ⟨b', rfl, hJ, hB⟩
  go_wp2
  exact bodyPost_ret (v := .tuple #[.iface 102 (.agg #[.pointer (some ⟨b', 0, none⟩)]), .iface 102 (.agg #[.pointer (some ⟨b, o, none⟩)])]) (by simp [results, Tryz.results141, go_sem]) rfl
    ⟨_, rfl, ⟨_, _, _, _, rfl, hJ, sg_natAbs x⟩, ⟨_, _, _, _, rfl, HI.out.keep hB, hz⟩, hB⟩
theorem matchInt_any (v1 v2 : Value) (z1 z2 : Int) (w : World) (h1 : CInt w v1 z1) (h2 : CInt w v2 z2) :
    Calls Tryz.prog 73 #[v1, v2] w fun e w' => ∃ u1 u2, e = .returned (.tuple #[u1, u2]) ∧ CSame w' u1 z1 u2 z2 ∧ Below w.heap.size w w' := by
  have H1 := Lib.hid h1
  have H2 := Lib.hid h2
  rcases h1 with ⟨rfl, f1⟩ | ⟨b1, o1, s1, N1, rfl, k1, e1⟩ <;> rcases h2 with ⟨rfl, f2⟩ | ⟨b2, o2, s2, N2, rfl, k2, e2⟩
  · have F1 := Lib.hid f1
    have F2 := Lib.hid f2
    clear f1 f2
    go_enter Tryz.func73, Tryz.ntmps73
    go_wp2_with fail
    refine (ordInt_any _ z1 _ H1.out).mono ?_
    rintro e w1 ⟨rfl, rfl⟩
    go_wp2_with fail
    refine (ordInt_any _ z2 _ H2.out).mono ?_
    rintro e w1 ⟨rfl, rfl⟩
    simp only [ordOf, if_true]
    go_wp2
    exact bodyPost_ret (v := .tuple #[.iface 91 (.int .i64 z1), .iface 91 (.int .i64 z2)]) (by simp [results, Tryz.results73, go_sem]) rfl
      ⟨_, _, rfl, .inl ⟨rfl, F1.out, rfl, F2.out⟩, Below.refl _ _⟩
  · have F1 := Lib.hid f1
    have K2 := Lib.hid (show CBig w _ z2 from ⟨_, _, _, _, rfl, k2, e2⟩)
    clear f1 k2
    go_enter Tryz.func73, Tryz.ntmps73
    go_wp2_with fail
    refine (ordInt_any _ z1 _ H1.out).mono ?_
    rintro e w1 ⟨rfl, rfl⟩
    go_wp2_with fail
    refine (ordInt_any _ z2 _ H2.out).mono ?_
    rintro e w1 ⟨rfl, rfl⟩
    simp only [ordOf, if_true, if_neg (show ¬ (102 = 91) from by decide)]
    go_wp2_with fail
    refine (match0Int_any z1 F1.out _ z2 _ K2.out).mono ?_
    rintro e w1 ⟨u, rfl, hu, hv, hB⟩
    go_wp2
    exact bodyPost_ret (v := .tuple #[u, .iface 102 (.agg #[.pointer (some ⟨b2, o2, none⟩)])]) (by simp [results, Tryz.results73, go_sem]) rfl
      ⟨_, _, rfl, .inr ⟨hu, hv⟩, hB⟩
  · have F2 := Lib.hid f2
    have K1 := Lib.hid (show CBig w _ z1 from ⟨_, _, _, _, rfl, k1, e1⟩)
    clear f2 k1
    go_enter Tryz.func73, Tryz.ntmps73
    go_wp2_with fail
    refine (ordInt_any _ z1 _ H1.out).mono ?_
    rintro e w1 ⟨rfl, rfl⟩
    go_wp2_with fail
    refine (ordInt_any _ z2 _ H2.out).mono ?_
    rintro e w1 ⟨rfl, rfl⟩
    simp only [ordOf, if_true, if_neg (show ¬ (102 = 91) from by decide)]
    go_wp2_with fail
    refine (match0Int_any z2 F2.out _ z1 _ K1.out).mono ?_
    rintro e w1 ⟨u, rfl, hu, hv, hB⟩
    go_wp2
    exact bodyPost_ret (v := .tuple #[.iface 102 (.agg #[.pointer (some ⟨b1, o1, none⟩)]), u]) (by simp [results, Tryz.results73, go_sem]) rfl
      ⟨_, _, rfl, .inr ⟨hv, hu⟩, hB⟩
  · have K1 := Lib.hid (show CBig w _ z1 from ⟨_, _, _, _, rfl, k1, e1⟩)
    have K2 := Lib.hid (show CBig w _ z2 from ⟨_, _, _, _, rfl, k2, e2⟩)
    clear k1 k2
    go_enter Tryz.func73, Tryz.ntmps73
    go_wp2_with fail
    refine (ordInt_any _ z1 _ H1.out).mono ?_
    rintro e w1 ⟨rfl, rfl⟩
    go_wp2_with fail
    refine (ordInt_any _ z2 _ H2.out).mono ?_
    rintro e w1 ⟨rfl, rfl⟩
    simp only [ordOf, if_neg (show ¬ (102 = 91) from by decide)]
    go_wp2
    exact bodyPost_ret (v := .tuple #[.iface 102 (.agg #[.pointer (some ⟨b1, o1, none⟩)]), .iface 102 (.agg #[.pointer (some ⟨b2, o2, none⟩)])]) (by simp [results, Tryz.results73, go_sem]) rfl
      ⟨_, _, rfl, .inr ⟨K1.out, K2.out⟩, Below.refl _ _⟩
theorem intSign_any (b o : Nat) (s : Bool) (N : Nat) (w : World) (h : BigAt 139 w b o s N) :
    Calls Tryz.prog 118 #[.pointer (some ⟨b, o, none⟩)] w fun e w' => e = .returned (.int .i64 (if N = 0 then 0 else if s then -1 else 1)) ∧ w = w' := by
  obtain ⟨a, n, c, h0, h1, hN⟩ := h.val
  have hp := natAt_pos_len hN.num
  have hcm := hN.num.cm
  have hnc := hN.num.nc
  clear h hN
  by_cases hn : n = 0
  · subst hn
    have e : N = 0 := by simp at hp; omega
    subst e
    clear hp
    go_enter Tryz.func118, Tryz.ntmps118
    go_wp2
    go_ret
    exact ⟨rfl, rfl⟩
  · have hz : ((n : Int) == 0) = false := by simpa using hn
    have e : N ≠ 0 := by
      intro e; subst e
      have : decide (0 < n) = true := by simp; omega
      rw [this] at hp; simp at hp
    have HE := Lib.hid e
    clear hp e
    cases s
    · go_enter Tryz.func118, Tryz.ntmps118
      go_wp2
      go_ret
      exact ⟨rfl, rfl⟩
    · go_enter Tryz.func118, Tryz.ntmps118
      go_wp2
      go_ret
      exact ⟨rfl, rfl⟩
theorem intBits_any (b o : Nat) (s : Bool) (N : Nat) (w : World) (h : BigAt 139 w b o s N) :
    Calls Tryz.prog 193 #[.pointer (some ⟨b, o, none⟩)] w fun e w' => ∃ a n c, e = .returned (.slice a n c) ∧ BigN 139 w a n c N ∧ w = w' := by
  obtain ⟨a, n, c, h0, h1, hN⟩ := h.val
  have HN := Lib.hid hN
  clear h hN
  go_enter Tryz.func193, Tryz.ntmps193
  go_wp2
  go_ret
  exact ⟨_, _, _, rfl, HN.out, rfl⟩
structure PlainAt (w : World) (a : Option Addr) (n c N : Nat) : Prop where
  ws : WordsAt w a n c (dg W64 N)
  lt : N < W64 ^ n
  top : n = 0 ∨ W64 ^ (n - 1) ≤ N
theorem plainAt_one {w : World} {g : Nat} {T : TypeId} (hg : BlkAt w g #[.int .u64 1] T) : PlainAt w (some ⟨g, 0, none⟩) 1 1 1 := by
  have hd : dg W64 1 0 = 1 := by simp [dg, Nat.mod_eq_of_lt W64_gt]
  refine ⟨⟨fun _ => ⟨g, 0, rfl, fun i hi => ?_⟩, fun i _ => dg_lt W64_pos _ _, Nat.le_refl _, by simp [maxLen], by simp⟩, by rw [Nat.pow_one]; exact W64_gt, .inr (by simp)⟩
  obtain rfl : i = 0 := by omega
  rw [hg.cell]
  show some (Value.int .u64 1) = some (Value.int .u64 (dg W64 1 0 : Nat))
  rw [hd]; rfl
theorem PlainAt.keep {w w' : World} {a : Option Addr} {n c N : Nat} (h : PlainAt w a n c N) (hb : Below w.heap.size w w') : PlainAt w' a n c N := ⟨h.ws.keep hb, h.lt, h.top⟩
theorem plain_any (b o : Nat) (s : Bool) (N : Nat) (w : World) (h : BigAt 139 w b o s N) (L : Nat) (hL : L ≤ 100000) (hN : N < W64 ^ L) :
    Calls Tryz.prog 137 #[.pointer (some ⟨b, o, none⟩)] w fun e w' => ∃ a n c, e = .returned (.slice a n c) ∧ PlainAt w' a n c N ∧ Below w.heap.size w w' := by
  obtain ⟨i0, hi, hz0, hz1, hz2⟩ := info_parts infoUint
  have HH := Lib.hid h
  have HL := Lib.hid hN
  clear h hN
  go_enter Tryz.func137, Tryz.ntmps137
  go_wp2_with fail
  refine (intBits_any b o s N _ HH.out).mono ?_
  rintro e w1 ⟨a, n, c, rfl, hB, rfl⟩
  have hlt := hB.num.lt
  have htop := hB.num.top
  have hlen : n ≤ 100000 := Nat.le_trans (len_le W64_gt htop HL.out) hL
  have HT := Lib.hid htop
  have HLT := Lib.hid hlt
  have h := hB.num
  clear htop hlt hB
  go_wp2
  go_loopw [3, 5, 9] (fun out _ i wr => ∃ k : Nat, k ≤ n ∧ i = .int .i64 k ∧ wr.ownsRow w.heap.size 53 1 out k ((List.range k).map (wv (dg W64 N))) ∧ Below w.heap.size w wr)
    (fun _ _ i _ => n - (intOf i).toNat)
  case atStart => exact ⟨0, Nat.zero_le _, rfl, World.ownsRow_nil _ _ _ _, Below.refl _ _⟩
  case round =>
    obtain ⟨k, hk, rfl, hown, hbel⟩ := hrel
    by_cases k1 : k < n
    · have h' := h.keep hbel
      obtain ⟨b1, o1, rfl, _⟩ := h'.form (by omega)
      have e1 := h'.cell k1
      have hnc := h'.nc
      have hcm := h'.cm
      clear h' h
      go_wp2_with (at_builtin; refine wpList_app1 rfl _ _ 22 rfl w.heap.size 53 i0 _ 8 Tryz.underlying22 hi hz0 hz1 hz2 rfl (by decide) _ _ _ _ rfl rfl rfl hown rfl (by omega) hbel.size ?_; intro v' w1 hown1 hbel1 hne1)
      go_roundw
      case rel => exact ⟨k + 1, by omega, by go_num, by rw [map_range_succ]; simpa [wv] using hown1, hbel.trans hbel1⟩
      case measure => simp [intOf]; omega
    · obtain rfl : k = n := by omega
      go_wp2
      go_ret
      obtain ⟨a1, c1, rfl, _, hnc, hcm, hnil, hcells⟩ := buf_of_own hown
      exact ⟨_, _, _, rfl, ⟨⟨hcells (wv (dg W64 N)) (fun i hi => by simp [hi]), fun i _ => dg_lt W64_pos _ _, hnc, hcm, hnil⟩, HLT.out, HT.out⟩, hbel⟩
end Go.Proofs.YtececkbcinmmpaaGreatDoor
namespace Go.Bg
open Go.RowKit Dg
theorem WordsAt.setCell {w : World} {a : Option Addr} {n c s o : Nat} {f : Nat → Nat} (h : WordsAt w a n c f) (v : Value) (hs : NoInt w s) : WordsAt (w.setCell ⟨s, o, none⟩ v) a n c f := by
  refine ⟨fun hn => ?_, h.lt, h.nc, h.cm, h.nil⟩
  obtain ⟨b, off, rfl, hc⟩ := h.cells hn
  refine ⟨b, off, rfl, fun i hi => ?_⟩
  have h1 := hc i hi
  rw [cell?_setCell_ne]
  · exact h1
  · intro e; subst e; exact hs _ _ _ h1
theorem noInt_of_blk {w : World} {g : Nat} {cur : Array Value} {e : TypeId} (h : BlkAt w g cur e) (hn : ∀ (i : Nat) k v, cur[i]? ≠ some (.int k v)) : NoInt w g := by
  intro o k v hc
  rw [h.cell] at hc
  exact hn o k v hc
theorem noInt_num {b : Bool} {a : Option Addr} {n c : Nat} : ∀ (i : Nat) k v, (#[.bool b, .slice a n c] : Array Value)[i]? ≠ some (.int k v) := by
  intro i k v h
  match i, h with
  | 0, h => simp at h
  | 1, h => simp at h
  | i + 2, h => simp at h
end Go.Bg
namespace Go.Proofs.YtececkbcinmmpaaGreatDoor
open Go.RowKit Go.Bg Dg
theorem PlainAt.setCell {w : World} {a : Option Addr} {n c N s o : Nat} (h : PlainAt w a n c N) (v : Value) (hs : NoInt w s) : PlainAt (w.setCell ⟨s, o, none⟩ v) a n c N := ⟨h.ws.setCell v hs, h.lt, h.top⟩
theorem sign_lt (s : Bool) (N : Nat) (hs : s = true → 0 < N) : decide ((if N = 0 then (0 : Int) else if s then -1 else 1) < 0) = s := by
  cases s
  · by_cases h : N = 0 <;> simp [h]
  · have := hs rfl
    have h : N ≠ 0 := by omega
    simp [h]
theorem number_any (b o : Nat) (s : Bool) (N : Nat) (w : World) (h : BigAt 139 w b o s N) (L : Nat) (hL : L ≤ 100000) (hN : N < W64 ^ L) :
    Calls Tryz.prog 134 #[.pointer (some ⟨b, o, none⟩)] w fun e w' => ∃ a n c, e = .returned (.agg #[.bool s, .slice a n c]) ∧ PlainAt w' a n c N ∧ Below w.heap.size w w' := by
  obtain ⟨W0, hW0⟩ : ∃ W0, W0 = w.alloc (.cells #[.bool false, .slice none 0 0] 24) := ⟨_, rfl⟩
  have HW := Lib.hid hW0
  have hb0 : Below w.heap.size w W0 := by rw [hW0]; exact Below.alloc' (Below.refl _ _) _
  have hz : BlkAt W0 w.heap.size #[.bool false, .slice none 0 0] 24 := by rw [hW0]; exact BlkAt.new _ _ _
  have HH := Lib.hid (h.keep hb0)
  have HS := Lib.hid (sign_lt s N h.zero)
  have HL := Lib.hid hN
  clear hW0 h hN
  go_enter Tryz.func134, Tryz.ntmps134
  go_upto_region 1 with fail
  rw [← HW.out]
  go_wp2_with fail
  refine (intSign_any b o s N _ HH.out).mono ?_
  rintro e w1 ⟨rfl, rfl⟩
  generalize (if N = 0 then (0 : Int) else if s then -1 else 1) = sg at *
  go_wp2_with fail
  refine (plain_any b o s N _ HH.out L hL HL.out).mono ?_
  rintro e w2 ⟨a, n, c, rfl, hP, hB⟩
  have hz2 := hz.keep hB
  have c0 := hz2.cell 0
  have c1 := hz2.cell 1
  have f0 := hz2.frozen 0
  have f1 := hz2.frozen 1
  simp only [List.getElem?_toArray, List.getElem?_cons_zero, List.getElem?_cons_succ] at c0 c1
  have hbf := Below.then hb0 (Nat.le_refl _) hB
  have ni := noInt_of_blk hz2 noInt_num
  have HP := Lib.hid (show PlainAt ((w2.setCell ⟨w.heap.size, 0, none⟩ (.bool s)).setCell ⟨w.heap.size, 1, none⟩ (.slice a n c)) a n c N from
    (hP.setCell _ ni).setCell _ (ni.setCell (by intro k n h; cases h)))
  have HBF := Lib.hid (show Below w.heap.size w ((w2.setCell ⟨w.heap.size, 0, none⟩ (.bool s)).setCell ⟨w.heap.size, 1, none⟩ (.slice a n c)) from
    (hbf.setCell (Nat.le_refl _) _).setCell (Nat.le_refl _) _)
  have hs := HS.out
  clear hz hz2 ni hP hbf hb0
  go_wp2
  exact bodyPost_ret (v := .agg #[.bool s, .slice a n c]) (by simp [results, Tryz.results134, go_sem, c0, c1]) rfl ⟨_, _, _, rfl, HP.out, HBF.out⟩
def AInt (w : World) (v : Value) (z : Int) : Prop :=
  (v = .iface 2 (.int .i64 z) ∧ fit64 z = true) ∨ ∃ b o s N, v = .iface 94 (.pointer (some ⟨b, o, none⟩)) ∧ BigAt 139 w b o s N ∧ sg s N = z
theorem valInt_any (v : Value) (z : Int) (w : World) (h : CInt w v z) :
    Calls Tryz.prog 133 #[v] w fun e w' => ∃ u, e = .returned u ∧ AInt w' u z ∧ Below w.heap.size w w' := by
  rcases h with ⟨rfl, f1⟩ | ⟨b, o, s, N, rfl, hI, hz⟩
  · obtain ⟨t1, t2, t3, t4, t5, t6, t7, t8, t9⟩ := ta_int64Val
    have F := Lib.hid f1
    clear f1
    go_enter Tryz.func133, Tryz.ntmps133
    go_wp2
    go_ret
    exact ⟨_, rfl, .inl ⟨rfl, F.out⟩, Below.refl _ _⟩
  · obtain ⟨t1, t2, t3, t4, t5, t6, t7, t8, t9⟩ := ta_intVal
    have F := Lib.hid hI
    clear hI
    go_enter Tryz.func133, Tryz.ntmps133
    go_wp2
    go_ret
    have hb := Below.alloc' (Below.refl w.heap.size w) (.cells #[.pointer (some ⟨b, o, none⟩)] 102)
    exact ⟨_, rfl, .inr ⟨b, o, s, N, rfl, F.out.keep hb, hz⟩, hb⟩
theorem sg_abs {s : Bool} {N : Nat} (h : s = true → 0 < N) : decide (sg s N < 0) = s ∧ (sg s N).natAbs = N := by
  unfold sg
  cases s
  · simp
  · have := h rfl
    simp; omega
theorem partsInt_any (v : Value) (z : Int) (w : World) (h : CInt w v z) (L : Nat) (hL : L ≤ 100000) (hz : z.natAbs < W64 ^ L) :
    Calls Tryz.prog 72 #[v] w fun e w' => ∃ a n c a' n' c', e = .returned (.tuple #[.agg #[.bool (decide (z < 0)), .slice a n c], .slice a' n' c']) ∧ PlainAt w' a n c z.natAbs ∧ PlainAt w' a' n' c' 1 ∧ Below w.heap.size w w' := by
  obtain ⟨W0, hW0⟩ : ∃ W0, W0 = w.alloc (.cells #[.bool false, .slice none 0 0] 24) := ⟨_, rfl⟩
  have HW := Lib.hid hW0
  have hb0 : Below w.heap.size w W0 := by rw [hW0]; exact Below.alloc' (Below.refl _ _) _
  have hr : BlkAt W0 w.heap.size #[.bool false, .slice none 0 0] 24 := by rw [hW0]; exact BlkAt.new _ _ _
  have HH := Lib.hid (h.keep hb0)
  have HZ := Lib.hid hz
  clear hW0 h hz
  go_enter Tryz.func72, Tryz.ntmps72
  go_upto_region 1 with fail
  rw [← HW.out]
  go_wp2_with fail
  refine (valInt_any v z _ HH.out).mono ?_
  rintro e w1 ⟨u, rfl, hA, hB1⟩
  have hr1 := hr.keep hB1
  have hb1 := Below.then hb0 (Nat.le_refl _) hB1
  clear hr hB1
  rcases hA with ⟨rfl, hf⟩ | ⟨b, o, s, N, rfl, hI, e1⟩
  · obtain ⟨t1, t2, t3, t4, t5, t6⟩ := ta_any_int64
    have HF := Lib.hid (fit64_bd hf)
    clear hf
    obtain ⟨W2, hW2⟩ : ∃ W2, W2 = w1.alloc (.cells #[.bool false, .slice none 0 0] 155) := ⟨_, rfl⟩
    have HW2 := Lib.hid hW2
    have hN2 : NewInt W2 w1.heap.size 0 := by rw [hW2]; exact newInt_is w1
    have hb2 : Below w1.heap.size w1 W2 := by rw [hW2]; exact Below.alloc' (Below.refl _ _) _
    have hr2 := hr1.keep hb2
    have hbw2 := Below.then hb1 (Nat.le_refl _) hb2
    have hlt := hr1.lt
    have hs2 : W2.heap.size = w1.heap.size + 1 := by rw [hW2]; simp
    clear hW2
    go_wp2_with fail
    rw [← HW2.out]
    refine (setInt64_any w1.heap.size 0 z HF.out _ hN2).mono ?_
    rintro e w2 ⟨rfl, hI, hU⟩
    have hr3 := hU.upd.blk hr2 (Nat.ne_of_lt hlt)
    have hbw3 := hU.upd.below hbw2 (by omega) (fun k _ e => by subst e; omega)
    go_wp2_with fail
    refine (number_any w1.heap.size 0 _ _ _ hI L hL HZ.out).mono ?_
    rintro e w3 ⟨a, n, c, rfl, hP, hB3⟩
    have hr4 := hr3.keep hB3
    have hbw4 := Below.then hbw3 (Nat.le_refl _) hB3
    have hrz := hr4.keep ((Below.refl _ _).alloc (Nat.le_refl _) (.cells #[.int .u64 1] 53))
    have hbz := Below.alloc' hbw4 (.cells #[.int .u64 1] 53)
    have c0 := hrz.cell 0
    have c1 := hrz.cell 1
    have f0 := hrz.frozen 0
    have f1 := hrz.frozen 1
    simp only [List.getElem?_toArray, List.getElem?_cons_zero, List.getElem?_cons_succ] at c0 c1
    have ni := noInt_of_blk hrz noInt_num
    go_wp2
    exact bodyPost_ret (v := .tuple #[.agg #[.bool (decide (z < 0)), .slice a n c], .slice (some ⟨w3.heap.size, 0, none⟩) 1 1]) (by simp [results, Tryz.results72, go_sem, c0, c1]) rfl
      ⟨_, _, _, _, _, _, rfl, ((hP.keep (Below.alloc' (Below.refl _ _) _)).setCell _ ni).setCell _ (ni.setCell (by intro k n h; cases h)), ((plainAt_one (BlkAt.new w3 _ _)).setCell _ ni).setCell _ (ni.setCell (by intro k n h; cases h)), (hbz.setCell (Nat.le_refl _) _).setCell (Nat.le_refl _) _⟩
  · obtain ⟨t1, t2, t3, t4, t5, t6⟩ := ta_any_pInt
    obtain ⟨es, en⟩ := sg_abs hI.zero
    rw [e1] at es en
    have HE := Lib.hid es
    have HEN := Lib.hid en
    have HI := Lib.hid hI
    clear hI e1 es en
    go_wp2_with fail
    refine (number_any b o s _ _ HI.out L hL (by rw [← HEN.out]; exact HZ.out)).mono ?_
    rintro e w2 ⟨a, n, c, rfl, hP, hB2⟩
    have hr2 := hr1.keep hB2
    have hb2 := Below.then hb1 (Nat.le_refl _) hB2
    have hrz := hr2.keep ((Below.refl _ _).alloc (Nat.le_refl _) (.cells #[.int .u64 1] 53))
    have hbz := Below.alloc' hb2 (.cells #[.int .u64 1] 53)
    have c0 := hrz.cell 0
    have c1 := hrz.cell 1
    have f0 := hrz.frozen 0
    have f1 := hrz.frozen 1
    simp only [List.getElem?_toArray, List.getElem?_cons_zero, List.getElem?_cons_succ] at c0 c1
    have ni := noInt_of_blk hrz noInt_num
    go_wp2
    exact bodyPost_ret (v := .tuple #[.agg #[.bool s, .slice a n c], .slice (some ⟨w2.heap.size, 0, none⟩) 1 1]) (by simp [results, Tryz.results72, go_sem, c0, c1]) rfl
      ⟨_, _, _, _, _, _, by rw [HE.out], by rw [HEN.out]; exact ((hP.keep (Below.alloc' (Below.refl _ _) _)).setCell _ ni).setCell _ (ni.setCell (by intro k n h; cases h)), ((plainAt_one (BlkAt.new w2 _ _)).setCell _ ni).setCell _ (ni.setCell (by intro k n h; cases h)), (hbz.setCell (Nat.le_refl _) _).setCell (Nat.le_refl _) _⟩
end Go.Proofs.YtececkbcinmmpaaGreatDoor
