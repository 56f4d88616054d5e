/-
  The reference's bits, plain.
  The reference's bits: Has, bit.
  The reference's Joined.
  The reference's Joined: the whole. PRINTED BY wip/gen_spl.py.
-/
import Derived.Test.YtpfjkaelbaoedaaGreatDoorBuKK
import Derived.Test.YtpfjkaelbaoedaaGreatDoorBuCC
import Derived.Test.YtpfjkaelbaoedaaGreatDoorBuA
import Derived.Test.YtpfjkaelbaoedaaGreatDoorSpF
set_option linter.unusedSimpArgs false
set_option linter.unusedVariables false
namespace Go.Bg
open Go.RowKit Dg
theorem dg16_bit (N i : Nat) : (dg 65536 N (i / 16)).testBit (i % 16) = N.testBit i := by
  unfold dg
  rw [show (65536 : Nat) = 2 ^ 16 from rfl, ← Nat.pow_mul, Nat.testBit_mod_two_pow, decide_eq_true (show i % 16 < 16 from Nat.mod_lt _ (by decide)), Bool.true_and, Nat.testBit_div_two_pow]
  congr 1
  omega
theorem dg16_has (N i q r : Nat) (hq : q = i / 16) (hr : r = i % 16) : decide (dg 65536 N q / 2 ^ r % 2 = 1) = N.testBit i := by
  subst hq hr
  rw [← dg16_bit N i, Nat.testBit_eq_decide_div_mod_eq]
theorem has_none {N n i : Nat} (hN : N < 65536 ^ n) (h : n ≤ i / 16) : N.testBit i = false := by
  refine Nat.testBit_lt_two_pow (Nat.lt_of_lt_of_le hN ?_)
  rw [show (65536 : Nat) = 2 ^ 16 from rfl, ← Nat.pow_mul]
  exact Nat.pow_le_pow_right (by decide) (by omega)
end Go.Bg
namespace Go.Proofs.YtpfjkaelbaoedaaGreatDoor
open Go.RowKit Go.Bg Dg
theorem bits_and_one (x : Nat) (hx : x < 9223372036854775808) : bits .and .i64 (x : Int) 1 = ((x % 2 : Nat) : Int) := by
  have h := bits_and_i64 (a := (x : Int)) (b := 1) (by unfold fit64; simp; omega) (by decide)
  rw [h]
  have e : jz andT (x : Int) 1 = sg (andT false false) (jmag andT false false x 1) := by
    unfold jz
    rw [decide_eq_false (show ¬ ((x : Int) < 0) from by omega), decide_eq_false (show ¬ ((1 : Int) < 0) from by omega)]
    rfl
  rw [e, jmag_and00, Nat.and_one_is_mod]
  rfl
end Go.Proofs.YtpfjkaelbaoedaaGreatDoor

set_option linter.unusedSimpArgs false
set_option linter.unusedVariables false
namespace Go.Proofs.YtpfjkaelbaoedaaGreatDoor
open Go.RowKit Go.Bg Dg

set_option maxRecDepth 100000 in
set_option maxHeartbeats 1000000 in
theorem has_any (a : Option Addr) (n c N i : Nat) (w : World) (h : NatAt w a n c N) (hb : n ≤ 1000000) (hi : i ≤ 100000000) :
    Calls Tryz.prog 109 #[.slice a n c, .int .i64 i] w fun e w' => e = .returned (.bool (N.testBit i)) ∧ w = w' := by
  obtain ⟨q, hq⟩ : ∃ q, q = i / 16 := ⟨_, rfl⟩
  obtain ⟨r, hr⟩ : ∃ r, r = i % 16 := ⟨_, rfl⟩
  have hqi : (i : Int) / 16 = q := by omega
  have hri : (i : Int) % 16 = r := by omega
  have hr1 : r < 16 := by omega
  by_cases hlt : q < n
  · obtain ⟨b, o, rfl, _⟩ := h.form (by omega)
    have e1 := h.cell (i := q) hlt
    have hd := dg_lt (B := 65536) (by decide) N q
    have HE := Lib.hid (dg16_has N i q r hq hr)
    clear h hq hr
    generalize dg 65536 N q = x at *
    have hbt : bits .and .i64 ((x : Int) / 2 ^ r) 1 = ((x / 2 ^ r % 2 : Nat) : Int) := by
      have := bits_and_one (x / 2 ^ r) (Nat.lt_of_le_of_lt (Nat.div_le_self _ _) (by omega))
      rw [← this]; congr 1
    go_enter Tryz.func109, Tryz.ntmps109
    go_wp2
    go_ret
    exact ⟨ret_bool (by rw [← HE.out]; rw [show ((x : Int) / 2 ^ r % 2) = ((x / 2 ^ r % 2 : Nat) : Int) from by simp]; generalize x / 2 ^ r % 2 = y; apply Bool.eq_iff_iff.2; simp; omega), rfl⟩
  · have HE := Lib.hid (has_none h.lt (i := i) (by omega))
    clear h hq hr
    rw [HE.out]
    go_enter Tryz.func109, Tryz.ntmps109
    go_wp2
    go_ret
    exact ⟨rfl, rfl⟩

set_option maxRecDepth 100000 in
set_option maxHeartbeats 1000000 in
theorem sbit_any (s : Bool) (a : Option Addr) (n c : Nat) (a' : Option Addr) (n' c' N i : Nat) (w : World) (h : NatAt w a n c N) (hpos : s = true → 1 ≤ N) (hb : n ≤ 1000000) (hi : i ≤ 100000000) :
    Calls Tryz.prog 43 #[.agg #[.bool s, .slice a n c, .slice a' n' c'], .int .i64 i] w fun e w' => e = .returned (.bool (bitAt s N i)) ∧ Below w.heap.size w w' := by
  obtain ⟨W0, hW0⟩ : ∃ W0, W0 = w.alloc (.cells #[.bool s, .slice a n c, .slice a' n' c'] 31) := ⟨_, rfl⟩
  have HW := Lib.hid hW0
  have hb0 : Below w.heap.size w W0 := by rw [hW0]; exact Below.alloc' (Below.refl _ _) _
  have X : RtBlk W0 w.heap.size s a n c a' n' c' := by rw [hW0]; exact RtBlk.new _ _ rfl _ _ _ _ _ _ _
  have HN := Lib.hid (h.keep hb0)
  clear hW0
  obtain ⟨x0, x1, x2⟩ := X.all
  cases s
  · have HE := Lib.hid (show bitAt false N i = N.testBit i from by unfold bitAt low; simp)
    rw [HE.out]
    clear h hpos X
    go_enter Tryz.func43, Tryz.ntmps43
    go_upto_region 1 with fail
    rw [← HW.out]
    go_wp2_with fail
    refine (has_any a n c N i _ HN.out hb hi).mono ?_
    rintro e w1 ⟨rfl, rfl⟩
    go_wp2
    go_ret
    exact ⟨rfl, hb0⟩
  · have HP := Lib.hid (hpos rfl)
    have HL := Lib.hid h.lt
    have HE := Lib.hid (show bitAt true N i = !(N - 1).testBit i from by unfold bitAt low; cases h : (N - 1).testBit i <;> simp [h])
    rw [HE.out]
    clear h hpos
    go_enter Tryz.func43, Tryz.ntmps43
    go_upto_region 1 with fail
    rw [← HW.out]
    go_upto_region 2 with fail
    have hd0 : Below W0.heap.size W0 W0.drew := (Below.refl _ _).drew
    go_region_held3 (fun w' => w'.cell? ⟨w.heap.size, 0, none⟩ = some (.bool true) ∧ w'.cell? ⟨w.heap.size, 1, none⟩ = some (.slice a n c) ∧ w'.cell? ⟨w.heap.size, 2, none⟩ = some (.slice a' n' c'))
      (first | with_reducible exact X.all | with_reducible exact (X.keep (by assumption)).all)
      (first | (go_at_call 45; (with_reducible refine (small_one _).mono ?_); rintro e w1 ⟨aO, nO, cO, rfl, hO, hB1⟩; have hb1 := Below.then hd0 (Nat.le_refl _) hB1; have hnO := hO.len16 (m := 1) (by decide)) | (go_at_call 67; (with_reducible refine (sub_any a aO n nO c cO N 1 _ ?_ hO hb (by omega) HP.out).mono ?_); exact HN.out.keep (by assumption); rintro e w2 ⟨aS, nS, cS, rfl, hS, hB2⟩; have hb2 := Below.then hb1 (Nat.le_refl _) hB2; have hnS := hS.len16 (Nat.lt_of_le_of_lt (Nat.sub_le _ _) HL.out)) | (go_at_call 109; (with_reducible refine (has_any aS nS cS (N - 1) i _ hS (by omega) hi).mono ?_); rintro e w3 ⟨rfl, rfl⟩))
    go_wp2
    go_ret
    exact ⟨rfl, Below.then hb0 (Nat.le_refl _) hb2⟩
end Go.Proofs.YtpfjkaelbaoedaaGreatDoor

set_option linter.unusedSimpArgs false
set_option linter.unusedVariables false
namespace Go.Proofs.YtpfjkaelbaoedaaGreatDoor
open Go.RowKit Go.Bg Dg

/-- the table of what comes of two bits -/
structure TabAt (w : World) (b : Nat) (T : Bool → Bool → Bool) : Prop where
  c0 : w.cell? ⟨b, 0, none⟩ = some (.bool (T false false))
  c1 : w.cell? ⟨b, 1, none⟩ = some (.bool (T false true))
  c2 : w.cell? ⟨b, 2, none⟩ = some (.bool (T true false))
  c3 : w.cell? ⟨b, 3, none⟩ = some (.bool (T true true))
theorem TabAt.keep {w w' : World} {b : Nat} {T : Bool → Bool → Bool} (h : TabAt w b T) (hb : Below w.heap.size w w') : TabAt w' b T := ⟨cell_keep h.c0 hb, cell_keep h.c1 hb, cell_keep h.c2 hb, cell_keep h.c3 hb⟩

set_option maxRecDepth 100000 in
set_option maxHeartbeats 2000000 in
theorem joinedAt_any (ba bb bt i : Nat) (T : Bool → Bool → Bool) (s1 s2 : Bool) (a1 : Option Addr) (n1 c1 : Nat) (a1' : Option Addr) (n1' c1' : Nat) (a2 : Option Addr) (n2 c2 : Nat) (a2' : Option Addr) (n2' c2' N M : Nat) (w : World)
    (X : RtBlk w ba s1 a1 n1 c1 a1' n1' c1') (Y : RtBlk w bb s2 a2 n2 c2 a2' n2' c2') (TB : TabAt w bt T) (h1 : NatAt w a1 n1 c1 N) (h2 : NatAt w a2 n2 c2 M) (hp1 : s1 = true → 1 ≤ N) (hp2 : s2 = true → 1 ≤ M) (hb1 : n1 ≤ 1000000) (hb2 : n2 ≤ 1000000) (hi : i ≤ 100000000) :
    Calls Tryz.prog 42 #[.int .i64 i, .pointer (some ⟨ba, 0, none⟩), .pointer (some ⟨bb, 0, none⟩), .pointer (some ⟨bt, 0, none⟩)] w fun e w' => e = .returned (.bool (T (bitAt s1 N i) (bitAt s2 M i))) ∧ Below w.heap.size w w' := by
  have H1 := Lib.hid h1
  have H2 := Lib.hid h2
  have P1 := Lib.hid hp1
  have P2 := Lib.hid hp2
  clear h1 h2 hp1 hp2
  generalize hv1 : bitAt s1 N i = v1
  generalize hv2 : bitAt s2 M i = v2
  have V1 := Lib.hid hv1
  have V2 := Lib.hid hv2
  clear hv1 hv2
  cases v1 <;> cases v2
  all_goals
    obtain ⟨x0, x1, x2⟩ := X.all
    go_enter Tryz.func42, Tryz.ntmps42
    go_wp2_with fail
    refine (sbit_any s1 a1 n1 c1 a1' n1' c1' N i _ H1.out P1.out hb1 hi).mono ?_
    rintro e w1 ⟨rfl, hB1⟩
    rw [V1.out]
    have Y1 := Y.keep hB1
    have TB1 := TB.keep hB1
    have H21 := Lib.hid (H2.out.keep hB1)
    clear x0 x1 x2 X Y TB
    obtain ⟨y0, y1, y2⟩ := Y1.all
    go_wp2_with fail
    refine (sbit_any s2 a2 n2 c2 a2' n2' c2' M i _ H21.out P2.out hb2 hi).mono ?_
    rintro e w2 ⟨rfl, hB2⟩
    rw [V2.out]
    have TB2 := TB1.keep hB2
    have HB2 := Lib.hid (Below.then hB1 (Nat.le_refl _) hB2)
    clear y0 y1 y2 Y1 TB1 hB1 hB2
    obtain ⟨k0, k1, k2, k3⟩ := TB2
    go_wp2
    go_ret
    exact ⟨rfl, HB2.out⟩
end Go.Proofs.YtpfjkaelbaoedaaGreatDoor

set_option linter.unusedSimpArgs false
set_option linter.unusedVariables false
namespace Go.Bg
open Go.RowKit Dg
theorem jlow_L {T : Bool → Bool → Bool} {s t : Bool} {N M L : Nat} (h1 : N < 65536 ^ L) (h2 : M < 65536 ^ L) : jlow T s t N M + 1 < 65536 ^ (L + 1) := by
  have e : (65536 : Nat) ^ L = 2 ^ (16 * L) := by rw [Nat.pow_mul]
  rw [e] at h1 h2
  have := jlow_lt (T := T) (s := s) (t := t) (Nat.lt_of_le_of_lt (low_le s N) h1) (Nat.lt_of_le_of_lt (low_le t M) h2)
  rw [Nat.pow_succ, e]
  omega
theorem max_l {p q : Nat} (h : q ≤ p) : max p q = p := Nat.max_eq_left h
theorem max_r {p q : Nat} (h : p < q) : max p q = q := Nat.max_eq_right (Nat.le_of_lt h)
end Go.Bg
namespace Go.Proofs.YtpfjkaelbaoedaaGreatDoor
open Go.RowKit Go.Bg Dg

set_option maxRecDepth 100000 in
set_option maxHeartbeats 4000000 in
theorem joined_ge (T : Bool → Bool → Bool) (s1 s2 : Bool) (a1 : Option Addr) (n1 c1 : Nat) (a1' : Option Addr) (n1' c1' : Nat) (a2 : Option Addr) (n2 c2 : Nat) (a2' : Option Addr) (n2' c2' : Nat) (x y : Rt) (L : Nat) (w : World)
    (hx : RtAt w s1 a1 n1 c1 a1' n1' c1' x L) (hy : RtAt w s2 a2 n2 c2 a2' n2' c2' y L) (hp1 : s1 = true → 1 ≤ x.num) (hp2 : s2 = true → 1 ≤ y.num) (hL : L ≤ 4000) (p q : Nat) (hp : bl x.num = p) (hq : bl y.num = q) (hm : q ≤ p) :
    Calls Tryz.prog 22 #[.agg #[.bool s1, .slice a1 n1 c1, .slice a1' n1' c1'], .agg #[.bool s2, .slice a2 n2 c2, .slice a2' n2' c2'], .agg #[.bool (T false false), .bool (T false true), .bool (T true false), .bool (T true true)]] w (GivesR (x.joined y T) (L + 1) w) := by
  have hn1 := hx.n_le
  have hn2 := hy.n_le
  have hp16 : p ≤ 16 * L := by rw [← hp]; exact bl_le hx.numL
  have hq16 : q ≤ 16 * L := by rw [← hq]; exact bl_le hy.numL
  have HLT := Lib.hid (jlow_L (T := T) (s := s1) (t := s2) hx.numL hy.numL)
  have HJL := Lib.hid (show jlow T s1 s2 x.num y.num = bitsN (fun i => T (bitAt s1 x.num i) (bitAt s2 y.num i) != T s1 s2) (p + 1) from by unfold jlow; rw [hp, hq, max_l hm])
  have HZ1 := Lib.hid (bitAt_high (s := s1) (lt_size (N := x.num) (k := p + 1) (by omega)))
  have HZ2 := Lib.hid (bitAt_high (s := s2) (lt_size (N := y.num) (k := p + 1) (by omega)))
  obtain ⟨W0, hW0⟩ : ∃ W0, W0 = (((w.alloc (.cells #[.bool s1, .slice a1 n1 c1, .slice a1' n1' c1'] 31)).alloc (.cells #[.bool s2, .slice a2 n2 c2, .slice a2' n2' c2'] 31)).alloc (.cells #[.bool (T false false), .bool (T false true), .bool (T true false), .bool (T true true)] 41)).alloc (.cells #[.bool false, .slice none 0 0, .slice none 0 0] 31) := ⟨_, rfl⟩
  have HW := Lib.hid hW0
  have hb0 : Below w.heap.size w W0 := by rw [hW0]; exact Below.alloc' (Below.alloc' (Below.alloc' (Below.alloc' (Below.refl _ _) _) _) _) _
  have R : ResBlk W0 (w.heap.size + 1 + 1 + 1) := by rw [hW0]; exact ResBlk.new _ _ (by simp)
  have X : RtBlk W0 w.heap.size s1 a1 n1 c1 a1' n1' c1' := by rw [hW0]; exact (RtBlk.new _ _ rfl _ _ _ _ _ _ _).keep (Below.alloc' (Below.alloc' (Below.alloc' (Below.refl _ _) _) _) _)
  have Y : RtBlk W0 (w.heap.size + 1) s2 a2 n2 c2 a2' n2' c2' := by rw [hW0]; exact (RtBlk.new _ _ (by simp) _ _ _ _ _ _ _).keep (Below.alloc' (Below.alloc' (Below.refl _ _) _) _)
  have TB : TabAt W0 (w.heap.size + 1 + 1) T := by
    rw [hW0]
    refine TabAt.keep ?_ (Below.alloc' (Below.refl _ _) _)
    exact ⟨alloc_new _ _ _ (by simp) rfl, alloc_new _ _ _ (by simp) rfl, alloc_new _ _ _ (by simp) rfl, alloc_new _ _ _ (by simp) rfl⟩
  have HX := Lib.hid (hx.num.keep hb0)
  have HY := Lib.hid (hy.num.keep hb0)
  have e1 : x.neg = s1 := hx.neg.symm
  have e2 : y.neg = s2 := hy.neg.symm
  have HJ := Lib.hid (show x.joined y T = Rt.whole (T s1 s2) (jmag T s1 s2 x.num y.num) from by unfold Rt.joined; rw [e1, e2])
  have LX := Lib.hid (show ∀ w', NatAt w' a1 n1 c1 x.num → Calls Tryz.prog 26 #[.slice a1 n1 c1] w' fun e w'' => e = .returned (.int .i64 (p : Nat)) ∧ w' = w'' from fun w' h => by rw [← hp]; exact len_any a1 n1 c1 x.num w' h (by omega))
  have LY := Lib.hid (show ∀ w', NatAt w' a2 n2 c2 y.num → Calls Tryz.prog 26 #[.slice a2 n2 c2] w' fun e w'' => e = .returned (.int .i64 (q : Nat)) ∧ w' = w'' from fun w' h => by rw [← hq]; exact len_any a2 n2 c2 y.num w' h (by omega))
  clear hW0 hx hy e1 e2 hp hq
  have AT := Lib.hid (fun (i : Nat) (hi : i ≤ 100000000) (w' : World) (hb : Below W0.heap.size W0 w') => joinedAt_any w.heap.size (w.heap.size + 1) (w.heap.size + 1 + 1) i T s1 s2 a1 n1 c1 a1' n1' c1' a2 n2 c2 a2' n2' c2' x.num y.num w' (X.keep hb) (Y.keep hb) (TB.keep hb) (HX.out.keep hb) (HY.out.keep hb) hp1 hp2 (by omega) (by omega) hi)
  clear hp1 hp2
  have hmf : ∀ (fn : Fn) (first cap : Array Value) (w : World), (Instr.makeFunc fn first cap).run Tryz.prog w = .ok (.func fn first cap) w := fun _ _ _ _ => rfl
  go_enter Tryz.func22, Tryz.ntmps22
  go_upto_region 1 with fail
  rw [← HW.out]
  have hd0 : Below W0.heap.size W0 W0.drew := (Below.refl _ _).drew
  go_region_held3 (fun w' => (w'.cell? ⟨w.heap.size, 0, none⟩ = some (.bool s1) ∧ w'.cell? ⟨w.heap.size, 1, none⟩ = some (.slice a1 n1 c1) ∧ w'.cell? ⟨w.heap.size, 2, none⟩ = some (.slice a1' n1' c1')) ∧ (w'.cell? ⟨(w.heap.size + 1), 0, none⟩ = some (.bool s2) ∧ w'.cell? ⟨(w.heap.size + 1), 1, none⟩ = some (.slice a2 n2 c2) ∧ w'.cell? ⟨(w.heap.size + 1), 2, none⟩ = some (.slice a2' n2' c2')))
    (first | with_reducible exact ⟨X.all, Y.all⟩ | with_reducible exact ⟨(X.keep (by assumption)).all, (Y.keep (by assumption)).all⟩)
    (first | (go_at_call 26; (with_reducible refine (LX.out _ ?_).mono ?_); exact HX.out.keep (by assumption); rintro e w1 ⟨rfl, rfl⟩) | (go_at_call 26; (with_reducible refine (LY.out _ ?_).mono ?_); exact HY.out.keep (by assumption); rintro e w2 ⟨rfl, rfl⟩))
  clear X Y TB HX HY LX LY HW
  go_wp2_with fail
  refine (AT.out (p + 1) (by omega) _ hd0).mono ?_
  rintro e w3 ⟨rfl, hB3⟩
  rw [HZ1.out, HZ2.out]
  have hb3 := Below.then hd0 (Nat.le_refl _) hB3
  clear hB3 hd0 HZ1 HZ2
  obtain ⟨neg, hneg⟩ : ∃ neg, neg = T s1 s2 := ⟨_, rfl⟩
  have HNG := Lib.hid hneg
  rw [← hneg]
  rw [← hneg] at HJL HJ
  clear hneg
  have HB3 := Lib.hid hb3
  clear hb3
  go_wp2
  go_loopw [10, 11] (fun n i wr => ∃ k : Nat, i = .int .i64 k ∧ k ≤ p + 1 ∧ (∃ a m c, n = .slice a m c ∧ NatAt wr a m c (bitsN (fun i => T (bitAt s1 x.num i) (bitAt s2 y.num i) != neg) k)) ∧ Below W0.heap.size W0 wr)
    (fun _ i _ => p + 1 - (intOf i).toNat)
  case atStart => exact ⟨0, rfl, Nat.zero_le _, ⟨_, _, _, rfl, ⟨by simp [bitsN], .inl rfl, Nat.zero_le _, Nat.zero_le _, fun h => absurd h (Nat.lt_irrefl _)⟩⟩, Below.alloc' HB3.out _⟩
  case round =>
    obtain ⟨k, rfl, hk, ⟨a, m, c, rfl, hN⟩, hB⟩ := hrel
    have HN := Lib.hid hN
    have HB := Lib.hid hB
    have hm1 : m ≤ L + 1 := hN.len16 (Nat.lt_of_lt_of_le (bitsN_lt _ k) (by rw [show (65536 : Nat) = 2 ^ 16 from rfl, ← Nat.pow_mul]; exact Nat.pow_le_pow_right (by decide) (by omega)))
    clear hN hB
    by_cases k1 : k < p + 1
    · have HSUC := Lib.hid (show bitsN (fun i => T (bitAt s1 x.num i) (bitAt s2 y.num i) != neg) (k + 1) = bitsN (fun i => T (bitAt s1 x.num i) (bitAt s2 y.num i) != neg) k + (if (T (bitAt s1 x.num k) (bitAt s2 y.num k) != neg) then 2 ^ k else 0) from rfl)
      have HAT := Lib.hid (AT.out k (by omega))
      generalize T (bitAt s1 x.num k) (bitAt s2 y.num k) = tk at *
      cases tk <;> cases neg
      · have HSU := Lib.hid (show bitsN (fun i => T (bitAt s1 x.num i) (bitAt s2 y.num i) != false) (k + 1) = bitsN (fun i => T (bitAt s1 x.num i) (bitAt s2 y.num i) != false) k from by rw [HSUC.out]; rfl)
        clear HSUC
        go_wp2_with fail
        refine (HAT.out _ HB.out).mono ?_
        rintro e w4 ⟨rfl, hB4⟩
        have HB4 := Lib.hid (Below.then HB.out (Nat.le_refl _) hB4)
        have HN4 := Lib.hid (HN.out.keep hB4)
        clear hB4
        go_wp2
        go_roundw
        case rel => exact ⟨k + 1, by go_num, by omega, ⟨_, _, _, rfl, by rw [HSU.out]; exact HN4.out⟩, HB4.out⟩
        case measure => simp [intOf]; omega
      · have HSU := Lib.hid (show bitsN (fun i => T (bitAt s1 x.num i) (bitAt s2 y.num i) != true) (k + 1) = bitsN (fun i => T (bitAt s1 x.num i) (bitAt s2 y.num i) != true) k + 2 ^ k from by rw [HSUC.out]; rfl)
        clear HSUC
        go_wp2_with fail
        refine (HAT.out _ HB.out).mono ?_
        rintro e w4 ⟨rfl, hB4⟩
        have HB4 := Lib.hid (Below.then HB.out (Nat.le_refl _) hB4)
        have HN4 := Lib.hid (HN.out.keep hB4)
        clear hB4
        go_wp2_with fail
        refine (bit_any k _ (by omega)).mono ?_
        rintro e w5 ⟨aB, nB, cB, rfl, hB, hB5⟩
        have HN5 := Lib.hid (HN4.out.keep hB5)
        have hnB : nB ≤ L + 1 := hB.len16 (Nat.lt_of_lt_of_le (Nat.pow_lt_pow_right (by decide) (show k < 16 * (L + 1) from by omega)) (by rw [show (65536 : Nat) = 2 ^ 16 from rfl, ← Nat.pow_mul]; exact Nat.le_refl _))
        have HBB := Lib.hid hB
        have HB5 := Lib.hid (Below.then HB4.out (Nat.le_refl _) hB5)
        clear hB hB5
        go_wp2_with fail
        refine (add_any a aB m nB c cB _ (2 ^ k) _ HN5.out HBB.out (by omega) (by omega)).mono ?_
        rintro e w6 ⟨aS, nS, cS, rfl, hS, hB6⟩
        have HS := Lib.hid hS
        have HB6 := Lib.hid (Below.then HB5.out (Nat.le_refl _) hB6)
        clear hS hB6
        go_wp2
        go_roundw
        case rel => exact ⟨k + 1, by go_num, by omega, ⟨_, _, _, rfl, by rw [HSU.out]; exact HS.out⟩, HB6.out⟩
        case measure => simp [intOf]; omega
      · have HSU := Lib.hid (show bitsN (fun i => T (bitAt s1 x.num i) (bitAt s2 y.num i) != false) (k + 1) = bitsN (fun i => T (bitAt s1 x.num i) (bitAt s2 y.num i) != false) k + 2 ^ k from by rw [HSUC.out]; rfl)
        clear HSUC
        go_wp2_with fail
        refine (HAT.out _ HB.out).mono ?_
        rintro e w4 ⟨rfl, hB4⟩
        have HB4 := Lib.hid (Below.then HB.out (Nat.le_refl _) hB4)
        have HN4 := Lib.hid (HN.out.keep hB4)
        clear hB4
        go_wp2_with fail
        refine (bit_any k _ (by omega)).mono ?_
        rintro e w5 ⟨aB, nB, cB, rfl, hB, hB5⟩
        have HN5 := Lib.hid (HN4.out.keep hB5)
        have hnB : nB ≤ L + 1 := hB.len16 (Nat.lt_of_lt_of_le (Nat.pow_lt_pow_right (by decide) (show k < 16 * (L + 1) from by omega)) (by rw [show (65536 : Nat) = 2 ^ 16 from rfl, ← Nat.pow_mul]; exact Nat.le_refl _))
        have HBB := Lib.hid hB
        have HB5 := Lib.hid (Below.then HB4.out (Nat.le_refl _) hB5)
        clear hB hB5
        go_wp2_with fail
        refine (add_any a aB m nB c cB _ (2 ^ k) _ HN5.out HBB.out (by omega) (by omega)).mono ?_
        rintro e w6 ⟨aS, nS, cS, rfl, hS, hB6⟩
        have HS := Lib.hid hS
        have HB6 := Lib.hid (Below.then HB5.out (Nat.le_refl _) hB6)
        clear hS hB6
        go_wp2
        go_roundw
        case rel => exact ⟨k + 1, by go_num, by omega, ⟨_, _, _, rfl, by rw [HSU.out]; exact HS.out⟩, HB6.out⟩
        case measure => simp [intOf]; omega
      · have HSU := Lib.hid (show bitsN (fun i => T (bitAt s1 x.num i) (bitAt s2 y.num i) != true) (k + 1) = bitsN (fun i => T (bitAt s1 x.num i) (bitAt s2 y.num i) != true) k from by rw [HSUC.out]; rfl)
        clear HSUC
        go_wp2_with fail
        refine (HAT.out _ HB.out).mono ?_
        rintro e w4 ⟨rfl, hB4⟩
        have HB4 := Lib.hid (Below.then HB.out (Nat.le_refl _) hB4)
        have HN4 := Lib.hid (HN.out.keep hB4)
        clear hB4
        go_wp2
        go_roundw
        case rel => exact ⟨k + 1, by go_num, by omega, ⟨_, _, _, rfl, by rw [HSU.out]; exact HN4.out⟩, HB4.out⟩
        case measure => simp [intOf]; omega
    · obtain rfl : k = p + 1 := by omega
      have HN' := Lib.hid (show NatAt wr a m c (jlow T s1 s2 x.num y.num) from by rw [HJL.out]; exact HN.out)
      have hbW := Below.then hb0 (Nat.le_refl _) HB.out
      have R5 := R.below R.lt HB.out
      have HNG2 := Lib.hid (HNG.out.symm)
      clear HN HJL AT hmf R HNG
      cases neg
      · have HRES := Lib.hid (show x.joined y T = Rt.whole false (jlow T s1 s2 x.num y.num) from by rw [HJ.out]; unfold jmag; rw [HNG2.out]; rfl)
        go_wp2_with fail
        refine (whole_any false a m c _ (L + 1) _ HN'.out (by have := HLT.out; omega) (by omega) (by omega)).mono ?_
        rintro e w5 ⟨sR, aR, nR, cR, aE, nE, cE, rfl, hR, hB5⟩
        have R6 := R5.below R5.lt hB5
        obtain ⟨⟨u0, r0⟩, ⟨u1, r1⟩, ⟨u2, r2⟩⟩ := (R6).cells; have f0 := (R6).frozen 0; have f1 := (R6).frozen 1; have f2 := (R6).frozen 2
        have hbf := Below.then hbW (Nat.le_refl _) hB5
        go_wp2
        exact bodyPost_ret (v := .agg #[.bool sR, .slice aR nR cR, .slice aE nE cE]) (by simp [results, Tryz.results22, go_sem, r0, r1, r2]) rfl (givesR_end R6 (by omega) hbf (by rw [HRES.out]; exact hR))
      · have HRES := Lib.hid (show x.joined y T = Rt.whole true (jlow T s1 s2 x.num y.num + 1) from by rw [HJ.out]; unfold jmag; rw [HNG2.out]; rfl)
        go_wp2_with fail
        refine (small_one _).mono ?_
        rintro e w5 ⟨aO, nO, cO, rfl, hO, hB5⟩
        have hnO := hO.len16 (m := 1) (by decide)
        have HN5 := Lib.hid (HN'.out.keep hB5)
        have HO := Lib.hid hO
        have hb5 := Below.then hbW (Nat.le_refl _) hB5
        have R6 := R5.below R5.lt hB5
        clear hO hB5 R5 hbW
        go_wp2_with fail
        refine (add_any a aO m nO c cO _ 1 _ HN5.out HO.out (by omega) (by omega)).mono ?_
        rintro e w6 ⟨aS, nS, cS, rfl, hS, hB6⟩
        have HS := Lib.hid hS
        have hb6 := Below.then hb5 (Nat.le_refl _) hB6
        have R7 := R6.below R6.lt hB6
        clear hS hB6 R6 hb5
        go_wp2_with fail
        refine (whole_any true aS nS cS _ (L + 1) _ HS.out HLT.out (by omega) (by omega)).mono ?_
        rintro e w7 ⟨sR, aR, nR, cR, aE, nE, cE, rfl, hR, hB7⟩
        have R8 := R7.below R7.lt hB7
        obtain ⟨⟨u0, r0⟩, ⟨u1, r1⟩, ⟨u2, r2⟩⟩ := (R8).cells; have f0 := (R8).frozen 0; have f1 := (R8).frozen 1; have f2 := (R8).frozen 2
        have hbf := Below.then hb6 (Nat.le_refl _) hB7
        go_wp2
        exact bodyPost_ret (v := .agg #[.bool sR, .slice aR nR cR, .slice aE nE cE]) (by simp [results, Tryz.results22, go_sem, r0, r1, r2]) rfl (givesR_end R8 (by omega) hbf (by rw [HRES.out]; exact hR))

set_option maxRecDepth 100000 in
set_option maxHeartbeats 4000000 in
theorem joined_lt (T : Bool → Bool → Bool) (s1 s2 : Bool) (a1 : Option Addr) (n1 c1 : Nat) (a1' : Option Addr) (n1' c1' : Nat) (a2 : Option Addr) (n2 c2 : Nat) (a2' : Option Addr) (n2' c2' : Nat) (x y : Rt) (L : Nat) (w : World)
    (hx : RtAt w s1 a1 n1 c1 a1' n1' c1' x L) (hy : RtAt w s2 a2 n2 c2 a2' n2' c2' y L) (hp1 : s1 = true → 1 ≤ x.num) (hp2 : s2 = true → 1 ≤ y.num) (hL : L ≤ 4000) (p q : Nat) (hp : bl x.num = p) (hq : bl y.num = q) (hm : p < q) :
    Calls Tryz.prog 22 #[.agg #[.bool s1, .slice a1 n1 c1, .slice a1' n1' c1'], .agg #[.bool s2, .slice a2 n2 c2, .slice a2' n2' c2'], .agg #[.bool (T false false), .bool (T false true), .bool (T true false), .bool (T true true)]] w (GivesR (x.joined y T) (L + 1) w) := by
  have hn1 := hx.n_le
  have hn2 := hy.n_le
  have hp16 : p ≤ 16 * L := by rw [← hp]; exact bl_le hx.numL
  have hq16 : q ≤ 16 * L := by rw [← hq]; exact bl_le hy.numL
  have HLT := Lib.hid (jlow_L (T := T) (s := s1) (t := s2) hx.numL hy.numL)
  have HJL := Lib.hid (show jlow T s1 s2 x.num y.num = bitsN (fun i => T (bitAt s1 x.num i) (bitAt s2 y.num i) != T s1 s2) (q + 1) from by unfold jlow; rw [hp, hq, max_r hm])
  have HZ1 := Lib.hid (bitAt_high (s := s1) (lt_size (N := x.num) (k := q + 1) (by omega)))
  have HZ2 := Lib.hid (bitAt_high (s := s2) (lt_size (N := y.num) (k := q + 1) (by omega)))
  obtain ⟨W0, hW0⟩ : ∃ W0, W0 = (((w.alloc (.cells #[.bool s1, .slice a1 n1 c1, .slice a1' n1' c1'] 31)).alloc (.cells #[.bool s2, .slice a2 n2 c2, .slice a2' n2' c2'] 31)).alloc (.cells #[.bool (T false false), .bool (T false true), .bool (T true false), .bool (T true true)] 41)).alloc (.cells #[.bool false, .slice none 0 0, .slice none 0 0] 31) := ⟨_, rfl⟩
  have HW := Lib.hid hW0
  have hb0 : Below w.heap.size w W0 := by rw [hW0]; exact Below.alloc' (Below.alloc' (Below.alloc' (Below.alloc' (Below.refl _ _) _) _) _) _
  have R : ResBlk W0 (w.heap.size + 1 + 1 + 1) := by rw [hW0]; exact ResBlk.new _ _ (by simp)
  have X : RtBlk W0 w.heap.size s1 a1 n1 c1 a1' n1' c1' := by rw [hW0]; exact (RtBlk.new _ _ rfl _ _ _ _ _ _ _).keep (Below.alloc' (Below.alloc' (Below.alloc' (Below.refl _ _) _) _) _)
  have Y : RtBlk W0 (w.heap.size + 1) s2 a2 n2 c2 a2' n2' c2' := by rw [hW0]; exact (RtBlk.new _ _ (by simp) _ _ _ _ _ _ _).keep (Below.alloc' (Below.alloc' (Below.refl _ _) _) _)
  have TB : TabAt W0 (w.heap.size + 1 + 1) T := by
    rw [hW0]
    refine TabAt.keep ?_ (Below.alloc' (Below.refl _ _) _)
    exact ⟨alloc_new _ _ _ (by simp) rfl, alloc_new _ _ _ (by simp) rfl, alloc_new _ _ _ (by simp) rfl, alloc_new _ _ _ (by simp) rfl⟩
  have HX := Lib.hid (hx.num.keep hb0)
  have HY := Lib.hid (hy.num.keep hb0)
  have e1 : x.neg = s1 := hx.neg.symm
  have e2 : y.neg = s2 := hy.neg.symm
  have HJ := Lib.hid (show x.joined y T = Rt.whole (T s1 s2) (jmag T s1 s2 x.num y.num) from by unfold Rt.joined; rw [e1, e2])
  have LX := Lib.hid (show ∀ w', NatAt w' a1 n1 c1 x.num → Calls Tryz.prog 26 #[.slice a1 n1 c1] w' fun e w'' => e = .returned (.int .i64 (p : Nat)) ∧ w' = w'' from fun w' h => by rw [← hp]; exact len_any a1 n1 c1 x.num w' h (by omega))
  have LY := Lib.hid (show ∀ w', NatAt w' a2 n2 c2 y.num → Calls Tryz.prog 26 #[.slice a2 n2 c2] w' fun e w'' => e = .returned (.int .i64 (q : Nat)) ∧ w' = w'' from fun w' h => by rw [← hq]; exact len_any a2 n2 c2 y.num w' h (by omega))
  clear hW0 hx hy e1 e2 hp hq
  have AT := Lib.hid (fun (i : Nat) (hi : i ≤ 100000000) (w' : World) (hb : Below W0.heap.size W0 w') => joinedAt_any w.heap.size (w.heap.size + 1) (w.heap.size + 1 + 1) i T s1 s2 a1 n1 c1 a1' n1' c1' a2 n2 c2 a2' n2' c2' x.num y.num w' (X.keep hb) (Y.keep hb) (TB.keep hb) (HX.out.keep hb) (HY.out.keep hb) hp1 hp2 (by omega) (by omega) hi)
  clear hp1 hp2
  have hmf : ∀ (fn : Fn) (first cap : Array Value) (w : World), (Instr.makeFunc fn first cap).run Tryz.prog w = .ok (.func fn first cap) w := fun _ _ _ _ => rfl
  go_enter Tryz.func22, Tryz.ntmps22
  go_upto_region 1 with fail
  rw [← HW.out]
  have hd0 : Below W0.heap.size W0 W0.drew := (Below.refl _ _).drew
  go_region_held3 (fun w' => (w'.cell? ⟨w.heap.size, 0, none⟩ = some (.bool s1) ∧ w'.cell? ⟨w.heap.size, 1, none⟩ = some (.slice a1 n1 c1) ∧ w'.cell? ⟨w.heap.size, 2, none⟩ = some (.slice a1' n1' c1')) ∧ (w'.cell? ⟨(w.heap.size + 1), 0, none⟩ = some (.bool s2) ∧ w'.cell? ⟨(w.heap.size + 1), 1, none⟩ = some (.slice a2 n2 c2) ∧ w'.cell? ⟨(w.heap.size + 1), 2, none⟩ = some (.slice a2' n2' c2')))
    (first | with_reducible exact ⟨X.all, Y.all⟩ | with_reducible exact ⟨(X.keep (by assumption)).all, (Y.keep (by assumption)).all⟩)
    (first | (go_at_call 26; (with_reducible refine (LX.out _ ?_).mono ?_); exact HX.out.keep (by assumption); rintro e w1 ⟨rfl, rfl⟩) | (go_at_call 26; (with_reducible refine (LY.out _ ?_).mono ?_); exact HY.out.keep (by assumption); rintro e w2 ⟨rfl, rfl⟩))
  clear X Y TB HX HY LX LY HW
  go_wp2_with fail
  refine (AT.out (q + 1) (by omega) _ hd0).mono ?_
  rintro e w3 ⟨rfl, hB3⟩
  rw [HZ1.out, HZ2.out]
  have hb3 := Below.then hd0 (Nat.le_refl _) hB3
  clear hB3 hd0 HZ1 HZ2
  obtain ⟨neg, hneg⟩ : ∃ neg, neg = T s1 s2 := ⟨_, rfl⟩
  have HNG := Lib.hid hneg
  rw [← hneg]
  rw [← hneg] at HJL HJ
  clear hneg
  have HB3 := Lib.hid hb3
  clear hb3
  go_wp2
  go_loopw [10, 11] (fun n i wr => ∃ k : Nat, i = .int .i64 k ∧ k ≤ q + 1 ∧ (∃ a m c, n = .slice a m c ∧ NatAt wr a m c (bitsN (fun i => T (bitAt s1 x.num i) (bitAt s2 y.num i) != neg) k)) ∧ Below W0.heap.size W0 wr)
    (fun _ i _ => q + 1 - (intOf i).toNat)
  case atStart => exact ⟨0, rfl, Nat.zero_le _, ⟨_, _, _, rfl, ⟨by simp [bitsN], .inl rfl, Nat.zero_le _, Nat.zero_le _, fun h => absurd h (Nat.lt_irrefl _)⟩⟩, Below.alloc' HB3.out _⟩
  case round =>
    obtain ⟨k, rfl, hk, ⟨a, m, c, rfl, hN⟩, hB⟩ := hrel
    have HN := Lib.hid hN
    have HB := Lib.hid hB
    have hm1 : m ≤ L + 1 := hN.len16 (Nat.lt_of_lt_of_le (bitsN_lt _ k) (by rw [show (65536 : Nat) = 2 ^ 16 from rfl, ← Nat.pow_mul]; exact Nat.pow_le_pow_right (by decide) (by omega)))
    clear hN hB
    by_cases k1 : k < q + 1
    · have HSUC := Lib.hid (show bitsN (fun i => T (bitAt s1 x.num i) (bitAt s2 y.num i) != neg) (k + 1) = bitsN (fun i => T (bitAt s1 x.num i) (bitAt s2 y.num i) != neg) k + (if (T (bitAt s1 x.num k) (bitAt s2 y.num k) != neg) then 2 ^ k else 0) from rfl)
      have HAT := Lib.hid (AT.out k (by omega))
      generalize T (bitAt s1 x.num k) (bitAt s2 y.num k) = tk at *
      cases tk <;> cases neg
      · have HSU := Lib.hid (show bitsN (fun i => T (bitAt s1 x.num i) (bitAt s2 y.num i) != false) (k + 1) = bitsN (fun i => T (bitAt s1 x.num i) (bitAt s2 y.num i) != false) k from by rw [HSUC.out]; rfl)
        clear HSUC
        go_wp2_with fail
        refine (HAT.out _ HB.out).mono ?_
        rintro e w4 ⟨rfl, hB4⟩
        have HB4 := Lib.hid (Below.then HB.out (Nat.le_refl _) hB4)
        have HN4 := Lib.hid (HN.out.keep hB4)
        clear hB4
        go_wp2
        go_roundw
        case rel => exact ⟨k + 1, by go_num, by omega, ⟨_, _, _, rfl, by rw [HSU.out]; exact HN4.out⟩, HB4.out⟩
        case measure => simp [intOf]; omega
      · have HSU := Lib.hid (show bitsN (fun i => T (bitAt s1 x.num i) (bitAt s2 y.num i) != true) (k + 1) = bitsN (fun i => T (bitAt s1 x.num i) (bitAt s2 y.num i) != true) k + 2 ^ k from by rw [HSUC.out]; rfl)
        clear HSUC
        go_wp2_with fail
        refine (HAT.out _ HB.out).mono ?_
        rintro e w4 ⟨rfl, hB4⟩
        have HB4 := Lib.hid (Below.then HB.out (Nat.le_refl _) hB4)
        have HN4 := Lib.hid (HN.out.keep hB4)
        clear hB4
        go_wp2_with fail
        refine (bit_any k _ (by omega)).mono ?_
        rintro e w5 ⟨aB, nB, cB, rfl, hB, hB5⟩
        have HN5 := Lib.hid (HN4.out.keep hB5)
        have hnB : nB ≤ L + 1 := hB.len16 (Nat.lt_of_lt_of_le (Nat.pow_lt_pow_right (by decide) (show k < 16 * (L + 1) from by omega)) (by rw [show (65536 : Nat) = 2 ^ 16 from rfl, ← Nat.pow_mul]; exact Nat.le_refl _))
        have HBB := Lib.hid hB
        have HB5 := Lib.hid (Below.then HB4.out (Nat.le_refl _) hB5)
        clear hB hB5
        go_wp2_with fail
        refine (add_any a aB m nB c cB _ (2 ^ k) _ HN5.out HBB.out (by omega) (by omega)).mono ?_
        rintro e w6 ⟨aS, nS, cS, rfl, hS, hB6⟩
        have HS := Lib.hid hS
        have HB6 := Lib.hid (Below.then HB5.out (Nat.le_refl _) hB6)
        clear hS hB6
        go_wp2
        go_roundw
        case rel => exact ⟨k + 1, by go_num, by omega, ⟨_, _, _, rfl, by rw [HSU.out]; exact HS.out⟩, HB6.out⟩
        case measure => simp [intOf]; omega
      · have HSU := Lib.hid (show bitsN (fun i => T (bitAt s1 x.num i) (bitAt s2 y.num i) != false) (k + 1) = bitsN (fun i => T (bitAt s1 x.num i) (bitAt s2 y.num i) != false) k + 2 ^ k from by rw [HSUC.out]; rfl)
        clear HSUC
        go_wp2_with fail
        refine (HAT.out _ HB.out).mono ?_
        rintro e w4 ⟨rfl, hB4⟩
        have HB4 := Lib.hid (Below.then HB.out (Nat.le_refl _) hB4)
        have HN4 := Lib.hid (HN.out.keep hB4)
        clear hB4
        go_wp2_with fail
        refine (bit_any k _ (by omega)).mono ?_
        rintro e w5 ⟨aB, nB, cB, rfl, hB, hB5⟩
        have HN5 := Lib.hid (HN4.out.keep hB5)
        have hnB : nB ≤ L + 1 := hB.len16 (Nat.lt_of_lt_of_le (Nat.pow_lt_pow_right (by decide) (show k < 16 * (L + 1) from by omega)) (by rw [show (65536 : Nat) = 2 ^ 16 from rfl, ← Nat.pow_mul]; exact Nat.le_refl _))
        have HBB := Lib.hid hB
        have HB5 := Lib.hid (Below.then HB4.out (Nat.le_refl _) hB5)
        clear hB hB5
        go_wp2_with fail
        refine (add_any a aB m nB c cB _ (2 ^ k) _ HN5.out HBB.out (by omega) (by omega)).mono ?_
        rintro e w6 ⟨aS, nS, cS, rfl, hS, hB6⟩
        have HS := Lib.hid hS
        have HB6 := Lib.hid (Below.then HB5.out (Nat.le_refl _) hB6)
        clear hS hB6
        go_wp2
        go_roundw
        case rel => exact ⟨k + 1, by go_num, by omega, ⟨_, _, _, rfl, by rw [HSU.out]; exact HS.out⟩, HB6.out⟩
        case measure => simp [intOf]; omega
      · have HSU := Lib.hid (show bitsN (fun i => T (bitAt s1 x.num i) (bitAt s2 y.num i) != true) (k + 1) = bitsN (fun i => T (bitAt s1 x.num i) (bitAt s2 y.num i) != true) k from by rw [HSUC.out]; rfl)
        clear HSUC
        go_wp2_with fail
        refine (HAT.out _ HB.out).mono ?_
        rintro e w4 ⟨rfl, hB4⟩
        have HB4 := Lib.hid (Below.then HB.out (Nat.le_refl _) hB4)
        have HN4 := Lib.hid (HN.out.keep hB4)
        clear hB4
        go_wp2
        go_roundw
        case rel => exact ⟨k + 1, by go_num, by omega, ⟨_, _, _, rfl, by rw [HSU.out]; exact HN4.out⟩, HB4.out⟩
        case measure => simp [intOf]; omega
    · obtain rfl : k = q + 1 := by omega
      have HN' := Lib.hid (show NatAt wr a m c (jlow T s1 s2 x.num y.num) from by rw [HJL.out]; exact HN.out)
      have hbW := Below.then hb0 (Nat.le_refl _) HB.out
      have R5 := R.below R.lt HB.out
      have HNG2 := Lib.hid (HNG.out.symm)
      clear HN HJL AT hmf R HNG
      cases neg
      · have HRES := Lib.hid (show x.joined y T = Rt.whole false (jlow T s1 s2 x.num y.num) from by rw [HJ.out]; unfold jmag; rw [HNG2.out]; rfl)
        go_wp2_with fail
        refine (whole_any false a m c _ (L + 1) _ HN'.out (by have := HLT.out; omega) (by omega) (by omega)).mono ?_
        rintro e w5 ⟨sR, aR, nR, cR, aE, nE, cE, rfl, hR, hB5⟩
        have R6 := R5.below R5.lt hB5
        obtain ⟨⟨u0, r0⟩, ⟨u1, r1⟩, ⟨u2, r2⟩⟩ := (R6).cells; have f0 := (R6).frozen 0; have f1 := (R6).frozen 1; have f2 := (R6).frozen 2
        have hbf := Below.then hbW (Nat.le_refl _) hB5
        go_wp2
        exact bodyPost_ret (v := .agg #[.bool sR, .slice aR nR cR, .slice aE nE cE]) (by simp [results, Tryz.results22, go_sem, r0, r1, r2]) rfl (givesR_end R6 (by omega) hbf (by rw [HRES.out]; exact hR))
      · have HRES := Lib.hid (show x.joined y T = Rt.whole true (jlow T s1 s2 x.num y.num + 1) from by rw [HJ.out]; unfold jmag; rw [HNG2.out]; rfl)
        go_wp2_with fail
        refine (small_one _).mono ?_
        rintro e w5 ⟨aO, nO, cO, rfl, hO, hB5⟩
        have hnO := hO.len16 (m := 1) (by decide)
        have HN5 := Lib.hid (HN'.out.keep hB5)
        have HO := Lib.hid hO
        have hb5 := Below.then hbW (Nat.le_refl _) hB5
        have R6 := R5.below R5.lt hB5
        clear hO hB5 R5 hbW
        go_wp2_with fail
        refine (add_any a aO m nO c cO _ 1 _ HN5.out HO.out (by omega) (by omega)).mono ?_
        rintro e w6 ⟨aS, nS, cS, rfl, hS, hB6⟩
        have HS := Lib.hid hS
        have hb6 := Below.then hb5 (Nat.le_refl _) hB6
        have R7 := R6.below R6.lt hB6
        clear hS hB6 R6 hb5
        go_wp2_with fail
        refine (whole_any true aS nS cS _ (L + 1) _ HS.out HLT.out (by omega) (by omega)).mono ?_
        rintro e w7 ⟨sR, aR, nR, cR, aE, nE, cE, rfl, hR, hB7⟩
        have R8 := R7.below R7.lt hB7
        obtain ⟨⟨u0, r0⟩, ⟨u1, r1⟩, ⟨u2, r2⟩⟩ := (R8).cells; have f0 := (R8).frozen 0; have f1 := (R8).frozen 1; have f2 := (R8).frozen 2
        have hbf := Below.then hb6 (Nat.le_refl _) hB7
        go_wp2
        exact bodyPost_ret (v := .agg #[.bool sR, .slice aR nR cR, .slice aE nE cE]) (by simp [results, Tryz.results22, go_sem, r0, r1, r2]) rfl (givesR_end R8 (by omega) hbf (by rw [HRES.out]; exact hR))

theorem joined_any (T : Bool → Bool → Bool) (s1 s2 : Bool) (a1 : Option Addr) (n1 c1 : Nat) (a1' : Option Addr) (n1' c1' : Nat) (a2 : Option Addr) (n2 c2 : Nat) (a2' : Option Addr) (n2' c2' : Nat) (x y : Rt) (L : Nat) (w : World)
    (hx : RtAt w s1 a1 n1 c1 a1' n1' c1' x L) (hy : RtAt w s2 a2 n2 c2 a2' n2' c2' y L) (hp1 : s1 = true → 1 ≤ x.num) (hp2 : s2 = true → 1 ≤ y.num) (hL : L ≤ 4000) :
    Calls Tryz.prog 22 #[.agg #[.bool s1, .slice a1 n1 c1, .slice a1' n1' c1'], .agg #[.bool s2, .slice a2 n2 c2, .slice a2' n2' c2'], .agg #[.bool (T false false), .bool (T false true), .bool (T true false), .bool (T true true)]] w (GivesR (x.joined y T) (L + 1) w) := by
  by_cases h : bl y.num ≤ bl x.num
  · exact joined_ge T s1 s2 a1 n1 c1 a1' n1' c1' a2 n2 c2 a2' n2' c2' x y L w hx hy hp1 hp2 hL _ _ rfl rfl h
  · exact joined_lt T s1 s2 a1 n1 c1 a1' n1' c1' a2 n2 c2 a2' n2' c2' x y L w hx hy hp1 hp2 hL _ _ rfl rfl (by omega)
end Go.Proofs.YtpfjkaelbaoedaaGreatDoor
