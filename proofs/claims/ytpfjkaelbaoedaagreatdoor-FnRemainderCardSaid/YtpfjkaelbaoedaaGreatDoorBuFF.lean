/-
  divWVW: a number by a word.
  nat.divW; nat.div by one word, and of the smaller by the greater.
  nat.div: by one word; of the smaller by the greater.
  mulWW, greaterThan.
  Knuth's guess at a word of a quotient, plain.
-/
import Derived.Test.YtpfjkaelbaoedaaGreatDoorBuEE
import Derived.Test.YtpfjkaelbaoedaaGreatDoorBuG
import Derived.Test.YtpfjkaelbaoedaaGreatDoorBuP
import Derived.Test.YtpfjkaelbaoedaaGreatDoorBuO
import Derived.Test.YtpfjkaelbaoedaaGreatDoorBuF
set_option linter.unusedSimpArgs false
set_option linter.unusedVariables false
namespace Go.Bg
open Go.RowKit Dg
theorem dg_div {X y i : Nat} (hy : 0 < y) : dg W64 (X / y) i = ((X / W64 ^ (i + 1) % y) * W64 + dg W64 X i) / y ∧ X / W64 ^ i % y = ((X / W64 ^ (i + 1) % y) * W64 + dg W64 X i) % y := by
  have e1 : X / W64 ^ (i + 1) = X / W64 ^ i / W64 := by rw [Nat.pow_succ, Nat.div_div_eq_div_mul]
  have e2 : dg W64 (X / y) i = X / W64 ^ i / y % W64 := by unfold dg; rw [div_right]
  have e3 : dg W64 X i = X / W64 ^ i % W64 := rfl
  rw [e1, e2, e3]
  generalize X / W64 ^ i = A
  have hlt : (A / W64 % y * W64 + A % W64) / y < W64 := by
    rw [Nat.div_lt_iff_lt_mul hy]
    have h1 : A / W64 % y < y := Nat.mod_lt _ hy
    have h2 : A % W64 < W64 := Nat.mod_lt _ W64_pos
    have h3 : (A / W64 % y + 1) * W64 ≤ y * W64 := Nat.mul_le_mul_right _ h1
    rw [Nat.add_mul, Nat.one_mul] at h3
    rw [Nat.mul_comm W64]
    omega
  have e : A = y * (A / W64 / y * W64) + (A / W64 % y * W64 + A % W64) := by
    have h1 := Nat.div_add_mod A W64
    have h2 := Nat.div_add_mod (A / W64) y
    have h3 : W64 * (A / W64) = y * (A / W64 / y * W64) + A / W64 % y * W64 := by
      conv => lhs; rw [← h2]
      rw [Nat.mul_add, Nat.mul_comm W64 (A / W64 % y), Nat.mul_comm W64, Nat.mul_assoc]
    omega
  constructor
  · conv => lhs; rw [e]
    rw [Nat.mul_add_div hy, Nat.add_comm, Nat.add_mul_mod_self_right]
    exact Nat.mod_eq_of_lt hlt
  · conv => lhs; rw [e]
    exact Nat.mul_add_mod _ _ _
end Go.Bg

namespace Go.Proofs.YtpfjkaelbaoedaaGreatDoor
open Go.RowKit Go.Bg Dg

set_option maxRecDepth 100000 in
set_option maxHeartbeats 2000000 in
theorem divWVW_any (g o n c0 b1 o1 c1 : Nat) (cur : Array Value) (X y : Nat) (w : World) (hg : BlkAt w g cur 181) (hn : n ≤ 1000000) (hn0 : 0 < n) (hr : o + n ≤ cur.size) (h0 : n ≤ c0) (h0m : c0 ≤ maxLen)
    (h1 : WCells w b1 o1 n (dg W64 X)) (h1c : n ≤ c1) (h1m : c1 ≤ maxLen) (hn1 : b1 ≠ g) (hy0 : 0 < y) (hy : y < 18446744073709551616) (hX : X < W64 ^ n) :
    Calls Tryz.prog 246 #[.slice (some ⟨g, o, none⟩) n c0, .int .u64 0, .slice (some ⟨b1, o1, none⟩) n c1, .int .u64 y] w
      (VecIs g o n cur (dg W64 (X / y)) (X % y) w) := by
  unfold maxLen at h0m h1m
  have HG := Lib.hid hg
  have H1 := Lib.hid h1
  have HX := Lib.hid hX
  clear hg h1 hX
  by_cases hs1 : n = 1
  · subst hs1
    have e1 : w.cell? ⟨b1, o1, none⟩ = some (.int .u64 (dg W64 X 0 : Nat)) := by have := H1.out 0 hn0; rwa [Nat.add_zero] at this
    have hXl : X < 18446744073709551616 := by have := HX.out; rwa [Nat.pow_one] at this
    have hd0 : dg W64 X 0 = X := by unfold dg; rw [Nat.pow_zero, Nat.div_one]; exact Nat.mod_eq_of_lt hXl
    have hd1 : dg W64 (X / y) 0 = X / y := by unfold dg; rw [Nat.pow_zero, Nat.div_one]; exact Nat.mod_eq_of_lt (Nat.lt_of_le_of_lt (Nat.div_le_self _ _) hXl)
    rw [hd0] at e1
    have HD := Lib.hid (fun w => bitsDiv_any 0 X y hy0 hXl hy w)
    rw [Nat.zero_mul, Nat.zero_add] at HD
    have hq : X / y < 18446744073709551616 := Nat.lt_of_le_of_lt (Nat.div_le_self _ _) hXl
    have hm : X % y < 18446744073709551616 := Nat.lt_of_le_of_lt (Nat.mod_le _ _) hXl
    have HE := Lib.hid hd1.symm
    clear hd0 hd1
    have HRU := Lib.hid (RowUp.start HG.out o (dg W64 (X / y)))
    generalize X / y = q at *
    generalize X % y = r at *
    go_enter Tryz.func246, Tryz.ntmps246
    go_wp2_with fail
    refine (HD.out _).mono ?_
    rintro e w1 ⟨rfl, nq, rfl⟩
    have hroom := (HRU.out.drewN nq).room (j := o) (by omega)
    obtain ⟨⟨u0, p0⟩, f0⟩ := hroom
    go_wp2
    go_ret
    refine ⟨rfl, ?_⟩
    have := (HRU.out.drewN nq).step (x := q) (by omega) HE.out
    simpa using this
  · have hs1' : ((n : Int) == 1) = false := by simp; omega
    have HR := Lib.hid (recip_any y hy0 hy)
    have HW := Lib.hid (fun a b ha hb w => divWW_any a b y ha hb hy w)
    have hrl : recip y < 18446744073709551616 := by
      obtain ⟨t1, t2⟩ := lz_top hy0 (show y < W64 from hy)
      rw [recip]; exact (recip_form t2 t1).2.1
    generalize recip y = m at *
    clear hs1
    go_enter Tryz.func246, Tryz.ntmps246
    go_wp2_with fail
    refine (HR.out _).mono ?_
    rintro e w1 ⟨rfl, nq, rfl⟩
    go_wp2
    go_loopw [8, 12] (fun r i wr => ∃ k m' : Nat, k + m' = n ∧ i = .int .i64 ((k : Int) - 1) ∧ r = .int .u64 ((X / W64 ^ k % y : Nat) : Int) ∧ RowUp 181 w wr g (o + k) m' cur (fun j => dg W64 (X / y) (k + j)))
      (fun r i _ => (intOf i + 1).toNat)
    case atStart => exact ⟨n, 0, rfl, rfl, by rw [Nat.div_eq_of_lt HX.out]; simp, (RowUp.start HG.out _ _).drewN nq⟩
    case round =>
      obtain ⟨k, m', hkm, rfl, rfl, hR⟩ := hrel
      by_cases k0 : 0 < k
      · obtain ⟨p, rfl⟩ : ∃ p, k = p + 1 := ⟨k - 1, by omega⟩
        have e1 := hR.readOut HG.out (H1.out p (by omega)) (.inl hn1)
        have d1 : dg W64 X p < 18446744073709551616 := W64_lt (dg_lt W64_pos _ _)
        have hdd := dg_div (X := X) (y := y) (i := p) hy0
        have hrr : X / W64 ^ (p + 1) % y < y := Nat.mod_lt _ hy0
        have hqq : dg W64 (X / y) p < 18446744073709551616 := W64_lt (dg_lt W64_pos _ _)
        have hrr2 : X / W64 ^ p % y < y := Nat.mod_lt _ hy0
        have HC := Lib.hid (fun w => HW.out _ _ hrr d1 w)
        rw [← hdd.1, ← hdd.2] at HC
        have hroom := hR.room (j := o + p) (by omega)
        obtain ⟨⟨u0, p0⟩, f0⟩ := hroom
        have HRR := Lib.hid hR
        have HQ := Lib.hid (show dg W64 (X / y) p = dg W64 (X / y) p from rfl)
        have HDN := Lib.hid (hR.down (h := dg W64 (X / y)) (k := p) (by omega) rfl)
        clear hR hdd
        generalize dg W64 X p = x at *
        generalize X / W64 ^ (p + 1) % y = r1 at *
        obtain ⟨r0, hr0⟩ : ∃ r0, r0 = X / W64 ^ p % y := ⟨_, rfl⟩
        rw [← hr0] at HC hrr2
        have HR0 := Lib.hid hr0
        clear hr0
        generalize dg W64 (X / y) p = q at *
        have hp1 : ((p + 1 : Nat) : Int) - 1 = p := by omega
        have kl1 : (p : Int) < n := by omega
        go_wp2_with fail
        refine (HC.out _).mono ?_
        rintro e w2 ⟨rfl, rfl⟩
        go_wp2
        go_roundw
        case rel => exact ⟨p, m' + 1, by omega, rfl, congrArg (fun z : Nat => Value.int .u64 (z : Int)) HR0.out, HDN.out⟩
        case measure => simp [intOf]
      · obtain rfl : k = 0 := by omega
        have HRR := Lib.hid hR
        clear hR
        have hr2 : X / W64 ^ 0 % y = X % y := by rw [Nat.pow_zero, Nat.div_one]
        rw [hr2]
        clear hr2
        go_wp2
        go_ret
        refine ⟨rfl, ?_⟩
        have h := HRR.out
        rw [Nat.add_zero, show m' = n from by omega] at h
        simpa using h
end Go.Proofs.YtpfjkaelbaoedaaGreatDoor

set_option linter.unusedSimpArgs false
set_option linter.unusedVariables false
namespace Go.Proofs.YtpfjkaelbaoedaaGreatDoor
open Go.RowKit Go.Bg Dg

/-- a quotient in new memory, a rest that is a word -/
def GivesQW (Q R : Nat) (w : World) (e : Ending) (w' : World) : Prop :=
  ∃ a n c, e = .returned (.tuple #[.slice a n c, .int .u64 (R : Nat)]) ∧ BigN 181 w' a n c Q ∧ Below w.heap.size w w'

set_option maxRecDepth 100000 in
set_option maxHeartbeats 2000000 in
theorem divW_nil (a1 : Option Addr) (n1 c1 X y : Nat) (w : World) (h : BigN 181 w a1 n1 c1 X) (hb1 : n1 ≤ 900000) (hy0 : 0 < y) (hy : y < 18446744073709551616) :
    Calls Tryz.prog 207 #[.slice none 0 0, .slice a1 n1 c1, .int .u64 y] w (GivesQW (X / y) (X % y) w) := by
  have hyz : ((y : Int) == 0) = false := by simp; omega
  have hm1 := h.num.cm
  have hc1 := h.num.nc
  unfold maxLen at hm1
  by_cases y1 : y = 1
  · subst y1
    have HS := Lib.hid (natSet_nil a1 n1 c1 X w h.num (by omega))
    have HX := Lib.hid (show X / 1 = X ∧ X % 1 = 0 from ⟨Nat.div_one _, Nat.mod_one _⟩)
    rw [HX.out.1, HX.out.2]
    clear h
    go_enter Tryz.func207, Tryz.ntmps207
    go_wp2_with fail
    refine HS.out.mono ?_
    rintro e w1 ⟨a, n, c, rfl, hN, hB⟩
    have HN := Lib.hid hN
    have HB := Lib.hid hB
    clear hN hB
    go_wp2
    exact bodyPost_ret (v := .tuple #[.slice a n c, .int .u64 0]) (by simp [results, Tryz.results207, go_sem]) rfl ⟨_, _, _, rfl, HN.out, HB.out⟩
  · have hy1 : ((y : Int) == 1) = false := by simp; omega
    by_cases z0 : n1 = 0
    · subst z0
      have hX : X = 0 := by have := h.num.lt; simpa using this
      subst hX
      have HX := Lib.hid (show 0 / y = 0 ∧ 0 % y = 0 from ⟨Nat.zero_div _, Nat.zero_mod _⟩)
      rw [HX.out.1, HX.out.2]
      clear h
      go_enter Tryz.func207, Tryz.ntmps207
      go_wp2
      exact bodyPost_ret (v := .tuple #[.slice none 0 0, .int .u64 0]) (by simp [results, Tryz.results207, go_sem]) rfl ⟨_, _, _, rfl, BigN.nil _ _, Below.refl _ _⟩
    · have hz : ((n1 : Int) == 0) = false := by simpa using z0
      obtain ⟨b1, o1, rfl, hl1⟩ := h.num.form (by omega)
      have HLT := Lib.hid (show X / y < W64 ^ n1 from Nat.lt_of_le_of_lt (Nat.div_le_self _ _) h.num.lt)
      have HXL := Lib.hid h.num.lt
      have HH := Lib.hid h
      have hrl : X % y < 18446744073709551616 := Nat.lt_trans (Nat.mod_lt _ hy0) hy
      clear h
      go_enter Tryz.func207, Tryz.ntmps207
      go_wp2_with fail
      refine (make_nil n1 (by omega) _).mono ?_
      rintro e w1 (⟨h, _⟩ | ⟨c, hc0, hcn1, hcn2, rfl, hw⟩)
      case inl => omega
      have hb : BlkAt w1 w.heap.size (Array.replicate c (.int .u64 0)) 181 := by rw [hw]; exact BlkAt.new _ _ _
      have hbd : Below w.heap.size w w1 := by rw [hw]; exact (Below.refl _ _).alloc (Nat.le_refl _) _
      clear hw
      have HD1 := Lib.hid (HH.out.num.keep hbd)
      have hsz : (Array.replicate c (Value.int .u64 0)).size = c := by simp
      have HBD := Lib.hid hbd
      have HC := Lib.hid (divWVW_any w.heap.size 0 n1 c b1 o1 c1 (Array.replicate c (.int .u64 0)) X y w1 hb (by omega) (by omega) (by rw [hsz]; omega) (by omega) (by unfold maxLen; omega) (fun i hi => HD1.out.cell (i := i) hi) hc1 (by unfold maxLen; omega) (Nat.ne_of_lt hl1) hy0 hy HXL.out)
      clear hb hbd
      go_wp2_with fail
      refine HC.out.mono ?_
      rintro e w2 ⟨rfl, hR⟩
      have HRB := Lib.hid (hR.toB (B := w.heap.size) (Nat.le_refl _) HBD.out.size)
      obtain ⟨cur3, hk1, hk2, hk3, hk4⟩ := hR.blk
      obtain ⟨hcl, hbn⟩ := bigN_row (c := c) (m := n1) hk1 (by rw [hk2, hsz]) (fun i hi => by have := hk3 i hi; simpa using this) hcn1 (by unfold maxLen; omega) HLT.out
      have HCL := Lib.hid hcl
      have HBN := Lib.hid hbn
      clear hk1 hk2 hk3 hk4 hcl hbn hR hsz
      generalize X % y = r at *
      go_wp2_with fail
      refine (norm_any (some ⟨w.heap.size, 0, none⟩) n1 c (dg W64 (X / y)) _ (by omega) (by omega) (by unfold maxLen; omega) (by simp) HCL.out).mono ?_
      rintro e w4 ⟨rfl, rfl⟩
      go_wp2
      exact bodyPost_ret (v := .tuple #[.slice (some ⟨w.heap.size, 0, none⟩) (tlen (dg W64 (X / y)) n1) c, .int .u64 (r : Nat)]) (by simp [results, Tryz.results207, go_sem]) rfl ⟨_, _, _, rfl, HBN.out, HBD.out.trans HRB.out.below⟩
end Go.Proofs.YtpfjkaelbaoedaaGreatDoor

set_option linter.unusedSimpArgs false
set_option linter.unusedVariables false
namespace Go.Proofs.YtpfjkaelbaoedaaGreatDoor
open Go.RowKit Go.Bg Dg

/-- a quotient and a rest in new memory -/
def GivesQN (Q R : Nat) (w : World) (e : Ending) (w' : World) : Prop :=
  ∃ a n c a' n' c', e = .returned (.tuple #[.slice a n c, .slice a' n' c']) ∧ BigN 181 w' a n c Q ∧ BigN 181 w' a' n' c' R ∧ Below w.heap.size w w'

set_option maxRecDepth 100000 in
set_option maxHeartbeats 2000000 in
theorem natDiv_word (s : Value) (a1 a2 : Option Addr) (n1 c1 c2 N M : Nat) (w : World) (h1 : BigN 181 w a1 n1 c1 N) (h2 : BigN 181 w a2 1 c2 M) (hb1 : n1 ≤ 900000) :
    Calls Tryz.prog 154 #[.slice none 0 0, s, .slice none 0 0, .slice a1 n1 c1, .slice a2 1 c2] w (GivesQN (N / M) (N % M) w) := by
  have hm2 := h2.num.cm
  have hc2 := h2.num.nc
  unfold maxLen at hm2
  obtain ⟨b2, o2, rfl, hl2⟩ := h2.num.form (by omega)
  have hM : M < 18446744073709551616 := by have := h2.num.lt; rwa [Nat.pow_one] at this
  have hM0 : 0 < M := by
    rcases h2.num.top with h | h
    · omega
    · have h' : 1 ≤ M := by simpa using h
      omega
  have e2 : w.cell? ⟨b2, o2, none⟩ = some (.int .u64 (M : Nat)) := by
    have := h2.num.cell (i := 0) (by omega)
    rw [Nat.add_zero] at this
    rw [this]
    unfold dg
    rw [Nat.pow_zero, Nat.div_one, Nat.mod_eq_of_lt (show M < W64 from hM)]
  have HD := Lib.hid (divW_nil a1 n1 c1 N M w h1 hb1 hM0 hM)
  have hr : N % M < 18446744073709551616 := Nat.lt_trans (Nat.mod_lt _ hM0) hM
  clear h1 h2
  generalize N / M = q at *
  generalize N % M = r at *
  go_enter Tryz.func154, Tryz.ntmps154
  go_wp2_with fail
  refine HD.out.mono ?_
  rintro e w1 ⟨a, n, c, rfl, hN, hB⟩
  have HN := Lib.hid hN
  have HB := Lib.hid hB
  clear hN hB
  go_wp2_with fail
  refine (setWord_nil r hr w1).mono ?_
  rintro e w2 ⟨a', n', c', rfl, hN', hB'⟩
  have HN' := Lib.hid hN'
  have HB' := Lib.hid hB'
  clear hN' hB'
  go_wp2
  exact bodyPost_ret (v := .tuple #[.slice a n c, .slice a' n' c']) (by simp [results, Tryz.results154, go_sem]) rfl ⟨_, _, _, _, _, _, rfl, HN.out.keep HB'.out, HN'.out, Below.then HB.out (Nat.le_refl _) HB'.out⟩

set_option maxRecDepth 100000 in
set_option maxHeartbeats 2000000 in
theorem natDiv_less (s : Value) (a1 a2 : Option Addr) (n1 n2 c1 c2 N M : Nat) (w : World) (h1 : BigN 181 w a1 n1 c1 N) (h2 : BigN 181 w a2 n2 c2 M) (hn2 : 2 ≤ n2) (hb1 : n1 ≤ 900000) (hlt : N < M) :
    Calls Tryz.prog 154 #[.slice none 0 0, s, .slice none 0 0, .slice a1 n1 c1, .slice a2 n2 c2] w (GivesQN (N / M) (N % M) w) := by
  rw [Nat.div_eq_of_lt hlt, Nat.mod_eq_of_lt hlt]
  have z0 : ((n2 : Int) == 0) = false := by simp; omega
  have z1 : ((n2 : Int) == 1) = false := by simp; omega
  have hm1 := h1.num.cm
  have hc1 := h1.num.nc
  have hm2 := h2.num.cm
  have hc2 := h2.num.nc
  unfold maxLen at hm1 hm2
  have HC := Lib.hid (natCmp_any a1 a2 n1 n2 c1 c2 N M w h1.num h2.num)
  rw [show cmpI N M = -1 from by unfold cmpI; rw [if_pos hlt]] at HC
  have HS := Lib.hid (fun m => natSet_nil a1 n1 c1 N (w.drewN m) (h1.num.drewN m) (by omega))
  clear h1 h2 hlt
  go_enter Tryz.func154, Tryz.ntmps154
  go_wp2_with fail
  refine HC.out.mono ?_
  rintro e w1 ⟨rfl, m, rfl⟩
  go_wp2_with fail
  refine (HS.out m).mono ?_
  rintro e w2 ⟨a', n', c', rfl, hN', hB'⟩
  have HN' := Lib.hid hN'
  have HB' := Lib.hid hB'
  clear hN' hB'
  go_wp2
  exact bodyPost_ret (v := .tuple #[.slice none 0 0, .slice a' n' c']) (by simp [results, Tryz.results154, go_sem]) rfl ⟨_, _, _, _, _, _, rfl, BigN.nil _ _, HN'.out, Below.then (below_of_drewN ⟨m, rfl⟩) (Nat.le_refl _) HB'.out⟩
end Go.Proofs.YtpfjkaelbaoedaaGreatDoor

set_option linter.unusedSimpArgs false
set_option linter.unusedVariables false
namespace Go.Proofs.YtpfjkaelbaoedaaGreatDoor
open Go.RowKit Go.Bg Dg

set_option maxRecDepth 100000 in
theorem mulWW_any (x y : Nat) (hx : x < 18446744073709551616) (hy : y < 18446744073709551616) (w : World) :
    Calls Tryz.prog 209 #[.int .u64 x, .int .u64 y] w fun e w' => e = .returned (.tuple #[.int .u64 ((x * y / 18446744073709551616 : Nat) : Int), .int .u64 ((x * y % 18446744073709551616 : Nat) : Int)]) ∧ w = w' := by
  have HM := Lib.hid (two_mul x y hx hy)
  have h1 : x * y / 18446744073709551616 < 18446744073709551616 := by
    rw [Nat.div_lt_iff_lt_mul (by decide)]
    exact Nat.lt_of_le_of_lt (Nat.mul_le_mul_left _ (Nat.le_of_lt hy)) (Nat.mul_lt_mul_of_pos_right hx (by decide))
  have h2 : x * y % 18446744073709551616 < 18446744073709551616 := Nat.mod_lt _ (by decide)
  generalize x * y / 18446744073709551616 = a at *
  generalize x * y % 18446744073709551616 = b at *
  go_enter Tryz.func209, Tryz.ntmps209
  go_wp2_with fail
  refine (HM.out _).mono ?_
  rintro e w1 ⟨rfl, rfl⟩
  go_wp2
  exact bodyPost_ret (v := .tuple #[.int .u64 (a : Nat), .int .u64 (b : Nat)]) (by simp [results, Tryz.results209, go_sem]) rfl ⟨rfl, rfl⟩

set_option maxRecDepth 100000 in
theorem greaterThan_any (x1 x2 y1 y2 : Nat) (h1 : x1 < 18446744073709551616) (h2 : x2 < 18446744073709551616) (h3 : y1 < 18446744073709551616) (h4 : y2 < 18446744073709551616) (w : World) :
    Calls Tryz.prog 281 #[.int .u64 x1, .int .u64 x2, .int .u64 y1, .int .u64 y2] w fun e w' => e = .returned (.bool (decide (y1 * W64 + y2 < x1 * W64 + x2))) ∧ w = w' := by
  by_cases c1 : y1 < x1
  · have k1 : ¬ ((x1 : Int) ≤ (y1 : Int)) := by omega
    have HE := Lib.hid (show decide (y1 * W64 + y2 < x1 * W64 + x2) = true from by
      have : (y1 + 1) * W64 ≤ x1 * W64 := Nat.mul_le_mul_right _ c1
      unfold W64 at *; simp; omega)
    clear c1
    rw [HE.out]
    go_enter Tryz.func281, Tryz.ntmps281
    go_wp2
    go_ret
    exact ⟨rfl, rfl⟩
  · have k1 : ((x1 : Int) ≤ (y1 : Int)) := by omega
    by_cases c2 : x1 = y1
    · subst c2
      have HE := Lib.hid (show decide (y2 < x2) = decide (x1 * W64 + y2 < x1 * W64 + x2) from by
        have e : y2 < x2 ↔ x1 * W64 + y2 < x1 * W64 + x2 := by omega
        exact decide_eq_decide.2 e)
      clear c1
      go_enter Tryz.func281, Tryz.ntmps281
      go_wp2
      go_ret
      exact ⟨ret_bool HE.out, rfl⟩
    · have k2 : ((x1 : Int) == (y1 : Int)) = false := by simp; omega
      have k2' : ¬ (x1 : Int) = (y1 : Int) := by omega
      have HE := Lib.hid (show decide (y1 * W64 + y2 < x1 * W64 + x2) = false from by
        have : (x1 + 1) * W64 ≤ y1 * W64 := Nat.mul_le_mul_right _ (by omega)
        unfold W64 at *; simp; omega)
      have HE2 := Lib.hid (show decide (y1 < x1) = false from by simp; omega)
      clear c1 c2
      rw [HE.out]
      go_enter Tryz.func281, Tryz.ntmps281
      go_wp2
      go_ret
      exact ⟨ret_bool HE2.out, rfl⟩
end Go.Proofs.YtpfjkaelbaoedaaGreatDoor

set_option linter.unusedSimpArgs false
set_option linter.unusedVariables false
namespace Go.Bg
open Go.RowKit Dg

/-- a guess at a word, by the two upper words of the divisor (h, l) and the three upper words of what is divided (u, z): q * h + r = u, and no less than what is right -/
structure Gk (B h l u z q r : Nat) : Prop where
  eq : q * h + r = u
  lo : (u * B + z) / (h * B + l) ≤ q
  hi : q < B
theorem Gk.start {B h l u z : Nat} (hB : 0 < B) (hh : 0 < h) (hl : l < B) (hz : z < B) (hu : u < h * B) : Gk B h l u z (u / h) (u % h) := by
  refine ⟨by rw [Nat.mul_comm]; exact Nat.div_add_mod _ _, ?_, (Nat.div_lt_iff_lt_mul hh).2 (by rw [Nat.mul_comm]; exact hu)⟩
  have e1 : (u * B + z) / (B * h) = u / h := by
    rw [← Nat.div_div_eq_div_mul]
    congr 1
    rw [Nat.mul_comm, Nat.mul_add_div hB, Nat.div_eq_of_lt hz, Nat.add_zero]
  rw [← e1]
  exact Nat.div_le_div_left (by rw [Nat.mul_comm]; omega) (Nat.mul_pos hB hh)
/-- the guess is too great -/
theorem Gk.down {B h l u z q r : Nat} (g : Gk B h l u z q r) (hB : 0 < B) (hh : 0 < h) (hg : r * B + z < q * l) :
    0 < q ∧ (u * B + z) / (h * B + l) ≤ q - 1 := by
  have hpos : 0 < h * B + l := Nat.lt_of_lt_of_le (Nat.mul_pos hh hB) (Nat.le_add_right _ _)
  have : (u * B + z) / (h * B + l) < q := by
    refine (Nat.div_lt_iff_lt_mul hpos).2 ?_
    rw [← g.eq, Nat.mul_add, Nat.add_mul, ← Nat.mul_assoc]
    omega
  generalize (u * B + z) / (h * B + l) = w at *
  omega
theorem Gk.next {B h l u z q r : Nat} (g : Gk B h l u z q r) (hB : 0 < B) (hh : 0 < h) (hg : r * B + z < q * l) : Gk B h l u z (q - 1) (r + h) := by
  obtain ⟨h1, h2⟩ := g.down hB hh hg
  have e := g.eq
  have := g.hi
  refine ⟨?_, h2, by omega⟩
  obtain ⟨p, rfl⟩ : ∃ p, q = p + 1 := ⟨q - 1, by omega⟩
  rw [Nat.add_mul, Nat.one_mul] at e
  rw [Nat.add_sub_cancel]
  omega
/-- no further step is wanted: by the test, or since r is no word -/
theorem Gk.right {B h l u z q r : Nat} (g : Gk B h l u z q r) (hB : 0 < B) (hh : 0 < h) (hg : q * l ≤ r * B + z) : q = (u * B + z) / (h * B + l) := by
  have hpos : 0 < h * B + l := Nat.lt_of_lt_of_le (Nat.mul_pos hh hB) (Nat.le_add_right _ _)
  refine Nat.le_antisymm ((Nat.le_div_iff_mul_le hpos).2 ?_) g.lo
  rw [← g.eq, Nat.mul_add, Nat.add_mul, ← Nat.mul_assoc]
  omega
theorem Gk.broke {B h l u z q r : Nat} (g : Gk B h l u z q r) (hB : 0 < B) (hh : 0 < h) (hl : l < B) (hr : B ≤ r) : q = (u * B + z) / (h * B + l) := by
  refine g.right hB hh ?_
  have h1 : q * l ≤ B * B := Nat.mul_le_mul (Nat.le_of_lt g.hi) (Nat.le_of_lt hl)
  have h2 : B * B ≤ r * B := Nat.mul_le_mul_right _ hr
  omega
/-- a guess by the upper parts is right or one too great: U = a * P + x, V = b * P + y, the upper parts a, b of three and two words -/
theorem guess_off {P a b x y V U q : Nat} (hP : 0 < P) (hx : x < P) (hy : y < P) (hU : U = a * P + x) (hV : V = b * P + y) (hb : 0 < b) (hq : q = a / b) (hqb : q ≤ b) :
    U / V ≤ q ∧ q ≤ U / V + 1 := by
  have hVp : 0 < V := by
    rw [hV]; exact Nat.lt_of_lt_of_le (Nat.mul_pos hb hP) (Nat.le_add_right _ _)
  have q1 : q * b ≤ a := by rw [hq]; exact Nat.div_mul_le_self _ _
  have q2 : a < q * b + b := by
    have := Nat.lt_mul_div_succ a hb
    rw [← hq, Nat.mul_add, Nat.mul_one, Nat.mul_comm b q] at this
    exact this
  constructor
  · have : U / V < q + 1 := by
      refine (Nat.div_lt_iff_lt_mul hVp).2 ?_
      have h1 : (a + 1) * P ≤ (q * b + b) * P := Nat.mul_le_mul_right _ q2
      have h2 : (q + 1) * V = (q * b + b) * P + (q + 1) * y := by rw [hV, Nat.mul_add, ← Nat.mul_assoc, Nat.add_mul q 1 b, Nat.one_mul]
      rw [Nat.add_mul a, Nat.one_mul] at h1
      rw [hU, h2]
      generalize (q * b + b) * P = m1 at *
      generalize a * P = m2 at *
      generalize (q + 1) * y = m3 at *
      omega
    exact Nat.le_of_lt_succ this
  · by_cases h0 : q = 0
    · rw [h0]; exact Nat.zero_le _
    · have : q - 1 ≤ U / V := by
        refine (Nat.le_div_iff_mul_le hVp).2 ?_
        obtain ⟨p, rfl⟩ : ∃ p, q = p + 1 := ⟨q - 1, by omega⟩
        rw [Nat.add_sub_cancel]
        have h1 : (p + 1) * b * P ≤ a * P := Nat.mul_le_mul_right _ q1
        have h2 : (p + 1) * b * P = p * b * P + b * P := by rw [Nat.add_mul, Nat.one_mul, Nat.add_mul]
        have h3 : p * V = p * b * P + p * y := by rw [hV, Nat.mul_add, ← Nat.mul_assoc]
        have h4 : p * y ≤ b * P := Nat.mul_le_mul (by omega) (Nat.le_of_lt hy)
        rw [hU, h3]
        rw [h2] at h1
        generalize p * b * P = m1 at *
        generalize b * P = m2 at *
        generalize a * P = m3 at *
        generalize p * y = m4 at *
        omega
      exact Nat.sub_le_iff_le_add.1 this
/-- the greatest word as a guess, where the upper words are alike -/
theorem guess_top {B P h y V U : Nat} (hB : 2 ≤ B) (hy : y < P) (hV : V = h * P + y) (hU : h * P * B ≤ U) (hU2 : U < B * V) (hh : B ≤ 2 * h) : U / V ≤ B - 1 ∧ B - 1 ≤ U / V + 1 := by
  have hVp : 0 < V := by
    rcases Nat.eq_zero_or_pos V with h0 | h0
    · rw [h0, Nat.mul_zero] at hU2; omega
    · exact h0
  constructor
  · have : U / V < B := (Nat.div_lt_iff_lt_mul hVp).2 hU2
    exact Nat.le_sub_one_of_lt this
  · have : B - 2 ≤ U / V := by
      refine (Nat.le_div_iff_mul_le hVp).2 ?_
      have h1 : B * V = h * P * B + y * B := by rw [hV, Nat.mul_comm B, Nat.add_mul]
      have h2 : y * B ≤ P * B := Nat.mul_le_mul_right _ (Nat.le_of_lt hy)
      have h3 : B * P ≤ 2 * h * P := Nat.mul_le_mul_right _ hh
      have h4 : 2 * h * P ≤ 2 * V := by rw [hV, Nat.mul_assoc, Nat.mul_add]; exact Nat.le_add_right _ _
      rw [Nat.mul_comm B P] at h3
      have h5 : (B - 2) * V = B * V - 2 * V := Nat.sub_mul _ _ _
      rw [h5]
      generalize B * V = m1 at *
      generalize h * P * B = m2 at *
      generalize y * B = m3 at *
      generalize P * B = m4 at *
      generalize 2 * h * P = m5 at *
      generalize (B - 2) * V = m6 at *
      omega
    generalize U / V = q at *
    omega
end Go.Bg
