/-
  mulWW, greaterThan.
  divWVW: a number by a word.
  nat.divW into one's own room; into nothing.
  nat.div: by one word; of the smaller by the greater.
-/
import Derived.Test.YtdkipndepkblhaaGreatDoorBuEE
import Derived.Test.YtdkipndepkblhaaGreatDoorBuTT
import Derived.Test.YtdkipndepkblhaaGreatDoorBuF
import Derived.Test.YtdkipndepkblhaaGreatDoorBuG
set_option linter.unusedSimpArgs false
set_option linter.unusedVariables false
namespace Go.Proofs.YtdkipndepkblhaaGreatDoor
open Go.RowKit Go.Bg Dg

set_option maxRecDepth 100000 in
theorem mulWW_any (x y : Nat) (hx : x < 18446744073709551616) (hy : y < 18446744073709551616) (w : World) :
    Calls Tryz.prog 200 #[.int .u64 x, .int .u64 y] w fun e w' => e = .returned (.tuple #[.int .u64 ((x * y / 18446744073709551616 : Nat) : Int), .int .u64 ((x * y % 18446744073709551616 : Nat) : Int)]) ∧ w = w' := by
  have HM := Lib.hid (two_mul x y hx hy)
  have h1 : x * y / 18446744073709551616 < 18446744073709551616 := by
    rw [Nat.div_lt_iff_lt_mul (by decide)]
    exact Nat.lt_of_le_of_lt (Nat.mul_le_mul_left _ (Nat.le_of_lt hy)) (Nat.mul_lt_mul_of_pos_right hx (by decide))
  have h2 : x * y % 18446744073709551616 < 18446744073709551616 := Nat.mod_lt _ (by decide)
  generalize x * y / 18446744073709551616 = a at *
  generalize x * y % 18446744073709551616 = b at *
  go_enter Tryz.func200, Tryz.ntmps200
  go_wp2_with fail
  refine (HM.out _).mono ?_
  rintro e w1 ⟨rfl, rfl⟩
  go_wp2
  exact bodyPost_ret (v := .tuple #[.int .u64 (a : Nat), .int .u64 (b : Nat)]) (by simp [results, Tryz.results200, go_sem]) rfl ⟨rfl, rfl⟩

set_option maxRecDepth 100000 in
theorem greaterThan_any (x1 x2 y1 y2 : Nat) (h1 : x1 < 18446744073709551616) (h2 : x2 < 18446744073709551616) (h3 : y1 < 18446744073709551616) (h4 : y2 < 18446744073709551616) (w : World) :
    Calls Tryz.prog 270 #[.int .u64 x1, .int .u64 x2, .int .u64 y1, .int .u64 y2] w fun e w' => e = .returned (.bool (decide (y1 * W64 + y2 < x1 * W64 + x2))) ∧ w = w' := by
  by_cases c1 : y1 < x1
  · have k1 : ¬ ((x1 : Int) ≤ (y1 : Int)) := by omega
    have HE := Lib.hid (show decide (y1 * W64 + y2 < x1 * W64 + x2) = true from by
      have : (y1 + 1) * W64 ≤ x1 * W64 := Nat.mul_le_mul_right _ c1
      unfold W64 at *; simp; omega)
    clear c1
    rw [HE.out]
    go_enter Tryz.func270, Tryz.ntmps270
    go_wp2
    go_ret
    exact ⟨rfl, rfl⟩
  · have k1 : ((x1 : Int) ≤ (y1 : Int)) := by omega
    by_cases c2 : x1 = y1
    · subst c2
      have HE := Lib.hid (show decide (y2 < x2) = decide (x1 * W64 + y2 < x1 * W64 + x2) from by
        have e : y2 < x2 ↔ x1 * W64 + y2 < x1 * W64 + x2 := by omega
        exact decide_eq_decide.2 e)
      clear c1
      go_enter Tryz.func270, Tryz.ntmps270
      go_wp2
      go_ret
      exact ⟨ret_bool HE.out, rfl⟩
    · have k2 : ((x1 : Int) == (y1 : Int)) = false := by simp; omega
      have k2' : ¬ (x1 : Int) = (y1 : Int) := by omega
      have HE := Lib.hid (show decide (y1 * W64 + y2 < x1 * W64 + x2) = false from by
        have : (x1 + 1) * W64 ≤ y1 * W64 := Nat.mul_le_mul_right _ (by omega)
        unfold W64 at *; simp; omega)
      have HE2 := Lib.hid (show decide (y1 < x1) = false from by simp; omega)
      clear c1 c2
      rw [HE.out]
      go_enter Tryz.func270, Tryz.ntmps270
      go_wp2
      go_ret
      exact ⟨ret_bool HE2.out, rfl⟩
end Go.Proofs.YtdkipndepkblhaaGreatDoor

set_option linter.unusedSimpArgs false
set_option linter.unusedVariables false
namespace Go.Bg
open Go.RowKit Dg
theorem dg_div {X y i : Nat} (hy : 0 < y) : dg W64 (X / y) i = ((X / W64 ^ (i + 1) % y) * W64 + dg W64 X i) / y ∧ X / W64 ^ i % y = ((X / W64 ^ (i + 1) % y) * W64 + dg W64 X i) % y := by
  have e1 : X / W64 ^ (i + 1) = X / W64 ^ i / W64 := by rw [Nat.pow_succ, Nat.div_div_eq_div_mul]
  have e2 : dg W64 (X / y) i = X / W64 ^ i / y % W64 := by unfold dg; rw [div_right]
  have e3 : dg W64 X i = X / W64 ^ i % W64 := rfl
  rw [e1, e2, e3]
  generalize X / W64 ^ i = A
  have hlt : (A / W64 % y * W64 + A % W64) / y < W64 := by
    rw [Nat.div_lt_iff_lt_mul hy]
    have h1 : A / W64 % y < y := Nat.mod_lt _ hy
    have h2 : A % W64 < W64 := Nat.mod_lt _ W64_pos
    have h3 : (A / W64 % y + 1) * W64 ≤ y * W64 := Nat.mul_le_mul_right _ h1
    rw [Nat.add_mul, Nat.one_mul] at h3
    rw [Nat.mul_comm W64]
    omega
  have e : A = y * (A / W64 / y * W64) + (A / W64 % y * W64 + A % W64) := by
    have h1 := Nat.div_add_mod A W64
    have h2 := Nat.div_add_mod (A / W64) y
    have h3 : W64 * (A / W64) = y * (A / W64 / y * W64) + A / W64 % y * W64 := by
      conv => lhs; rw [← h2]
      rw [Nat.mul_add, Nat.mul_comm W64 (A / W64 % y), Nat.mul_comm W64, Nat.mul_assoc]
    omega
  constructor
  · conv => lhs; rw [e]
    rw [Nat.mul_add_div hy, Nat.add_comm, Nat.add_mul_mod_self_right]
    exact Nat.mod_eq_of_lt hlt
  · conv => lhs; rw [e]
    exact Nat.mul_add_mod _ _ _
end Go.Bg

namespace Go.Proofs.YtdkipndepkblhaaGreatDoor
open Go.RowKit Go.Bg Dg

set_option maxRecDepth 100000 in
set_option maxHeartbeats 2000000 in
theorem divWVW_any (g o n c0 b1 o1 c1 : Nat) (cur : Array Value) (X y : Nat) (w : World) (hg : BlkAt w g cur 151) (hn : n ≤ 1000000) (hn0 : 0 < n) (hr : o + n ≤ cur.size) (h0 : n ≤ c0) (h0m : c0 ≤ maxLen)
    (h1 : WCells w b1 o1 n (dg W64 X)) (h1c : n ≤ c1) (h1m : c1 ≤ maxLen) (hn1 : b1 ≠ g ∨ o1 ≤ o) (hy0 : 0 < y) (hy : y < 18446744073709551616) (hX : X < W64 ^ n) :
    Calls Tryz.prog 234 #[.slice (some ⟨g, o, none⟩) n c0, .int .u64 0, .slice (some ⟨b1, o1, none⟩) n c1, .int .u64 y] w
      (VecIs g o n cur (dg W64 (X / y)) (X % y) w) := by
  unfold maxLen at h0m h1m
  have HG := Lib.hid hg
  have H1 := Lib.hid h1
  have HX := Lib.hid hX
  clear hg h1 hX
  by_cases hs1 : n = 1
  · subst hs1
    have e1 : w.cell? ⟨b1, o1, none⟩ = some (.int .u64 (dg W64 X 0 : Nat)) := by have := H1.out 0 hn0; rwa [Nat.add_zero] at this
    have hXl : X < 18446744073709551616 := by have := HX.out; rwa [Nat.pow_one] at this
    have hd0 : dg W64 X 0 = X := by unfold dg; rw [Nat.pow_zero, Nat.div_one]; exact Nat.mod_eq_of_lt hXl
    have hd1 : dg W64 (X / y) 0 = X / y := by unfold dg; rw [Nat.pow_zero, Nat.div_one]; exact Nat.mod_eq_of_lt (Nat.lt_of_le_of_lt (Nat.div_le_self _ _) hXl)
    rw [hd0] at e1
    have HD := Lib.hid (fun w => bitsDiv_any 0 X y hy0 hXl hy w)
    rw [Nat.zero_mul, Nat.zero_add] at HD
    have hq : X / y < 18446744073709551616 := Nat.lt_of_le_of_lt (Nat.div_le_self _ _) hXl
    have hm : X % y < 18446744073709551616 := Nat.lt_of_le_of_lt (Nat.mod_le _ _) hXl
    have HE := Lib.hid hd1.symm
    clear hd0 hd1
    have HRU := Lib.hid (RowUp.start HG.out o (dg W64 (X / y)))
    generalize X / y = q at *
    generalize X % y = r at *
    go_enter Tryz.func234, Tryz.ntmps234
    go_wp2_with fail
    refine (HD.out _).mono ?_
    rintro e w1 ⟨rfl, nq, rfl⟩
    have hroom := (HRU.out.drewN nq).room (j := o) (by omega)
    obtain ⟨⟨u0, p0⟩, f0⟩ := hroom
    go_wp2
    go_ret
    refine ⟨rfl, ?_⟩
    have := (HRU.out.drewN nq).step (x := q) (by omega) HE.out
    simpa using this
  · have hs1' : ((n : Int) == 1) = false := by simp; omega
    have HR := Lib.hid (recip_any y hy0 hy)
    have HW := Lib.hid (fun a b ha hb w => divWW_any a b y ha hb hy w)
    have hrl : recip y < 18446744073709551616 := by
      obtain ⟨t1, t2⟩ := lz_top hy0 (show y < W64 from hy)
      rw [recip]; exact (recip_form t2 t1).2.1
    generalize recip y = m at *
    clear hs1
    go_enter Tryz.func234, Tryz.ntmps234
    go_wp2_with fail
    refine (HR.out _).mono ?_
    rintro e w1 ⟨rfl, nq, rfl⟩
    go_wp2
    go_loopw [8, 12] (fun r i wr => ∃ k m' : Nat, k + m' = n ∧ i = .int .i64 ((k : Int) - 1) ∧ r = .int .u64 ((X / W64 ^ k % y : Nat) : Int) ∧ RowUp 151 w wr g (o + k) m' cur (fun j => dg W64 (X / y) (k + j)))
      (fun r i _ => (intOf i + 1).toNat)
    case atStart => exact ⟨n, 0, rfl, rfl, by rw [Nat.div_eq_of_lt HX.out]; simp, (RowUp.start HG.out _ _).drewN nq⟩
    case round =>
      obtain ⟨k, m', hkm, rfl, rfl, hR⟩ := hrel
      by_cases k0 : 0 < k
      · obtain ⟨p, rfl⟩ : ∃ p, k = p + 1 := ⟨k - 1, by omega⟩
        have e1 := hR.readOut HG.out (H1.out p (by omega)) (by rcases hn1 with h | h; exact .inl h; exact .inr (.inl (by omega)))
        have d1 : dg W64 X p < 18446744073709551616 := W64_lt (dg_lt W64_pos _ _)
        have hdd := dg_div (X := X) (y := y) (i := p) hy0
        have hrr : X / W64 ^ (p + 1) % y < y := Nat.mod_lt _ hy0
        have hqq : dg W64 (X / y) p < 18446744073709551616 := W64_lt (dg_lt W64_pos _ _)
        have hrr2 : X / W64 ^ p % y < y := Nat.mod_lt _ hy0
        have HC := Lib.hid (fun w => HW.out _ _ hrr d1 w)
        rw [← hdd.1, ← hdd.2] at HC
        have hroom := hR.room (j := o + p) (by omega)
        obtain ⟨⟨u0, p0⟩, f0⟩ := hroom
        have HRR := Lib.hid hR
        have HQ := Lib.hid (show dg W64 (X / y) p = dg W64 (X / y) p from rfl)
        have HDN := Lib.hid (hR.down (h := dg W64 (X / y)) (k := p) (by omega) rfl)
        clear hR hdd
        generalize dg W64 X p = x at *
        generalize X / W64 ^ (p + 1) % y = r1 at *
        obtain ⟨r0, hr0⟩ : ∃ r0, r0 = X / W64 ^ p % y := ⟨_, rfl⟩
        rw [← hr0] at HC hrr2
        have HR0 := Lib.hid hr0
        clear hr0
        generalize dg W64 (X / y) p = q at *
        have hp1 : ((p + 1 : Nat) : Int) - 1 = p := by omega
        have kl1 : (p : Int) < n := by omega
        go_wp2_with fail
        refine (HC.out _).mono ?_
        rintro e w2 ⟨rfl, rfl⟩
        go_wp2
        go_roundw
        case rel => exact ⟨p, m' + 1, by omega, rfl, congrArg (fun z : Nat => Value.int .u64 (z : Int)) HR0.out, HDN.out⟩
        case measure => simp [intOf]
      · obtain rfl : k = 0 := by omega
        have HRR := Lib.hid hR
        clear hR
        have hr2 : X / W64 ^ 0 % y = X % y := by rw [Nat.pow_zero, Nat.div_one]
        rw [hr2]
        clear hr2
        go_wp2
        go_ret
        refine ⟨rfl, ?_⟩
        have h := HRR.out
        rw [Nat.add_zero, show m' = n from by omega] at h
        simpa using h
end Go.Proofs.YtdkipndepkblhaaGreatDoor

set_option linter.unusedSimpArgs false
set_option linter.unusedVariables false
namespace Go.Proofs.YtdkipndepkblhaaGreatDoor
open Go.RowKit Go.Bg Dg

def GivesQW (Q R : Nat) (w : World) (e : Ending) (w' : World) : Prop :=
  ∃ a n c, e = .returned (.tuple #[.slice a n c, .int .u64 (R : Nat)]) ∧ BigN 151 w' a n c Q ∧ Below w.heap.size w w'
/-- quotient in one's own room, or new, and the rest -/
def GivesQI (az : Option Addr) (Q R : Nat) (w : World) (e : Ending) (w' : World) : Prop :=
  ∃ a n c, e = .returned (.tuple #[.slice a n c, .int .u64 (R : Nat)]) ∧ BigN 151 w' a n c Q ∧ Upd (InB az) w w' ∧ ∀ k, InB a k → InB az k ∨ w.heap.size ≤ k

set_option maxRecDepth 100000 in
set_option maxHeartbeats 2000000 in
theorem divW_into (az : Option Addr) (nz cz Z : Nat) (a1 : Option Addr) (n1 c1 X y : Nat) (w : World) (h0 : BigN 151 w az nz cz Z) (h : BigN 151 w a1 n1 c1 X) (hb1 : n1 ≤ 900000) (hy0 : 0 < y) (hy : y < 18446744073709551616) (hd : y = 1 → 0 < n1 → ∀ k, InB a1 k → ¬ InB az k) :
    Calls Tryz.prog 197 #[.slice az nz cz, .slice a1 n1 c1, .int .u64 y] w (GivesQI az (X / y) (X % y) w) := by
  have hyz : ((y : Int) == 0) = false := by simp; omega
  have hm1 := h.num.cm
  have hc1 := h.num.nc
  have hczm := h0.num.cm
  have hncz := h0.num.nc
  unfold maxLen at hm1 hczm
  by_cases z0 : n1 = 0
  · subst z0
    have hX : X = 0 := by have := h.num.lt; simpa using this
    subst hX
    have HX := Lib.hid (show 0 / y = 0 ∧ 0 % y = 0 from ⟨Nat.zero_div _, Nat.zero_mod _⟩)
    rw [HX.out.1, HX.out.2]
    have HE := Lib.hid (show GivesQI az 0 0 w (.returned (.tuple #[.slice az 0 cz, .int .u64 0])) w from ⟨_, _, _, rfl, h0.empty, Upd.refl _ _, fun k hk => .inl hk⟩)
    have hgz : ∃ m, Calls Tryz.prog 132 #[.slice az nz cz, .slice a1 0 c1] w m ∧ ∀ e w', m e w' → e = .returned (.slice az 0 cz) ∧ w' = w := by
      refine ⟨_, natSet0_any az nz cz Z a1 c1 w h0, fun e w' hm => hm⟩
    obtain ⟨m, hm, hme⟩ := hgz
    have HM := Lib.hid hm
    have HME := Lib.hid hme
    by_cases y1 : y = 1
    · subst y1
      clear h hm hme
      clear h0
      go_enter Tryz.func197, Tryz.ntmps197
      go_wp2_with fail
      refine HM.out.mono ?_
      intro e w1 hme
      obtain ⟨rfl, rfl⟩ := HME.out e w1 hme
      clear hme
      go_wp2
      exact bodyPost_ret (v := .tuple #[.slice az 0 cz, .int .u64 0]) (by simp [results, Tryz.results197, go_sem]) rfl HE.out
    · have hy1 : ((y : Int) == 1) = false := by simp; omega
      rcases h0.buf with ⟨rfl, rfl⟩ | ⟨g, cur, rfl, _, _⟩
      · obtain rfl : nz = 0 := by omega
        clear h h0 hm hme
        go_enter Tryz.func197, Tryz.ntmps197
        go_wp2
        exact bodyPost_ret (v := .tuple #[.slice none 0 0, .int .u64 0]) (by simp [results, Tryz.results197, go_sem]) rfl HE.out
      · clear h h0 hm hme
        go_enter Tryz.func197, Tryz.ntmps197
        go_wp2
        exact bodyPost_ret (v := .tuple #[.slice (some ⟨g, 0, none⟩) 0 cz, .int .u64 0]) (by simp [results, Tryz.results197, go_sem]) rfl HE.out
  · have hz : ((n1 : Int) == 0) = false := by simpa using z0
    by_cases y1 : y = 1
    · subst y1
      have HS := Lib.hid (natSet_into az nz cz Z a1 n1 c1 X w h0 h.num (by omega) (by omega) (hd rfl (by omega)))
      have HX := Lib.hid (show X / 1 = X ∧ X % 1 = 0 from ⟨Nat.div_one _, Nat.mod_one _⟩)
      rw [HX.out.1, HX.out.2]
      clear h h0 hd
      go_enter Tryz.func197, Tryz.ntmps197
      go_wp2_with fail
      refine HS.out.mono ?_
      rintro e w1 ⟨a, n, c, rfl, hE⟩
      have HE := Lib.hid hE
      clear hE
      go_wp2
      exact bodyPost_ret (v := .tuple #[.slice a n c, .int .u64 0]) (by simp [results, Tryz.results197, go_sem]) rfl ⟨_, _, _, rfl, HE.out⟩
    · have hy1 : ((y : Int) == 1) = false := by simp; omega
      obtain ⟨b1, o1, rfl, hl1⟩ := h.num.form (by omega)
      obtain ⟨ho1, -⟩ := h.start
      subst ho1
      obtain ⟨g, hg, hmk⟩ := make_into az nz cz Z n1 w h0 (by omega) (by omega)
      have HM := Lib.hid hmk
      have HG := Lib.hid hg
      have HLT := Lib.hid (show X / y < W64 ^ n1 from Nat.lt_of_le_of_lt (Nat.div_le_self _ _) h.num.lt)
      have HXL := Lib.hid h.num.lt
      have HH := Lib.hid h
      have hrl : X % y < 18446744073709551616 := Nat.lt_trans (Nat.mod_lt _ hy0) hy
      clear h h0 hmk hg hd
      go_enter Tryz.func197, Tryz.ntmps197
      go_wp2_with fail
      refine HM.out.mono ?_
      rintro e w1 ⟨c, cur, rfl, hb, hsz, hcn1, hcn2, hbd⟩
      have HD1 := Lib.hid (HH.out.num.keep hbd)
      have HBD := Lib.hid hbd
      have hcm2 := hcn2
      unfold maxLen at hcm2
      have HC := Lib.hid (divWVW_any g 0 n1 c b1 0 c1 cur X y w1 hb (by omega) (by omega) (by omega) (by omega) hcn2 (fun i hi => HD1.out.cell (i := i) hi) hc1 (by unfold maxLen; omega) (.inr (Nat.le_refl _)) hy0 hy HXL.out)
      clear hb hbd
      go_wp2_with fail
      refine HC.out.mono ?_
      rintro e w2 ⟨rfl, hR⟩
      have hEE := givesI_row HBD.out HG.out hsz hR hcn1 hcn2 HLT.out
      have HCL := Lib.hid hEE.1
      have HEE := Lib.hid hEE.2
      clear hEE hR hsz
      generalize X % y = r at *
      go_wp2_with fail
      refine (norm_any (some ⟨g, 0, none⟩) n1 c (dg W64 (X / y)) _ (by omega) (by omega) hcn2 (by simp) HCL.out).mono ?_
      rintro e w4 ⟨rfl, rfl⟩
      go_wp2
      refine bodyPost_ret (v := .tuple #[.slice (some ⟨g, 0, none⟩) (tlen (dg W64 (X / y)) n1) c, .int .u64 (r : Nat)]) (by simp [results, Tryz.results197, go_sem]) rfl ?_
      obtain ⟨a', n', c', e, h1, h2, h3⟩ := HEE.out
      injection e with e
      injection e with e1 e2 e3
      subst e1 e2 e3
      exact ⟨_, _, _, rfl, h1, h2, h3⟩

theorem divW_nil (a1 : Option Addr) (n1 c1 X y : Nat) (w : World) (h : BigN 151 w a1 n1 c1 X) (hb1 : n1 ≤ 900000) (hy0 : 0 < y) (hy : y < 18446744073709551616) :
    Calls Tryz.prog 197 #[.slice none 0 0, .slice a1 n1 c1, .int .u64 y] w (GivesQW (X / y) (X % y) w) := by
  refine (divW_into none 0 0 0 a1 n1 c1 X y w (BigN.nil _ _) h hb1 hy0 hy (fun _ _ k _ h => inB_none h)).mono ?_
  rintro e w' ⟨a, n, c, rfl, h1, h2, _⟩
  exact ⟨a, n, c, rfl, h1, h2.toBelow (fun k _ h => inB_none h)⟩
end Go.Proofs.YtdkipndepkblhaaGreatDoor

set_option linter.unusedSimpArgs false
set_option linter.unusedVariables false
namespace Go.Proofs.YtdkipndepkblhaaGreatDoor
open Go.RowKit Go.Bg Dg

/-- a quotient and a rest in new memory -/
def GivesQN (Q R : Nat) (w : World) (e : Ending) (w' : World) : Prop :=
  ∃ a n c a' n' c', e = .returned (.tuple #[.slice a n c, .slice a' n' c']) ∧ BigN 151 w' a n c Q ∧ BigN 151 w' a' n' c' R ∧ Below w.heap.size w w'

/-- a quotient and a rest, each in its own room or new -/
def GivesDI (az azu : Option Addr) (Q R : Nat) (w : World) (e : Ending) (w' : World) : Prop :=
  ∃ a n c a' n' c', e = .returned (.tuple #[.slice a n c, .slice a' n' c']) ∧ BigN 151 w' a n c Q ∧ BigN 151 w' a' n' c' R ∧ Upd (fun k => InB az k ∨ InB azu k) w w' ∧
    (∀ k, InB a k → (InB az k ∨ w.heap.size ≤ k) ∧ ¬ InB a' k) ∧ (∀ k, InB a' k → InB azu k ∨ w.heap.size ≤ k)
theorem GivesDI.nil {Q R : Nat} {w w' : World} {e : Ending} (h : GivesDI none none Q R w e w') : GivesQN Q R w e w' := by
  obtain ⟨a, n, c, a', n', c', h1, h2, h3, h4, _⟩ := h
  exact ⟨a, n, c, a', n', c', h1, h2, h3, h4.toBelow (fun k _ h => by rcases h with h | h <;> exact inB_none h)⟩

set_option maxRecDepth 100000 in
set_option maxHeartbeats 2000000 in
theorem natDiv_word_into (s : Value) (az azu : Option Addr) (nz cz Z nzu czu ZU : Nat) (a1 a2 : Option Addr) (n1 c1 c2 N M : Nat) (w : World) (hz : BigN 151 w az nz cz Z) (hzu : BigN 151 w azu nzu czu ZU) (h1 : BigN 151 w a1 n1 c1 N) (h2 : BigN 151 w a2 1 c2 M) (hb1 : n1 ≤ 900000)
    (hne : ∀ k, InB azu k → ¬ InB az k) (hd : M = 1 → 0 < n1 → ∀ k, InB a1 k → ¬ InB az k) :
    Calls Tryz.prog 134 #[.slice az nz cz, s, .slice azu nzu czu, .slice a1 n1 c1, .slice a2 1 c2] w (GivesDI az azu (N / M) (N % M) w) := by
  have hm2 := h2.num.cm
  have hc2 := h2.num.nc
  unfold maxLen at hm2
  obtain ⟨b2, o2, rfl, hl2⟩ := h2.num.form (by omega)
  have hM : M < 18446744073709551616 := by have := h2.num.lt; rwa [Nat.pow_one] at this
  have hM0 : 0 < M := by
    rcases h2.num.top with h | h
    · omega
    · have h' : 1 ≤ M := by simpa using h
      omega
  have e2 : w.cell? ⟨b2, o2, none⟩ = some (.int .u64 (M : Nat)) := by
    have := h2.num.cell (i := 0) (by omega)
    rw [Nat.add_zero] at this
    rw [this]
    unfold dg
    rw [Nat.pow_zero, Nat.div_one, Nat.mod_eq_of_lt (show M < W64 from hM)]
  have HD := Lib.hid (divW_into az nz cz Z a1 n1 c1 N M w hz h1 hb1 hM0 hM hd)
  have hr : N % M < 18446744073709551616 := Nat.lt_trans (Nat.mod_lt _ hM0) hM
  have HZU := Lib.hid hzu
  have HNE := Lib.hid hne
  have hczum := hzu.num.cm
  have hnczu := hzu.num.nc
  unfold maxLen at hczum
  clear h1 h2 hz hzu hd hne
  generalize N / M = q at *
  generalize N % M = r at *
  go_enter Tryz.func134, Tryz.ntmps134
  go_wp2_with fail
  refine HD.out.mono ?_
  rintro e w1 ⟨a, n, c, rfl, hN, hU, hP⟩
  have HN := Lib.hid hN
  have HU := Lib.hid hU
  have HP := Lib.hid hP
  have hzu1 := HZU.out.apart hU HNE.out
  clear hN hU hP
  go_wp2_with fail
  refine (setWord_into azu nzu czu ZU r hr w1 hzu1).mono ?_
  rintro e w2 ⟨a', n', c', rfl, hN', hU', hP'⟩
  have HE := Lib.hid (show GivesDI az azu q r w (.returned (.tuple #[.slice a n c, .slice a' n' c'])) w2 from by
    have hq : ∀ k, InB a k → ¬ InB azu k := fun k h1 h2 => by
      rcases HP.out k h1 with h | h
      · exact HNE.out k h2 h
      · have := HZU.out.inLt k h2; omega
    refine ⟨_, _, _, _, _, _, rfl, HN.out.apart hU' hq, hN', (HU.out.mono (fun k _ h => .inl h)).trans (hU'.mono (fun k _ h => .inr h)), fun k hk => ⟨HP.out k hk, fun h => ?_⟩, fun k hk => ?_⟩
    · rcases hP' k h with h2 | h2
      · exact hq k hk h2
      · have := HN.out.inLt k hk; omega
    · rcases hP' k hk with h2 | h2
      · exact .inl h2
      · exact .inr (Nat.le_trans HU.out.size h2))
  clear hN' hU' hP' hzu1
  go_wp2
  exact bodyPost_ret (v := .tuple #[.slice a n c, .slice a' n' c']) (by simp [results, Tryz.results134, go_sem]) rfl HE.out

theorem natDiv_word (s : Value) (a1 a2 : Option Addr) (n1 c1 c2 N M : Nat) (w : World) (h1 : BigN 151 w a1 n1 c1 N) (h2 : BigN 151 w a2 1 c2 M) (hb1 : n1 ≤ 900000) :
    Calls Tryz.prog 134 #[.slice none 0 0, s, .slice none 0 0, .slice a1 n1 c1, .slice a2 1 c2] w (GivesQN (N / M) (N % M) w) :=
  (natDiv_word_into s none none 0 0 0 0 0 0 a1 a2 n1 c1 c2 N M w (BigN.nil _ _) (BigN.nil _ _) h1 h2 hb1 (fun _ h _ => inB_none h) (fun _ _ _ _ h => inB_none h)).mono fun _ _ h => h.nil

set_option maxRecDepth 100000 in
set_option maxHeartbeats 2000000 in
theorem natDiv_less (s : Value) (a1 a2 : Option Addr) (n1 n2 c1 c2 N M : Nat) (w : World) (h1 : BigN 151 w a1 n1 c1 N) (h2 : BigN 151 w a2 n2 c2 M) (hn2 : 2 ≤ n2) (hb1 : n1 ≤ 900000) (hlt : N < M) :
    Calls Tryz.prog 134 #[.slice none 0 0, s, .slice none 0 0, .slice a1 n1 c1, .slice a2 n2 c2] w (GivesQN (N / M) (N % M) w) := by
  rw [Nat.div_eq_of_lt hlt, Nat.mod_eq_of_lt hlt]
  have z0 : ((n2 : Int) == 0) = false := by simp; omega
  have z1 : ((n2 : Int) == 1) = false := by simp; omega
  have hm1 := h1.num.cm
  have hc1 := h1.num.nc
  have hm2 := h2.num.cm
  have hc2 := h2.num.nc
  unfold maxLen at hm1 hm2
  have HC := Lib.hid (natCmp_any a1 a2 n1 n2 c1 c2 N M w h1.num h2.num)
  rw [show cmpI N M = -1 from by unfold cmpI; rw [if_pos hlt]] at HC
  have HS := Lib.hid (fun m => natSet_nil a1 n1 c1 N (w.drewN m) (h1.num.drewN m) (by omega))
  clear h1 h2 hlt
  go_enter Tryz.func134, Tryz.ntmps134
  go_wp2_with fail
  refine HC.out.mono ?_
  rintro e w1 ⟨rfl, m, rfl⟩
  go_wp2_with fail
  refine (HS.out m).mono ?_
  rintro e w2 ⟨a', n', c', rfl, hN', hB'⟩
  have HN' := Lib.hid hN'
  have HB' := Lib.hid hB'
  clear hN' hB'
  go_wp2
  exact bodyPost_ret (v := .tuple #[.slice none 0 0, .slice a' n' c']) (by simp [results, Tryz.results134, go_sem]) rfl ⟨_, _, _, _, _, _, rfl, BigN.nil _ _, HN'.out, Below.then (below_of_drewN ⟨m, rfl⟩) (Nat.le_refl _) HB'.out⟩
end Go.Proofs.YtdkipndepkblhaaGreatDoor
