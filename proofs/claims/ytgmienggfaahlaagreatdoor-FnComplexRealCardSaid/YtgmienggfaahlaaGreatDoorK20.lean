/-
  Contracts and lemmas: ToiA ShI DivV Own DivN.
-/
import Derived.Test.YtgmienggfaahlaaGreatDoorK19
import Derived.Test.YtgmienggfaahlaaGreatDoorK03
import Derived.Test.YtgmienggfaahlaaGreatDoorK17
import Derived.Test.YtgmienggfaahlaaGreatDoorK15
import Derived.Test.YtgmienggfaahlaaGreatDoorK06
set_option linter.unusedSimpArgs false
set_option linter.unusedVariables false
set_option maxRecDepth 100000
set_option maxHeartbeats 8000000
namespace Go.Proofs.YtgmienggfaahlaaGreatDoor
open Go.RowKit Go.Bg Dg
theorem natOne_any (w : World) : Calls Tryz.prog 146 #[] w fun e w' => e = .returned (.slice (some ⟨w.heap.size, 0, none⟩) 1 1) ∧ w' = w.alloc (.cells #[.int .u64 1] 155) := by
  go_enter Tryz.func146, Tryz.ntmps146
  go_wp2
  go_ret
  exact ⟨rfl, rfl⟩
theorem natOne_is (w : World) : BigN 155 (w.alloc (.cells #[.int .u64 1] 155)) (some ⟨w.heap.size, 0, none⟩) 1 1 1 := by
  have h := BlkAt.new w #[.int .u64 1] 155
  refine ⟨⟨by rw [Nat.pow_one]; exact W64_gt, .inr (by simp), Nat.le_refl _, by simp [maxLen], fun _ => ⟨w.heap.size, 0, rfl, fun i hi => ?_⟩⟩, .inr ⟨_, _, rfl, h, rfl⟩⟩
  obtain rfl : i = 0 := by omega
  have e : dg W64 1 0 = 1 := by unfold dg; rw [Nat.pow_zero, Nat.div_one, Nat.mod_eq_of_lt W64_gt]
  show (w.alloc (.cells #[.int .u64 1] 155)).cell? ⟨w.heap.size, 0, none⟩ = some (.int .u64 ((dg W64 1 0 : Nat) : Int))
  rw [h.cell, e]
  rfl
theorem ratIsInt_any (b : Nat) (s : Bool) (N D : Nat) (w : World) (h : RatAt 155 w b s N D) :
    Calls Tryz.prog 109 #[.pointer (some ⟨b, 0, none⟩)] w fun e w' => e = .returned (.bool (decide (D = 1))) ∧ Below w.heap.size w w' := by
  obtain ⟨a, n, c, h0, h1, hN⟩ := h.d.val
  have hp := natAt_pos_len hN.num
  have hpos := h.pos
  have hn : 0 < n := by simpa [hpos] using hp
  have hz : ((n : Int) == 0) = false := by simp; omega
  have hcm := hN.num.cm
  have hnc := hN.num.nc
  have HN := Lib.hid hN
  have HD := Lib.hid (show decide (cmpI D 1 = 0) = decide (D = 1) from by
    unfold cmpI
    by_cases h1 : D < 1
    · omega
    · by_cases h2 : D = 1
      · subst h2; rfl
      · have : ¬ D < 1 := h1
        simp [h2]; omega)
  clear hp h hN hpos hn
  go_enter Tryz.func109, Tryz.ntmps109
  have h13 : w.cell? ⟨b, 3, none⟩ = some (.slice a n c) := h1
  have HH := Lib.hid h13
  clear h1 h0
  go_wp2_with fail
  have hd0 : Below w.heap.size w w.drew := (Below.refl _ _).drew
  go_region_held3 (fun w' => w'.cell? ⟨b, 3, none⟩ = some (.slice a n c))
    (first | with_reducible exact h13 | exact cell_keep h13 (by assumption))
    (first | (go_at_call 146; (with_reducible refine (natOne_any _).mono ?_); rintro e w1 ⟨rfl, hw1⟩; have hb1 : Below w.heap.size w w1 := (by rw [hw1]; exact Below.alloc' hd0 _); have hone : BigN 155 w1 (some ⟨w.heap.size, 0, none⟩) 1 1 1 := (by rw [hw1]; exact natOne_is w.drew); clear hw1) | (go_at_call 137; (with_reducible refine (natCmp_any _ _ _ _ _ _ D 1 _ ?_ ?_).mono ?_); exact HN.out.num.keep hb1; exact hone.num; rintro e w2 ⟨rfl, hd⟩; have hb2 : Below w.heap.size w w2 := Below.then hb1 (Nat.le_refl _) (below_of_drewN hd); clear hd))
  go_wp2
  go_ret
  exact ⟨ret_bool (by rw [← HD.out]; first | rfl | (simp; done) | (simp; rfl)), hb2⟩
theorem toIntRat_any (v : Value) (r : Rt) (w : World) (h : CRat w v r) :
    Calls Tryz.prog 43 #[v] w fun e w' => ∃ u, e = .returned u ∧ (r.den = 1 → CInt w' u (sg r.neg r.num)) ∧ (r.den ≠ 1 → u = .iface 85 (.agg #[])) ∧ Below w.heap.size w w' := by
  obtain ⟨b, s, N, D, rfl, hR, rfl⟩ := h
  obtain ⟨t1, t2, t3, t4, t5, t6, t7, t8, t9⟩ := ta_ratVal
  obtain ⟨W0, hW0⟩ : ∃ W0, W0 = w.alloc (.cells #[.pointer (some ⟨b, 0, none⟩)] 102) := ⟨_, rfl⟩
  have HW := Lib.hid hW0
  have hb0 : Below w.heap.size w W0 := by rw [hW0]; exact Below.alloc' (Below.refl _ _) _
  have hblk : BlkAt W0 w.heap.size #[.pointer (some ⟨b, 0, none⟩)] 102 := by rw [hW0]; exact BlkAt.new _ _ _
  have c0 := hblk.cell 0
  simp only [List.getElem?_toArray, List.getElem?_cons_zero] at c0
  have HR := Lib.hid (hR.keep hb0)
  clear hW0 hR hblk
  by_cases hD : D = 1
  · have h1 : decide (D = 1) = true := decide_eq_true hD
    have HD := Lib.hid hD
    clear hD
    go_enter Tryz.func43, Tryz.ntmps43
    go_wp2_with fail
    rw [← HW.out]
    refine (ratIsInt_any b s N D _ HR.out).mono ?_
    rintro e w1 ⟨rfl, hB1⟩
    rw [h1]
    have hb1 := Below.then hb0 (Nat.le_refl _) hB1
    replace c0 := cell_keep c0 hB1
    have HR1 := Lib.hid (HR.out.keep hB1)
    clear hB1 hb0
    go_wp2_with fail
    refine (ratNum_any b _).mono ?_
    rintro e w2 ⟨rfl, rfl⟩
    go_wp2_with fail
    refine (makeInt_any b 0 s N _ HR1.out.a).mono ?_
    rintro e w2 ⟨u, rfl, hu, rfl⟩
    go_wp2
    go_ret
    exact ⟨_, rfl, fun _ => hu, fun h => absurd HD.out h, hb1⟩
  · have h1 : decide (D = 1) = false := decide_eq_false hD
    have HD := Lib.hid hD
    clear hD
    go_enter Tryz.func43, Tryz.ntmps43
    go_wp2_with fail
    rw [← HW.out]
    refine (ratIsInt_any b s N D _ HR.out).mono ?_
    rintro e w1 ⟨rfl, hB1⟩
    rw [h1]
    have hb1 := Below.then hb0 (Nat.le_refl _) hB1
    clear hB1 hb0
    go_wp2
    go_ret
    exact ⟨_, rfl, fun h => absurd h HD.out, fun _ => rfl, hb1⟩
theorem make_self (g nz cz n : Nat) (w : World) (hn : n ≤ cz) (hnz : nz ≤ cz) (hcm : cz ≤ 9223372036854775807) :
    Calls Tryz.prog 194 #[.slice (some ⟨g, 0, none⟩) nz cz, .int .i64 n] w fun e w' => e = .returned (.slice (some ⟨g, 0, none⟩) n cz) ∧ w = w' := by
  have hle : (n : Int) ≤ cz := by omega
  go_enter Tryz.func194, Tryz.ntmps194
  go_wp2
  go_ret
  exact ⟨rfl, rfl⟩
end Go.Proofs.YtgmienggfaahlaaGreatDoor
namespace Go.Bg
open Go.RowKit Dg
theorem dg_div {X y i : Nat} (hy : 0 < y) : dg W64 (X / y) i = ((X / W64 ^ (i + 1) % y) * W64 + dg W64 X i) / y ∧ X / W64 ^ i % y = ((X / W64 ^ (i + 1) % y) * W64 + dg W64 X i) % y := by
  have e1 : X / W64 ^ (i + 1) = X / W64 ^ i / W64 := by rw [Nat.pow_succ, Nat.div_div_eq_div_mul]
  have e2 : dg W64 (X / y) i = X / W64 ^ i / y % W64 := by unfold dg; rw [div_right]
  have e3 : dg W64 X i = X / W64 ^ i % W64 := rfl
  rw [e1, e2, e3]
  generalize X / W64 ^ i = A
  have hlt : (A / W64 % y * W64 + A % W64) / y < W64 := by
    rw [Nat.div_lt_iff_lt_mul hy]
    have h1 : A / W64 % y < y := Nat.mod_lt _ hy
    have h2 : A % W64 < W64 := Nat.mod_lt _ W64_pos
    have h3 : (A / W64 % y + 1) * W64 ≤ y * W64 := Nat.mul_le_mul_right _ h1
    rw [Nat.add_mul, Nat.one_mul] at h3
    rw [Nat.mul_comm W64]
    omega
  have e : A = y * (A / W64 / y * W64) + (A / W64 % y * W64 + A % W64) := by
    have h1 := Nat.div_add_mod A W64
    have h2 := Nat.div_add_mod (A / W64) y
    have h3 : W64 * (A / W64) = y * (A / W64 / y * W64) + A / W64 % y * W64 := by
      conv => lhs; rw [← h2]
      rw [Nat.mul_add, Nat.mul_comm W64 (A / W64 % y), Nat.mul_comm W64, Nat.mul_assoc]
    omega
  constructor
  · conv => lhs; rw [e]
    rw [Nat.mul_add_div hy, Nat.add_comm, Nat.add_mul_mod_self_right]
    exact Nat.mod_eq_of_lt hlt
  · conv => lhs; rw [e]
    exact Nat.mul_add_mod _ _ _
end Go.Bg
namespace Go.Proofs.YtgmienggfaahlaaGreatDoor
open Go.RowKit Go.Bg Dg
theorem divWVW_any (g o n c0 b1 o1 c1 : Nat) (cur : Array Value) (X y : Nat) (w : World) (hg : BlkAt w g cur 155) (hn : n ≤ 1000000) (hn0 : 0 < n) (hr : o + n ≤ cur.size) (h0 : n ≤ c0) (h0m : c0 ≤ maxLen)
    (h1 : WCells w b1 o1 n (dg W64 X)) (h1c : n ≤ c1) (h1m : c1 ≤ maxLen) (hn1 : b1 ≠ g ∨ o1 ≤ o) (hy0 : 0 < y) (hy : y < 18446744073709551616) (hX : X < W64 ^ n) :
    Calls Tryz.prog 242 #[.slice (some ⟨g, o, none⟩) n c0, .int .u64 0, .slice (some ⟨b1, o1, none⟩) n c1, .int .u64 y] w
      (VecIs g o n cur (dg W64 (X / y)) (X % y) w) := by
  unfold maxLen at h0m h1m
  have HG := Lib.hid hg
  have H1 := Lib.hid h1
  have HX := Lib.hid hX
  clear hg h1 hX
  by_cases hs1 : n = 1
  · subst hs1
    have e1 : w.cell? ⟨b1, o1, none⟩ = some (.int .u64 (dg W64 X 0 : Nat)) := by have := H1.out 0 hn0; rwa [Nat.add_zero] at this
    have hXl : X < 18446744073709551616 := by have := HX.out; rwa [Nat.pow_one] at this
    have hd0 : dg W64 X 0 = X := by unfold dg; rw [Nat.pow_zero, Nat.div_one]; exact Nat.mod_eq_of_lt hXl
    have hd1 : dg W64 (X / y) 0 = X / y := by unfold dg; rw [Nat.pow_zero, Nat.div_one]; exact Nat.mod_eq_of_lt (Nat.lt_of_le_of_lt (Nat.div_le_self _ _) hXl)
    rw [hd0] at e1
    have HD := Lib.hid (fun w => bitsDiv_any 0 X y hy0 hXl hy w)
    rw [Nat.zero_mul, Nat.zero_add] at HD
    have hq : X / y < 18446744073709551616 := Nat.lt_of_le_of_lt (Nat.div_le_self _ _) hXl
    have hm : X % y < 18446744073709551616 := Nat.lt_of_le_of_lt (Nat.mod_le _ _) hXl
    have HE := Lib.hid hd1.symm
    clear hd0 hd1
    have HRU := Lib.hid (RowUp.start HG.out o (dg W64 (X / y)))
    generalize X / y = q at *
    generalize X % y = r at *
    go_enter Tryz.func242, Tryz.ntmps242
    go_wp2_with fail
    refine (HD.out _).mono ?_
    rintro e w1 ⟨rfl, nq, rfl⟩
    have hroom := (HRU.out.drewN nq).room (j := o) (by omega)
    obtain ⟨⟨u0, p0⟩, f0⟩ := hroom
    go_wp2
    go_ret
    refine ⟨rfl, ?_⟩
    have := (HRU.out.drewN nq).step (x := q) (by omega) HE.out
    simpa using this
  · have hs1' : ((n : Int) == 1) = false := by simp; omega
    have HR := Lib.hid (recip_any y hy0 hy)
    have HW := Lib.hid (fun a b ha hb w => divWW_any a b y ha hb hy w)
    have hrl : recip y < 18446744073709551616 := by
      obtain ⟨t1, t2⟩ := lz_top hy0 (show y < W64 from hy)
      rw [recip]; exact (recip_form t2 t1).2.1
    generalize recip y = m at *
    clear hs1
    go_enter Tryz.func242, Tryz.ntmps242
    go_wp2_with fail
    refine (HR.out _).mono ?_
    rintro e w1 ⟨rfl, nq, rfl⟩
    go_wp2
    go_loopw [8, 12] (fun r i wr => ∃ k m' : Nat, k + m' = n ∧ i = .int .i64 ((k : Int) - 1) ∧ r = .int .u64 ((X / W64 ^ k % y : Nat) : Int) ∧ RowUp 155 w wr g (o + k) m' cur (fun j => dg W64 (X / y) (k + j)))
      (fun r i _ => (intOf i + 1).toNat)
    case atStart => exact ⟨n, 0, rfl, rfl, by rw [Nat.div_eq_of_lt HX.out]; simp, (RowUp.start HG.out _ _).drewN nq⟩
    case round =>
      obtain ⟨k, m', hkm, rfl, rfl, hR⟩ := hrel
      by_cases k0 : 0 < k
      · obtain ⟨p, rfl⟩ : ∃ p, k = p + 1 := ⟨k - 1, by omega⟩
        have e1 := hR.readOut HG.out (H1.out p (by omega)) (by rcases hn1 with h | h; exact .inl h; exact .inr (.inl (by omega)))
        have d1 : dg W64 X p < 18446744073709551616 := W64_lt (dg_lt W64_pos _ _)
        have hdd := dg_div (X := X) (y := y) (i := p) hy0
        have hrr : X / W64 ^ (p + 1) % y < y := Nat.mod_lt _ hy0
        have hqq : dg W64 (X / y) p < 18446744073709551616 := W64_lt (dg_lt W64_pos _ _)
        have hrr2 : X / W64 ^ p % y < y := Nat.mod_lt _ hy0
        have HC := Lib.hid (fun w => HW.out _ _ hrr d1 w)
        rw [← hdd.1, ← hdd.2] at HC
        have hroom := hR.room (j := o + p) (by omega)
        obtain ⟨⟨u0, p0⟩, f0⟩ := hroom
        have HRR := Lib.hid hR
        have HQ := Lib.hid (show dg W64 (X / y) p = dg W64 (X / y) p from rfl)
        have HDN := Lib.hid (hR.down (h := dg W64 (X / y)) (k := p) (by omega) rfl)
        clear hR hdd
        generalize dg W64 X p = x at *
        generalize X / W64 ^ (p + 1) % y = r1 at *
        obtain ⟨r0, hr0⟩ : ∃ r0, r0 = X / W64 ^ p % y := ⟨_, rfl⟩
        rw [← hr0] at HC hrr2
        have HR0 := Lib.hid hr0
        clear hr0
        generalize dg W64 (X / y) p = q at *
        have hp1 : ((p + 1 : Nat) : Int) - 1 = p := by omega
        have kl1 : (p : Int) < n := by omega
        go_wp2_with fail
        refine (HC.out _).mono ?_
        rintro e w2 ⟨rfl, rfl⟩
        go_wp2
        go_roundw
        case rel => exact ⟨p, m' + 1, by omega, rfl, congrArg (fun z : Nat => Value.int .u64 (z : Int)) HR0.out, HDN.out⟩
        case measure => simp [intOf]
      · obtain rfl : k = 0 := by omega
        have HRR := Lib.hid hR
        clear hR
        have hr2 : X / W64 ^ 0 % y = X % y := by rw [Nat.pow_zero, Nat.div_one]
        rw [hr2]
        clear hr2
        go_wp2
        go_ret
        refine ⟨rfl, ?_⟩
        have h := HRR.out
        rw [Nat.add_zero, show m' = n from by omega] at h
        simpa using h
end Go.Proofs.YtgmienggfaahlaaGreatDoor
namespace Go.Bg
open Go.RowKit Dg
def InB (a : Option Addr) (k : Nat) : Prop := ∃ p, a = some p ∧ p.block = k
theorem inB_none {k : Nat} (h : InB none k) : False := by obtain ⟨p, h, _⟩ := h; cases h
theorem inB_some {b o k : Nat} {f : Option Nat} (h : InB (some ⟨b, o, f⟩) k) : b = k := by obtain ⟨p, h, e⟩ := h; injection h with h; rw [← e, ← h]
theorem inB_is (b o : Nat) (f : Option Nat) : InB (some ⟨b, o, f⟩) b := ⟨_, rfl, rfl⟩
def MadeG (T : TypeId) (g n : Nat) (w : World) (e : Ending) (w' : World) : Prop :=
  ∃ c cur, e = .returned (.slice (some ⟨g, 0, none⟩) n c) ∧ BlkAt w' g cur T ∧ cur.size = c ∧ n ≤ c ∧ c ≤ maxLen ∧ Below w.heap.size w w'
def GivesI (T : TypeId) (a : Option Addr) (N : Nat) (w : World) (e : Ending) (w' : World) : Prop :=
  ∃ a' n' c', e = .returned (.slice a' n' c') ∧ BigN T w' a' n' c' N ∧ Upd (InB a) w w' ∧ ∀ k, InB a' k → InB a k ∨ w.heap.size ≤ k
theorem Upd.toBelow {S : Nat → Prop} {w w' : World} (h : Upd S w w') (hS : ∀ k, k < w.heap.size → ¬ S k) : Below w.heap.size w w' :=
  ⟨h.os, h.tape, h.output, h.size, fun k hk => h.block k hk (hS k hk)⟩
theorem Upd.room {a : Option Addr} {g : Nat} {w w1 w2 : World} (hb : Below w.heap.size w w1) (hg : InB a g ∨ w.heap.size ≤ g) (u : Upd (· = g) w1 w2) : Upd (InB a) w w2 :=
  ⟨u.os.trans hb.os, u.tape.trans hb.tape, u.output.trans hb.output, Nat.le_trans hb.size u.size, fun k hk hs => by
    have hne : ¬ k = g := fun e => by
      subst e
      rcases hg with h | h
      · exact hs h
      · omega
    exact (u.block k (Nat.lt_of_lt_of_le hk hb.size) hne).trans (hb.block k hk)⟩
theorem givesI_row {T : TypeId} {a : Option Addr} {g c m N : Nat} {cur : Array Value} {w w1 w2 : World} (hb : Below w.heap.size w w1) (hg : InB a g ∨ w.heap.size ≤ g) (hs : cur.size = c) (hR : RowUp T w1 w2 g 0 m cur (dg W64 N)) (hm : m ≤ c) (hc : c ≤ maxLen) (hN : N < W64 ^ m) :
    Cells w2 (some ⟨g, 0, none⟩) m (fun i => .int .u64 (dg W64 N i : Nat)) ∧ GivesI T a N w (.returned (.slice (some ⟨g, 0, none⟩) (tlen (dg W64 N) m) c)) w2 := by
  obtain ⟨cur', hk1, hk2, hk3, hk4⟩ := hR.blk
  obtain ⟨hcl, hbn⟩ := bigN_row (c := c) (m := m) hk1 (hk2.trans hs) (fun i hi => by have := hk3 i hi; rwa [Nat.zero_add] at this) hm hc hN
  exact ⟨hcl, _, _, _, rfl, hbn, Upd.room hb hg hR.upd, fun k hk => by rw [← inB_some hk]; exact hg⟩
theorem bigN_copied {T : TypeId} {w w1 w2 : World} {a : Option Addr} {n c N g c' : Nat} {cur : Array Value} (h : NumAt .u64 W64 w a n c N) (hR : RowUp T w1 w2 g 0 n cur (dg W64 N)) (hs : cur.size = c') (hn : n ≤ c') (hc : c' ≤ maxLen) : BigN T w2 (some ⟨g, 0, none⟩) n c' N := by
  obtain ⟨cur', hk1, hk2, hk3, hk4⟩ := hR.blk
  refine ⟨⟨h.lt, h.top, hn, hc, fun _ => ⟨g, 0, rfl, fun i hi => ?_⟩⟩, .inr ⟨g, cur', rfl, hk1, hk2.trans hs⟩⟩
  rw [hk1.cell]; exact hk3 i hi
theorem BigN.empty {T : TypeId} {w : World} {a : Option Addr} {n c N : Nat} (h : BigN T w a n c N) : BigN T w a 0 c 0 :=
  ⟨⟨by simp, .inl rfl, Nat.zero_le _, h.num.cm, fun h => absurd h (Nat.lt_irrefl _)⟩, h.buf⟩
theorem GivesI.empty {T : TypeId} {w : World} {a : Option Addr} {n c N : Nat} (h : BigN T w a n c N) : GivesI T a 0 w (.returned (.slice a 0 c)) w :=
  ⟨_, _, _, rfl, h.empty, Upd.refl _ _, fun k hk => .inl hk⟩
theorem BigN.apart {T : TypeId} {w w' : World} {a : Option Addr} {n c N : Nat} {S : Nat → Prop} (h : BigN T w a n c N) (hu : Upd S w w') (hs : ∀ k, InB a k → ¬ S k) : BigN T w' a n c N := by
  rcases h.buf with ⟨rfl, rfl⟩ | ⟨g, cur, rfl, hg, hz⟩
  · refine ⟨⟨h.num.lt, h.num.top, h.num.nc, h.num.cm, fun hn => ?_⟩, .inl ⟨rfl, rfl⟩⟩
    obtain ⟨b, off, e, _⟩ := h.num.cells hn
    cases e
  · have hn := hs g (inB_is _ _ _)
    refine ⟨⟨h.num.lt, h.num.top, h.num.nc, h.num.cm, fun hn' => ⟨g, 0, rfl, fun i hi => ?_⟩⟩, .inr ⟨g, cur, rfl, hu.blk hg hn, hz⟩⟩
    rw [hu.cell (p := ⟨g, 0 + i, none⟩) hg.lt hn]
    exact h.num.cell hi
theorem BigN.inLt {T : TypeId} {w : World} {a : Option Addr} {n c N : Nat} (h : BigN T w a n c N) : ∀ k, InB a k → k < w.heap.size := by
  intro k hk
  rcases h.buf with ⟨rfl, _⟩ | ⟨g, cur, rfl, hg, _⟩
  · exact (inB_none hk).elim
  · rw [← inB_some hk]; exact hg.lt
theorem BigN.start {T : TypeId} {w : World} {b o n c N : Nat} (h : BigN T w (some ⟨b, o, none⟩) n c N) : o = 0 ∧ ∃ cur, BlkAt w b cur T ∧ cur.size = c := by
  rcases h.buf with ⟨h, _⟩ | ⟨g', cur, h, hg, hsz⟩
  · cases h
  · injection h with h
    injection h with h h' _
    subst h h'
    exact ⟨rfl, cur, hg, hsz⟩
structure OwnI (T : TypeId) (w : World) (b o : Nat) (s : Bool) (a : Option Addr) (n c N : Nat) : Prop where
  blk : Strct T w b
  c0 : w.cell? ⟨b, o, none⟩ = some (.bool s)
  c1 : w.cell? ⟨b, o + 1, none⟩ = some (.slice a n c)
  num : BigN T w a n c N
theorem OwnI.stored {T : TypeId} {w : World} {b o : Nat} {a : Option Addr} {n c N : Nat} {s : Bool} (hb : Strct T w b) (h0 : ∃ u, w.cell? ⟨b, o, none⟩ = some u) (h1 : ∃ u, w.cell? ⟨b, o + 1, none⟩ = some u) (hN : BigN T w a n c N) :
    OwnI T ((w.setCell ⟨b, o + 1, none⟩ (.slice a n c)).setCell ⟨b, o, none⟩ (.bool s)) b o s a n c N := by
  obtain ⟨u0, h0⟩ := h0
  obtain ⟨u1, h1⟩ := h1
  have e : ∀ (i j : Nat) (v : Value) (w : World), i ≠ j → (w.setCell ⟨b, i, none⟩ v).cell? ⟨b, j, none⟩ = w.cell? ⟨b, j, none⟩ := fun i j v w h => World.cell?_setCell_other _ _ _ _ (fun hh => h (by injection hh))
  refine ⟨(hb.set _ _).set _ _, ?_, ?_, (hN.set hb _ _).set (hb.set _ _) _ _⟩
  · refine World.cell?_setCell_same (u := u0) _ _ _ ?_
    rw [e _ _ _ _ (by omega)]; exact h0
  · rw [e _ _ _ _ (by omega)]
    exact World.cell?_setCell_same (u := u1) _ _ _ h1
theorem OwnI.toAt {T : TypeId} {w : World} {b o : Nat} {a : Option Addr} {n c N : Nat} {s : Bool} (h : OwnI T w b o s a n c N) (hz : s = true → 0 < N) : BigAt T w b o s N := ⟨h.blk, ⟨a, n, c, h.c0, h.c1, h.num⟩, hz⟩
theorem OwnI.apart {T : TypeId} {w w' : World} {b o : Nat} {a : Option Addr} {n c N : Nat} {s : Bool} {S : Nat → Prop} (h : OwnI T w b o s a n c N) (hu : Upd S w w') (hb : ¬ S b) (ha : ∀ k, InB a k → ¬ S k) : OwnI T w' b o s a n c N :=
  ⟨h.blk.upd hu hb, by rw [hu.cell (p := ⟨b, o, none⟩) h.blk.lt hb]; exact h.c0, by rw [hu.cell (p := ⟨b, o + 1, none⟩) h.blk.lt hb]; exact h.c1, h.num.apart hu ha⟩
theorem OwnI.keep {T : TypeId} {w w' : World} {b o : Nat} {a : Option Addr} {n c N : Nat} {s : Bool} (h : OwnI T w b o s a n c N) (hb : Below w.heap.size w w') : OwnI T w' b o s a n c N :=
  ⟨h.blk.keep hb, cell_keep h.c0 hb, cell_keep h.c1 hb, h.num.keep hb⟩
theorem Strct.notIn {T : TypeId} {w : World} {b : Nat} {a : Option Addr} {n c N : Nat} (h : Strct T w b) (hN : BigN T w a n c N) : ¬ InB a b := by
  obtain ⟨cur, e, h, hne⟩ := h
  intro hk
  rcases hN.buf with ⟨rfl, _⟩ | ⟨g, cur2, rfl, hg, _⟩
  · exact inB_none hk
  · have e2 := inB_some hk
    subst e2
    unfold BlkAt at hg h
    rw [hg] at h; injection h with h; injection h with _ h2 _; exact hne h2.symm
end Go.Bg
namespace Go.Proofs.YtgmienggfaahlaaGreatDoor
open Go.RowKit Go.Bg Dg
theorem make_one0 (az : Option Addr) (w : World) :
    Calls Tryz.prog 194 #[.slice az 0 0, .int .i64 1] w (MadeIs 155 1 w) := by
  have hmk : ∀ w : World, (Instr.makeSlice 147 (.int .i64 1) (.int .i64 1)).run Tryz.prog w = .ok (.slice (some ⟨w.heap.size, 0, none⟩) 1 1) (w.alloc (.cells (Array.replicate 1 (.int .u64 0)) 155)) :=
    run_make_nat 147 155 Tryz.underlying147 infoWord 1 1 (Nat.le_refl _) (by omega)
  go_enter Tryz.func194, Tryz.ntmps194
  go_wp2
  go_ret
  exact .inr ⟨1, by omega, Nat.le_refl _, by omega, rfl, rfl⟩
theorem make_into (az : Option Addr) (nz cz Z n : Nat) (w : World) (hz : BigN 155 w az nz cz Z) (h1 : 1 ≤ n) (hn : n ≤ 1000000) :
    ∃ g, (InB az g ∨ w.heap.size ≤ g) ∧ Calls Tryz.prog 194 #[.slice az nz cz, .int .i64 n] w (MadeG 155 g n w) := by
  have hnz := hz.num.nc
  have hcm := hz.num.cm
  have fin : ∀ e w1, MadeIs 155 n w e w1 → MadeG 155 w.heap.size n w e w1 := by
    rintro e w1 (⟨h, _⟩ | ⟨c, hc0, hc1, hc2, rfl, rfl⟩)
    · omega
    · exact ⟨c, _, rfl, BlkAt.new _ _ _, by simp, hc1, by unfold maxLen; omega, Below.alloc' (Below.refl _ _) _⟩
  rcases hz.buf with ⟨rfl, rfl⟩ | ⟨g, cur, rfl, hg, hs⟩
  · obtain rfl : nz = 0 := by omega
    exact ⟨w.heap.size, .inr (Nat.le_refl _), (make_nil n hn w).mono fin⟩
  · by_cases hr : n ≤ cz
    · refine ⟨g, .inl (inB_is _ _ _), (make_self g nz cz n w hr hnz (by unfold maxLen at hcm; omega)).mono ?_⟩
      rintro e w1 ⟨rfl, rfl⟩
      exact ⟨cz, cur, rfl, hg, hs, hr, hcm, Below.refl _ _⟩
    · by_cases h2 : 2 ≤ n
      · exact ⟨w.heap.size, .inr (Nat.le_refl _), (make_new _ nz cz n w (by omega) h2 hn hnz (fun h => by cases h)).mono fin⟩
      · obtain rfl : n = 1 := by omega
        obtain rfl : cz = 0 := by omega
        obtain rfl : nz = 0 := by omega
        exact ⟨w.heap.size, .inr (Nat.le_refl _), (make_one0 _ w).mono fin⟩
theorem natSet_into (az : Option Addr) (nz cz Z : Nat) (a : Option Addr) (n c N : Nat) (w : World) (hz : BigN 155 w az nz cz Z) (h : NumAt .u64 W64 w a n c N) (h0 : 0 < n) (hn : n ≤ 1000000) (hd : ∀ k, InB a k → ¬ InB az k) :
    Calls Tryz.prog 143 #[.slice az nz cz, .slice a n c] w (GivesI 155 az N w) := by
  obtain ⟨g, hg, hmk⟩ := make_into az nz cz Z n w hz h0 hn
  obtain ⟨b1, o1, rfl, hl1⟩ := h.form h0
  have hne : b1 ≠ g := fun e => by
    rcases hg with hg | hg
    · exact hd b1 (inB_is _ _ _) (e ▸ hg)
    · omega
  have HM := Lib.hid hmk
  have HG := Lib.hid hg
  have HH := Lib.hid h
  have hcm := h.cm
  have hnc := h.nc
  have hczm := hz.num.cm
  have hncz := hz.num.nc
  unfold maxLen at hcm hczm
  clear hmk hg h hz hd
  go_enter Tryz.func143, Tryz.ntmps143
  go_wp2_with fail
  refine HM.out.mono ?_
  rintro e w1 ⟨c', cur, rfl, hK, hs, hc1, hc2, hb⟩
  have HW := Lib.hid ((HH.out.keep hb).wcells0 (Nat.le_refl n))
  have HK := Lib.hid hK
  have HB := Lib.hid hb
  have HF := Lib.hid (show 0 + n ≤ cur.size from by omega)
  have hcm2 := hc2
  unfold maxLen at hcm2
  clear hK hb
  go_wp2_with ((with_reducible refine wpList_copy_words (o := ⟨some 11, _, _, _, _, _⟩) rfl (.tmp 9) (.tmp 10) 147 147 rfl 155 Tryz.underlying147 infoWordSize g 0 n c' b1 o1 c N rfl rfl cur 155 HK.out HW.out HF.out ?_); intro w2 hR2)
  have HE := Lib.hid (⟨_, _, _, rfl, bigN_copied HH.out hR2 hs hc1 hc2, Upd.room HB.out HG.out hR2.upd, fun k hk => by rw [← inB_some hk]; exact HG.out⟩ : GivesI 155 az N w (.returned (.slice (some ⟨g, 0, none⟩) n c')) w2)
  clear hR2
  go_wp2
  go_ret
  exact HE.out
theorem natSet0_any (az : Option Addr) (nz cz Z : Nat) (a : Option Addr) (c : Nat) (w : World) (hz : BigN 155 w az nz cz Z) :
    Calls Tryz.prog 143 #[.slice az nz cz, .slice a 0 c] w fun e w' => e = .returned (.slice az 0 cz) ∧ w' = w := by
  have hczm := hz.num.cm
  have hncz := hz.num.nc
  unfold maxLen at hczm
  rcases hz.buf with ⟨rfl, rfl⟩ | ⟨g, cur, rfl, _, _⟩
  · obtain rfl : nz = 0 := by omega
    clear hz
    go_enter Tryz.func143, Tryz.ntmps143
    go_wp2_with fail
    refine (make_nil 0 (by omega) _).mono ?_
    rintro e w1 (⟨_, rfl, rfl⟩ | ⟨c', h0, _⟩)
    case inr => omega
    go_wp2_with (with_reducible refine wpList_copy_nothing (o := ⟨some 11, _, _, _, _, _⟩) rfl (.tmp 9) (.tmp 10) 147 147 rfl 155 Tryz.underlying147 infoWordSize _ _ _ _ _ _ rfl rfl (by simp) ?_)
    go_wp2
    go_ret
    exact ⟨rfl, rfl⟩
  · have HM := Lib.hid (fun w => make_self g nz cz 0 w (Nat.zero_le _) hncz hczm)
    clear hz
    go_enter Tryz.func143, Tryz.ntmps143
    go_wp2_with fail
    refine (HM.out _).mono ?_
    rintro e w1 ⟨rfl, rfl⟩
    go_wp2_with (with_reducible refine wpList_copy_nothing (o := ⟨some 11, _, _, _, _, _⟩) rfl (.tmp 9) (.tmp 10) 147 147 rfl 155 Tryz.underlying147 infoWordSize _ _ _ _ _ _ rfl rfl (by simp) ?_)
    go_wp2
    go_ret
    exact ⟨rfl, rfl⟩
theorem setWord_into (az : Option Addr) (nz cz Z x : Nat) (hx : x < 18446744073709551616) (w : World) (hz : BigN 155 w az nz cz Z) :
    Calls Tryz.prog 156 #[.slice az nz cz, .int .u64 x] w (GivesI 155 az x w) := by
  have hczm := hz.num.cm
  have hncz := hz.num.nc
  unfold maxLen at hczm
  by_cases h0 : x = 0
  · subst h0
    have HE := Lib.hid (GivesI.empty hz)
    rcases hz.buf with ⟨rfl, rfl⟩ | ⟨g, cur, rfl, _, _⟩
    · obtain rfl : nz = 0 := by omega
      clear hz
      go_enter Tryz.func156, Tryz.ntmps156
      go_wp2
      go_ret
      exact HE.out
    · clear hz
      go_enter Tryz.func156, Tryz.ntmps156
      go_wp2
      go_ret
      exact HE.out
  · have hz0 : ((x : Int) == 0) = false := by simpa using h0
    obtain ⟨g, hg, hmk⟩ := make_into az nz cz Z 1 w hz (Nat.le_refl _) (by omega)
    have HM := Lib.hid (show Calls Tryz.prog 194 #[.slice az nz cz, .int .i64 1] w (MadeG 155 g 1 w) from hmk)
    have HG := Lib.hid hg
    have HX := Lib.hid hx
    clear hz hmk hg
    go_enter Tryz.func156, Tryz.ntmps156
    go_wp2_with fail
    refine HM.out.mono ?_
    rintro e w1 ⟨c', cur, rfl, hK, hs, hc1, hc2, hb⟩
    obtain ⟨u0, c0⟩ : ∃ u, w1.cell? ⟨g, 0, none⟩ = some u := ⟨cur[0]'(by omega), by rw [hK.cell, Array.getElem?_eq_getElem]⟩
    have f0 := hK.frozen 0
    have hd : dg W64 x 0 = x := by unfold dg; rw [Nat.pow_zero, Nat.div_one]; exact Nat.mod_eq_of_lt HX.out
    have hR : RowUp 155 w1 (w1.setCell ⟨g, 0, none⟩ (.int .u64 (x : Nat))) g 0 1 cur (dg W64 x) := by
      have := (RowUp.start hK 0 (dg W64 x)).step (x := x) (by omega) hd.symm
      simpa using this
    have HE := Lib.hid (⟨_, _, _, rfl, by
      obtain ⟨cur', hk1, hk2, hk3, hk4⟩ := hR.blk
      refine ⟨⟨by rw [Nat.pow_one]; exact HX.out, .inr (by simp; omega), hc1, hc2, fun _ => ⟨g, 0, rfl, fun i hi => ?_⟩⟩, .inr ⟨g, cur', rfl, hk1, hk2.trans hs⟩⟩
      rw [hk1.cell]
      exact hk3 i hi, Upd.room hb HG.out hR.upd, fun k hk => by rw [← inB_some hk]; exact HG.out⟩ : GivesI 155 az x w (.returned (.slice (some ⟨g, 0, none⟩) 1 c')) (w1.setCell ⟨g, 0, none⟩ (.int .u64 (x : Nat))))
    have hcm2 := hc2
    unfold maxLen at hcm2
    clear hK hR hb hd hx
    go_wp2
    go_ret
    exact HE.out
theorem natMulW_into (az : Option Addr) (nz cz Z : Nat) (a1 : Option Addr) (n1 c1 N1 y : Nat) (w : World) (h0 : BigN 155 w az nz cz Z) (h1 : BigN 155 w a1 n1 c1 N1) (hb1 : n1 ≤ 900000) (hy : y < W64) :
    Calls Tryz.prog 230 #[.slice az nz cz, .slice a1 n1 c1, .int .u64 y, .int .u64 0] w (GivesI 155 az (N1 * y) w) := by
  have hm1 := h1.num.cm
  have hc1 := h1.num.nc
  have hczm := h0.num.cm
  have hncz := h0.num.nc
  unfold maxLen at hm1 hczm
  by_cases z1 : n1 = 0
  · subst z1
    have e0 : N1 = 0 := by have := h1.num.lt; simpa using this
    subst e0
    have HS := Lib.hid (show Calls Tryz.prog 156 #[.slice az nz cz, .int .u64 0] w (GivesI 155 az 0 w) from setWord_into az nz cz Z 0 (by decide) w h0)
    rw [Nat.zero_mul]
    clear h0 h1
    go_enter Tryz.func230, Tryz.ntmps230
    go_wp2_with fail
    refine HS.out.mono ?_
    rintro e w1 ⟨a, n, c, rfl, hE⟩
    have HE := Lib.hid hE
    clear hE
    go_wp2
    go_ret
    exact ⟨_, _, _, rfl, HE.out⟩
  · have hz1 : ((n1 : Int) == 0) = false := by simpa using z1
    by_cases y0 : y = 0
    · subst y0
      have HS := Lib.hid (show Calls Tryz.prog 156 #[.slice az nz cz, .int .u64 0] w (GivesI 155 az 0 w) from setWord_into az nz cz Z 0 (by decide) w h0)
      rw [Nat.mul_zero]
      clear h0 h1
      go_enter Tryz.func230, Tryz.ntmps230
      go_wp2_with fail
      refine HS.out.mono ?_
      rintro e w1 ⟨a, n, c, rfl, hE⟩
      have HE := Lib.hid hE
      clear hE
      go_wp2
      go_ret
      exact ⟨_, _, _, rfl, HE.out⟩
    · have hy1 : ((y : Int) == 0) = false := by simpa using y0
      have hy2 : y < 18446744073709551616 := hy
      obtain ⟨g, hg, hmk⟩ := make_into az nz cz Z (n1 + 1) w h0 (by omega) (by omega)
      obtain ⟨b1, o1, rfl, hl1⟩ := h1.num.form (by omega)
      have HM := Lib.hid hmk
      have hci : ((n1 + 1 : Nat) : Int) = (n1 : Int) + 1 := by omega
      rw [hci] at HM
      have HG := Lib.hid hg
      have HB1 := Lib.hid h1
      have HY := Lib.hid hy
      clear h0 h1 hy hmk hg hci
      go_enter Tryz.func230, Tryz.ntmps230
      go_wp2_with fail
      refine HM.out.mono ?_
      rintro e w1 ⟨c, cur, rfl, hK, hsz, hcn1, hcn2, hB1⟩
      have HD1 := Lib.hid (HB1.out.num.keep hB1)
      have hx1 : (n1 : Int) ≤ c := by omega
      have HBK := Lib.hid hK
      have HBD := Lib.hid hB1
      have HLT := Lib.hid (show N1 * y < W64 ^ (n1 + 1) from by
        rw [Nat.pow_succ]
        exact Nat.mul_lt_mul_of_lt_of_le HB1.out.num.lt (Nat.le_of_lt HY.out) W64_pos)
      have HCA := Lib.hid (show (N1 % W64 ^ n1 * y) / W64 ^ n1 = dg W64 (N1 * y) n1 from by
        rw [Nat.mod_eq_of_lt HB1.out.num.lt]
        have hu : dg W64 (N1 * y) n1 = N1 * y / W64 ^ n1 % W64 := rfl
        rw [hu]
        refine (Nat.mod_eq_of_lt (Nat.div_lt_of_lt_mul ?_)).symm
        rw [← Nat.pow_succ]; exact HLT.out)
      have hcm2 := hcn2
      unfold maxLen at hcm2
      clear hK hB1
      go_wp2_with fail
      refine (mulAddVWW0_any g 0 n1 c b1 o1 c1 cur N1 y _ HBK.out (by omega) (by omega) (by omega) hcn2 (HD1.out.wcells0 (Nat.le_refl _)) (by omega) (by unfold maxLen; omega) (.inr (Nat.zero_le _)) HY.out).mono ?_
      rintro e w2 ⟨rfl, hR2⟩
      rw [HCA.out]
      clear hx1
      have hroom := hR2.room (j := n1) (by omega)
      obtain ⟨⟨u0, p0⟩, f0⟩ := hroom
      obtain ⟨W3, hW3⟩ : ∃ W3, W3 = w2.setCell ⟨g, n1, none⟩ (.int .u64 (dg W64 (N1 * y) n1 : Nat)) := ⟨_, rfl⟩
      have HR3 := Lib.hid (hR2.step (by omega) rfl)
      have HW3 := Lib.hid hW3
      simp only [Nat.zero_add] at HR3
      rw [← hW3] at HR3
      have hEE := givesI_row HBD.out HG.out hsz HR3.out (by omega) hcn2 HLT.out
      have HCL := Lib.hid hEE.1
      have HEE := Lib.hid hEE.2
      clear hEE hR2 hW3
      go_wp2_with fail
      rw [← HW3.out]
      refine (norm_any (some ⟨g, 0, none⟩) (n1 + 1) c (dg W64 (N1 * y)) _ (by omega) (by omega) hcn2 (by simp) HCL.out).mono ?_
      rintro e w4 ⟨rfl, rfl⟩
      go_wp2
      go_ret
      exact HEE.out
def GivesQI (az : Option Addr) (Q R : Nat) (w : World) (e : Ending) (w' : World) : Prop :=
  ∃ a n c, e = .returned (.tuple #[.slice a n c, .int .u64 (R : Nat)]) ∧ BigN 155 w' a n c Q ∧ Upd (InB az) w w' ∧ ∀ k, InB a k → InB az k ∨ w.heap.size ≤ k
theorem divW_into (az : Option Addr) (nz cz Z : Nat) (a1 : Option Addr) (n1 c1 X y : Nat) (w : World) (h0 : BigN 155 w az nz cz Z) (h : BigN 155 w a1 n1 c1 X) (hb1 : n1 ≤ 900000) (hy0 : 0 < y) (hy : y < 18446744073709551616) (hd : y = 1 → 0 < n1 → ∀ k, InB a1 k → ¬ InB az k) :
    Calls Tryz.prog 202 #[.slice az nz cz, .slice a1 n1 c1, .int .u64 y] w (GivesQI az (X / y) (X % y) w) := by
  have hyz : ((y : Int) == 0) = false := by simp; omega
  have hm1 := h.num.cm
  have hc1 := h.num.nc
  have hczm := h0.num.cm
  have hncz := h0.num.nc
  unfold maxLen at hm1 hczm
  by_cases z0 : n1 = 0
  · subst z0
    have hX : X = 0 := by have := h.num.lt; simpa using this
    subst hX
    have HX := Lib.hid (show 0 / y = 0 ∧ 0 % y = 0 from ⟨Nat.zero_div _, Nat.zero_mod _⟩)
    rw [HX.out.1, HX.out.2]
    have HE := Lib.hid (show GivesQI az 0 0 w (.returned (.tuple #[.slice az 0 cz, .int .u64 0])) w from ⟨_, _, _, rfl, h0.empty, Upd.refl _ _, fun k hk => .inl hk⟩)
    have hgz : ∃ m, Calls Tryz.prog 143 #[.slice az nz cz, .slice a1 0 c1] w m ∧ ∀ e w', m e w' → e = .returned (.slice az 0 cz) ∧ w' = w := by
      refine ⟨_, natSet0_any az nz cz Z a1 c1 w h0, fun e w' hm => hm⟩
    obtain ⟨m, hm, hme⟩ := hgz
    have HM := Lib.hid hm
    have HME := Lib.hid hme
    by_cases y1 : y = 1
    · subst y1
      clear h hm hme
      clear h0
      go_enter Tryz.func202, Tryz.ntmps202
      go_wp2_with fail
      refine HM.out.mono ?_
      intro e w1 hme
      obtain ⟨rfl, rfl⟩ := HME.out e w1 hme
      clear hme
      go_wp2
      exact bodyPost_ret (v := .tuple #[.slice az 0 cz, .int .u64 0]) (by simp [results, Tryz.results202, go_sem]) rfl HE.out
    · have hy1 : ((y : Int) == 1) = false := by simp; omega
      rcases h0.buf with ⟨rfl, rfl⟩ | ⟨g, cur, rfl, _, _⟩
      · obtain rfl : nz = 0 := by omega
        clear h h0 hm hme
        go_enter Tryz.func202, Tryz.ntmps202
        go_wp2
        exact bodyPost_ret (v := .tuple #[.slice none 0 0, .int .u64 0]) (by simp [results, Tryz.results202, go_sem]) rfl HE.out
      · clear h h0 hm hme
        go_enter Tryz.func202, Tryz.ntmps202
        go_wp2
        exact bodyPost_ret (v := .tuple #[.slice (some ⟨g, 0, none⟩) 0 cz, .int .u64 0]) (by simp [results, Tryz.results202, go_sem]) rfl HE.out
  · have hz : ((n1 : Int) == 0) = false := by simpa using z0
    by_cases y1 : y = 1
    · subst y1
      have HS := Lib.hid (natSet_into az nz cz Z a1 n1 c1 X w h0 h.num (by omega) (by omega) (hd rfl (by omega)))
      have HX := Lib.hid (show X / 1 = X ∧ X % 1 = 0 from ⟨Nat.div_one _, Nat.mod_one _⟩)
      rw [HX.out.1, HX.out.2]
      clear h h0 hd
      go_enter Tryz.func202, Tryz.ntmps202
      go_wp2_with fail
      refine HS.out.mono ?_
      rintro e w1 ⟨a, n, c, rfl, hE⟩
      have HE := Lib.hid hE
      clear hE
      go_wp2
      exact bodyPost_ret (v := .tuple #[.slice a n c, .int .u64 0]) (by simp [results, Tryz.results202, go_sem]) rfl ⟨_, _, _, rfl, HE.out⟩
    · have hy1 : ((y : Int) == 1) = false := by simp; omega
      obtain ⟨b1, o1, rfl, hl1⟩ := h.num.form (by omega)
      obtain ⟨ho1, -⟩ := h.start
      subst ho1
      obtain ⟨g, hg, hmk⟩ := make_into az nz cz Z n1 w h0 (by omega) (by omega)
      have HM := Lib.hid hmk
      have HG := Lib.hid hg
      have HLT := Lib.hid (show X / y < W64 ^ n1 from Nat.lt_of_le_of_lt (Nat.div_le_self _ _) h.num.lt)
      have HXL := Lib.hid h.num.lt
      have HH := Lib.hid h
      have hrl : X % y < 18446744073709551616 := Nat.lt_trans (Nat.mod_lt _ hy0) hy
      clear h h0 hmk hg hd
      go_enter Tryz.func202, Tryz.ntmps202
      go_wp2_with fail
      refine HM.out.mono ?_
      rintro e w1 ⟨c, cur, rfl, hb, hsz, hcn1, hcn2, hbd⟩
      have HD1 := Lib.hid (HH.out.num.keep hbd)
      have HBD := Lib.hid hbd
      have hcm2 := hcn2
      unfold maxLen at hcm2
      have HC := Lib.hid (divWVW_any g 0 n1 c b1 0 c1 cur X y w1 hb (by omega) (by omega) (by omega) (by omega) hcn2 (fun i hi => HD1.out.cell (i := i) hi) hc1 (by unfold maxLen; omega) (.inr (Nat.le_refl _)) hy0 hy HXL.out)
      clear hb hbd
      go_wp2_with fail
      refine HC.out.mono ?_
      rintro e w2 ⟨rfl, hR⟩
      have hEE := givesI_row HBD.out HG.out hsz hR hcn1 hcn2 HLT.out
      have HCL := Lib.hid hEE.1
      have HEE := Lib.hid hEE.2
      clear hEE hR hsz
      generalize X % y = r at *
      go_wp2_with fail
      refine (norm_any (some ⟨g, 0, none⟩) n1 c (dg W64 (X / y)) _ (by omega) (by omega) hcn2 (by simp) HCL.out).mono ?_
      rintro e w4 ⟨rfl, rfl⟩
      go_wp2
      refine bodyPost_ret (v := .tuple #[.slice (some ⟨g, 0, none⟩) (tlen (dg W64 (X / y)) n1) c, .int .u64 (r : Nat)]) (by simp [results, Tryz.results202, go_sem]) rfl ?_
      obtain ⟨a', n', c', e, h1, h2, h3⟩ := HEE.out
      injection e with e
      injection e with e1 e2 e3
      subst e1 e2 e3
      exact ⟨_, _, _, rfl, h1, h2, h3⟩
end Go.Proofs.YtgmienggfaahlaaGreatDoor
