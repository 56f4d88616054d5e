/-
  The reference's shifts, plain.
  The reference's numbers: Shr, Shifted.
  The reference's fractions: Shifted.
-/
import Derived.Test.YtgcpjlniamebgaaGreatDoorBuB
import Derived.Test.YtgcpjlniamebgaaGreatDoorBuH
import Derived.Test.YtgcpjlniamebgaaGreatDoorBuA
set_option linter.unusedSimpArgs false
set_option linter.unusedVariables false
namespace Go.Bg
open Go.RowKit Dg
theorem shr_two (m r : Nat) (hr : r ≤ 16) : (m % 65536 + 65536 * (m / 65536 % 65536)) / 2 ^ r % 65536 = m / 2 ^ r % 65536 := by
  have h1 : m % (65536 * 65536) = m % 65536 + 65536 * (m / 65536 % 65536) := Nat.mod_mul
  rw [← h1]
  have hp : 0 < 2 ^ r := Nat.pow_pos (by decide)
  have e : m = 2 ^ r * (65536 * (2 ^ (16 - r) * (m / (65536 * 65536)))) + m % (65536 * 65536) := by
    have h2 := Nat.div_add_mod m (65536 * 65536)
    have h3 : 2 ^ r * 2 ^ (16 - r) = 65536 := by rw [← Nat.pow_add, show r + (16 - r) = 16 from by omega]
    generalize m / (65536 * 65536) = q at *
    have h4 : 2 ^ r * (65536 * (2 ^ (16 - r) * q)) = 65536 * 65536 * q := by
      rw [Nat.mul_left_comm, ← Nat.mul_assoc (2 ^ r), h3, Nat.mul_assoc]
    omega
  conv => rhs; rw [e]
  rw [Nat.mul_add_div hp, Nat.mul_add_mod]
theorem shr_split (N n : Nat) : N / 2 ^ n = N / 65536 ^ (n / 16) / 2 ^ (n % 16) := by
  rw [Nat.div_div_eq_div_mul, show (65536 : Nat) = 2 ^ 16 from rfl, ← Nat.pow_mul, ← Nat.pow_add, show 16 * (n / 16) + n % 16 = n from by omega]
theorem shr_dig (N n j : Nat) : (dg 65536 N (n / 16 + j) + 65536 * dg 65536 N (n / 16 + j + 1)) / 2 ^ (n % 16) % 65536 = dg 65536 (N / 2 ^ n) j := by
  have h := shr_two (N / 65536 ^ (n / 16 + j)) (n % 16) (by omega)
  have e : N / 2 ^ n / 65536 ^ j = N / 65536 ^ (n / 16 + j) / 2 ^ (n % 16) := by
    rw [shr_split N n, Nat.div_div_eq_div_mul, Nat.div_div_eq_div_mul, Nat.div_div_eq_div_mul, Nat.pow_add, Nat.mul_comm (2 ^ (n % 16)), Nat.mul_assoc]
  unfold dg
  rw [e, ← h, Nat.div_div_eq_div_mul, ← Nat.pow_succ]
theorem shr_fit {N n n1 : Nat} (h : N < 65536 ^ n1) : N / 2 ^ n < 65536 ^ (n1 - n / 16) := by
  rw [shr_split]
  refine Nat.lt_of_le_of_lt (Nat.div_le_self _ _) ?_
  by_cases hq : n / 16 ≤ n1
  · refine (Nat.div_lt_iff_lt_mul (Nat.pow_pos (by decide))).2 ?_
    rw [← Nat.pow_add, show n1 - n / 16 + n / 16 = n1 from by omega]; exact h
  · rw [Nat.div_eq_of_lt (Nat.lt_of_lt_of_le h (Nat.pow_le_pow_right (by decide) (by omega)))]
    exact Nat.pow_pos (by decide)
/-- a fraction that is whole, shifted -/
def Rt.shifted (r : Rt) (left : Bool) (k : Nat) : Rt := if left then Rt.whole r.neg (r.num * 2 ^ k) else if r.neg then Rt.whole true ((r.num - 1) / 2 ^ k + 1) else Rt.whole false (r.num / 2 ^ k)
/-- an integer, shifted -/
def shz (z : Int) (left : Bool) (k : Nat) : Int := if left then z * 2 ^ k else z / 2 ^ k
theorem shr_neg {z : Int} (h : z < 0) (k : Nat) : z / 2 ^ k = -((((z.natAbs - 1) / 2 ^ k + 1 : Nat)) : Int) := by
  obtain ⟨m, rfl⟩ : ∃ m : Nat, z = Int.negSucc m := ⟨z.natAbs - 1, by omega⟩
  have hp : (0 : Int) < 2 ^ k := Int.pow_pos (by decide)
  rw [Int.negSucc_ediv m hp]
  simp [Int.natAbs_negSucc]
  rfl
theorem shr_pos {z : Int} (h : 0 ≤ z) (k : Nat) : z / 2 ^ k = ((z.natAbs / 2 ^ k : Nat) : Int) := by
  obtain ⟨m, rfl⟩ : ∃ m : Nat, z = m := ⟨z.natAbs, by omega⟩
  simp
theorem shl_abs (z : Int) (k : Nat) : (z * 2 ^ k).natAbs = z.natAbs * 2 ^ k := by
  rw [Int.natAbs_mul, Int.natAbs_pow]; rfl
theorem shl_lt (z : Int) (k : Nat) : decide (z * 2 ^ k < 0) = decide (z < 0) := by
  have hp : (0 : Int) < 2 ^ k := Int.pow_pos (by decide)
  by_cases h : z < 0
  · simp [h, Int.mul_neg_of_neg_of_pos h hp]
  · have := Int.mul_nonneg (by omega : 0 ≤ z) (Int.le_of_lt hp)
    simp [h]; omega
theorem shifted_rz (z : Int) (left : Bool) (k : Nat) : (rz z).shifted left k = rz (shz z left k) := by
  cases left
  · by_cases h : z < 0
    · have e : (rz z).neg = true := by simp [rz, h]
      show (if (rz z).neg then Rt.whole true (((rz z).num - 1) / 2 ^ k + 1) else Rt.whole false ((rz z).num / 2 ^ k)) = rz (z / 2 ^ k)
      rw [if_pos e, ← whole_abs (z / 2 ^ k), shr_neg h]
      show Rt.whole true ((z.natAbs - 1) / 2 ^ k + 1) = _
      generalize (z.natAbs - 1) / 2 ^ k = q
      rw [decide_eq_true (by omega), show (-((q + 1 : Nat) : Int)).natAbs = q + 1 from by omega]
    · have e : ¬ (rz z).neg = true := by simp [rz]; omega
      show (if (rz z).neg then Rt.whole true (((rz z).num - 1) / 2 ^ k + 1) else Rt.whole false ((rz z).num / 2 ^ k)) = rz (z / 2 ^ k)
      rw [if_neg e, ← whole_abs (z / 2 ^ k), shr_pos (by omega)]
      show Rt.whole false (z.natAbs / 2 ^ k) = _
      generalize z.natAbs / 2 ^ k = q
      rw [decide_eq_false (by omega), show ((q : Nat) : Int).natAbs = q from by omega]
  · show Rt.whole (decide (z < 0)) (z.natAbs * 2 ^ k) = rz (z * 2 ^ k)
    rw [← whole_abs (z * 2 ^ k), shl_lt, shl_abs]
theorem shz_fit {z : Int} {L B : Nat} (h : z.natAbs < 2 ^ (64 * L)) (left : Bool) {k : Nat} (hk : k ≤ 64 * B) : (shz z left k).natAbs < 2 ^ (64 * (L + B)) := by
  have h0 : (2 : Nat) ^ (64 * L) ≤ 2 ^ (64 * (L + B)) := Nat.pow_le_pow_right (by decide) (by omega)
  unfold shz
  cases left
  · rw [if_neg (by simp)]
    refine Nat.lt_of_lt_of_le ?_ h0
    by_cases hz : z < 0
    · rw [shr_neg hz]
      have := Nat.div_le_self (z.natAbs - 1) (2 ^ k)
      generalize (z.natAbs - 1) / 2 ^ k = q at *
      omega
    · rw [shr_pos (by omega)]
      have := Nat.div_le_self z.natAbs (2 ^ k)
      generalize z.natAbs / 2 ^ k = q at *
      omega
  · rw [if_pos rfl, shl_abs]
    have h1 : (2 : Nat) ^ k ≤ 2 ^ (64 * B) := Nat.pow_le_pow_right (by decide) hk
    rw [Nat.mul_add, Nat.pow_add]
    exact Nat.lt_of_lt_of_le (Nat.mul_lt_mul_of_pos_right h (Nat.pow_pos (by decide))) (Nat.mul_le_mul_left _ h1)
end Go.Bg

set_option linter.unusedSimpArgs false
set_option linter.unusedVariables false
namespace Go.Proofs.YtgcpjlniamebgaaGreatDoor
open Go.RowKit Go.Bg Dg

theorem shr_cast (x y r : Nat) : (((x : Int) + 65536 * y) / 2 ^ r).tmod 65536 = (((x + 65536 * y) / 2 ^ r % 65536 : Nat) : Int) := by
  have h : 0 ≤ ((x : Int) + 65536 * y) / 2 ^ r := Int.ediv_nonneg (by omega) (Int.le_of_lt (Int.pow_pos (by decide)))
  rw [Int.tmod_eq_emod_of_nonneg h]
  simp
theorem shr_cast0 (x r : Nat) : ((x : Int) / 2 ^ r).tmod 65536 = (((x + 65536 * 0) / 2 ^ r % 65536 : Nat) : Int) := by
  have h := shr_cast x 0 r
  simpa using h

set_option maxRecDepth 100000 in
set_option maxHeartbeats 2000000 in
theorem shr_any (a1 : Option Addr) (n1 c1 N n : Nat) (w : World) (h1 : NatAt w a1 n1 c1 N) (hb1 : n1 ≤ 1000000) (hn : n ≤ 10000000) :
    Calls Tryz.prog 55 #[.slice a1 n1 c1, .int .i64 n] w (Gives .i64 65536 (N / 2 ^ n) w) := by
  obtain ⟨i0, hi, hz0, hz1, hz2⟩ := info_parts infoInt
  have HF := Lib.hid (shr_fit (n := n) h1.lt)
  obtain ⟨q, hq⟩ : ∃ q, q = n / 16 := ⟨_, rfl⟩
  have HQ := Lib.hid hq
  have hq2 : q ≤ 10000000 := by omega
  have hp1 : (1 : Int) ≤ 2 ^ (n % 16) := by have : 0 < (2 : Nat) ^ (n % 16) := Nat.pow_pos (by decide); exact_mod_cast this
  have hqi : (n : Int) / 16 = q := by omega
  clear hq
  go_enter Tryz.func55, Tryz.ntmps55
  go_wp2
  go_loopw [5, 6, 7] (fun out i _ wr => ∃ j : Nat, i = .int .i64 j ∧ q ≤ j ∧ (j = q ∨ j ≤ n1) ∧
      wr.ownsRow w.heap.size 3 1 out (j - q) ((List.range (j - q)).map (dig (N / 2 ^ n))) ∧ out ≠ .slice none 0 0 ∧ Below w.heap.size w wr)
    (fun _ i _ _ => n1 - (intOf i).toNat)
  case atStart => exact ⟨q, rfl, Nat.le_refl _, .inl rfl, by rw [Nat.sub_self]; exact World.ownsRow_made w #[] 0 (Nat.le_refl _) (by simp [maxLen]) rfl, by simp, (Below.refl _ _).alloc (Nat.le_refl _) _⟩
  case round =>
    obtain ⟨j, rfl, hqj, hk, hown, hne, hbel⟩ := hrel
    have h1' := h1.keep hbel
    have hl1 := h1.lt
    clear h1
    by_cases k1 : j < n1
    · obtain ⟨b1, o1, rfl, _⟩ := h1'.form (by omega)
      have e1 := h1'.cell (i := j) k1
      have d1 : dg 65536 N j < 65536 := dg_lt (by decide) _ _
      have d2 : dg 65536 N (j + 1) < 65536 := dg_lt (by decide) _ _
      have hst := shr_dig N n (j - q)
      rw [← HQ.out, show q + (j - q) = j from by omega] at hst
      have z2 : ¬ j + 1 < n1 → dg 65536 N (j + 1) = 0 := fun h => dg_of_lt (Nat.lt_of_lt_of_le hl1 (Nat.pow_le_pow_right (by decide) (by omega)))
      by_cases k2 : j + 1 < n1
      · have e2 := h1'.cell (i := j + 1) k2
        have HS := Lib.hid hst
        clear hst z2 h1' hl1
        generalize dg 65536 N j = x at *
        generalize dg 65536 N (j + 1) = y at *
        have hm1 : j + 1 - q = j - q + 1 := by omega
        have hmb : j - q ≤ n1 := by omega
        have HM := Lib.hid hm1
        clear hm1
        generalize hm : j - q = m at *
        go_upto_region 8 with fail
        go_wp2_with (at_builtin; refine wpList_app1 rfl _ _ 29 rfl w.heap.size 3 i0 _ 8 Tryz.underlying29 hi hz0 hz1 hz2 rfl (by decide) _ _ _ _ rfl rfl rfl hown rfl (by omega) (hbel).size ?_; intro v' w1 hown1 hbel1 hne1)
        rw [shr_cast, HS.out] at hown1
        have hown2 : w1.ownsRow w.heap.size 3 1 v' (j + 1 - q) ((List.range (j + 1 - q)).map (dig (N / 2 ^ n))) := by
          rw [HM.out, map_range_succ, dig]; exact hown1
        go_roundw
        case rel => exact ⟨j + 1, by go_num, by omega, .inr (by omega), hown2, hne1, hbel.trans hbel1⟩
        case measure => simp [intOf]; omega
      · have e0 := z2 k2
        rw [e0] at hst
        have HS := Lib.hid hst
        clear hst z2 h1' hl1 e0 d2
        generalize dg 65536 N j = x at *
        have hm1 : j + 1 - q = j - q + 1 := by omega
        have hmb : j - q ≤ n1 := by omega
        have HM := Lib.hid hm1
        clear hm1
        generalize hm : j - q = m at *
        go_upto_region 8 with fail
        go_wp2_with (at_builtin; refine wpList_app1 rfl _ _ 29 rfl w.heap.size 3 i0 _ 8 Tryz.underlying29 hi hz0 hz1 hz2 rfl (by decide) _ _ _ _ rfl rfl rfl hown rfl (by omega) (hbel).size ?_; intro v' w1 hown1 hbel1 hne1)
        rw [shr_cast0, HS.out] at hown1
        have hown2 : w1.ownsRow w.heap.size 3 1 v' (j + 1 - q) ((List.range (j + 1 - q)).map (dig (N / 2 ^ n))) := by
          rw [HM.out, map_range_succ, dig]; exact hown1
        go_roundw
        case rel => exact ⟨j + 1, by go_num, by omega, .inr (by omega), hown2, hne1, hbel.trans hbel1⟩
        case measure => simp [intOf]; omega
    · have hk' : j - q = n1 - q := by omega
      have HL := Lib.hid (show N / 2 ^ n < 65536 ^ (j - q) from by rw [hk', HQ.out]; exact HF.out)
      have hmb : j - q ≤ n1 := by omega
      clear hl1 h1' hk'
      generalize j - q = m at *
      obtain ⟨g, cap, rfl, hg, hgs, hnc, hcm, hcell⟩ := own_form hown hne
      have HC := Lib.hid (row_cells hcell)
      clear hcell hown
      go_wp2_with (go_at_call 121; refine (trim_any _ _ _ (dg 65536 (N / 2 ^ n)) _ (by omega) hnc (fun _ => ⟨g, 0, rfl, fun i hi => by rw [Nat.zero_add]; exact HC.out i hi⟩)).mono ?_; rintro e w2 ⟨rfl, rfl⟩)
      go_ret
      exact ⟨_, _, _, rfl, natAt_of_row HL.out hnc hcm HC.out, hbel⟩
end Go.Proofs.YtgcpjlniamebgaaGreatDoor

set_option linter.unusedSimpArgs false
set_option linter.unusedVariables false
namespace Go.Bg
theorem shl_fit16 {N L k : Nat} (h : N < 65536 ^ L) : N * 2 ^ k < 65536 ^ (L + k / 16 + 1) := by
  have h1 : (2 : Nat) ^ k ≤ 65536 ^ (k / 16 + 1) := by
    rw [show (65536 : Nat) = 2 ^ 16 from rfl, ← Nat.pow_mul]
    exact Nat.pow_le_pow_right (by decide) (by omega)
  rw [Nat.add_assoc, Nat.pow_add]
  exact Nat.lt_of_lt_of_le (Nat.mul_lt_mul_of_pos_right h (Nat.pow_pos (by decide))) (Nat.mul_le_mul_left _ h1)
theorem shr_fit16 {N L k : Nat} (h : N < 65536 ^ L) (m : Nat) : N / 2 ^ k < 65536 ^ (L + m) :=
  Nat.lt_of_le_of_lt (Nat.div_le_self _ _) (Nat.lt_of_lt_of_le h (Nat.pow_le_pow_right (by decide) (by omega)))
end Go.Bg
namespace Go.Proofs.YtgcpjlniamebgaaGreatDoor
open Go.RowKit Go.Bg Dg

theorem small_one' (w : World) : Calls Tryz.prog 56 #[.int .i64 1] w (Gives .i64 65536 1 w) := small_any 1 w (by omega)

set_option maxRecDepth 100000 in
set_option maxHeartbeats 2000000 in
theorem shifted_any (s : Bool) (a : Option Addr) (n c : Nat) (a' : Option Addr) (n' c' L k : Nat) (left : Bool) (x : Rt) (w : World) (hx : RtAt w s a n c a' n' c' x L) (hpos : s = true → 0 < x.num) (hk : k ≤ 100000) (hL : L ≤ 4000) :
    Calls Tryz.prog 20 #[.agg #[.bool s, .slice a n c, .slice a' n' c'], .bool left, .int .i64 k] w (GivesR (x.shifted left k) (L + k / 16 + 1) w) := by
  have hn := hx.n_le
  have hs := hx.neg
  obtain ⟨W0, hW0⟩ : ∃ W0, W0 = (w.alloc (.cells #[.bool s, .slice a n c, .slice a' n' c'] 31)).alloc (.cells #[.bool false, .slice none 0 0, .slice none 0 0] 31) := ⟨_, rfl⟩
  have HW := Lib.hid hW0
  have hb0 : Below w.heap.size w W0 := by rw [hW0]; exact Below.alloc' (Below.alloc' (Below.refl _ _) _) _
  have R : ResBlk W0 (w.heap.size + 1) := by rw [hW0]; exact ResBlk.new _ _ (by simp)
  have X : RtBlk W0 w.heap.size s a n c a' n' c' := by rw [hW0]; exact (RtBlk.new _ _ rfl _ _ _ _ _ _ _).keep ((Below.refl _ _).alloc (Nat.le_refl _) _)
  have XN := Lib.hid (show ∀ W', Below W0.heap.size W0 W' → NatAt W' a n c x.num from fun W' hb => (hx.num.keep hb0).keep hb)
  have HL1 := Lib.hid (shl_fit16 (k := k) hx.numL)
  have HL2 := Lib.hid (shr_fit16 (k := k) hx.numL (k / 16 + 1))
  have HL3 := Lib.hid (show (x.num - 1) / 2 ^ k + 1 < 65536 ^ (L + k / 16 + 1) from by
    have h1 := shr_fit16 (k := k) (N := x.num - 1) (L := L) (by have := hx.numL; omega) (k / 16)
    have h2 : 0 < 65536 ^ (L + k / 16) := Nat.pow_pos (by decide)
    generalize (x.num - 1) / 2 ^ k = q at *
    rw [Nat.pow_succ]; omega)
  have HXL := Lib.hid hx.numL
  clear hW0 hx
  have hd0 : Below W0.heap.size W0 W0.drew := (Below.refl _ _).drew
  cases left
  · cases s
    · have HRES := Lib.hid (show x.shifted false k = Rt.whole false (x.num / 2 ^ k) from by unfold Rt.shifted; rw [← hs]; rfl)
      clear hs hpos
      go_enter Tryz.func20, Tryz.ntmps20
      go_upto_region 1 with fail
      rw [← HW.out]
      obtain ⟨x0, x1, x2⟩ := X.all
      go_wp2_with fail
      refine (shr_any a n c x.num k _ (XN.out _ (Below.refl _ _)) (by omega) (by omega)).mono ?_
      rintro e w1 ⟨aM, nM, cM, rfl, hM, hB1⟩
      clear x0 x1 x2
      go_wp2_with fail
      refine (whole_any false aM nM cM (x.num / 2 ^ k) (L + k / 16 + 1) _ hM HL2.out (by omega) (by omega)).mono ?_
      rintro e w5 ⟨sR, aR, nR, cR, aE, nE, cE, rfl, hR, hB5⟩
      have hb5 := Below.then hB1 (Nat.le_refl _) hB5
      have R5 := R.below R.lt hb5
      obtain ⟨⟨u0, r0⟩, ⟨u1, r1⟩, ⟨u2, r2⟩⟩ := (R5).cells; have f0 := (R5).frozen 0; have f1 := (R5).frozen 1; have f2 := (R5).frozen 2
      have hbf := Below.then hb0 (Nat.le_refl _) hb5
      go_wp2
      exact bodyPost_ret (v := .agg #[.bool sR, .slice aR nR cR, .slice aE nE cE]) (by simp [results, Tryz.results20, go_sem, r0, r1, r2]) rfl (givesR_end R5 (by omega) hbf (by rw [HRES.out]; exact hR))
    · have HRES := Lib.hid (show x.shifted false k = Rt.whole true ((x.num - 1) / 2 ^ k + 1) from by unfold Rt.shifted; rw [← hs]; rfl)
      have HP := Lib.hid (show 1 ≤ x.num from hpos rfl)
      have HX1 := Lib.hid (show x.num - 1 < 65536 ^ L from by have := HXL.out; omega)
      have HX2 := Lib.hid (show (x.num - 1) / 2 ^ k < 65536 ^ L from Nat.lt_of_le_of_lt (Nat.div_le_self _ _) HX1.out)
      clear hs hpos
      go_enter Tryz.func20, Tryz.ntmps20
      go_upto_region 1 with fail
      rw [← HW.out]
      obtain ⟨x0, x1, x2⟩ := X.all
      go_upto_region 4 with fail
      go_region_held3 (fun w' => w'.cell? ⟨w.heap.size, 0, none⟩ = some (.bool true) ∧ w'.cell? ⟨w.heap.size, 1, none⟩ = some (.slice a n c) ∧ w'.cell? ⟨w.heap.size, 2, none⟩ = some (.slice a' n' c'))
        (first | with_reducible exact X.all | with_reducible exact (X.keep (by assumption)).all | (refine ⟨?_, ?_, ?_⟩ <;> (rw [cell?_setCell_ne (by omega), cell?_setCell_ne (by omega), cell?_setCell_ne (by omega)]) <;> first | exact cell_keep X.c0 (by assumption) | exact cell_keep X.c1 (by assumption) | exact cell_keep X.c2 (by assumption)))
        (first | (go_at_call 56; (with_reducible refine (small_one' _).mono ?_); rintro e w1 ⟨aO, nO, cO, rfl, hO, hB1⟩; have hb1 := Below.then hd0 (Nat.le_refl _) hB1; have hnO := hO.len16 (m := 1) (by decide)) | (go_at_call 50; (with_reducible refine (sub_any a aO n nO c cO x.num 1 _ (XN.out _ (by assumption)) hO (by omega) (by omega) HP.out).mono ?_); rintro e w2 ⟨aS, nS, cS, rfl, hS, hB2⟩; have hb2 := Below.then hb1 (Nat.le_refl _) hB2; have hnS := hS.len16 HX1.out) | (go_at_call 55; (with_reducible refine (shr_any aS nS cS (x.num - 1) k _ hS (by omega) (by omega)).mono ?_); rintro e w3 ⟨aM, nM, cM, rfl, hM, hB3⟩; have hb3 := Below.then hb2 (Nat.le_refl _) hB3; have hnM := hM.len16 HX2.out) | (go_at_call 56; (with_reducible refine (small_one' _).mono ?_); rintro e w4 ⟨aT, nT, cT, rfl, hT, hB4⟩; have hb4 := Below.then hb3 (Nat.le_refl _) hB4; have hnT := hT.len16 (m := 1) (by decide)) | (go_at_call 48; (with_reducible refine (add_any aM aT nM nT cM cT ((x.num - 1) / 2 ^ k) 1 _ (hM.keep hB4) hT (by omega) (by omega)).mono ?_); rintro e w6 ⟨aU, nU, cU, rfl, hU, hB6⟩; have hb6 := Below.then hb4 (Nat.le_refl _) hB6) | (go_at_call 53; (with_reducible refine (whole_any true aU nU cU ((x.num - 1) / 2 ^ k + 1) (L + k / 16 + 1) _ hU HL3.out (by omega) (by omega)).mono ?_); rintro e w5 ⟨sR, aR, nR, cR, aE, nE, cE, rfl, hR, hB5⟩; have hb5 := Below.then hb6 (Nat.le_refl _) hB5; have R5 := R.below R.lt hb5; obtain ⟨⟨u0, r0⟩, ⟨u1, r1⟩, ⟨u2, r2⟩⟩ := (R5).cells; have f0 := (R5).frozen 0; have f1 := (R5).frozen 1; have f2 := (R5).frozen 2))
      have hbf := Below.then hb0 (Nat.le_refl _) hb5
      go_wp2
      exact bodyPost_ret (v := .agg #[.bool sR, .slice aR nR cR, .slice aE nE cE]) (by simp [results, Tryz.results20, go_sem, r0, r1, r2]) rfl (givesR_end R5 (by omega) hbf (by rw [HRES.out]; exact hR))
  · have HRES := Lib.hid (show x.shifted true k = Rt.whole s (x.num * 2 ^ k) from by unfold Rt.shifted; rw [← hs]; rfl)
    clear hs hpos
    go_enter Tryz.func20, Tryz.ntmps20
    go_upto_region 1 with fail
    rw [← HW.out]
    obtain ⟨x0, x1, x2⟩ := X.all
    go_upto_region 2 with fail
    go_region_held3 (fun w' => w'.cell? ⟨w.heap.size, 0, none⟩ = some (.bool s) ∧ w'.cell? ⟨w.heap.size, 1, none⟩ = some (.slice a n c) ∧ w'.cell? ⟨w.heap.size, 2, none⟩ = some (.slice a' n' c'))
      (first | with_reducible exact X.all | with_reducible exact (X.keep (by assumption)).all | (refine ⟨?_, ?_, ?_⟩ <;> (rw [cell?_setCell_ne (by omega), cell?_setCell_ne (by omega), cell?_setCell_ne (by omega)]) <;> first | exact cell_keep X.c0 (by assumption) | exact cell_keep X.c1 (by assumption) | exact cell_keep X.c2 (by assumption)))
      (first | (go_at_call 54; (with_reducible refine (shl_any a n c x.num k _ (XN.out _ (by assumption)) (by omega) (by omega)).mono ?_); rintro e w1 ⟨aM, nM, cM, rfl, hM, hB1⟩; have hb1 := Below.then hd0 (Nat.le_refl _) hB1) | (go_at_call 53; (with_reducible refine (whole_any s aM nM cM (x.num * 2 ^ k) (L + k / 16 + 1) _ hM HL1.out (by omega) (by omega)).mono ?_); rintro e w5 ⟨sR, aR, nR, cR, aE, nE, cE, rfl, hR, hB5⟩; have hb5 := Below.then hb1 (Nat.le_refl _) hB5; have R5 := R.below R.lt hb5; obtain ⟨⟨u0, r0⟩, ⟨u1, r1⟩, ⟨u2, r2⟩⟩ := (R5).cells; have f0 := (R5).frozen 0; have f1 := (R5).frozen 1; have f2 := (R5).frozen 2))
    have hbf := Below.then hb0 (Nat.le_refl _) hb5
    go_wp2
    exact bodyPost_ret (v := .agg #[.bool sR, .slice aR nR cR, .slice aE nE cE]) (by simp [results, Tryz.results20, go_sem, r0, r1, r2]) rfl (givesR_end R5 (by omega) hbf (by rw [HRES.out]; exact hR))
end Go.Proofs.YtgcpjlniamebgaaGreatDoor
