/-
  Contracts and lemmas: Spec8 Rt Spec9.
-/
import Derived.Test.YtececkbcinmmpaaGreatDoorM02
import Derived.Test.YtececkbcinmmpaaGreatDoorM00
import Derived.Deep.RegionHeld3
set_option linter.unusedSimpArgs false
set_option linter.unusedVariables false
set_option maxRecDepth 100000
set_option maxHeartbeats 8000000
namespace Go.Proofs.YtececkbcinmmpaaGreatDoor
open Go.RowKit Go.Bg Dg
def wd (X j : Nat) : Value := .int .u64 (dg W64 X j : Nat)
theorem words_step (N k : Nat) :
    (∀ j, j < k / 4 → dg W64 (N % 65536 ^ (k + 1)) j = dg W64 (N % 65536 ^ k) j) ∧
    dg W64 (N % 65536 ^ (k + 1)) (k / 4) = dg W64 (N % 65536 ^ k) (k / 4) + dg 65536 N k * 65536 ^ (k % 4) ∧
    dg W64 (N % 65536 ^ k) (k / 4) < 65536 ^ (k % 4) := by
  have hk : k = 4 * (k / 4) + k % 4 := by omega
  have hp : 65536 ^ k = W64 ^ (k / 4) * 65536 ^ (k % 4) := by
    conv => lhs; rw [hk]
    rw [Nat.pow_add, Nat.pow_mul, ← W64_16]
  have hM : N % 65536 ^ k < 65536 ^ k := Nat.mod_lt _ (Nat.pow_pos (by decide))
  have hd : dg 65536 N k < 65536 := dg_lt (by decide) _ _
  have hs := mod_succ 65536 N k
  rw [hs, hp]
  rw [hp] at hM
  have hwp : 0 < W64 ^ (k / 4) := Nat.pow_pos W64_pos
  have hq : N % (W64 ^ (k / 4) * 65536 ^ (k % 4)) / W64 ^ (k / 4) < 65536 ^ (k % 4) := (Nat.div_lt_iff_lt_mul hwp).2 (by rw [Nat.mul_comm (65536 ^ (k % 4))]; exact hM)
  have hW : 65536 ^ (k % 4) * 65536 ≤ W64 := by
    rw [← Nat.pow_succ, W64_16]; exact Nat.pow_le_pow_right (by decide) (by omega)
  have hlt1 : N % (W64 ^ (k / 4) * 65536 ^ (k % 4)) / W64 ^ (k / 4) < W64 := Nat.lt_of_lt_of_le hq (Nat.le_trans (Nat.le_mul_of_pos_right _ (by decide)) hW)
  have e1 : dg W64 (N % (W64 ^ (k / 4) * 65536 ^ (k % 4))) (k / 4) = N % (W64 ^ (k / 4) * 65536 ^ (k % 4)) / W64 ^ (k / 4) := Nat.mod_eq_of_lt hlt1
  refine ⟨fun j hj => ?_, ?_, by rw [e1]; exact hq⟩
  · rw [Nat.mul_assoc, ← dg_mod (n := k / 4) _ hj, Nat.add_mul_mod_self_left, dg_mod _ hj]
  · rw [e1, dg, Nat.mul_assoc, Nat.add_mul_div_left _ _ hwp, Nat.mul_comm (65536 ^ (k % 4)), Nat.mod_eq_of_lt]
    have : (dg 65536 N k + 1) * 65536 ^ (k % 4) ≤ 65536 * 65536 ^ (k % 4) := Nat.mul_le_mul_right _ hd
    rw [Nat.add_mul, Nat.one_mul, Nat.mul_comm 65536] at this
    omega
theorem set_words (N k : Nat) (u : Value) (xs : List Value) (h : ∀ j, j < k / 4 → xs[j]? = some (wd (N % 65536 ^ k) j)) (hl : xs.length = k / 4 + 1)
    (hu : u = .int .u64 (dg W64 (N % 65536 ^ k) (k / 4) + dg 65536 N k * 65536 ^ (k % 4) : Nat)) :
    xs.set (k / 4) u = (List.range (k / 4 + 1)).map (wd (N % 65536 ^ (k + 1))) := by
  have hst := words_step N k
  apply List.ext_getElem?
  intro j
  by_cases hj : j = k / 4
  · subst hj
    rw [List.getElem?_set_self (by omega)]
    simp only [List.getElem?_map, List.getElem?_range (Nat.lt_succ_self _), Option.map_some]
    rw [hu, ← hst.2.1]; rfl
  · rw [List.getElem?_set_ne (fun h => hj h.symm)]
    by_cases hj2 : j < k / 4
    · rw [h j hj2]
      simp only [List.getElem?_map, List.getElem?_range (show j < k / 4 + 1 by omega), Option.map_some]
      rw [wd, wd, hst.1 j hj2]
    · rw [List.getElem?_eq_none (by omega), List.getElem?_eq_none (by simp; omega)]
theorem or_zero_u64 (x : Nat) (hx : x < 65536) : bits BinOp.or IntKind.u64 0 (x : Int) = x := by
  rw [show (0 : Int) = ((0 : Nat) : Int) from rfl, u64_or_nat _ _ (by decide) (by omega)]; simp
theorem or_join_u64 (y x r : Nat) (hx : x < 65536) (hr : r < 4) (hy : y < 65536 ^ r) :
    bits BinOp.or IntKind.u64 (y : Int) (IntKind.u64.wrap ((x : Int) * 2 ^ (16 * r))) = ((y + x * 65536 ^ r : Nat) : Int) := by
  have e : ((x : Int) * 2 ^ (16 * r)) = ((x * 65536 ^ r : Nat) : Int) := by
    rw [show (65536 : Nat) = 2 ^ 16 from rfl, ← Nat.pow_mul]; simp
  have hb : 65536 ^ r * 65536 ≤ 18446744073709551616 := by
    rw [← Nat.pow_succ]
    have : (65536 : Nat) ^ (r + 1) ≤ 65536 ^ 4 := Nat.pow_le_pow_right (by decide) (by omega)
    exact this
  have hxr : x * 65536 ^ r < 18446744073709551616 := by
    have : (x + 1) * 65536 ^ r ≤ 65536 * 65536 ^ r := Nat.mul_le_mul_right _ hx
    rw [Nat.add_mul, Nat.one_mul, Nat.mul_comm 65536] at this
    have : 0 < 65536 ^ r := Nat.pow_pos (by decide)
    omega
  have hy' : y < 18446744073709551616 := by omega
  rw [e, IntKind.wrap_u64, show (((x * 65536 ^ r : Nat) : Int) % 18446744073709551616) = ((x * 65536 ^ r : Nat) : Int) from by omega, u64_or_nat _ _ hy' hxr, Nat.or_comm,
    nat_join (16 * r) _ _ (by rw [show (65536 : Nat) = 2 ^ 16 from rfl, ← Nat.pow_mul, Nat.mul_mod_left]) (by rw [Nat.pow_mul]; exact hy), Nat.add_comm]
theorem words_any (a1 : Option Addr) (n1 c1 N : Nat) (w : World) (h1 : NatAt w a1 n1 c1 N) (hb1 : n1 ≤ 1000000) :
    Calls Tryz.prog 191 #[.slice a1 n1 c1] w fun e w' => ∃ g cap, e = .returned (.slice (some ⟨g, 0, none⟩) ((n1 + 3) / 4) cap) ∧ (∀ j, j < (n1 + 3) / 4 → w'.cell? ⟨g, j, none⟩ = some (wd N j)) ∧ g < w'.heap.size ∧ Below w.heap.size w w' := by
  obtain ⟨i0, hi, hz0, hz1, hz2⟩ := info_parts infoUint
  go_enter Tryz.func191, Tryz.ntmps191
  go_wp2
  go_loopw [3, 4, 5, 9] (fun out _ _ i wr => ∃ k : Nat, k ≤ n1 ∧ i = .int .i64 k ∧ wr.ownsRow w.heap.size 53 1 out ((k + 3) / 4) ((List.range ((k + 3) / 4)).map (wd (N % 65536 ^ k))) ∧ out ≠ .slice none 0 0 ∧ Below w.heap.size w wr)
    (fun _ _ _ i _ => n1 - (intOf i).toNat)
  case atStart => exact ⟨0, Nat.zero_le _, rfl, World.ownsRow_made w #[] 0 (Nat.le_refl _) (by simp [maxLen]) rfl, by simp, (Below.refl _ _).alloc (Nat.le_refl _) _⟩
  case round =>
    obtain ⟨k, hk, rfl, hown, hne, hbel⟩ := hrel
    by_cases k1 : k < n1
    · have h1' := h1.keep hbel
      obtain ⟨b1, o1, rfl, _⟩ := h1'.form (by omega)
      have e1 := h1'.cell k1
      have d1 : dg 65536 N k < 65536 := dg_lt (by decide) _ _
      have hst := words_step N k
      have hdg : dg W64 (N % 65536 ^ k) (k / 4) < 18446744073709551616 := W64_lt (dg_lt W64_pos _ _)
      clear h1'
      by_cases hr : k % 4 = 0
      · have hr0 : (((k : Int) % 4) == 0) = true := by simp; omega
        have hm : (k + 3) / 4 = k / 4 := by omega
        rw [hm] at hown
        have hz : dg W64 (N % 65536 ^ k) (k / 4) = 0 := by have := hst.2.2; rw [hr] at this; simpa using this
        have fin : ∀ (u : Value) (xs : List Value), (∀ j, j < k / 4 → xs[j]? = some (wd (N % 65536 ^ k) j)) → xs.length = k / 4 + 1 → u = .int .u64 (dg 65536 N k : Nat) →
            xs.set (k / 4) u = (List.range ((k + 1 + 3) / 4)).map (wd (N % 65536 ^ (k + 1))) := by
          intro u xs h hl hu
          rw [show (k + 1 + 3) / 4 = k / 4 + 1 from by omega]
          exact set_words N k u xs h hl (by rw [hu, hz, hr]; simp)
        have hor := or_zero_u64 (dg 65536 N k) d1
        have HF := Lib.hid fin
        have HO := Lib.hid hor
        clear hst hm hz hdg fin hor
        generalize dg 65536 N k = x at *
        go_wp2_with (at_builtin; refine wpList_app1 rfl _ _ 22 rfl w.heap.size 53 i0 _ 8 Tryz.underlying22 hi hz0 hz1 hz2 rfl (by decide) _ _ _ _ rfl rfl rfl hown rfl (by omega) hbel.size ?_; intro v' w1 hown1 hbel1 hne1)
        obtain ⟨g, cap, rfl, hg, hgs, hnc, hcm, hcell⟩ := own_form hown1 hne1
        have c0 : w1.cell? ⟨g, k / 4, none⟩ = some (.int .u64 0) := by rw [hcell _ (Nat.lt_succ_self _)]; simp
        have f0 := hown1.frozenAt (k / 4)
        clear hcell
        go_wp2
        have hkb : (k : Int) / 4 < (k / 4 + 1 : Nat) := by omega
        go_region
        go_wp2
        have hs := (hown1.stored (k / 4) (.int .u64 (bits BinOp.or IntKind.u64 0 (x : Int)))).1
        rw [HF.out _ _ (fun j hj => by rw [List.getElem?_append_left (by simpa using hj)]; simp [hj]) (by simp) (by rw [HO.out])] at hs
        go_roundw
        case rel => exact ⟨k + 1, by omega, by go_num, by rw [show (k + 1 + 3) / 4 = k / 4 + 1 from by omega] at hs ⊢; exact hs.kept ⟨rfl, rfl, rfl, Nat.le_refl _, fun _ _ _ => rfl⟩ (row := none) (by simp [Value.ownBlock]), by simp, ((hbel.trans hbel1).setCell (by simpa using hg) _).drew⟩
        case measure => simp [intOf]; omega
      · have hr0 : (((k : Int) % 4) == 0) = false := by simp; omega
        have hm : (k + 3) / 4 = k / 4 + 1 := by omega
        rw [hm] at hown
        have fin : ∀ (u : Value) (xs : List Value), (∀ j, j < k / 4 → xs[j]? = some (wd (N % 65536 ^ k) j)) → xs.length = k / 4 + 1 → u = .int .u64 (dg W64 (N % 65536 ^ k) (k / 4) + dg 65536 N k * 65536 ^ (k % 4) : Nat) →
            xs.set (k / 4) u = (List.range ((k + 1 + 3) / 4)).map (wd (N % 65536 ^ (k + 1))) := by
          intro u xs h hl hu
          rw [show (k + 1 + 3) / 4 = k / 4 + 1 from by omega]
          exact set_words N k u xs h hl hu
        have hor := or_join_u64 (dg W64 (N % 65536 ^ k) (k / 4)) (dg 65536 N k) (k % 4) d1 (by omega) hst.2.2
        have HF := Lib.hid fin
        have HO := Lib.hid hor
        obtain ⟨g, cap, rfl, hg, hgs, hnc, hcm, hcell⟩ := own_form hown hne
        have c0 : wr.cell? ⟨g, k / 4, none⟩ = some (.int .u64 (dg W64 (N % 65536 ^ k) (k / 4) : Nat)) := by rw [hcell _ (Nat.lt_succ_self _)]; simp [wd]
        have f0 := hown.frozenAt (k / 4)
        clear hst hm fin hor hcell
        generalize dg 65536 N k = x at *
        generalize dg W64 (N % 65536 ^ k) (k / 4) = y at *
        go_wp2
        have hkb : (k : Int) / 4 < (k / 4 + 1 : Nat) := by omega
        go_region
        go_wp2
        have hs := (hown.stored (k / 4) (.int .u64 (bits BinOp.or IntKind.u64 (y : Int) (IntKind.u64.wrap ((x : Int) * 2 ^ (16 * (k % 4))))))).1
        rw [HF.out _ _ (fun j hj => by simp [show j < k / 4 + 1 by omega]) (by simp) (by rw [HO.out])] at hs
        go_roundw
        case rel => exact ⟨k + 1, by omega, by go_num, by rw [show (k + 1 + 3) / 4 = k / 4 + 1 from by omega] at hs ⊢; exact hs.kept ⟨rfl, rfl, rfl, Nat.le_refl _, fun _ _ _ => rfl⟩ (row := none) (by simp [Value.ownBlock]), by simp, (hbel.setCell (by simpa using hg) _).drew⟩
        case measure => simp [intOf]; omega
    · obtain rfl : k = n1 := by omega
      rw [Nat.mod_eq_of_lt h1.lt] at hown
      obtain ⟨g, cap, rfl, hg, hgs, hnc, hcm, hcell⟩ := own_form hown hne
      have HC := Lib.hid (row_cells hcell)
      clear hcell hown h1
      go_wp2
      go_ret
      exact ⟨g, cap, rfl, HC.out, hgs, hbel⟩
theorem words_len (a1 : Option Addr) (n1 c1 N m : Nat) (w : World) (h1 : NatAt w a1 n1 c1 N) (hb1 : n1 ≤ 1000000) (hm : m = (n1 + 3) / 4) :
    Calls Tryz.prog 191 #[.slice a1 n1 c1] w fun e w' => ∃ g cap, e = .returned (.slice (some ⟨g, 0, none⟩) m cap) ∧ (∀ j, j < m → w'.cell? ⟨g, j, none⟩ = some (wd N j)) ∧ g < w'.heap.size ∧ Below w.heap.size w w' := by
  subst hm; exact words_any a1 n1 c1 N w h1 hb1
def hasW (f : Nat → Nat) (n N : Nat) : Bool := decide (val W64 f n = N ∧ (n = 0 ∨ f (n - 1) ≠ 0))
theorem hasWords_any (a1 a2 : Option Addr) (n1 c1 n2 c2 N : Nat) (f : Nat → Nat) (w : World) (hc : Cells w a1 n1 (fun i => .int .u64 (f i : Nat))) (hf : ∀ i, i < n1 → f i < W64) (hb1 : n1 ≤ 100000)
    (h2 : NatAt w a2 n2 c2 N) (hb2 : n2 ≤ 400000) :
    Calls Tryz.prog 132 #[.slice a1 n1 c1, .slice a2 n2 c2] w fun e w' => e = .returned (.bool (hasW f n1 N)) ∧ Below w.heap.size w w' := by
  -- how many words the number has
  have hN1 : N < W64 ^ ((n2 + 3) / 4) := by
    rw [W64_16, ← Nat.pow_mul]
    exact Nat.lt_of_lt_of_le h2.lt (Nat.pow_le_pow_right (by decide) (by omega))
  have hN2 : (n2 + 3) / 4 = 0 ∨ W64 ^ ((n2 + 3) / 4 - 1) ≤ N := by
    rcases h2.top with h | h
    · exact .inl (by omega)
    · by_cases h0 : n2 = 0
      · exact .inl (by omega)
      · refine .inr (Nat.le_trans ?_ h)
        rw [W64_16, ← Nat.pow_mul]
        exact Nat.pow_le_pow_right (by decide) (by omega)
  have hiff : (val W64 f n1 = N ∧ (n1 = 0 ∨ f (n1 - 1) ≠ 0)) ↔ (n1 = (n2 + 3) / 4 ∧ ∀ i, i < n1 → f i = dg W64 N i) := by
    constructor
    · rintro ⟨hv, ht⟩
      subst hv
      refine ⟨len_eq W64_gt ?_ (val_lt hf) hN2 hN1, fun i hi => (dg_val hf i hi).symm⟩
      rcases ht with h | h
      · exact .inl h
      · by_cases h0 : n1 = 0
        · exact .inl h0
        · obtain ⟨k, rfl⟩ : ∃ k, n1 = k + 1 := ⟨n1 - 1, by omega⟩
          refine .inr ?_
          simp only [Nat.add_sub_cancel] at h ⊢
          show W64 ^ k ≤ val W64 f k + W64 ^ k * f k
          exact Nat.le_trans (Nat.le_mul_of_pos_right _ (Nat.pos_of_ne_zero h)) (Nat.le_add_left _ _)
    · rintro ⟨hn, hd⟩
      have hv : val W64 f n1 = N := by
        rw [val_congr hd, val_dg, Nat.mod_eq_of_lt (by rw [hn]; exact hN1)]
      refine ⟨hv, ?_⟩
      by_cases h0 : n1 = 0
      · exact .inl h0
      · refine .inr fun hz => ?_
        obtain ⟨k, rfl⟩ : ∃ k, n1 = k + 1 := ⟨n1 - 1, by omega⟩
        simp only [Nat.add_sub_cancel] at hz
        rw [← hn] at hN2
        rcases hN2 with h | h
        · omega
        · have : val W64 f (k + 1) = val W64 f k := by show val W64 f k + W64 ^ k * f k = _; rw [hz, Nat.mul_zero, Nat.add_zero]
          have hl := val_lt (B := W64) (f := f) (n := k) fun i hi => hf i (by omega)
          simp only [Nat.add_sub_cancel] at h
          omega
  have hres : hasW f n1 N = decide (n1 = (n2 + 3) / 4 ∧ ∀ i, i < n1 → f i = dg W64 N i) := by
    unfold hasW; exact decide_eq_decide.2 hiff
  have HR := Lib.hid hres
  clear hiff hN1 hN2 hres
  by_cases hlen : n1 = (n2 + 3) / 4
  · have hne : ((n1 : Int) != (n1 : Int)) = false := by simp
    have HM := Lib.hid hlen
    rw [← hlen] at HR
    clear hlen
    go_enter Tryz.func132, Tryz.ntmps132
    go_wp2_with fail
    refine (words_len _ _ _ N n1 _ h2 (by omega) HM.out).mono ?_
    rintro e w1 ⟨g, cap, rfl, hcell, hgs, hB⟩
    have hc1 := hc.keep hB
    have HCL := Lib.hid hcell
    clear hcell hc
    go_wp2
    go_loopw [6, 16] (fun _ i wr => ∃ k : Nat, k ≤ n1 ∧ i = .int .i64 k ∧ (∀ j, j < k → f j = dg W64 N j) ∧ ∃ q, wr = w1.drewN q) (fun _ i _ => n1 - (intOf i).toNat)
    case atStart => exact ⟨0, Nat.zero_le _, rfl, fun _ h => by omega, 0, rfl⟩
    case round =>
      obtain ⟨k, hk, rfl, hall, q, rfl⟩ := hrel
      have HA := Lib.hid hall
      clear hall
      by_cases k1 : k < n1
      · obtain ⟨b1, o1, rfl, hx⟩ := hc1 (by omega)
        have e1 : w1.cell? ⟨b1, o1 + k, none⟩ = some (.int .u64 (f k : Nat)) := hx k k1
        have e2 : w1.cell? ⟨g, k, none⟩ = some (.int .u64 (dg W64 N k : Nat)) := HCL.out k k1
        clear hx hc1
        by_cases heq : f k = dg W64 N k
        · have hb : (((f k : Nat) : Int) != ((f k : Nat) : Int)) = false := by simp
          rw [← heq] at e2
          have HE := Lib.hid (show ∀ j, j = k → f j = dg W64 N j from fun j hj => by rw [hj]; exact heq)
          clear heq hf
          generalize f k = x at *
          go_wp2
          go_quiet (fail)
          go_wp2
          go_roundw
          case rel => exact ⟨k + 1, by omega, by go_num, fun j hj => by
            by_cases h : j < k
            · exact HA.out j h
            · obtain rfl : j = k := by omega
              exact HE.out j rfl, drewN_ex (by (try simp only [World.drewN_drewN]); exact rfl)⟩
          case measure => simp [intOf]; omega
        · have hb : (((f k : Nat) : Int) != ((dg W64 N k : Nat) : Int)) = true := by simp; omega
          have hfalse : hasW f n1 N = false := by
            rw [HR.out]; simp only [decide_eq_false_iff_not]
            exact fun h => heq (h.2 k k1)
          have HF := Lib.hid hfalse
          clear heq hf hfalse
          generalize f k = x at *
          generalize dg W64 N k = y at *
          go_wp2
          go_quiet (fail)
          go_wp2
          go_ret
          exact ⟨ret_bool HF.out.symm, below_drewN (below_drewN hB _) _⟩
      · obtain rfl : k = n1 := by omega
        have htrue : hasW f k N = true := by
          rw [HR.out]; simp only [decide_eq_true_eq]
          exact ⟨trivial, HA.out⟩
        have HF := Lib.hid htrue
        clear htrue hc1
        go_wp2
        go_ret
        exact ⟨ret_bool HF.out.symm, below_drewN hB _⟩
  · have hfalse : hasW f n1 N = false := by
      rw [HR.out]; simp only [decide_eq_false_iff_not]
      exact fun h => hlen h.1
    rw [hfalse]
    have hne : ((n1 : Int) != (((n2 + 3) / 4 : Nat) : Int)) = true := by simp; omega
    clear hfalse HR hlen
    go_enter Tryz.func132, Tryz.ntmps132
    go_wp2_with fail
    refine (words_any _ _ _ N _ h2 (by omega)).mono ?_
    rintro e w1 ⟨g, cap, rfl, hcell, hgs, hB⟩
    clear hcell
    go_wp2
    go_ret
    exact ⟨rfl, hB⟩
end Go.Proofs.YtececkbcinmmpaaGreatDoor
namespace Go.Bg
open Go.RowKit Dg
structure Rt where
  neg : Bool
  num : Nat
  den : Nat
namespace Rt
def over (neg : Bool) (n d : Nat) : Rt := ⟨neg && decide (0 < n), n / Nat.gcd n d, d / Nat.gcd n d⟩
def whole (neg : Bool) (n : Nat) : Rt := ⟨neg && decide (0 < n), n, 1⟩
def negated (a : Rt) : Rt := ⟨!a.neg && decide (0 < a.num), a.num, a.den⟩
def plus (a b : Rt) : Rt :=
  if a.neg = b.neg then over a.neg (a.num * b.den + b.num * a.den) (a.den * b.den)
  else if b.num * a.den ≤ a.num * b.den then over a.neg (a.num * b.den - b.num * a.den) (a.den * b.den)
  else over b.neg (b.num * a.den - a.num * b.den) (a.den * b.den)
def minus (a b : Rt) : Rt := plus a (negated b)
def times (a b : Rt) : Rt := over (a.neg != b.neg) (a.num * b.num) (a.den * b.den)
def upside (a : Rt) : Rt := ⟨a.neg, a.den, a.num⟩
def signOf (a : Rt) : Int := if a.num = 0 then 0 else if a.neg then -1 else 1
end Rt
structure RtAt (w : World) (s : Bool) (a : Option Addr) (n c : Nat) (a' : Option Addr) (n' c' : Nat) (r : Rt) (L : Nat) : Prop where
  neg : s = r.neg
  num : NatAt w a n c r.num
  den : NatAt w a' n' c' r.den
  numL : r.num < 65536 ^ L
  denL : r.den < 65536 ^ L
theorem RtAt.keep {w w' : World} {s : Bool} {a : Option Addr} {n c : Nat} {a' : Option Addr} {n' c' : Nat} {r : Rt} {L : Nat} (h : RtAt w s a n c a' n' c' r L) (hb : Below w.heap.size w w') : RtAt w' s a n c a' n' c' r L :=
  ⟨h.neg, h.num.keep hb, h.den.keep hb, h.numL, h.denL⟩
theorem RtAt.n_le {w : World} {s : Bool} {a : Option Addr} {n c : Nat} {a' : Option Addr} {n' c' : Nat} {r : Rt} {L : Nat} (h : RtAt w s a n c a' n' c' r L) : n ≤ L := h.num.len16 h.numL
theorem RtAt.d_le {w : World} {s : Bool} {a : Option Addr} {n c : Nat} {a' : Option Addr} {n' c' : Nat} {r : Rt} {L : Nat} (h : RtAt w s a n c a' n' c' r L) : n' ≤ L := h.den.len16 h.denL
def GivesR (r : Rt) (L : Nat) (w : World) (e : Ending) (w' : World) : Prop :=
  ∃ s a n c a' n' c', e = .returned (.agg #[.bool s, .slice a n c, .slice a' n' c']) ∧ RtAt w' s a n c a' n' c' r L ∧ Below w.heap.size w w'
theorem natAt_pos_len {k : IntKind} {B : Nat} {w : World} {a : Option Addr} {n c N : Nat} (h : NumAt k B w a n c N) : decide (0 < n) = decide (0 < N) := by
  by_cases h0 : n = 0
  · subst h0
    have : N = 0 := by have := h.lt; simpa using this
    subst this; rfl
  · rcases h.top with h1 | h1
    · omega
    · rcases Nat.eq_zero_or_pos B with hB | hB
      · have hl := h.lt
        rw [hB, Nat.zero_pow (by omega)] at hl; omega
      · have : 0 < N := Nat.lt_of_lt_of_le (Nat.pow_pos hB) h1
        simp [this]; omega
end Go.Bg
namespace Go.Bg
open Go.RowKit Dg
def NoInt (w : World) (s : Nat) : Prop := ∀ o k v, w.cell? ⟨s, o, none⟩ ≠ some (.int k v)
theorem cell?_setCell_ne {w : World} {s o b p : Nat} {v : Value} (h : b ≠ s) : (w.setCell ⟨s, o, none⟩ v).cell? ⟨b, p, none⟩ = w.cell? ⟨b, p, none⟩ :=
  World.cell?_of_block (w := w) (Below.heap_setCell w ⟨s, o, none⟩ v b h)
theorem NumAt.setCell {k : IntKind} {B : Nat} {w : World} {a : Option Addr} {n c N s o : Nat} (h : NumAt k B w a n c N) (v : Value) (hs : NoInt w s) : NumAt k B (w.setCell ⟨s, o, none⟩ v) a n c N := by
  refine ⟨h.lt, h.top, h.nc, h.cm, fun hn => ?_⟩
  obtain ⟨b, off, rfl, hc⟩ := h.cells hn
  refine ⟨b, off, rfl, fun i hi => ?_⟩
  have h1 := hc i hi
  rw [cell?_setCell_ne]
  · exact h1
  · intro e; subst e; exact hs _ _ _ h1
theorem NoInt.setCell {w : World} {s t o : Nat} {v : Value} (hs : NoInt w s) (hv : ∀ k n, v ≠ .int k n) : NoInt (w.setCell ⟨t, o, none⟩ v) s := by
  intro p k n h
  by_cases e : s = t
  · subst e
    by_cases e2 : p = o
    · subst e2
      cases hc : w.cell? ⟨s, p, none⟩ with
      | none =>
        have : (w.setCell ⟨s, p, none⟩ v).cell? ⟨s, p, none⟩ = none := by
          simp only [World.cell?, World.setCell, Array.getElem?_modify, if_true] at hc ⊢
          cases hh : w.heap[s]? with
          | none => rfl
          | some x =>
            rw [hh] at hc
            cases x with
            | cells c e f =>
              simp only [Option.isSome_none, Bool.false_eq_true, if_false, Option.map_some, Array.getElem?_eq_none_iff, Array.size_setIfInBounds] at hc ⊢
              exact hc
            | _ => rfl
        rw [this] at h; cases h
      | some u =>
        rw [World.cell?_setCell_same (u := u) _ _ _ hc] at h
        exact hv k n (Option.some.inj h)
    · rw [World.cell?_setCell_other _ _ _ _ (by intro hh; apply e2; simpa using hh.symm)] at h
      exact hs _ _ _ h
  · rw [cell?_setCell_ne e] at h
    exact hs _ _ _ h
structure ResBlk (w : World) (s : Nat) : Prop where
  cells : (∃ v, w.cell? ⟨s, 0, none⟩ = some v) ∧ (∃ v, w.cell? ⟨s, 1, none⟩ = some v) ∧ (∃ v, w.cell? ⟨s, 2, none⟩ = some v)
  frozen : ∀ o, w.frozen? ⟨s, o, none⟩ = false
  noInt : NoInt w s
  lt : s < w.heap.size
theorem ResBlk.alloc (wa : World) (T : TypeId) : ResBlk (wa.alloc (.cells #[.bool false, .slice none 0 0, .slice none 0 0] T)) wa.heap.size := by
  refine ⟨⟨⟨_, by simp; rfl⟩, ⟨_, by simp; rfl⟩, ⟨_, by simp; rfl⟩⟩, fun o => by simp, fun o k v h => ?_, by simp⟩
  rw [World.cell?_alloc_new] at h
  match o, h with
  | 0, h => simp at h
  | 1, h => simp at h
  | 2, h => simp at h
  | n + 3, h => simp at h
theorem ResBlk.below {w w1 : World} {s B : Nat} (h : ResBlk w s) (hs : s < B) (hb : Below B w w1) : ResBlk w1 s := by
  have hc : ∀ o, w1.cell? ⟨s, o, none⟩ = w.cell? ⟨s, o, none⟩ := fun o => hb.cell (p := ⟨s, o, none⟩) hs
  obtain ⟨⟨u0, h0⟩, ⟨u1, h1⟩, ⟨u2, h2⟩⟩ := h.cells
  exact ⟨⟨⟨u0, by rw [hc]; exact h0⟩, ⟨u1, by rw [hc]; exact h1⟩, ⟨u2, by rw [hc]; exact h2⟩⟩, fun o => by rw [hb.frozen (p := ⟨s, o, none⟩) hs]; exact h.frozen o,
    fun o k v hh => h.noInt o k v (by rw [← hc]; exact hh), Nat.lt_of_lt_of_le h.lt hb.size⟩
theorem givesR_end {w w1 : World} {s L : Nat} {sg : Bool} {a : Option Addr} {n c : Nat} {a' : Option Addr} {n' c' : Nat} {r : Rt} (R : ResBlk w1 s) (hs : w.heap.size ≤ s) (hb : Below w.heap.size w w1)
    (h : RtAt w1 sg a n c a' n' c' r L) :
    GivesR r L w (.returned (.agg #[.bool sg, .slice a n c, .slice a' n' c'])) (((w1.setCell ⟨s, 0, none⟩ (.bool sg)).setCell ⟨s, 1, none⟩ (.slice a n c)).setCell ⟨s, 2, none⟩ (.slice a' n' c')) := by
  have n1 : NoInt (w1.setCell ⟨s, 0, none⟩ (.bool sg)) s := R.noInt.setCell (by intro k n h; cases h)
  have n2 : NoInt ((w1.setCell ⟨s, 0, none⟩ (.bool sg)).setCell ⟨s, 1, none⟩ (.slice a n c)) s := n1.setCell (by intro k n h; cases h)
  exact ⟨_, _, _, _, _, _, _, rfl, ⟨h.neg, ((h.num.setCell _ R.noInt).setCell _ n1).setCell _ n2, ((h.den.setCell _ R.noInt).setCell _ n1).setCell _ n2, h.numL, h.denL⟩,
    ((hb.setCell (by exact hs) _).setCell (by exact hs) _).setCell (by exact hs) _⟩
end Go.Bg
namespace Go.Bg
open Go.RowKit
theorem cell_keep {w w1 : World} {p : Addr} {v : Value} (h : w.cell? p = some v) (hb : Below w.heap.size w w1) : w1.cell? p = some v := by
  rw [hb.cell (block_lt h)]; exact h
theorem alloc_keep (w : World) (o : Obj) {p : Addr} {v : Value} (h : w.cell? p = some v) : (w.alloc o).cell? p = some v := by
  rw [World.cell?_alloc_lt _ _ _ (block_lt h)]; exact h
theorem alloc_new (w : World) (c : Array Value) (T : TypeId) {i s : Nat} {v : Value} (hs : s = w.heap.size) (h : c[i]? = some v) : (w.alloc (.cells c T)).cell? ⟨s, i, none⟩ = some v := by
  subst hs; rw [World.cell?_alloc_new]; exact h
theorem Below.alloc' {a w : World} (h : Below a.heap.size a w) (o : Obj) : Below a.heap.size a (w.alloc o) := h.alloc h.size o
structure RtBlk (w : World) (g : Nat) (s : Bool) (a : Option Addr) (n c : Nat) (a' : Option Addr) (n' c' : Nat) : Prop where
  c0 : w.cell? ⟨g, 0, none⟩ = some (.bool s)
  c1 : w.cell? ⟨g, 1, none⟩ = some (.slice a n c)
  c2 : w.cell? ⟨g, 2, none⟩ = some (.slice a' n' c')
theorem RtBlk.keep {w w1 : World} {g : Nat} {s : Bool} {a : Option Addr} {n c : Nat} {a' : Option Addr} {n' c' : Nat} (h : RtBlk w g s a n c a' n' c') (hb : Below w.heap.size w w1) : RtBlk w1 g s a n c a' n' c' :=
  ⟨cell_keep h.c0 hb, cell_keep h.c1 hb, cell_keep h.c2 hb⟩
theorem RtBlk.lt {w : World} {g : Nat} {s : Bool} {a : Option Addr} {n c : Nat} {a' : Option Addr} {n' c' : Nat} (h : RtBlk w g s a n c a' n' c') : g < w.heap.size := block_lt h.c0
theorem stored3 {w1 : World} {s L : Nat} {sg : Bool} {a : Option Addr} {n c : Nat} {a' : Option Addr} {n' c' : Nat} {r : Rt} (R : ResBlk w1 s) (h : RtAt w1 sg a n c a' n' c' r L) :
    RtAt (((w1.setCell ⟨s, 0, none⟩ (.bool sg)).setCell ⟨s, 1, none⟩ (.slice a n c)).setCell ⟨s, 2, none⟩ (.slice a' n' c')) sg a n c a' n' c' r L := by
  have n1 : NoInt (w1.setCell ⟨s, 0, none⟩ (.bool sg)) s := R.noInt.setCell (by intro k n h; cases h)
  have n2 : NoInt ((w1.setCell ⟨s, 0, none⟩ (.bool sg)).setCell ⟨s, 1, none⟩ (.slice a n c)) s := n1.setCell (by intro k n h; cases h)
  exact ⟨h.neg, ((h.num.setCell _ R.noInt).setCell _ n1).setCell _ n2, ((h.den.setCell _ R.noInt).setCell _ n1).setCell _ n2, h.numL, h.denL⟩
theorem rtBlk_stored {w1 : World} {s : Nat} (R : ResBlk w1 s) (sg : Bool) (a : Option Addr) (n c : Nat) (a' : Option Addr) (n' c' : Nat) :
    RtBlk (((w1.setCell ⟨s, 0, none⟩ (.bool sg)).setCell ⟨s, 1, none⟩ (.slice a n c)).setCell ⟨s, 2, none⟩ (.slice a' n' c')) s sg a n c a' n' c' := by
  obtain ⟨⟨u0, r0⟩, ⟨u1, r1⟩, ⟨u2, r2⟩⟩ := R.cells
  have e : ∀ (i j : Nat) (v : Value) (w : World), i ≠ j → (w.setCell ⟨s, i, none⟩ v).cell? ⟨s, j, none⟩ = w.cell? ⟨s, j, none⟩ := fun i j v w h => World.cell?_setCell_other _ _ _ _ (fun hh => h (by injection hh))
  refine ⟨?_, ?_, ?_⟩
  · rw [e _ _ _ _ (by decide), e _ _ _ _ (by decide)]; exact World.cell?_setCell_same (u := u0) _ _ _ r0
  · rw [e _ _ _ _ (by decide)]; refine World.cell?_setCell_same (u := u1) _ _ _ ?_; rw [e _ _ _ _ (by decide)]; exact r1
  · refine World.cell?_setCell_same (u := u2) _ _ _ ?_; rw [e _ _ _ _ (by decide), e _ _ _ _ (by decide)]; exact r2
theorem rtBlk_new (w : World) (T : TypeId) (sg : Bool) (a : Option Addr) (n c : Nat) (a' : Option Addr) (n' c' : Nat) :
    RtBlk (w.alloc (.cells #[.bool sg, .slice a n c, .slice a' n' c'] T)) w.heap.size sg a n c a' n' c' := ⟨alloc_new _ _ _ rfl rfl, alloc_new _ _ _ rfl rfl, alloc_new _ _ _ rfl rfl⟩
end Go.Bg
namespace Go.Proofs.YtececkbcinmmpaaGreatDoor
open Go.RowKit Go.Bg Dg
theorem whole_any (s : Bool) (a : Option Addr) (n c N L : Nat) (w : World) (h : NatAt w a n c N) (hL : N < 65536 ^ L) (hL1 : 1 ≤ L) (hL2 : L ≤ 400000) :
    Calls Tryz.prog 116 #[.bool s, .slice a n c] w (GivesR (Rt.whole s N) L w) := by
  have hlen := h.len16 hL
  have hp := natAt_pos_len h
  have HP := Lib.hid hp
  have HH := Lib.hid h
  clear hp h
  have R0 := ResBlk.alloc w 31
  have H1 := Lib.hid (show 1 < 65536 ^ L from Nat.one_lt_pow (by omega) (by decide))
  cases s
  · go_enter Tryz.func116, Tryz.ntmps116
    go_wp2_with fail
    refine (small_any 1 _ (by omega)).mono ?_
    rintro e w1 ⟨a', n', c', rfl, hD, hB⟩
    have R := R0.below (by simp) hB
    obtain ⟨⟨u0, r0⟩, ⟨u1, r1⟩, ⟨u2, r2⟩⟩ := (R).cells; have f0 := (R).frozen 0; have f1 := (R).frozen 1; have f2 := (R).frozen 2
    have hb := Below.then ((Below.refl _ _).alloc (Nat.le_refl _) _) (Nat.le_refl _) hB
    go_wp2
    exact bodyPost_ret (v := .agg #[.bool false, .slice a n c, .slice a' n' c']) (by simp [results, Tryz.results116, go_sem, r0, r1, r2]) rfl (givesR_end R (Nat.le_refl _) hb ⟨rfl, HH.out.keep hb, hD, hL, H1.out⟩)
  · go_enter Tryz.func116, Tryz.ntmps116
    go_wp2_with fail
    refine (small_any 1 _ (by omega)).mono ?_
    rintro e w1 ⟨a', n', c', rfl, hD, hB⟩
    have R := R0.below (by simp) hB
    obtain ⟨⟨u0, r0⟩, ⟨u1, r1⟩, ⟨u2, r2⟩⟩ := (R).cells; have f0 := (R).frozen 0; have f1 := (R).frozen 1; have f2 := (R).frozen 2
    have hb := Below.then ((Below.refl _ _).alloc (Nat.le_refl _) _) (Nat.le_refl _) hB
    go_wp2
    exact bodyPost_ret (v := .agg #[.bool (decide (0 < n)), .slice a n c, .slice a' n' c']) (by simp [results, Tryz.results116, go_sem, r0, r1, r2]) rfl (givesR_end R (Nat.le_refl _) hb ⟨by rw [HP.out]; simp [Rt.whole], HH.out.keep hb, hD, hL, H1.out⟩)
theorem negated_any (s : Bool) (a : Option Addr) (n c : Nat) (a' : Option Addr) (n' c' L : Nat) (r : Rt) (w : World) (h : RtAt w s a n c a' n' c' r L) (hL2 : L ≤ 400000) :
    Calls Tryz.prog 41 #[.agg #[.bool s, .slice a n c, .slice a' n' c']] w (GivesR r.negated L w) := by
  have hlen := h.n_le
  have HP := Lib.hid (natAt_pos_len h.num)
  have HH := Lib.hid h
  have hs := h.neg
  have HS := Lib.hid hs
  clear h hs
  have hb := fun b => ((Below.refl w.heap.size w).alloc (Nat.le_refl _) (.cells #[.bool s, .slice a n c, .slice a' n' c'] 31)).alloc (by simp) (.cells #[.bool b, .slice a n c, .slice a' n' c'] 31)
  have HB := Lib.hid hb
  clear hb
  cases s
  · go_enter Tryz.func41, Tryz.ntmps41
    go_wp2
    exact bodyPost_ret (v := .agg #[.bool (decide (0 < n)), .slice a n c, .slice a' n' c']) (by simp [results, Tryz.results41, go_sem]) rfl
      ⟨_, _, _, _, _, _, _, rfl, ⟨by rw [HP.out]; simp [Rt.negated, ← HS.out], HH.out.num.keep (HB.out _), HH.out.den.keep (HB.out _), HH.out.numL, HH.out.denL⟩, HB.out _⟩
  · go_enter Tryz.func41, Tryz.ntmps41
    go_wp2
    exact bodyPost_ret (v := .agg #[.bool false, .slice a n c, .slice a' n' c']) (by simp [results, Tryz.results41, go_sem]) rfl
      ⟨_, _, _, _, _, _, _, rfl, ⟨by simp [Rt.negated, ← HS.out], HH.out.num.keep (HB.out _), HH.out.den.keep (HB.out _), HH.out.numL, HH.out.denL⟩, HB.out _⟩
theorem signOf_any (s : Bool) (a : Option Addr) (n c : Nat) (a' : Option Addr) (n' c' L : Nat) (r : Rt) (w : World) (h : RtAt w s a n c a' n' c' r L) (hL2 : L ≤ 400000) :
    Calls Tryz.prog 26 #[.agg #[.bool s, .slice a n c, .slice a' n' c']] w fun e w' => e = .returned (.int .i64 r.signOf) ∧ Below w.heap.size w w' := by
  have hlen := h.n_le
  have hb := (Below.refl w.heap.size w).alloc (Nat.le_refl _) (.cells #[.bool s, .slice a n c, .slice a' n' c'] 31)
  by_cases h0 : n = 0
  · subst h0
    have hN : r.num = 0 := by have := h.num.lt; simpa using this
    have hr : r.signOf = 0 := if_pos hN
    rw [hr]
    go_enter Tryz.func26, Tryz.ntmps26
    go_wp2
    go_ret
    exact ⟨rfl, hb⟩
  · have hN : r.num ≠ 0 := by
      rcases h.num.top with h1 | h1
      · omega
      · have : 0 < 65536 ^ (n - 1) := Nat.pow_pos (by decide)
        omega
    have hr : r.signOf = if s then -1 else 1 := by rw [h.neg]; exact if_neg hN
    have hz : ((n : Int) == 0) = false := by simp; omega
    rw [hr]
    clear hN hr h
    cases s
    · go_enter Tryz.func26, Tryz.ntmps26
      go_wp2
      go_ret
      exact ⟨rfl, hb⟩
    · go_enter Tryz.func26, Tryz.ntmps26
      go_wp2
      go_ret
      exact ⟨rfl, hb⟩
theorem over_any (s : Bool) (a : Option Addr) (n c : Nat) (a' : Option Addr) (n' c' N D L : Nat) (w : World) (h1 : NatAt w a n c N) (h2 : NatAt w a' n' c' D) (hN : N < 65536 ^ L) (hD : D < 65536 ^ L) (hpos : 0 < D) (hL2 : L ≤ 400000) :
    Calls Tryz.prog 51 #[.bool s, .slice a n c, .slice a' n' c'] w (GivesR (Rt.over s N D) L w) := by
  have hn := h1.len16 hN
  have hd := h2.len16 hD
  have HP := Lib.hid (natAt_pos_len h1)
  have hg0 : 0 < Nat.gcd N D := Nat.gcd_pos_of_pos_right _ hpos
  have hgD : Nat.gcd N D < 65536 ^ L := Nat.lt_of_le_of_lt (Nat.gcd_le_right _ hpos) hD
  have HG0 := Lib.hid hg0
  have HGD := Lib.hid hgD
  have HN := Lib.hid (Nat.lt_of_le_of_lt (Nat.div_le_self N (Nat.gcd N D)) hN)
  have HD := Lib.hid (Nat.lt_of_le_of_lt (Nat.div_le_self D (Nat.gcd N D)) hD)
  have R0 := ResBlk.alloc w 31
  have hb0 : Below w.heap.size w (w.alloc (.cells #[.bool false, .slice none 0 0, .slice none 0 0] 31)) := (Below.refl _ _).alloc (Nat.le_refl _) _
  have h1' := h1.keep hb0
  have h2' := h2.keep hb0
  clear h1 h2 hN hD hg0 hgD
  go_enter Tryz.func51, Tryz.ntmps51
  go_wp2_with fail
  refine (gcd_any _ _ _ _ _ _ N D _ h1' h2' (by omega) (by omega)).mono ?_
  rintro e w1 ⟨aG, nG, cG, rfl, hG, hB1⟩
  have hnG := hG.len16 HGD.out
  go_wp2_with fail
  refine (divMod_any _ _ _ _ _ _ N (Nat.gcd N D) _ (h1'.keep hB1) hG (by omega) (by omega) HG0.out).mono ?_
  rintro e w2 ⟨aQ, nQ, cQ, aR, nR, cR, rfl, hQ, hR, hB2⟩
  go_wp2_with fail
  refine (divMod_any _ _ _ _ _ _ D (Nat.gcd N D) _ ((h2'.keep hB1).keep hB2) (hG.keep hB2) (by omega) (by omega) HG0.out).mono ?_
  rintro e w3 ⟨aE, nE, cE, aF, nF, cF, rfl, hE, hF, hB3⟩
  have R := ((R0.below (by simp) hB1).below (Nat.lt_of_lt_of_le (by simp) hB1.size) hB2).below (Nat.lt_of_lt_of_le (by simp) (Nat.le_trans hB1.size hB2.size)) hB3
  obtain ⟨⟨u0, r0⟩, ⟨u1, r1⟩, ⟨u2, r2⟩⟩ := (R).cells; have f0 := (R).frozen 0; have f1 := (R).frozen 1; have f2 := (R).frozen 2
  have hb := Below.then (Below.then (Below.then hb0 (Nat.le_refl _) hB1) (Nat.le_refl _) hB2) (Nat.le_refl _) hB3
  have hQ' := hQ.keep hB3
  clear hB1 hB2 hB3 hG hR hF h1' h2' hb0 R0 hQ
  cases s
  · go_wp2
    exact bodyPost_ret (v := .agg #[.bool false, .slice aQ nQ cQ, .slice aE nE cE]) (by simp [results, Tryz.results51, go_sem, r0, r1, r2]) rfl (givesR_end R (Nat.le_refl _) hb ⟨rfl, hQ', hE, HN.out, HD.out⟩)
  · go_wp2
    exact bodyPost_ret (v := .agg #[.bool (decide (0 < n)), .slice aQ nQ cQ, .slice aE nE cE]) (by simp [results, Tryz.results51, go_sem, r0, r1, r2]) rfl (givesR_end R (Nat.le_refl _) hb ⟨by rw [HP.out]; simp [Rt.over], hQ', hE, HN.out, HD.out⟩)
end Go.Proofs.YtececkbcinmmpaaGreatDoor
