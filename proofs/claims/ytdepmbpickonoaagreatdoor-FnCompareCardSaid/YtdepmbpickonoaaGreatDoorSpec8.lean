/-
  The reference's natural numbers: Words and HasWords.
-/
import Derived.Test.YtdepmbpickonoaaGreatDoorSpec7
set_option linter.unusedSimpArgs false
set_option linter.unusedVariables false
namespace Go.Proofs.YtdepmbpickonoaaGreatDoor
open Go.RowKit Go.Bg Dg

def wd (X j : Nat) : Value := .int .u64 (dg W64 X j : Nat)

theorem words_step (N k : Nat) :
    (∀ j, j < k / 4 → dg W64 (N % 65536 ^ (k + 1)) j = dg W64 (N % 65536 ^ k) j) ∧
    dg W64 (N % 65536 ^ (k + 1)) (k / 4) = dg W64 (N % 65536 ^ k) (k / 4) + dg 65536 N k * 65536 ^ (k % 4) ∧
    dg W64 (N % 65536 ^ k) (k / 4) < 65536 ^ (k % 4) := by
  have hk : k = 4 * (k / 4) + k % 4 := by omega
  have hp : 65536 ^ k = W64 ^ (k / 4) * 65536 ^ (k % 4) := by
    conv => lhs; rw [hk]
    rw [Nat.pow_add, Nat.pow_mul, ← W64_16]
  have hM : N % 65536 ^ k < 65536 ^ k := Nat.mod_lt _ (Nat.pow_pos (by decide))
  have hd : dg 65536 N k < 65536 := dg_lt (by decide) _ _
  have hs := mod_succ 65536 N k
  rw [hs, hp]
  rw [hp] at hM
  have hwp : 0 < W64 ^ (k / 4) := Nat.pow_pos W64_pos
  have hq : N % (W64 ^ (k / 4) * 65536 ^ (k % 4)) / W64 ^ (k / 4) < 65536 ^ (k % 4) := (Nat.div_lt_iff_lt_mul hwp).2 (by rw [Nat.mul_comm (65536 ^ (k % 4))]; exact hM)
  have hW : 65536 ^ (k % 4) * 65536 ≤ W64 := by
    rw [← Nat.pow_succ, W64_16]; exact Nat.pow_le_pow_right (by decide) (by omega)
  have hlt1 : N % (W64 ^ (k / 4) * 65536 ^ (k % 4)) / W64 ^ (k / 4) < W64 := Nat.lt_of_lt_of_le hq (Nat.le_trans (Nat.le_mul_of_pos_right _ (by decide)) hW)
  have e1 : dg W64 (N % (W64 ^ (k / 4) * 65536 ^ (k % 4))) (k / 4) = N % (W64 ^ (k / 4) * 65536 ^ (k % 4)) / W64 ^ (k / 4) := Nat.mod_eq_of_lt hlt1
  refine ⟨fun j hj => ?_, ?_, by rw [e1]; exact hq⟩
  · rw [Nat.mul_assoc, ← dg_mod (n := k / 4) _ hj, Nat.add_mul_mod_self_left, dg_mod _ hj]
  · rw [e1, dg, Nat.mul_assoc, Nat.add_mul_div_left _ _ hwp, Nat.mul_comm (65536 ^ (k % 4)), Nat.mod_eq_of_lt]
    have : (dg 65536 N k + 1) * 65536 ^ (k % 4) ≤ 65536 * 65536 ^ (k % 4) := Nat.mul_le_mul_right _ hd
    rw [Nat.add_mul, Nat.one_mul, Nat.mul_comm 65536] at this
    omega

theorem set_words (N k : Nat) (u : Value) (xs : List Value) (h : ∀ j, j < k / 4 → xs[j]? = some (wd (N % 65536 ^ k) j)) (hl : xs.length = k / 4 + 1)
    (hu : u = .int .u64 (dg W64 (N % 65536 ^ k) (k / 4) + dg 65536 N k * 65536 ^ (k % 4) : Nat)) :
    xs.set (k / 4) u = (List.range (k / 4 + 1)).map (wd (N % 65536 ^ (k + 1))) := by
  have hst := words_step N k
  apply List.ext_getElem?
  intro j
  by_cases hj : j = k / 4
  · subst hj
    rw [List.getElem?_set_self (by omega)]
    simp only [List.getElem?_map, List.getElem?_range (Nat.lt_succ_self _), Option.map_some]
    rw [hu, ← hst.2.1]; rfl
  · rw [List.getElem?_set_ne (fun h => hj h.symm)]
    by_cases hj2 : j < k / 4
    · rw [h j hj2]
      simp only [List.getElem?_map, List.getElem?_range (show j < k / 4 + 1 by omega), Option.map_some]
      rw [wd, wd, hst.1 j hj2]
    · rw [List.getElem?_eq_none (by omega), List.getElem?_eq_none (by simp; omega)]

theorem or_zero_u64 (x : Nat) (hx : x < 65536) : bits BinOp.or IntKind.u64 0 (x : Int) = x := by
  rw [show (0 : Int) = ((0 : Nat) : Int) from rfl, u64_or_nat _ _ (by decide) (by omega)]; simp

theorem or_join_u64 (y x r : Nat) (hx : x < 65536) (hr : r < 4) (hy : y < 65536 ^ r) :
    bits BinOp.or IntKind.u64 (y : Int) (IntKind.u64.wrap ((x : Int) * 2 ^ (16 * r))) = ((y + x * 65536 ^ r : Nat) : Int) := by
  have e : ((x : Int) * 2 ^ (16 * r)) = ((x * 65536 ^ r : Nat) : Int) := by
    rw [show (65536 : Nat) = 2 ^ 16 from rfl, ← Nat.pow_mul]; simp
  have hb : 65536 ^ r * 65536 ≤ 18446744073709551616 := by
    rw [← Nat.pow_succ]
    have : (65536 : Nat) ^ (r + 1) ≤ 65536 ^ 4 := Nat.pow_le_pow_right (by decide) (by omega)
    exact this
  have hxr : x * 65536 ^ r < 18446744073709551616 := by
    have : (x + 1) * 65536 ^ r ≤ 65536 * 65536 ^ r := Nat.mul_le_mul_right _ hx
    rw [Nat.add_mul, Nat.one_mul, Nat.mul_comm 65536] at this
    have : 0 < 65536 ^ r := Nat.pow_pos (by decide)
    omega
  have hy' : y < 18446744073709551616 := by omega
  rw [e, IntKind.wrap_u64, show (((x * 65536 ^ r : Nat) : Int) % 18446744073709551616) = ((x * 65536 ^ r : Nat) : Int) from by omega, u64_or_nat _ _ hy' hxr, Nat.or_comm,
    nat_join (16 * r) _ _ (by rw [show (65536 : Nat) = 2 ^ 16 from rfl, ← Nat.pow_mul, Nat.mul_mod_left]) (by rw [Nat.pow_mul]; exact hy), Nat.add_comm]

set_option maxRecDepth 100000 in
set_option maxHeartbeats 2000000 in
theorem words_any (a1 : Option Addr) (n1 c1 N : Nat) (w : World) (h1 : NatAt w a1 n1 c1 N) (hb1 : n1 ≤ 1000000) :
    Calls Tryz.prog 148 #[.slice a1 n1 c1] w fun e w' => ∃ g cap, e = .returned (.slice (some ⟨g, 0, none⟩) ((n1 + 3) / 4) cap) ∧ (∀ j, j < (n1 + 3) / 4 → w'.cell? ⟨g, j, none⟩ = some (wd N j)) ∧ g < w'.heap.size ∧ Below w.heap.size w w' := by
  obtain ⟨i0, hi, hz0, hz1, hz2⟩ := info_parts infoUint
  go_enter Tryz.func148, Tryz.ntmps148
  go_wp2
  go_loopw [3, 4, 5, 9] (fun out _ _ i wr => ∃ k : Nat, k ≤ n1 ∧ i = .int .i64 k ∧ wr.ownsRow w.heap.size 134 1 out ((k + 3) / 4) ((List.range ((k + 3) / 4)).map (wd (N % 65536 ^ k))) ∧ out ≠ .slice none 0 0 ∧ Below w.heap.size w wr)
    (fun _ _ _ i _ => n1 - (intOf i).toNat)
  case atStart => exact ⟨0, Nat.zero_le _, rfl, World.ownsRow_made w #[] 0 (Nat.le_refl _) (by simp [maxLen]) rfl, by simp, (Below.refl _ _).alloc (Nat.le_refl _) _⟩
  case round =>
    obtain ⟨k, hk, rfl, hown, hne, hbel⟩ := hrel
    by_cases k1 : k < n1
    · have h1' := h1.keep hbel
      obtain ⟨b1, o1, rfl, _⟩ := h1'.form (by omega)
      have e1 := h1'.cell k1
      have d1 : dg 65536 N k < 65536 := dg_lt (by decide) _ _
      have hst := words_step N k
      have hdg : dg W64 (N % 65536 ^ k) (k / 4) < 18446744073709551616 := W64_lt (dg_lt W64_pos _ _)
      clear h1'
      by_cases hr : k % 4 = 0
      · have hr0 : (((k : Int) % 4) == 0) = true := by simp; omega
        have hm : (k + 3) / 4 = k / 4 := by omega
        rw [hm] at hown
        have hz : dg W64 (N % 65536 ^ k) (k / 4) = 0 := by have := hst.2.2; rw [hr] at this; simpa using this
        have fin : ∀ (u : Value) (xs : List Value), (∀ j, j < k / 4 → xs[j]? = some (wd (N % 65536 ^ k) j)) → xs.length = k / 4 + 1 → u = .int .u64 (dg 65536 N k : Nat) →
            xs.set (k / 4) u = (List.range ((k + 1 + 3) / 4)).map (wd (N % 65536 ^ (k + 1))) := by
          intro u xs h hl hu
          rw [show (k + 1 + 3) / 4 = k / 4 + 1 from by omega]
          exact set_words N k u xs h hl (by rw [hu, hz, hr]; simp)
        have hor := or_zero_u64 (dg 65536 N k) d1
        have HF := Lib.hid fin
        have HO := Lib.hid hor
        clear hst hm hz hdg fin hor
        generalize dg 65536 N k = x at *
        go_wp2_with (at_builtin; refine wpList_app1 rfl _ _ 22 rfl w.heap.size 134 i0 _ 8 Tryz.underlying22 hi hz0 hz1 hz2 rfl (by decide) _ _ _ _ rfl rfl rfl hown rfl (by omega) hbel.size ?_; intro v' w1 hown1 hbel1 hne1)
        obtain ⟨g, cap, rfl, hg, hgs, hnc, hcm, hcell⟩ := own_form hown1 hne1
        have c0 : w1.cell? ⟨g, k / 4, none⟩ = some (.int .u64 0) := by rw [hcell _ (Nat.lt_succ_self _)]; simp
        have f0 := hown1.frozenAt (k / 4)
        clear hcell
        go_wp2
        have hkb : (k : Int) / 4 < (k / 4 + 1 : Nat) := by omega
        go_region
        go_wp2
        have hs := (hown1.stored (k / 4) (.int .u64 (bits BinOp.or IntKind.u64 0 (x : Int)))).1
        rw [HF.out _ _ (fun j hj => by rw [List.getElem?_append_left (by simpa using hj)]; simp [hj]) (by simp) (by rw [HO.out])] at hs
        go_roundw
        case rel => exact ⟨k + 1, by omega, by go_num, by rw [show (k + 1 + 3) / 4 = k / 4 + 1 from by omega] at hs ⊢; exact hs.kept ⟨rfl, rfl, rfl, Nat.le_refl _, fun _ _ _ => rfl⟩ (row := none) (by simp [Value.ownBlock]), by simp, ((hbel.trans hbel1).setCell (by simpa using hg) _).drew⟩
        case measure => simp [intOf]; omega
      · have hr0 : (((k : Int) % 4) == 0) = false := by simp; omega
        have hm : (k + 3) / 4 = k / 4 + 1 := by omega
        rw [hm] at hown
        have fin : ∀ (u : Value) (xs : List Value), (∀ j, j < k / 4 → xs[j]? = some (wd (N % 65536 ^ k) j)) → xs.length = k / 4 + 1 → u = .int .u64 (dg W64 (N % 65536 ^ k) (k / 4) + dg 65536 N k * 65536 ^ (k % 4) : Nat) →
            xs.set (k / 4) u = (List.range ((k + 1 + 3) / 4)).map (wd (N % 65536 ^ (k + 1))) := by
          intro u xs h hl hu
          rw [show (k + 1 + 3) / 4 = k / 4 + 1 from by omega]
          exact set_words N k u xs h hl hu
        have hor := or_join_u64 (dg W64 (N % 65536 ^ k) (k / 4)) (dg 65536 N k) (k % 4) d1 (by omega) hst.2.2
        have HF := Lib.hid fin
        have HO := Lib.hid hor
        obtain ⟨g, cap, rfl, hg, hgs, hnc, hcm, hcell⟩ := own_form hown hne
        have c0 : wr.cell? ⟨g, k / 4, none⟩ = some (.int .u64 (dg W64 (N % 65536 ^ k) (k / 4) : Nat)) := by rw [hcell _ (Nat.lt_succ_self _)]; simp [wd]
        have f0 := hown.frozenAt (k / 4)
        clear hst hm fin hor hcell
        generalize dg 65536 N k = x at *
        generalize dg W64 (N % 65536 ^ k) (k / 4) = y at *
        go_wp2
        have hkb : (k : Int) / 4 < (k / 4 + 1 : Nat) := by omega
        go_region
        go_wp2
        have hs := (hown.stored (k / 4) (.int .u64 (bits BinOp.or IntKind.u64 (y : Int) (IntKind.u64.wrap ((x : Int) * 2 ^ (16 * (k % 4))))))).1
        rw [HF.out _ _ (fun j hj => by simp [show j < k / 4 + 1 by omega]) (by simp) (by rw [HO.out])] at hs
        go_roundw
        case rel => exact ⟨k + 1, by omega, by go_num, by rw [show (k + 1 + 3) / 4 = k / 4 + 1 from by omega] at hs ⊢; exact hs.kept ⟨rfl, rfl, rfl, Nat.le_refl _, fun _ _ _ => rfl⟩ (row := none) (by simp [Value.ownBlock]), by simp, (hbel.setCell (by simpa using hg) _).drew⟩
        case measure => simp [intOf]; omega
    · obtain rfl : k = n1 := by omega
      rw [Nat.mod_eq_of_lt h1.lt] at hown
      obtain ⟨g, cap, rfl, hg, hgs, hnc, hcm, hcell⟩ := own_form hown hne
      have HC := Lib.hid (row_cells hcell)
      clear hcell hown h1
      go_wp2
      go_ret
      exact ⟨g, cap, rfl, HC.out, hgs, hbel⟩

theorem words_len (a1 : Option Addr) (n1 c1 N m : Nat) (w : World) (h1 : NatAt w a1 n1 c1 N) (hb1 : n1 ≤ 1000000) (hm : m = (n1 + 3) / 4) :
    Calls Tryz.prog 148 #[.slice a1 n1 c1] w fun e w' => ∃ g cap, e = .returned (.slice (some ⟨g, 0, none⟩) m cap) ∧ (∀ j, j < m → w'.cell? ⟨g, j, none⟩ = some (wd N j)) ∧ g < w'.heap.size ∧ Below w.heap.size w w' := by
  subst hm; exact words_any a1 n1 c1 N w h1 hb1

/-- the words are the number's, no zero word at the end -/
def hasW (f : Nat → Nat) (n N : Nat) : Bool := decide (val W64 f n = N ∧ (n = 0 ∨ f (n - 1) ≠ 0))

set_option maxRecDepth 100000 in
set_option maxHeartbeats 2000000 in
theorem hasWords_any (a1 a2 : Option Addr) (n1 c1 n2 c2 N : Nat) (f : Nat → Nat) (w : World) (hc : Cells w a1 n1 (fun i => .int .u64 (f i : Nat))) (hf : ∀ i, i < n1 → f i < W64) (hb1 : n1 ≤ 100000)
    (h2 : NatAt w a2 n2 c2 N) (hb2 : n2 ≤ 400000) :
    Calls Tryz.prog 96 #[.slice a1 n1 c1, .slice a2 n2 c2] w fun e w' => e = .returned (.bool (hasW f n1 N)) ∧ Below w.heap.size w w' := by
  -- how many words the number has
  have hN1 : N < W64 ^ ((n2 + 3) / 4) := by
    rw [W64_16, ← Nat.pow_mul]
    exact Nat.lt_of_lt_of_le h2.lt (Nat.pow_le_pow_right (by decide) (by omega))
  have hN2 : (n2 + 3) / 4 = 0 ∨ W64 ^ ((n2 + 3) / 4 - 1) ≤ N := by
    rcases h2.top with h | h
    · exact .inl (by omega)
    · by_cases h0 : n2 = 0
      · exact .inl (by omega)
      · refine .inr (Nat.le_trans ?_ h)
        rw [W64_16, ← Nat.pow_mul]
        exact Nat.pow_le_pow_right (by decide) (by omega)
  have hiff : (val W64 f n1 = N ∧ (n1 = 0 ∨ f (n1 - 1) ≠ 0)) ↔ (n1 = (n2 + 3) / 4 ∧ ∀ i, i < n1 → f i = dg W64 N i) := by
    constructor
    · rintro ⟨hv, ht⟩
      subst hv
      refine ⟨len_eq W64_gt ?_ (val_lt hf) hN2 hN1, fun i hi => (dg_val hf i hi).symm⟩
      rcases ht with h | h
      · exact .inl h
      · by_cases h0 : n1 = 0
        · exact .inl h0
        · obtain ⟨k, rfl⟩ : ∃ k, n1 = k + 1 := ⟨n1 - 1, by omega⟩
          refine .inr ?_
          simp only [Nat.add_sub_cancel] at h ⊢
          show W64 ^ k ≤ val W64 f k + W64 ^ k * f k
          exact Nat.le_trans (Nat.le_mul_of_pos_right _ (Nat.pos_of_ne_zero h)) (Nat.le_add_left _ _)
    · rintro ⟨hn, hd⟩
      have hv : val W64 f n1 = N := by
        rw [val_congr hd, val_dg, Nat.mod_eq_of_lt (by rw [hn]; exact hN1)]
      refine ⟨hv, ?_⟩
      by_cases h0 : n1 = 0
      · exact .inl h0
      · refine .inr fun hz => ?_
        obtain ⟨k, rfl⟩ : ∃ k, n1 = k + 1 := ⟨n1 - 1, by omega⟩
        simp only [Nat.add_sub_cancel] at hz
        rw [← hn] at hN2
        rcases hN2 with h | h
        · omega
        · have : val W64 f (k + 1) = val W64 f k := by show val W64 f k + W64 ^ k * f k = _; rw [hz, Nat.mul_zero, Nat.add_zero]
          have hl := val_lt (B := W64) (f := f) (n := k) fun i hi => hf i (by omega)
          simp only [Nat.add_sub_cancel] at h
          omega
  have hres : hasW f n1 N = decide (n1 = (n2 + 3) / 4 ∧ ∀ i, i < n1 → f i = dg W64 N i) := by
    unfold hasW; exact decide_eq_decide.2 hiff
  have HR := Lib.hid hres
  clear hiff hN1 hN2 hres
  by_cases hlen : n1 = (n2 + 3) / 4
  · have hne : ((n1 : Int) != (n1 : Int)) = false := by simp
    have HM := Lib.hid hlen
    rw [← hlen] at HR
    clear hlen
    go_enter Tryz.func96, Tryz.ntmps96
    go_wp2_with fail
    refine (words_len _ _ _ N n1 _ h2 (by omega) HM.out).mono ?_
    rintro e w1 ⟨g, cap, rfl, hcell, hgs, hB⟩
    have hc1 := hc.keep hB
    have HCL := Lib.hid hcell
    clear hcell hc
    go_wp2
    go_loopw [6, 16] (fun _ i wr => ∃ k : Nat, k ≤ n1 ∧ i = .int .i64 k ∧ (∀ j, j < k → f j = dg W64 N j) ∧ ∃ q, wr = w1.drewN q) (fun _ i _ => n1 - (intOf i).toNat)
    case atStart => exact ⟨0, Nat.zero_le _, rfl, fun _ h => by omega, 0, rfl⟩
    case round =>
      obtain ⟨k, hk, rfl, hall, q, rfl⟩ := hrel
      have HA := Lib.hid hall
      clear hall
      by_cases k1 : k < n1
      · obtain ⟨b1, o1, rfl, hx⟩ := hc1 (by omega)
        have e1 : w1.cell? ⟨b1, o1 + k, none⟩ = some (.int .u64 (f k : Nat)) := hx k k1
        have e2 : w1.cell? ⟨g, k, none⟩ = some (.int .u64 (dg W64 N k : Nat)) := HCL.out k k1
        clear hx hc1
        by_cases heq : f k = dg W64 N k
        · have hb : (((f k : Nat) : Int) != ((f k : Nat) : Int)) = false := by simp
          rw [← heq] at e2
          have HE := Lib.hid (show ∀ j, j = k → f j = dg W64 N j from fun j hj => by rw [hj]; exact heq)
          clear heq hf
          generalize f k = x at *
          go_wp2
          go_quiet (fail)
          go_wp2
          go_roundw
          case rel => exact ⟨k + 1, by omega, by go_num, fun j hj => by
            by_cases h : j < k
            · exact HA.out j h
            · obtain rfl : j = k := by omega
              exact HE.out j rfl, drewN_ex (by (try simp only [World.drewN_drewN]); exact rfl)⟩
          case measure => simp [intOf]; omega
        · have hb : (((f k : Nat) : Int) != ((dg W64 N k : Nat) : Int)) = true := by simp; omega
          have hfalse : hasW f n1 N = false := by
            rw [HR.out]; simp only [decide_eq_false_iff_not]
            exact fun h => heq (h.2 k k1)
          have HF := Lib.hid hfalse
          clear heq hf hfalse
          generalize f k = x at *
          generalize dg W64 N k = y at *
          go_wp2
          go_quiet (fail)
          go_wp2
          go_ret
          exact ⟨ret_bool HF.out.symm, below_drewN (below_drewN hB _) _⟩
      · obtain rfl : k = n1 := by omega
        have htrue : hasW f k N = true := by
          rw [HR.out]; simp only [decide_eq_true_eq]
          exact ⟨trivial, HA.out⟩
        have HF := Lib.hid htrue
        clear htrue hc1
        go_wp2
        go_ret
        exact ⟨ret_bool HF.out.symm, below_drewN hB _⟩
  · have hfalse : hasW f n1 N = false := by
      rw [HR.out]; simp only [decide_eq_false_iff_not]
      exact fun h => hlen h.1
    rw [hfalse]
    have hne : ((n1 : Int) != (((n2 + 3) / 4 : Nat) : Int)) = true := by simp; omega
    clear hfalse HR hlen
    go_enter Tryz.func96, Tryz.ntmps96
    go_wp2_with fail
    refine (words_any _ _ _ N _ h2 (by omega)).mono ?_
    rintro e w1 ⟨g, cap, rfl, hcell, hgs, hB⟩
    clear hcell
    go_wp2
    go_ret
    exact ⟨rfl, hB⟩
end Go.Proofs.YtdepmbpickonoaaGreatDoor
