/-
  The reference's natural numbers: Mul computes the product.
-/
import Derived.Test.YtdepmbpickonoaaGreatDoorSpec4
set_option linter.unusedSimpArgs false
set_option linter.unusedVariables false
namespace Go.Proofs.YtdepmbpickonoaaGreatDoor
open Go.RowKit Go.Bg Dg

set_option maxRecDepth 100000 in
set_option maxHeartbeats 2000000 in
theorem mul_any (a1 a2 : Option Addr) (n1 n2 c1 c2 N1 N2 : Nat) (w : World) (h1 : NatAt w a1 n1 c1 N1) (h2 : NatAt w a2 n2 c2 N2) (hb1 : n1 ≤ 1000000) (hb2 : n2 ≤ 1000000) :
    Calls Tryz.prog 32 #[.slice a1 n1 c1, .slice a2 n2 c2] w (Gives .i64 65536 (N1 * N2) w) := by
  go_enter Tryz.func32, Tryz.ntmps32
  go_wp2_with (at_make; refine wpList_mkrow rfl _ _ 29 rfl 3 _ Tryz.underlying29 infoInt rfl (n1 + n2) .i64 .i64 _ _ rfl rfl (by omega) (by omega) (by omega) ?_; intro w1 hrow hbel hsz)
  go_loopw [6, 7, 8, 9, 10, 19, 24, 25, 26] (fun _ _ _ _ _ i _ _ _ wr => ∃ k : Nat, k ≤ n1 ∧ i = .int .i64 k ∧ wr.rowIs w.heap.size 3 (n1 + n2) (dig (N1 % 65536 ^ k * N2)) ∧ Below w.heap.size w wr)
    (fun _ _ _ _ _ i _ _ _ _ => n1 - (intOf i).toNat)
  case atStart => exact ⟨0, Nat.zero_le _, rfl, hrow.congr (fun i hi => by rw [Nat.pow_zero, Nat.mod_one, Nat.zero_mul]; simp [dig, dg]), hbel⟩
  case round =>
    clear hrow hbel hsz
    obtain ⟨i, hi, rfl, hrow, hbel⟩ := hrel
    obtain ⟨wo, rfl⟩ : ∃ wo : World, wo = wr := ⟨_, rfl⟩
    by_cases k1 : i < n1
    · have h1' := h1.keep hbel
      obtain ⟨b1, o1, rfl, _⟩ := h1'.form (by omega)
      have e1 := h1'.cell k1
      have d1 : dg 65536 N1 i < 65536 := dg_lt (by decide) _ _
      have hdone := mul_done (B := 65536) (A := N1) (i := i) (by decide) h2.lt
      have hstep := fun k => mul_step (B := 65536) (by decide) (N1 % 65536 ^ i * N2) (dg 65536 N1 i) N2 i k
      have hlt := fun k => mulU_lt (B := 65536) (P := N1 % 65536 ^ i * N2) (Y := N2) (i := i) (k := k) (by decide) d1
      generalize N1 % 65536 ^ i * N2 = P at *
      generalize dg 65536 N1 i = x at *
      have HD := Lib.hid hdone
      have HS := Lib.hid hstep
      have HL := Lib.hid hlt
      clear hdone hstep hlt h1' h1
      go_wp2
      go_loopw [8, 9, 10, 26] (fun carry _ _ j wr => ∃ k : Nat, k ≤ n2 ∧ j = .int .i64 k ∧ carry = .int .i64 (mulU 65536 P x N2 i k / 65536 ^ (i + k) : Nat) ∧
          wr.rowIs w.heap.size 3 (n1 + n2) (fun j => if j < i + k then dig (mulT 65536 P x N2 i k) j else dig P j) ∧ Below w.heap.size w wr)
        (fun _ _ _ j _ => n2 - (intOf j).toNat)
      case atStart =>
        refine ⟨0, Nat.zero_le _, rfl, ?_, hrow.congr fun j hj => ?_, hbel⟩
        · have : mulU 65536 P x N2 i 0 / 65536 ^ (i + 0) = 0 := by
            unfold mulU; rw [Nat.pow_zero, Nat.mod_one, Nat.mul_zero, Nat.mul_zero, Nat.add_zero]
            exact Nat.div_eq_of_lt (Nat.mod_lt _ (Nat.pow_pos (by decide)))
          rw [this]; rfl
        · have : mulT 65536 P x N2 i 0 = P := by unfold mulT; rw [Nat.pow_zero, Nat.mod_one]; simp
          rw [this]; split <;> rfl
      case round =>
        clear hrow hbel e1
        obtain ⟨k, hk, rfl, rfl, hrow, hbel⟩ := hrel
        by_cases k2 : k < n2
        · have h2' := h2.keep hbel
          obtain ⟨b2, o2, rfl, _⟩ := h2'.form (by omega)
          have e2 := h2'.cell k2
          have d2 : dg 65536 N2 k < 65536 := dg_lt (by decide) _ _
          have hc : mulU 65536 P x N2 i k / 65536 ^ (i + k) < 65536 := HL.out k
          have hst := HS.out k
          have cO := hrow.cell (i := i + k) (by omega)
          simp only [Nat.lt_irrefl, if_false] at cO
          unfold dig at cO
          have dO : dg 65536 P (i + k) < 65536 := dg_lt (by decide) _ _
          have fO := hrow.frozen (i + k)
          have fin : ∀ t : Int, t = (mulU 65536 P x N2 i k / 65536 ^ (i + k) : Nat) + ((dg 65536 P (i + k) : Nat) + (x : Int) * (dg 65536 N2 k : Nat)) →
              (wr.setCell ⟨w.heap.size, i + k, none⟩ (.int .i64 (t % 65536))).rowIs w.heap.size 3 (n1 + n2) (fun j => if j < i + (k + 1) then dig (mulT 65536 P x N2 i (k + 1)) j else dig P j) ∧
              Value.int .i64 (t / 65536) = .int .i64 (mulU 65536 P x N2 i (k + 1) / 65536 ^ (i + (k + 1)) : Nat) := by
            intro t ht
            have ht' : t = ((mulU 65536 P x N2 i k / 65536 ^ (i + k) + (dg 65536 P (i + k) + x * dg 65536 N2 k) : Nat) : Int) := by rw [ht]; simp
            refine ⟨(hrow.set (i + k) _).congr fun j hj => ?_, by rw [ht', ← hst.2.1]; rfl⟩
            by_cases hjk : j = i + k
            · subst hjk
              rw [if_pos rfl, if_pos (by omega), ht']
              show _ = Value.int .i64 (dg 65536 (mulT 65536 P x N2 i (k + 1)) (i + k) : Nat)
              rw [← hst.1]; rfl
            · rw [if_neg hjk]
              by_cases hj2 : j < i + k
              · rw [if_pos hj2, if_pos (by omega)]
                show Value.int .i64 _ = Value.int .i64 _
                rw [hst.2.2 j hj2]
              · rw [if_neg hj2, if_neg (by omega)]
          have HF := Lib.hid fin
          clear fin hst hrow h2'
          generalize mulU 65536 P x N2 i k / 65536 ^ (i + k) = cy at *
          generalize dg 65536 P (i + k) = p at *
          generalize dg 65536 N2 k = y at *
          have hm0 : (0 : Int) ≤ (x : Int) * (y : Int) := Int.mul_nonneg (by omega) (by omega)
          have hm1 : (x : Int) * (y : Int) ≤ 65535 * 65535 := Int.mul_le_mul (by omega) (by omega) (by omega) (by omega)
          go_wp2
          have F := HF.out _ rfl
          go_roundw
          case rel => exact ⟨k + 1, by omega, by go_num, F.2, F.1, hbel.setCell (Nat.le_refl _) _⟩
          case measure => simp [intOf]; omega
        · obtain rfl : k = n2 := by omega
          have hd := HD.out
          have fO := hrow.frozen (i + k)
          have hlen := hrow.lt
          have cO := hrow.cell (i := i + k) (by omega)
          have fin : (wr.setCell ⟨w.heap.size, i + k, none⟩ (.int .i64 (mulU 65536 P x N2 i k / 65536 ^ (i + k) : Nat))).rowIs w.heap.size 3 (n1 + k) (dig (N1 % 65536 ^ (i + 1) * N2)) := by
            refine (hrow.set (i + k) _).congr fun j hj => ?_
            by_cases hjk : j = i + k
            · subst hjk
              rw [if_pos rfl, hd.2.1]; rfl
            · rw [if_neg hjk]
              by_cases hj2 : j < i + k
              · rw [if_pos hj2, hd.1]
              · rw [if_neg hj2]
                show Value.int .i64 _ = Value.int .i64 _
                rw [hd.2.2 j (by omega)]
          have HF := Lib.hid fin
          clear fin hd hrow
          simp only [Nat.lt_irrefl, if_false] at cO
          generalize mulU 65536 P x N2 i k / 65536 ^ (i + k) = cy at *
          go_wp2
          go_roundw
          case rel => exact ⟨i + 1, by omega, by go_num, HF.out, hbel.setCell (Nat.le_refl _) _⟩
          case measure => simp [intOf]; omega
    · obtain rfl : i = n1 := by omega
      have hm : N1 % 65536 ^ i = N1 := Nat.mod_eq_of_lt h1.lt
      rw [hm] at hrow
      have hlt : N1 * N2 < 65536 ^ (i + n2) := by
        rw [Nat.pow_add]; exact Nat.mul_lt_mul'' h1.lt h2.lt
      have HL := Lib.hid hlt
      have HC := Lib.hid (rowIs_cells hrow)
      clear hrow hm hlt h1 h2
      go_wp2_with (go_at_call 92; refine (trim_any _ _ _ (dg 65536 (N1 * N2)) _ (by omega) (Nat.le_refl _) (fun _ => ⟨_, 0, rfl, fun i hi => by rw [Nat.zero_add]; exact HC.out i hi⟩)).mono ?_; rintro e w2 ⟨rfl, rfl⟩)
      go_ret
      exact ⟨_, _, _, rfl, natAt_of_row HL.out (Nat.le_refl _) (by unfold maxLen; omega) HC.out, hbel⟩
end Go.Proofs.YtdepmbpickonoaaGreatDoor
