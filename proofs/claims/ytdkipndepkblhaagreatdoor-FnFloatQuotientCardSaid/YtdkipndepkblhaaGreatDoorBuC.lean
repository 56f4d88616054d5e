/-
  The reference's natural numbers: Mul computes the product.
  The reference's natural numbers: DivMod and Gcd compute what they say.
  The reference's natural numbers: Of, Words, HasWords say what words are.
  The reference's natural numbers: Words and HasWords.
-/
import Derived.Test.YtdkipndepkblhaaGreatDoorBuB
set_option linter.unusedSimpArgs false
set_option linter.unusedVariables false
namespace Go.Proofs.YtdkipndepkblhaaGreatDoor
open Go.RowKit Go.Bg Dg

set_option maxRecDepth 100000 in
set_option maxHeartbeats 2000000 in
theorem mul_any (a1 a2 : Option Addr) (n1 n2 c1 c2 N1 N2 : Nat) (w : World) (h1 : NatAt w a1 n1 c1 N1) (h2 : NatAt w a2 n2 c2 N2) (hb1 : n1 ≤ 1000000) (hb2 : n2 ≤ 1000000) :
    Calls Tryz.prog 47 #[.slice a1 n1 c1, .slice a2 n2 c2] w (Gives .i64 65536 (N1 * N2) w) := by
  go_enter Tryz.func47, Tryz.ntmps47
  go_wp2_with (at_make; refine wpList_mkrow rfl _ _ 29 rfl 3 _ Tryz.underlying29 infoInt rfl (n1 + n2) .i64 .i64 _ _ rfl rfl (by omega) (by omega) (by omega) ?_; intro w1 hrow hbel hsz)
  go_loopw [6, 7, 8, 9, 10, 19, 24, 25, 26] (fun _ _ _ _ _ i _ _ _ wr => ∃ k : Nat, k ≤ n1 ∧ i = .int .i64 k ∧ wr.rowIs w.heap.size 3 (n1 + n2) (dig (N1 % 65536 ^ k * N2)) ∧ Below w.heap.size w wr)
    (fun _ _ _ _ _ i _ _ _ _ => n1 - (intOf i).toNat)
  case atStart => exact ⟨0, Nat.zero_le _, rfl, hrow.congr (fun i hi => by rw [Nat.pow_zero, Nat.mod_one, Nat.zero_mul]; simp [dig, dg]), hbel⟩
  case round =>
    clear hrow hbel hsz
    obtain ⟨i, hi, rfl, hrow, hbel⟩ := hrel
    obtain ⟨wo, rfl⟩ : ∃ wo : World, wo = wr := ⟨_, rfl⟩
    by_cases k1 : i < n1
    · have h1' := h1.keep hbel
      obtain ⟨b1, o1, rfl, _⟩ := h1'.form (by omega)
      have e1 := h1'.cell k1
      have d1 : dg 65536 N1 i < 65536 := dg_lt (by decide) _ _
      have hdone := mul_done (B := 65536) (A := N1) (i := i) (by decide) h2.lt
      have hstep := fun k => mul_step (B := 65536) (by decide) (N1 % 65536 ^ i * N2) (dg 65536 N1 i) N2 i k
      have hlt := fun k => mulU_lt (B := 65536) (P := N1 % 65536 ^ i * N2) (Y := N2) (i := i) (k := k) (by decide) d1
      generalize N1 % 65536 ^ i * N2 = P at *
      generalize dg 65536 N1 i = x at *
      have HD := Lib.hid hdone
      have HS := Lib.hid hstep
      have HL := Lib.hid hlt
      clear hdone hstep hlt h1' h1
      go_wp2
      go_loopw [8, 9, 10, 26] (fun carry _ _ j wr => ∃ k : Nat, k ≤ n2 ∧ j = .int .i64 k ∧ carry = .int .i64 (mulU 65536 P x N2 i k / 65536 ^ (i + k) : Nat) ∧
          wr.rowIs w.heap.size 3 (n1 + n2) (fun j => if j < i + k then dig (mulT 65536 P x N2 i k) j else dig P j) ∧ Below w.heap.size w wr)
        (fun _ _ _ j _ => n2 - (intOf j).toNat)
      case atStart =>
        refine ⟨0, Nat.zero_le _, rfl, ?_, hrow.congr fun j hj => ?_, hbel⟩
        · have : mulU 65536 P x N2 i 0 / 65536 ^ (i + 0) = 0 := by
            unfold mulU; rw [Nat.pow_zero, Nat.mod_one, Nat.mul_zero, Nat.mul_zero, Nat.add_zero]
            exact Nat.div_eq_of_lt (Nat.mod_lt _ (Nat.pow_pos (by decide)))
          rw [this]; rfl
        · have : mulT 65536 P x N2 i 0 = P := by unfold mulT; rw [Nat.pow_zero, Nat.mod_one]; simp
          rw [this]; split <;> rfl
      case round =>
        clear hrow hbel e1
        obtain ⟨k, hk, rfl, rfl, hrow, hbel⟩ := hrel
        by_cases k2 : k < n2
        · have h2' := h2.keep hbel
          obtain ⟨b2, o2, rfl, _⟩ := h2'.form (by omega)
          have e2 := h2'.cell k2
          have d2 : dg 65536 N2 k < 65536 := dg_lt (by decide) _ _
          have hc : mulU 65536 P x N2 i k / 65536 ^ (i + k) < 65536 := HL.out k
          have hst := HS.out k
          have cO := hrow.cell (i := i + k) (by omega)
          simp only [Nat.lt_irrefl, if_false] at cO
          unfold dig at cO
          have dO : dg 65536 P (i + k) < 65536 := dg_lt (by decide) _ _
          have fO := hrow.frozen (i + k)
          have fin : ∀ t : Int, t = (mulU 65536 P x N2 i k / 65536 ^ (i + k) : Nat) + ((dg 65536 P (i + k) : Nat) + (x : Int) * (dg 65536 N2 k : Nat)) →
              (wr.setCell ⟨w.heap.size, i + k, none⟩ (.int .i64 (t % 65536))).rowIs w.heap.size 3 (n1 + n2) (fun j => if j < i + (k + 1) then dig (mulT 65536 P x N2 i (k + 1)) j else dig P j) ∧
              Value.int .i64 (t / 65536) = .int .i64 (mulU 65536 P x N2 i (k + 1) / 65536 ^ (i + (k + 1)) : Nat) := by
            intro t ht
            have ht' : t = ((mulU 65536 P x N2 i k / 65536 ^ (i + k) + (dg 65536 P (i + k) + x * dg 65536 N2 k) : Nat) : Int) := by rw [ht]; simp
            refine ⟨(hrow.set (i + k) _).congr fun j hj => ?_, by rw [ht', ← hst.2.1]; rfl⟩
            by_cases hjk : j = i + k
            · subst hjk
              rw [if_pos rfl, if_pos (by omega), ht']
              show _ = Value.int .i64 (dg 65536 (mulT 65536 P x N2 i (k + 1)) (i + k) : Nat)
              rw [← hst.1]; rfl
            · rw [if_neg hjk]
              by_cases hj2 : j < i + k
              · rw [if_pos hj2, if_pos (by omega)]
                show Value.int .i64 _ = Value.int .i64 _
                rw [hst.2.2 j hj2]
              · rw [if_neg hj2, if_neg (by omega)]
          have HF := Lib.hid fin
          clear fin hst hrow h2'
          generalize mulU 65536 P x N2 i k / 65536 ^ (i + k) = cy at *
          generalize dg 65536 P (i + k) = p at *
          generalize dg 65536 N2 k = y at *
          have hm0 : (0 : Int) ≤ (x : Int) * (y : Int) := Int.mul_nonneg (by omega) (by omega)
          have hm1 : (x : Int) * (y : Int) ≤ 65535 * 65535 := Int.mul_le_mul (by omega) (by omega) (by omega) (by omega)
          go_wp2
          have F := HF.out _ rfl
          go_roundw
          case rel => exact ⟨k + 1, by omega, by go_num, F.2, F.1, hbel.setCell (Nat.le_refl _) _⟩
          case measure => simp [intOf]; omega
        · obtain rfl : k = n2 := by omega
          have hd := HD.out
          have fO := hrow.frozen (i + k)
          have hlen := hrow.lt
          have cO := hrow.cell (i := i + k) (by omega)
          have fin : (wr.setCell ⟨w.heap.size, i + k, none⟩ (.int .i64 (mulU 65536 P x N2 i k / 65536 ^ (i + k) : Nat))).rowIs w.heap.size 3 (n1 + k) (dig (N1 % 65536 ^ (i + 1) * N2)) := by
            refine (hrow.set (i + k) _).congr fun j hj => ?_
            by_cases hjk : j = i + k
            · subst hjk
              rw [if_pos rfl, hd.2.1]; rfl
            · rw [if_neg hjk]
              by_cases hj2 : j < i + k
              · rw [if_pos hj2, hd.1]
              · rw [if_neg hj2]
                show Value.int .i64 _ = Value.int .i64 _
                rw [hd.2.2 j (by omega)]
          have HF := Lib.hid fin
          clear fin hd hrow
          simp only [Nat.lt_irrefl, if_false] at cO
          generalize mulU 65536 P x N2 i k / 65536 ^ (i + k) = cy at *
          go_wp2
          go_roundw
          case rel => exact ⟨i + 1, by omega, by go_num, HF.out, hbel.setCell (Nat.le_refl _) _⟩
          case measure => simp [intOf]; omega
    · obtain rfl : i = n1 := by omega
      have hm : N1 % 65536 ^ i = N1 := Nat.mod_eq_of_lt h1.lt
      rw [hm] at hrow
      have hlt : N1 * N2 < 65536 ^ (i + n2) := by
        rw [Nat.pow_add]; exact Nat.mul_lt_mul'' h1.lt h2.lt
      have HL := Lib.hid hlt
      have HC := Lib.hid (rowIs_cells hrow)
      clear hrow hm hlt h1 h2
      go_wp2_with (go_at_call 102; refine (trim_any _ _ _ (dg 65536 (N1 * N2)) _ (by omega) (Nat.le_refl _) (fun _ => ⟨_, 0, rfl, fun i hi => by rw [Nat.zero_add]; exact HC.out i hi⟩)).mono ?_; rintro e w2 ⟨rfl, rfl⟩)
      go_ret
      exact ⟨_, _, _, rfl, natAt_of_row HL.out (Nat.le_refl _) (by unfold maxLen; omega) HC.out, hbel⟩
end Go.Proofs.YtdkipndepkblhaaGreatDoor

set_option linter.unusedSimpArgs false
set_option linter.unusedVariables false
namespace Go.Proofs.YtdkipndepkblhaaGreatDoor
open Go.RowKit Go.Bg Dg

/-- quotient and remainder -/
def Gives2 (Q R : Nat) (w : World) (e : Ending) (w' : World) : Prop :=
  ∃ a n c a' n' c', e = .returned (.tuple #[.slice a n c, .slice a' n' c']) ∧ NatAt w' a n c Q ∧ NatAt w' a' n' c' R ∧ Below w.heap.size w w'

theorem cmpI_le {X Y : Nat} (h : X ≤ Y) : (cmpI X Y : Int) ≤ 0 := by unfold cmpI; split; · decide
                                                                     · rw [if_neg (by omega)]; decide
theorem cmpI_gt {X Y : Nat} (h : Y < X) : ¬ (cmpI X Y : Int) ≤ 0 := by unfold cmpI; rw [if_neg (by omega), if_pos h]; decide

set_option maxRecDepth 100000 in
set_option maxHeartbeats 2000000 in
theorem divMod_any (a1 a2 : Option Addr) (n1 n2 c1 c2 N1 N2 : Nat) (w : World) (h1 : NatAt w a1 n1 c1 N1) (h2 : NatAt w a2 n2 c2 N2) (hb1 : n1 ≤ 400000) (hb2 : n2 ≤ 400000) (hpos : 0 < N2) :
    Calls Tryz.prog 109 #[.slice a1 n1 c1, .slice a2 n2 c2] w (Gives2 (N1 / N2) (N1 % N2) w) := by
  by_cases hone : n2 = 1
  · subst hone
    obtain ⟨b2, o2, rfl, _⟩ := h2.form (by omega)
    have e2 := h2.cell (i := 0) (by omega)
    have hl2 := h2.lt
    have hd : dg 65536 N2 0 = N2 := by rw [dg]; simp at hl2 ⊢; exact hl2
    rw [hd] at e2
    simp only [Nat.add_zero] at e2
    simp at hl2
    clear hd
    go_enter Tryz.func109, Tryz.ntmps109
    go_wp2_with fail
    refine (byDigit_any _ _ _ N1 N2 _ h1 (by omega) (by omega) (by omega)).mono ?_
    rintro e w1 ⟨aq, nq, cq, rfl, hQ, hB⟩
    go_wp2_with fail
    refine (small_any (N1 % N2) _ (by have := Nat.mod_lt N1 hpos; omega)).mono ?_
    rintro e w2 ⟨ar, nr, cr, rfl, hR, hB2⟩
    go_wp2
    go_ret2
    exact ⟨_, _, _, _, _, _, rfl, hQ.keep hB2, hR, hB.trans (hB2.mono hB.size)⟩
  · have hne : ((n2 : Int) == 1) = false := by simp; omega
    have hbl1 := bl_le h1.lt
    have hbl2 := bl_le h2.lt
    have hst := div_start (N := N1) hpos
    have HST := Lib.hid hst
    have HH1 := Lib.hid h1
    have HH2 := Lib.hid h2
    clear hst
    go_enter Tryz.func109, Tryz.ntmps109
    go_wp2_with fail
    refine (len_any a1 n1 c1 N1 _ (h1.keep ((Below.refl _ _).alloc (Nat.le_refl _) _)) (by omega)).mono ?_
    rintro e w1 ⟨rfl, rfl⟩
    go_wp2_with fail
    refine (len_any a2 n2 c2 N2 _ (h2.keep ((Below.refl _ _).alloc (Nat.le_refl _) _)) (by omega)).mono ?_
    rintro e w1 ⟨rfl, rfl⟩
    clear h1 h2
    go_wp2_with fail
    go_loopw [0, 8, 9, 10] (fun va vq vi _ wr => ∃ (aA : Option Addr) (nA cA : Nat) (aQ : Option Addr) (nQ cQ A Q : Nat) (iv : Int), va = .slice aA nA cA ∧ vq = .slice aQ nQ cQ ∧ vi = .int .i64 iv ∧
        NatAt wr aA nA cA A ∧ NatAt wr aQ nQ cQ Q ∧ N1 = Q * N2 + A ∧ A < N2 * 2 ^ (iv + 1).toNat ∧ iv ≤ 6400000 ∧ -10000000 ≤ iv ∧ Below w.heap.size w wr)
      (fun _ _ vi _ _ => (intOf vi + 1).toNat)
    case atStart =>
      refine ⟨_, _, _, _, 0, 0, N1, 0, _, rfl, rfl, rfl, HH1.out.keep ((Below.refl _ _).alloc (Nat.le_refl _) _), ⟨by simp, .inl rfl, Nat.le_refl _, by simp [maxLen], fun h => by omega⟩, by simp, HST.out, by omega, by omega, (Below.refl _ _).alloc (Nat.le_refl _) _⟩
    case round =>
      obtain ⟨aA, nA, cA, aQ, nQ, cQ, A, Q, iv, rfl, rfl, rfl, hA, hQ, hN, hlt, hi1, hi2, hbel⟩ := hrel
      have hAle : A ≤ N1 := by rw [hN]; exact Nat.le_add_left _ _
      have hQle : Q ≤ N1 := by rw [hN]; exact Nat.le_trans (Nat.le_mul_of_pos_right _ hpos) (Nat.le_add_right _ _)
      have hnA : nA ≤ n1 := hA.len16 (Nat.lt_of_le_of_lt hAle HH1.out.lt)
      have hnQ : nQ ≤ n1 := hQ.len16 (Nat.lt_of_le_of_lt hQle HH1.out.lt)
      by_cases hneg : iv < 0
      · have e0 : (iv + 1).toNat = 0 := by omega
        rw [e0, Nat.pow_zero, Nat.mul_one] at hlt
        have hq : N1 / N2 = Q ∧ N1 % N2 = A := by
          rw [hN, Nat.mul_comm Q]
          exact ⟨by rw [Nat.mul_add_div hpos, Nat.div_eq_of_lt hlt, Nat.add_zero], by rw [Nat.mul_add_mod, Nat.mod_eq_of_lt hlt]⟩
        have HQ := Lib.hid hq
        clear hN hlt hq e0 hAle hQle
        go_wp2
        go_ret2
        refine ⟨_, _, _, _, _, _, rfl, ?_, ?_, hbel⟩
        · rw [HQ.out.1]; exact hQ
        · rw [HQ.out.2]; exact hA
      · obtain ⟨i, rfl⟩ : ∃ i : Nat, iv = i := ⟨iv.toNat, by omega⟩
        have e0 : ((i : Int) + 1).toNat = i + 1 := by omega
        rw [e0] at hlt
        have hD : N2 * 2 ^ i < 65536 ^ (n2 + (i / 16 + 1)) := by
          rw [Nat.pow_add]
          refine Nat.mul_lt_mul'' HH2.out.lt ?_
          rw [show (65536 : Nat) = 2 ^ 16 from rfl, ← Nat.pow_mul]
          exact Nat.pow_lt_pow_right (by decide) (by omega)
        have h2' := HH2.out.keep hbel
        by_cases hle : N2 * 2 ^ i ≤ A
        · have hcl := cmpI_le hle
          have new1 : N1 = (Q + 2 ^ i) * N2 + (A - N2 * 2 ^ i) := by rw [hN, Nat.add_mul, Nat.mul_comm (2 ^ i)]; omega
          have new2 : A - N2 * 2 ^ i < N2 * 2 ^ i := by rw [Nat.pow_succ, ← Nat.mul_assoc] at hlt; omega
          have HN1 := Lib.hid new1
          have HN2 := Lib.hid new2
          have HD := Lib.hid hD
          have hBb : 2 ^ i < 65536 ^ (i / 16 + 1) := by
            rw [show (65536 : Nat) = 2 ^ 16 from rfl, ← Nat.pow_mul]
            exact Nat.pow_lt_pow_right (by decide) (by omega)
          have HBb := Lib.hid hBb
          have HLE := Lib.hid hle
          clear hN hlt new1 new2 e0 hD hBb hle hAle hQle
          go_wp2_with fail
          refine (shl_any _ _ _ N2 i _ h2' (by omega) (by omega)).mono ?_
          rintro e w1 ⟨aD, nD, cD, rfl, hDN, hB1⟩
          have hnD := hDN.len16 HD.out
          go_wp2_with fail
          refine (cmp_any _ _ _ _ _ _ (N2 * 2 ^ i) A _ hDN (hA.keep hB1) (by omega) (by omega)).mono ?_
          rintro e w2 ⟨rfl, hdr⟩
          have hB2 : Below w1.heap.size w1 w2 := below_of_drewN hdr
          go_wp2_with fail
          refine (sub_any _ _ _ _ _ _ A (N2 * 2 ^ i) _ ((hA.keep hB1).keep hB2) (hDN.keep hB2) (by omega) (by omega) HLE.out).mono ?_
          rintro e w3 ⟨aS, nS, cS, rfl, hS, hB3⟩
          go_wp2_with fail
          refine (bit_any i _ (by omega)).mono ?_
          rintro e w4 ⟨aB, nB, cB, rfl, hBt, hB4⟩
          have hnB := hBt.len16 HBb.out
          go_wp2_with fail
          refine (add_any _ _ _ _ _ _ Q (2 ^ i) _ ((((hQ.keep hB1).keep hB2).keep hB3).keep hB4) hBt (by omega) (by omega)).mono ?_
          rintro e w5 ⟨aT, nT, cT, rfl, hT, hB5⟩
          go_wp2
          go_roundw
          case rel =>
            refine ⟨_, _, _, _, _, _, A - N2 * 2 ^ i, Q + 2 ^ i, (i : Int) - 1, rfl, rfl, rfl, (hS.keep hB4).keep hB5, hT, HN1.out, ?_, by omega, by omega, ?_⟩
            · rw [show ((i : Int) - 1 + 1).toNat = i from by omega]; exact HN2.out
            · exact Below.then (Below.then (Below.then (Below.then (Below.then hbel (Nat.le_refl _) hB1) (Nat.le_refl _) hB2) (Nat.le_refl _) hB3) (Nat.le_refl _) hB4) (Nat.le_refl _) hB5
          case measure => simp [intOf]
        · have hcl := cmpI_gt (by omega : A < N2 * 2 ^ i)
          have HN1 := Lib.hid hN
          have HN2 := Lib.hid (by omega : A < N2 * 2 ^ i)
          have HD := Lib.hid hD
          clear hN hlt e0 hD hle hAle hQle
          go_wp2_with fail
          refine (shl_any _ _ _ N2 i _ h2' (by omega) (by omega)).mono ?_
          rintro e w1 ⟨aD, nD, cD, rfl, hDN, hB1⟩
          have hnD := hDN.len16 HD.out
          go_wp2_with fail
          refine (cmp_any _ _ _ _ _ _ (N2 * 2 ^ i) A _ hDN (hA.keep hB1) (by omega) (by omega)).mono ?_
          rintro e w2 ⟨rfl, hdr⟩
          have hB2 : Below w1.heap.size w1 w2 := below_of_drewN hdr
          go_wp2
          go_roundw
          case rel =>
            refine ⟨_, _, _, _, _, _, A, Q, (i : Int) - 1, rfl, rfl, rfl, (hA.keep hB1).keep hB2, (hQ.keep hB1).keep hB2, HN1.out, ?_, by omega, by omega, ?_⟩
            · rw [show ((i : Int) - 1 + 1).toNat = i from by omega]; exact HN2.out
            · exact Below.then (Below.then hbel (Nat.le_refl _) hB1) (Nat.le_refl _) hB2
          case measure => simp [intOf]

set_option maxRecDepth 100000 in
set_option maxHeartbeats 1000000 in
theorem gcd_any (a1 a2 : Option Addr) (n1 n2 c1 c2 N1 N2 : Nat) (w : World) (h1 : NatAt w a1 n1 c1 N1) (h2 : NatAt w a2 n2 c2 N2) (hb1 : n1 ≤ 400000) (hb2 : n2 ≤ 400000) :
    Calls Tryz.prog 108 #[.slice a1 n1 c1, .slice a2 n2 c2] w (Gives .i64 65536 (Nat.gcd N1 N2) w) := by
  go_enter Tryz.func108, Tryz.ntmps108
  go_wp2_with fail
  go_loopg [0, 1, 5, 6, 10, 14] N2 (fun gk va vb _ _ _ _ wr => ∃ (a : Option Addr) (n c : Nat) (a' : Option Addr) (n' c' A B : Nat), va = .slice a n c ∧ vb = .slice a' n' c' ∧ NatAt wr a n c A ∧ NatAt wr a' n' c' B ∧ n ≤ 400000 ∧ n' ≤ 400000 ∧ Nat.gcd A B = Nat.gcd N1 N2 ∧ B ≤ gk ∧ Below w.heap.size w wr)
  case atStart => exact ⟨_, _, _, _, _, _, N1, N2, rfl, rfl, h1, h2, hb1, hb2, rfl, Nat.le_refl _, Below.refl _ _⟩
  case round =>
    obtain ⟨a, n, c, a', n', c', A, B, rfl, rfl, hA, hB, hn, hn', hg, hk, hbel⟩ := hrel
    by_cases h0 : n' = 0
    · subst h0
      have hB0 : B = 0 := by have := hB.lt; simpa using this
      subst hB0
      rw [Nat.gcd_zero_right] at hg
      have HG := Lib.hid hg
      clear hg h1 h2 hB
      go_wp2_with fail
      go_ret
      exact ⟨_, _, _, rfl, by rw [← HG.out]; exact hA, hbel⟩
    · have hBpos : 0 < B := by
        rcases hB.top with h | h
        · omega
        · exact Nat.lt_of_lt_of_le (Nat.pow_pos (by decide)) h
      have hlt : A % B < B := Nat.mod_lt _ hBpos
      have hRb : A % B < 65536 ^ n' := Nat.lt_trans hlt hB.lt
      have hgg : Nat.gcd B (A % B) = Nat.gcd N1 N2 := by rw [← hg, Nat.gcd_comm B, ← Nat.gcd_rec, Nat.gcd_comm]
      have HG := Lib.hid hgg
      have HL := Lib.hid hlt
      have HR := Lib.hid hRb
      clear hg hgg hlt hRb h1 h2
      go_wp2_with fail
      refine (divMod_any _ _ _ _ _ _ A B _ hA hB hn hn' hBpos).mono ?_
      rintro e w1 ⟨aQ, nQ, cQ, aR, nR, cR, rfl, hQ, hR, hB1⟩
      have hnR := hR.len16 HR.out
      go_wp2_with fail
      go_roundg (A % B)
      case rel => exact ⟨_, _, _, _, _, _, B, A % B, rfl, rfl, hB.keep hB1, hR, hn', by omega, HG.out, Nat.le_refl _, Below.then hbel (Nat.le_refl _) hB1⟩
      case measure => have := HL.out; omega
end Go.Proofs.YtdkipndepkblhaaGreatDoor

set_option linter.unusedSimpArgs false
set_option linter.unusedVariables false
namespace Go.Proofs.YtdkipndepkblhaaGreatDoor
open Go.RowKit Go.Bg Dg

theorem dg_words (f : Nat → Nat) (n i k : Nat) (hf : ∀ i, i < n → f i < W64) (hi : i < n) (hk : k < 4) : f i / 65536 ^ k % 65536 = dg 65536 (val W64 f n) (4 * i + k) := by
  have h := dg_val (B := W64) hf i hi
  rw [← h, dg, dg, W64_16, ← Nat.pow_mul, Nat.pow_add, ← Nat.div_div_eq_div_mul]
  obtain ⟨m, hm⟩ : ∃ m, 4 = k + (m + 1) := ⟨3 - k, by omega⟩
  have e : (65536 : Nat) ^ 4 = 65536 ^ k * (65536 * 65536 ^ m) := by rw [← Nat.pow_succ', ← Nat.pow_add, ← hm]
  rw [e, Nat.mod_mul_right_div_self, Nat.mod_mul_right_mod]

set_option maxRecDepth 100000 in
set_option maxHeartbeats 2000000 in
theorem of_any (a1 : Option Addr) (n1 c1 : Nat) (f : Nat → Nat) (w : World) (hc : Cells w a1 n1 (fun i => .int .u64 (f i : Nat))) (hf : ∀ i, i < n1 → f i < W64) (hb1 : n1 ≤ 100000) :
    Calls Tryz.prog 42 #[.slice a1 n1 c1] w (Gives .i64 65536 (val W64 f n1) w) := by
  obtain ⟨i0, hi, hz0, hz1, hz2⟩ := info_parts infoInt
  go_enter Tryz.func42, Tryz.ntmps42
  go_wp2
  go_loopw [3, 5, 6, 10] (fun out _ _ i wr => ∃ k : Nat, k ≤ n1 ∧ i = .int .i64 k ∧ wr.ownsRow w.heap.size 3 1 out (4 * k) ((List.range (4 * k)).map (dig (val W64 f n1))) ∧ out ≠ .slice none 0 0 ∧ Below w.heap.size w wr)
    (fun _ _ _ i _ => n1 - (intOf i).toNat)
  case atStart => exact ⟨0, Nat.zero_le _, rfl, World.ownsRow_made w #[] 0 (Nat.le_refl _) (by simp [maxLen]) rfl, by simp, (Below.refl _ _).alloc (Nat.le_refl _) _⟩
  case round =>
    obtain ⟨i, hik, rfl, hown, hne, hbel⟩ := hrel
    obtain ⟨wo, rfl⟩ : ∃ wo : World, wo = wr := ⟨_, rfl⟩
    by_cases k1 : i < n1
    · have hc' := hc.keep hbel
      obtain ⟨b1, o1, rfl, hcell⟩ := hc' (by omega)
      have e1 : wo.cell? ⟨b1, o1 + i, none⟩ = some (.int .u64 (f i : Nat)) := hcell i k1
      have hdw := fun k hk => dg_words f n1 i k hf k1 hk
      have hfi := hf i k1
      have HD := Lib.hid hdw
      clear hcell hdw hc hc'
      generalize f i = x at *
      have HX := Lib.hid hfi
      clear hfi
      go_wp2
      go_loopw [3, 6] (fun out k wr => ∃ j : Nat, j ≤ 4 ∧ k = .int .i64 j ∧ wr.ownsRow w.heap.size 3 1 out (4 * i + j) ((List.range (4 * i + j)).map (dig (val W64 f n1))) ∧ out ≠ .slice none 0 0 ∧ Below w.heap.size w wr)
        (fun _ k _ => 4 - (intOf k).toNat)
      case atStart => exact ⟨0, by omega, rfl, hown, hne, hbel⟩
      case round =>
        clear hown hne hbel e1
        obtain ⟨j, hj, rfl, hown, hne, hbel⟩ := hrel
        by_cases k2 : j < 4
        · have hb : bits BinOp.and IntKind.u64 ((x : Int) / 2 ^ (16 * j)) 65535 = ((x / 65536 ^ j % 65536 : Nat) : Int) := by
            have e : ((x : Int) / 2 ^ (16 * j)) = ((x / 65536 ^ j : Nat) : Int) := by
              rw [show (65536 : Nat) = 2 ^ 16 from rfl, ← Nat.pow_mul]; simp
            have hlt : x / 65536 ^ j < 18446744073709551616 := Nat.lt_of_le_of_lt (Nat.div_le_self _ _) (W64_lt HX.out)
            rw [e, show (65535 : Int) = ((65535 : Nat) : Int) from rfl, u64_and_nat _ _ hlt (by decide), nat_mask16]
          have hy : x / 65536 ^ j % 65536 < 65536 := Nat.mod_lt _ (by decide)
          have hd : x / 65536 ^ j % 65536 = dg 65536 (val W64 f n1) (4 * i + j) := HD.out j k2
          have HD2 := Lib.hid hd
          clear hd
          generalize x / 65536 ^ j % 65536 = y at *
          go_wp2_with (at_builtin; refine wpList_app1 rfl _ _ 29 rfl w.heap.size 3 i0 _ 8 Tryz.underlying29 hi hz0 hz1 hz2 rfl (by decide) _ _ _ _ rfl rfl rfl hown rfl (by omega) (hbel).size ?_; intro v' w1 hown1 hbel1 hne1)
          have hown1 : w1.ownsRow w.heap.size 3 1 v' (4 * i + (j + 1)) ((List.range (4 * i + (j + 1))).map (dig (val W64 f n1))) := by
            rw [show 4 * i + (j + 1) = 4 * i + j + 1 from rfl, map_range_succ, dig, ← HD2.out]; exact hown1
          go_roundw
          case rel => exact ⟨j + 1, by omega, by go_num, hown1, hne1, hbel.trans hbel1⟩
          case measure => simp [intOf]; omega
        · obtain rfl : j = 4 := by omega
          go_wp2
          go_roundw
          case rel => exact ⟨i + 1, by omega, by go_num, hown, hne, hbel⟩
          case measure => simp [intOf]; omega
    · obtain rfl : i = n1 := by omega
      have hlt : val W64 f i < 65536 ^ (4 * i) := by
        have := val_lt hf
        rw [W64_16, ← Nat.pow_mul] at this; exact this
      have HL := Lib.hid hlt
      obtain ⟨g, cap, rfl, hg, hgs, hnc, hcm, hcell⟩ := own_form hown hne
      have HC := Lib.hid (row_cells hcell)
      clear hcell hown hlt hc hf
      go_wp2_with (go_at_call 102; refine (trim_any _ _ _ (dg 65536 (val W64 f i)) _ (by omega) hnc (fun _ => ⟨g, 0, rfl, fun i hi => by rw [Nat.zero_add]; exact HC.out i hi⟩)).mono ?_; rintro e w2 ⟨rfl, rfl⟩)
      go_ret
      exact ⟨_, _, _, rfl, natAt_of_row HL.out hnc hcm HC.out, hbel⟩
end Go.Proofs.YtdkipndepkblhaaGreatDoor

set_option linter.unusedSimpArgs false
set_option linter.unusedVariables false
namespace Go.Proofs.YtdkipndepkblhaaGreatDoor
open Go.RowKit Go.Bg Dg

def wd (X j : Nat) : Value := .int .u64 (dg W64 X j : Nat)

theorem words_step (N k : Nat) :
    (∀ j, j < k / 4 → dg W64 (N % 65536 ^ (k + 1)) j = dg W64 (N % 65536 ^ k) j) ∧
    dg W64 (N % 65536 ^ (k + 1)) (k / 4) = dg W64 (N % 65536 ^ k) (k / 4) + dg 65536 N k * 65536 ^ (k % 4) ∧
    dg W64 (N % 65536 ^ k) (k / 4) < 65536 ^ (k % 4) := by
  have hk : k = 4 * (k / 4) + k % 4 := by omega
  have hp : 65536 ^ k = W64 ^ (k / 4) * 65536 ^ (k % 4) := by
    conv => lhs; rw [hk]
    rw [Nat.pow_add, Nat.pow_mul, ← W64_16]
  have hM : N % 65536 ^ k < 65536 ^ k := Nat.mod_lt _ (Nat.pow_pos (by decide))
  have hd : dg 65536 N k < 65536 := dg_lt (by decide) _ _
  have hs := mod_succ 65536 N k
  rw [hs, hp]
  rw [hp] at hM
  have hwp : 0 < W64 ^ (k / 4) := Nat.pow_pos W64_pos
  have hq : N % (W64 ^ (k / 4) * 65536 ^ (k % 4)) / W64 ^ (k / 4) < 65536 ^ (k % 4) := (Nat.div_lt_iff_lt_mul hwp).2 (by rw [Nat.mul_comm (65536 ^ (k % 4))]; exact hM)
  have hW : 65536 ^ (k % 4) * 65536 ≤ W64 := by
    rw [← Nat.pow_succ, W64_16]; exact Nat.pow_le_pow_right (by decide) (by omega)
  have hlt1 : N % (W64 ^ (k / 4) * 65536 ^ (k % 4)) / W64 ^ (k / 4) < W64 := Nat.lt_of_lt_of_le hq (Nat.le_trans (Nat.le_mul_of_pos_right _ (by decide)) hW)
  have e1 : dg W64 (N % (W64 ^ (k / 4) * 65536 ^ (k % 4))) (k / 4) = N % (W64 ^ (k / 4) * 65536 ^ (k % 4)) / W64 ^ (k / 4) := Nat.mod_eq_of_lt hlt1
  refine ⟨fun j hj => ?_, ?_, by rw [e1]; exact hq⟩
  · rw [Nat.mul_assoc, ← dg_mod (n := k / 4) _ hj, Nat.add_mul_mod_self_left, dg_mod _ hj]
  · rw [e1, dg, Nat.mul_assoc, Nat.add_mul_div_left _ _ hwp, Nat.mul_comm (65536 ^ (k % 4)), Nat.mod_eq_of_lt]
    have : (dg 65536 N k + 1) * 65536 ^ (k % 4) ≤ 65536 * 65536 ^ (k % 4) := Nat.mul_le_mul_right _ hd
    rw [Nat.add_mul, Nat.one_mul, Nat.mul_comm 65536] at this
    omega

theorem set_words (N k : Nat) (u : Value) (xs : List Value) (h : ∀ j, j < k / 4 → xs[j]? = some (wd (N % 65536 ^ k) j)) (hl : xs.length = k / 4 + 1)
    (hu : u = .int .u64 (dg W64 (N % 65536 ^ k) (k / 4) + dg 65536 N k * 65536 ^ (k % 4) : Nat)) :
    xs.set (k / 4) u = (List.range (k / 4 + 1)).map (wd (N % 65536 ^ (k + 1))) := by
  have hst := words_step N k
  apply List.ext_getElem?
  intro j
  by_cases hj : j = k / 4
  · subst hj
    rw [List.getElem?_set_self (by omega)]
    simp only [List.getElem?_map, List.getElem?_range (Nat.lt_succ_self _), Option.map_some]
    rw [hu, ← hst.2.1]; rfl
  · rw [List.getElem?_set_ne (fun h => hj h.symm)]
    by_cases hj2 : j < k / 4
    · rw [h j hj2]
      simp only [List.getElem?_map, List.getElem?_range (show j < k / 4 + 1 by omega), Option.map_some]
      rw [wd, wd, hst.1 j hj2]
    · rw [List.getElem?_eq_none (by omega), List.getElem?_eq_none (by simp; omega)]

theorem or_zero_u64 (x : Nat) (hx : x < 65536) : bits BinOp.or IntKind.u64 0 (x : Int) = x := by
  rw [show (0 : Int) = ((0 : Nat) : Int) from rfl, u64_or_nat _ _ (by decide) (by omega)]; simp

theorem or_join_u64 (y x r : Nat) (hx : x < 65536) (hr : r < 4) (hy : y < 65536 ^ r) :
    bits BinOp.or IntKind.u64 (y : Int) (IntKind.u64.wrap ((x : Int) * 2 ^ (16 * r))) = ((y + x * 65536 ^ r : Nat) : Int) := by
  have e : ((x : Int) * 2 ^ (16 * r)) = ((x * 65536 ^ r : Nat) : Int) := by
    rw [show (65536 : Nat) = 2 ^ 16 from rfl, ← Nat.pow_mul]; simp
  have hb : 65536 ^ r * 65536 ≤ 18446744073709551616 := by
    rw [← Nat.pow_succ]
    have : (65536 : Nat) ^ (r + 1) ≤ 65536 ^ 4 := Nat.pow_le_pow_right (by decide) (by omega)
    exact this
  have hxr : x * 65536 ^ r < 18446744073709551616 := by
    have : (x + 1) * 65536 ^ r ≤ 65536 * 65536 ^ r := Nat.mul_le_mul_right _ hx
    rw [Nat.add_mul, Nat.one_mul, Nat.mul_comm 65536] at this
    have : 0 < 65536 ^ r := Nat.pow_pos (by decide)
    omega
  have hy' : y < 18446744073709551616 := by omega
  rw [e, IntKind.wrap_u64, show (((x * 65536 ^ r : Nat) : Int) % 18446744073709551616) = ((x * 65536 ^ r : Nat) : Int) from by omega, u64_or_nat _ _ hy' hxr, Nat.or_comm,
    nat_join (16 * r) _ _ (by rw [show (65536 : Nat) = 2 ^ 16 from rfl, ← Nat.pow_mul, Nat.mul_mod_left]) (by rw [Nat.pow_mul]; exact hy), Nat.add_comm]

set_option maxRecDepth 100000 in
set_option maxHeartbeats 2000000 in
theorem words_any (a1 : Option Addr) (n1 c1 N : Nat) (w : World) (h1 : NatAt w a1 n1 c1 N) (hb1 : n1 ≤ 1000000) :
    Calls Tryz.prog 207 #[.slice a1 n1 c1] w fun e w' => ∃ g cap, e = .returned (.slice (some ⟨g, 0, none⟩) ((n1 + 3) / 4) cap) ∧ (∀ j, j < (n1 + 3) / 4 → w'.cell? ⟨g, j, none⟩ = some (wd N j)) ∧ g < w'.heap.size ∧ Below w.heap.size w w' := by
  obtain ⟨i0, hi, hz0, hz1, hz2⟩ := info_parts infoUint
  go_enter Tryz.func207, Tryz.ntmps207
  go_wp2
  go_loopw [3, 4, 5, 9] (fun out _ _ i wr => ∃ k : Nat, k ≤ n1 ∧ i = .int .i64 k ∧ wr.ownsRow w.heap.size 44 1 out ((k + 3) / 4) ((List.range ((k + 3) / 4)).map (wd (N % 65536 ^ k))) ∧ out ≠ .slice none 0 0 ∧ Below w.heap.size w wr)
    (fun _ _ _ i _ => n1 - (intOf i).toNat)
  case atStart => exact ⟨0, Nat.zero_le _, rfl, World.ownsRow_made w #[] 0 (Nat.le_refl _) (by simp [maxLen]) rfl, by simp, (Below.refl _ _).alloc (Nat.le_refl _) _⟩
  case round =>
    obtain ⟨k, hk, rfl, hown, hne, hbel⟩ := hrel
    by_cases k1 : k < n1
    · have h1' := h1.keep hbel
      obtain ⟨b1, o1, rfl, _⟩ := h1'.form (by omega)
      have e1 := h1'.cell k1
      have d1 : dg 65536 N k < 65536 := dg_lt (by decide) _ _
      have hst := words_step N k
      have hdg : dg W64 (N % 65536 ^ k) (k / 4) < 18446744073709551616 := W64_lt (dg_lt W64_pos _ _)
      clear h1'
      by_cases hr : k % 4 = 0
      · have hr0 : (((k : Int) % 4) == 0) = true := by simp; omega
        have hm : (k + 3) / 4 = k / 4 := by omega
        rw [hm] at hown
        have hz : dg W64 (N % 65536 ^ k) (k / 4) = 0 := by have := hst.2.2; rw [hr] at this; simpa using this
        have fin : ∀ (u : Value) (xs : List Value), (∀ j, j < k / 4 → xs[j]? = some (wd (N % 65536 ^ k) j)) → xs.length = k / 4 + 1 → u = .int .u64 (dg 65536 N k : Nat) →
            xs.set (k / 4) u = (List.range ((k + 1 + 3) / 4)).map (wd (N % 65536 ^ (k + 1))) := by
          intro u xs h hl hu
          rw [show (k + 1 + 3) / 4 = k / 4 + 1 from by omega]
          exact set_words N k u xs h hl (by rw [hu, hz, hr]; simp)
        have hor := or_zero_u64 (dg 65536 N k) d1
        have HF := Lib.hid fin
        have HO := Lib.hid hor
        clear hst hm hz hdg fin hor
        generalize dg 65536 N k = x at *
        go_wp2_with (at_builtin; refine wpList_app1 rfl _ _ 22 rfl w.heap.size 44 i0 _ 8 Tryz.underlying22 hi hz0 hz1 hz2 rfl (by decide) _ _ _ _ rfl rfl rfl hown rfl (by omega) hbel.size ?_; intro v' w1 hown1 hbel1 hne1)
        obtain ⟨g, cap, rfl, hg, hgs, hnc, hcm, hcell⟩ := own_form hown1 hne1
        have c0 : w1.cell? ⟨g, k / 4, none⟩ = some (.int .u64 0) := by rw [hcell _ (Nat.lt_succ_self _)]; simp
        have f0 := hown1.frozenAt (k / 4)
        clear hcell
        go_wp2
        have hkb : (k : Int) / 4 < (k / 4 + 1 : Nat) := by omega
        go_region
        go_wp2
        have hs := (hown1.stored (k / 4) (.int .u64 (bits BinOp.or IntKind.u64 0 (x : Int)))).1
        rw [HF.out _ _ (fun j hj => by rw [List.getElem?_append_left (by simpa using hj)]; simp [hj]) (by simp) (by rw [HO.out])] at hs
        go_roundw
        case rel => exact ⟨k + 1, by omega, by go_num, by rw [show (k + 1 + 3) / 4 = k / 4 + 1 from by omega] at hs ⊢; exact hs.kept ⟨rfl, rfl, rfl, Nat.le_refl _, fun _ _ _ => rfl⟩ (row := none) (by simp [Value.ownBlock]), by simp, ((hbel.trans hbel1).setCell (by simpa using hg) _).drew⟩
        case measure => simp [intOf]; omega
      · have hr0 : (((k : Int) % 4) == 0) = false := by simp; omega
        have hm : (k + 3) / 4 = k / 4 + 1 := by omega
        rw [hm] at hown
        have fin : ∀ (u : Value) (xs : List Value), (∀ j, j < k / 4 → xs[j]? = some (wd (N % 65536 ^ k) j)) → xs.length = k / 4 + 1 → u = .int .u64 (dg W64 (N % 65536 ^ k) (k / 4) + dg 65536 N k * 65536 ^ (k % 4) : Nat) →
            xs.set (k / 4) u = (List.range ((k + 1 + 3) / 4)).map (wd (N % 65536 ^ (k + 1))) := by
          intro u xs h hl hu
          rw [show (k + 1 + 3) / 4 = k / 4 + 1 from by omega]
          exact set_words N k u xs h hl hu
        have hor := or_join_u64 (dg W64 (N % 65536 ^ k) (k / 4)) (dg 65536 N k) (k % 4) d1 (by omega) hst.2.2
        have HF := Lib.hid fin
        have HO := Lib.hid hor
        obtain ⟨g, cap, rfl, hg, hgs, hnc, hcm, hcell⟩ := own_form hown hne
        have c0 : wr.cell? ⟨g, k / 4, none⟩ = some (.int .u64 (dg W64 (N % 65536 ^ k) (k / 4) : Nat)) := by rw [hcell _ (Nat.lt_succ_self _)]; simp [wd]
        have f0 := hown.frozenAt (k / 4)
        clear hst hm fin hor hcell
        generalize dg 65536 N k = x at *
        generalize dg W64 (N % 65536 ^ k) (k / 4) = y at *
        go_wp2
        have hkb : (k : Int) / 4 < (k / 4 + 1 : Nat) := by omega
        go_region
        go_wp2
        have hs := (hown.stored (k / 4) (.int .u64 (bits BinOp.or IntKind.u64 (y : Int) (IntKind.u64.wrap ((x : Int) * 2 ^ (16 * (k % 4))))))).1
        rw [HF.out _ _ (fun j hj => by simp [show j < k / 4 + 1 by omega]) (by simp) (by rw [HO.out])] at hs
        go_roundw
        case rel => exact ⟨k + 1, by omega, by go_num, by rw [show (k + 1 + 3) / 4 = k / 4 + 1 from by omega] at hs ⊢; exact hs.kept ⟨rfl, rfl, rfl, Nat.le_refl _, fun _ _ _ => rfl⟩ (row := none) (by simp [Value.ownBlock]), by simp, (hbel.setCell (by simpa using hg) _).drew⟩
        case measure => simp [intOf]; omega
    · obtain rfl : k = n1 := by omega
      rw [Nat.mod_eq_of_lt h1.lt] at hown
      obtain ⟨g, cap, rfl, hg, hgs, hnc, hcm, hcell⟩ := own_form hown hne
      have HC := Lib.hid (row_cells hcell)
      clear hcell hown h1
      go_wp2
      go_ret
      exact ⟨g, cap, rfl, HC.out, hgs, hbel⟩

theorem words_len (a1 : Option Addr) (n1 c1 N m : Nat) (w : World) (h1 : NatAt w a1 n1 c1 N) (hb1 : n1 ≤ 1000000) (hm : m = (n1 + 3) / 4) :
    Calls Tryz.prog 207 #[.slice a1 n1 c1] w fun e w' => ∃ g cap, e = .returned (.slice (some ⟨g, 0, none⟩) m cap) ∧ (∀ j, j < m → w'.cell? ⟨g, j, none⟩ = some (wd N j)) ∧ g < w'.heap.size ∧ Below w.heap.size w w' := by
  subst hm; exact words_any a1 n1 c1 N w h1 hb1

/-- the words are the number's, no zero word at the end -/
def hasW (f : Nat → Nat) (n N : Nat) : Bool := decide (val W64 f n = N ∧ (n = 0 ∨ f (n - 1) ≠ 0))

set_option maxRecDepth 100000 in
set_option maxHeartbeats 2000000 in
theorem hasWords_any (a1 a2 : Option Addr) (n1 c1 n2 c2 N : Nat) (f : Nat → Nat) (w : World) (hc : Cells w a1 n1 (fun i => .int .u64 (f i : Nat))) (hf : ∀ i, i < n1 → f i < W64) (hb1 : n1 ≤ 100000)
    (h2 : NatAt w a2 n2 c2 N) (hb2 : n2 ≤ 400000) :
    Calls Tryz.prog 159 #[.slice a1 n1 c1, .slice a2 n2 c2] w fun e w' => e = .returned (.bool (hasW f n1 N)) ∧ Below w.heap.size w w' := by
  -- how many words the number has
  have hN1 : N < W64 ^ ((n2 + 3) / 4) := by
    rw [W64_16, ← Nat.pow_mul]
    exact Nat.lt_of_lt_of_le h2.lt (Nat.pow_le_pow_right (by decide) (by omega))
  have hN2 : (n2 + 3) / 4 = 0 ∨ W64 ^ ((n2 + 3) / 4 - 1) ≤ N := by
    rcases h2.top with h | h
    · exact .inl (by omega)
    · by_cases h0 : n2 = 0
      · exact .inl (by omega)
      · refine .inr (Nat.le_trans ?_ h)
        rw [W64_16, ← Nat.pow_mul]
        exact Nat.pow_le_pow_right (by decide) (by omega)
  have hiff : (val W64 f n1 = N ∧ (n1 = 0 ∨ f (n1 - 1) ≠ 0)) ↔ (n1 = (n2 + 3) / 4 ∧ ∀ i, i < n1 → f i = dg W64 N i) := by
    constructor
    · rintro ⟨hv, ht⟩
      subst hv
      refine ⟨len_eq W64_gt ?_ (val_lt hf) hN2 hN1, fun i hi => (dg_val hf i hi).symm⟩
      rcases ht with h | h
      · exact .inl h
      · by_cases h0 : n1 = 0
        · exact .inl h0
        · obtain ⟨k, rfl⟩ : ∃ k, n1 = k + 1 := ⟨n1 - 1, by omega⟩
          refine .inr ?_
          simp only [Nat.add_sub_cancel] at h ⊢
          show W64 ^ k ≤ val W64 f k + W64 ^ k * f k
          exact Nat.le_trans (Nat.le_mul_of_pos_right _ (Nat.pos_of_ne_zero h)) (Nat.le_add_left _ _)
    · rintro ⟨hn, hd⟩
      have hv : val W64 f n1 = N := by
        rw [val_congr hd, val_dg, Nat.mod_eq_of_lt (by rw [hn]; exact hN1)]
      refine ⟨hv, ?_⟩
      by_cases h0 : n1 = 0
      · exact .inl h0
      · refine .inr fun hz => ?_
        obtain ⟨k, rfl⟩ : ∃ k, n1 = k + 1 := ⟨n1 - 1, by omega⟩
        simp only [Nat.add_sub_cancel] at hz
        rw [← hn] at hN2
        rcases hN2 with h | h
        · omega
        · have : val W64 f (k + 1) = val W64 f k := by show val W64 f k + W64 ^ k * f k = _; rw [hz, Nat.mul_zero, Nat.add_zero]
          have hl := val_lt (B := W64) (f := f) (n := k) fun i hi => hf i (by omega)
          simp only [Nat.add_sub_cancel] at h
          omega
  have hres : hasW f n1 N = decide (n1 = (n2 + 3) / 4 ∧ ∀ i, i < n1 → f i = dg W64 N i) := by
    unfold hasW; exact decide_eq_decide.2 hiff
  have HR := Lib.hid hres
  clear hiff hN1 hN2 hres
  by_cases hlen : n1 = (n2 + 3) / 4
  · have hne : ((n1 : Int) != (n1 : Int)) = false := by simp
    have HM := Lib.hid hlen
    rw [← hlen] at HR
    clear hlen
    go_enter Tryz.func159, Tryz.ntmps159
    go_wp2_with fail
    refine (words_len _ _ _ N n1 _ h2 (by omega) HM.out).mono ?_
    rintro e w1 ⟨g, cap, rfl, hcell, hgs, hB⟩
    have hc1 := hc.keep hB
    have HCL := Lib.hid hcell
    clear hcell hc
    go_wp2
    go_loopw [6, 16] (fun _ i wr => ∃ k : Nat, k ≤ n1 ∧ i = .int .i64 k ∧ (∀ j, j < k → f j = dg W64 N j) ∧ ∃ q, wr = w1.drewN q) (fun _ i _ => n1 - (intOf i).toNat)
    case atStart => exact ⟨0, Nat.zero_le _, rfl, fun _ h => by omega, 0, rfl⟩
    case round =>
      obtain ⟨k, hk, rfl, hall, q, rfl⟩ := hrel
      have HA := Lib.hid hall
      clear hall
      by_cases k1 : k < n1
      · obtain ⟨b1, o1, rfl, hx⟩ := hc1 (by omega)
        have e1 : w1.cell? ⟨b1, o1 + k, none⟩ = some (.int .u64 (f k : Nat)) := hx k k1
        have e2 : w1.cell? ⟨g, k, none⟩ = some (.int .u64 (dg W64 N k : Nat)) := HCL.out k k1
        clear hx hc1
        by_cases heq : f k = dg W64 N k
        · have hb : (((f k : Nat) : Int) != ((f k : Nat) : Int)) = false := by simp
          rw [← heq] at e2
          have HE := Lib.hid (show ∀ j, j = k → f j = dg W64 N j from fun j hj => by rw [hj]; exact heq)
          clear heq hf
          generalize f k = x at *
          go_wp2
          go_quiet (fail)
          go_wp2
          go_roundw
          case rel => exact ⟨k + 1, by omega, by go_num, fun j hj => by
            by_cases h : j < k
            · exact HA.out j h
            · obtain rfl : j = k := by omega
              exact HE.out j rfl, drewN_ex (by (try simp only [World.drewN_drewN]); exact rfl)⟩
          case measure => simp [intOf]; omega
        · have hb : (((f k : Nat) : Int) != ((dg W64 N k : Nat) : Int)) = true := by simp; omega
          have hfalse : hasW f n1 N = false := by
            rw [HR.out]; simp only [decide_eq_false_iff_not]
            exact fun h => heq (h.2 k k1)
          have HF := Lib.hid hfalse
          clear heq hf hfalse
          generalize f k = x at *
          generalize dg W64 N k = y at *
          go_wp2
          go_quiet (fail)
          go_wp2
          go_ret
          exact ⟨ret_bool HF.out.symm, below_drewN (below_drewN hB _) _⟩
      · obtain rfl : k = n1 := by omega
        have htrue : hasW f k N = true := by
          rw [HR.out]; simp only [decide_eq_true_eq]
          exact ⟨trivial, HA.out⟩
        have HF := Lib.hid htrue
        clear htrue hc1
        go_wp2
        go_ret
        exact ⟨ret_bool HF.out.symm, below_drewN hB _⟩
  · have hfalse : hasW f n1 N = false := by
      rw [HR.out]; simp only [decide_eq_false_iff_not]
      exact fun h => hlen h.1
    rw [hfalse]
    have hne : ((n1 : Int) != (((n2 + 3) / 4 : Nat) : Int)) = true := by simp; omega
    clear hfalse HR hlen
    go_enter Tryz.func159, Tryz.ntmps159
    go_wp2_with fail
    refine (words_any _ _ _ N _ h2 (by omega)).mono ?_
    rintro e w1 ⟨g, cap, rfl, hcell, hgs, hB⟩
    clear hcell
    go_wp2
    go_ret
    exact ⟨rfl, hB⟩
end Go.Proofs.YtdkipndepkblhaaGreatDoor
