/-
  The reference's natural numbers: DivMod and Gcd compute what they say.
-/
import Derived.Test.YtdepmbpickonoaaGreatDoorSpec5
set_option linter.unusedSimpArgs false
set_option linter.unusedVariables false
namespace Go.Proofs.YtdepmbpickonoaaGreatDoor
open Go.RowKit Go.Bg Dg

/-- quotient and remainder -/
def Gives2 (Q R : Nat) (w : World) (e : Ending) (w' : World) : Prop :=
  ∃ a n c a' n' c', e = .returned (.tuple #[.slice a n c, .slice a' n' c']) ∧ NatAt w' a n c Q ∧ NatAt w' a' n' c' R ∧ Below w.heap.size w w'

theorem cmpI_le {X Y : Nat} (h : X ≤ Y) : (cmpI X Y : Int) ≤ 0 := by unfold cmpI; split; · decide
                                                                     · rw [if_neg (by omega)]; decide
theorem cmpI_gt {X Y : Nat} (h : Y < X) : ¬ (cmpI X Y : Int) ≤ 0 := by unfold cmpI; rw [if_neg (by omega), if_pos h]; decide

set_option maxRecDepth 100000 in
set_option maxHeartbeats 2000000 in
theorem divMod_any (a1 a2 : Option Addr) (n1 n2 c1 c2 N1 N2 : Nat) (w : World) (h1 : NatAt w a1 n1 c1 N1) (h2 : NatAt w a2 n2 c2 N2) (hb1 : n1 ≤ 400000) (hb2 : n2 ≤ 400000) (hpos : 0 < N2) :
    Calls Tryz.prog 94 #[.slice a1 n1 c1, .slice a2 n2 c2] w (Gives2 (N1 / N2) (N1 % N2) w) := by
  by_cases hone : n2 = 1
  · subst hone
    obtain ⟨b2, o2, rfl, _⟩ := h2.form (by omega)
    have e2 := h2.cell (i := 0) (by omega)
    have hl2 := h2.lt
    have hd : dg 65536 N2 0 = N2 := by rw [dg]; simp at hl2 ⊢; exact hl2
    rw [hd] at e2
    simp only [Nat.add_zero] at e2
    simp at hl2
    clear hd
    go_enter Tryz.func94, Tryz.ntmps94
    go_wp2_with fail
    refine (byDigit_any _ _ _ N1 N2 _ h1 (by omega) (by omega) (by omega)).mono ?_
    rintro e w1 ⟨aq, nq, cq, rfl, hQ, hB⟩
    go_wp2_with fail
    refine (small_any (N1 % N2) _ (by have := Nat.mod_lt N1 hpos; omega)).mono ?_
    rintro e w2 ⟨ar, nr, cr, rfl, hR, hB2⟩
    go_wp2
    go_ret2
    exact ⟨_, _, _, _, _, _, rfl, hQ.keep hB2, hR, hB.trans (hB2.mono hB.size)⟩
  · have hne : ((n2 : Int) == 1) = false := by simp; omega
    have hbl1 := bl_le h1.lt
    have hbl2 := bl_le h2.lt
    have hst := div_start (N := N1) hpos
    have HST := Lib.hid hst
    have HH1 := Lib.hid h1
    have HH2 := Lib.hid h2
    clear hst
    go_enter Tryz.func94, Tryz.ntmps94
    go_wp2_with fail
    refine (len_any a1 n1 c1 N1 _ (h1.keep ((Below.refl _ _).alloc (Nat.le_refl _) _)) (by omega)).mono ?_
    rintro e w1 ⟨rfl, rfl⟩
    go_wp2_with fail
    refine (len_any a2 n2 c2 N2 _ (h2.keep ((Below.refl _ _).alloc (Nat.le_refl _) _)) (by omega)).mono ?_
    rintro e w1 ⟨rfl, rfl⟩
    clear h1 h2
    go_wp2_with fail
    go_loopw [0, 8, 9, 10] (fun va vq vi _ wr => ∃ (aA : Option Addr) (nA cA : Nat) (aQ : Option Addr) (nQ cQ A Q : Nat) (iv : Int), va = .slice aA nA cA ∧ vq = .slice aQ nQ cQ ∧ vi = .int .i64 iv ∧
        NatAt wr aA nA cA A ∧ NatAt wr aQ nQ cQ Q ∧ N1 = Q * N2 + A ∧ A < N2 * 2 ^ (iv + 1).toNat ∧ iv ≤ 6400000 ∧ -10000000 ≤ iv ∧ Below w.heap.size w wr)
      (fun _ _ vi _ _ => (intOf vi + 1).toNat)
    case atStart =>
      refine ⟨_, _, _, _, 0, 0, N1, 0, _, rfl, rfl, rfl, HH1.out.keep ((Below.refl _ _).alloc (Nat.le_refl _) _), ⟨by simp, .inl rfl, Nat.le_refl _, by simp [maxLen], fun h => by omega⟩, by simp, HST.out, by omega, by omega, (Below.refl _ _).alloc (Nat.le_refl _) _⟩
    case round =>
      obtain ⟨aA, nA, cA, aQ, nQ, cQ, A, Q, iv, rfl, rfl, rfl, hA, hQ, hN, hlt, hi1, hi2, hbel⟩ := hrel
      have hAle : A ≤ N1 := by rw [hN]; exact Nat.le_add_left _ _
      have hQle : Q ≤ N1 := by rw [hN]; exact Nat.le_trans (Nat.le_mul_of_pos_right _ hpos) (Nat.le_add_right _ _)
      have hnA : nA ≤ n1 := hA.len16 (Nat.lt_of_le_of_lt hAle HH1.out.lt)
      have hnQ : nQ ≤ n1 := hQ.len16 (Nat.lt_of_le_of_lt hQle HH1.out.lt)
      by_cases hneg : iv < 0
      · have e0 : (iv + 1).toNat = 0 := by omega
        rw [e0, Nat.pow_zero, Nat.mul_one] at hlt
        have hq : N1 / N2 = Q ∧ N1 % N2 = A := by
          rw [hN, Nat.mul_comm Q]
          exact ⟨by rw [Nat.mul_add_div hpos, Nat.div_eq_of_lt hlt, Nat.add_zero], by rw [Nat.mul_add_mod, Nat.mod_eq_of_lt hlt]⟩
        have HQ := Lib.hid hq
        clear hN hlt hq e0 hAle hQle
        go_wp2
        go_ret2
        refine ⟨_, _, _, _, _, _, rfl, ?_, ?_, hbel⟩
        · rw [HQ.out.1]; exact hQ
        · rw [HQ.out.2]; exact hA
      · obtain ⟨i, rfl⟩ : ∃ i : Nat, iv = i := ⟨iv.toNat, by omega⟩
        have e0 : ((i : Int) + 1).toNat = i + 1 := by omega
        rw [e0] at hlt
        have hD : N2 * 2 ^ i < 65536 ^ (n2 + (i / 16 + 1)) := by
          rw [Nat.pow_add]
          refine Nat.mul_lt_mul'' HH2.out.lt ?_
          rw [show (65536 : Nat) = 2 ^ 16 from rfl, ← Nat.pow_mul]
          exact Nat.pow_lt_pow_right (by decide) (by omega)
        have h2' := HH2.out.keep hbel
        by_cases hle : N2 * 2 ^ i ≤ A
        · have hcl := cmpI_le hle
          have new1 : N1 = (Q + 2 ^ i) * N2 + (A - N2 * 2 ^ i) := by rw [hN, Nat.add_mul, Nat.mul_comm (2 ^ i)]; omega
          have new2 : A - N2 * 2 ^ i < N2 * 2 ^ i := by rw [Nat.pow_succ, ← Nat.mul_assoc] at hlt; omega
          have HN1 := Lib.hid new1
          have HN2 := Lib.hid new2
          have HD := Lib.hid hD
          have hBb : 2 ^ i < 65536 ^ (i / 16 + 1) := by
            rw [show (65536 : Nat) = 2 ^ 16 from rfl, ← Nat.pow_mul]
            exact Nat.pow_lt_pow_right (by decide) (by omega)
          have HBb := Lib.hid hBb
          have HLE := Lib.hid hle
          clear hN hlt new1 new2 e0 hD hBb hle hAle hQle
          go_wp2_with fail
          refine (shl_any _ _ _ N2 i _ h2' (by omega) (by omega)).mono ?_
          rintro e w1 ⟨aD, nD, cD, rfl, hDN, hB1⟩
          have hnD := hDN.len16 HD.out
          go_wp2_with fail
          refine (cmp_any _ _ _ _ _ _ (N2 * 2 ^ i) A _ hDN (hA.keep hB1) (by omega) (by omega)).mono ?_
          rintro e w2 ⟨rfl, hdr⟩
          have hB2 : Below w1.heap.size w1 w2 := below_of_drewN hdr
          go_wp2_with fail
          refine (sub_any _ _ _ _ _ _ A (N2 * 2 ^ i) _ ((hA.keep hB1).keep hB2) (hDN.keep hB2) (by omega) (by omega) HLE.out).mono ?_
          rintro e w3 ⟨aS, nS, cS, rfl, hS, hB3⟩
          go_wp2_with fail
          refine (bit_any i _ (by omega)).mono ?_
          rintro e w4 ⟨aB, nB, cB, rfl, hBt, hB4⟩
          have hnB := hBt.len16 HBb.out
          go_wp2_with fail
          refine (add_any _ _ _ _ _ _ Q (2 ^ i) _ ((((hQ.keep hB1).keep hB2).keep hB3).keep hB4) hBt (by omega) (by omega)).mono ?_
          rintro e w5 ⟨aT, nT, cT, rfl, hT, hB5⟩
          go_wp2
          go_roundw
          case rel =>
            refine ⟨_, _, _, _, _, _, A - N2 * 2 ^ i, Q + 2 ^ i, (i : Int) - 1, rfl, rfl, rfl, (hS.keep hB4).keep hB5, hT, HN1.out, ?_, by omega, by omega, ?_⟩
            · rw [show ((i : Int) - 1 + 1).toNat = i from by omega]; exact HN2.out
            · exact Below.then (Below.then (Below.then (Below.then (Below.then hbel (Nat.le_refl _) hB1) (Nat.le_refl _) hB2) (Nat.le_refl _) hB3) (Nat.le_refl _) hB4) (Nat.le_refl _) hB5
          case measure => simp [intOf]
        · have hcl := cmpI_gt (by omega : A < N2 * 2 ^ i)
          have HN1 := Lib.hid hN
          have HN2 := Lib.hid (by omega : A < N2 * 2 ^ i)
          have HD := Lib.hid hD
          clear hN hlt e0 hD hle hAle hQle
          go_wp2_with fail
          refine (shl_any _ _ _ N2 i _ h2' (by omega) (by omega)).mono ?_
          rintro e w1 ⟨aD, nD, cD, rfl, hDN, hB1⟩
          have hnD := hDN.len16 HD.out
          go_wp2_with fail
          refine (cmp_any _ _ _ _ _ _ (N2 * 2 ^ i) A _ hDN (hA.keep hB1) (by omega) (by omega)).mono ?_
          rintro e w2 ⟨rfl, hdr⟩
          have hB2 : Below w1.heap.size w1 w2 := below_of_drewN hdr
          go_wp2
          go_roundw
          case rel =>
            refine ⟨_, _, _, _, _, _, A, Q, (i : Int) - 1, rfl, rfl, rfl, (hA.keep hB1).keep hB2, (hQ.keep hB1).keep hB2, HN1.out, ?_, by omega, by omega, ?_⟩
            · rw [show ((i : Int) - 1 + 1).toNat = i from by omega]; exact HN2.out
            · exact Below.then (Below.then hbel (Nat.le_refl _) hB1) (Nat.le_refl _) hB2
          case measure => simp [intOf]

set_option maxRecDepth 100000 in
set_option maxHeartbeats 1000000 in
theorem gcd_any (a1 a2 : Option Addr) (n1 n2 c1 c2 N1 N2 : Nat) (w : World) (h1 : NatAt w a1 n1 c1 N1) (h2 : NatAt w a2 n2 c2 N2) (hb1 : n1 ≤ 400000) (hb2 : n2 ≤ 400000) :
    Calls Tryz.prog 93 #[.slice a1 n1 c1, .slice a2 n2 c2] w (Gives .i64 65536 (Nat.gcd N1 N2) w) := by
  go_enter Tryz.func93, Tryz.ntmps93
  go_wp2_with fail
  go_loopg [0, 1, 5, 6, 10, 14] N2 (fun gk va vb _ _ _ _ wr => ∃ (a : Option Addr) (n c : Nat) (a' : Option Addr) (n' c' A B : Nat), va = .slice a n c ∧ vb = .slice a' n' c' ∧ NatAt wr a n c A ∧ NatAt wr a' n' c' B ∧ n ≤ 400000 ∧ n' ≤ 400000 ∧ Nat.gcd A B = Nat.gcd N1 N2 ∧ B ≤ gk ∧ Below w.heap.size w wr)
  case atStart => exact ⟨_, _, _, _, _, _, N1, N2, rfl, rfl, h1, h2, hb1, hb2, rfl, Nat.le_refl _, Below.refl _ _⟩
  case round =>
    obtain ⟨a, n, c, a', n', c', A, B, rfl, rfl, hA, hB, hn, hn', hg, hk, hbel⟩ := hrel
    by_cases h0 : n' = 0
    · subst h0
      have hB0 : B = 0 := by have := hB.lt; simpa using this
      subst hB0
      rw [Nat.gcd_zero_right] at hg
      have HG := Lib.hid hg
      clear hg h1 h2 hB
      go_wp2_with fail
      go_ret
      exact ⟨_, _, _, rfl, by rw [← HG.out]; exact hA, hbel⟩
    · have hBpos : 0 < B := by
        rcases hB.top with h | h
        · omega
        · exact Nat.lt_of_lt_of_le (Nat.pow_pos (by decide)) h
      have hlt : A % B < B := Nat.mod_lt _ hBpos
      have hRb : A % B < 65536 ^ n' := Nat.lt_trans hlt hB.lt
      have hgg : Nat.gcd B (A % B) = Nat.gcd N1 N2 := by rw [← hg, Nat.gcd_comm B, ← Nat.gcd_rec, Nat.gcd_comm]
      have HG := Lib.hid hgg
      have HL := Lib.hid hlt
      have HR := Lib.hid hRb
      clear hg hgg hlt hRb h1 h2
      go_wp2_with fail
      refine (divMod_any _ _ _ _ _ _ A B _ hA hB hn hn' hBpos).mono ?_
      rintro e w1 ⟨aQ, nQ, cQ, aR, nR, cR, rfl, hQ, hR, hB1⟩
      have hnR := hR.len16 HR.out
      go_wp2_with fail
      go_roundg (A % B)
      case rel => exact ⟨_, _, _, _, _, _, B, A % B, rfl, rfl, hB.keep hB1, hR, hn', by omega, HG.out, Nat.le_refl _, Below.then hbel (Nat.le_refl _) hB1⟩
      case measure => have := HL.out; omega
end Go.Proofs.YtdepmbpickonoaaGreatDoor
