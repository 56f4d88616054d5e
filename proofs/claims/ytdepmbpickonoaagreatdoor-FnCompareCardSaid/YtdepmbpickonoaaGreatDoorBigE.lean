/-
  Int.Int64, makeInt, Make of an Int: the package's integers.
-/
import Derived.Test.YtdepmbpickonoaaGreatDoorBigD
import Derived.Test.YtdepmbpickonoaaGreatDoorTa
set_option linter.unusedSimpArgs false
set_option linter.unusedVariables false
namespace Go.Proofs.YtdepmbpickonoaaGreatDoor
open Go.RowKit Go.Bg Dg

theorem int64_plain (s : Bool) (N : Nat) (h : fit64 (sg s N) = true) : (if s then wrap64 (-wrap64 (N : Int)) else wrap64 (N : Int)) = sg s N := by
  unfold fit64 sg at h
  unfold sg
  cases s
  · simp at h ⊢; unfold wrap64; omega
  · simp at h ⊢
    by_cases h2 : N = 9223372036854775808
    · subst h2
      have e1 : wrap64 ((9223372036854775808 : Nat) : Int) = -9223372036854775808 := by unfold wrap64; omega
      rw [e1]; unfold wrap64; omega
    · have e1 : wrap64 (N : Int) = N := by unfold wrap64; omega
      rw [e1]; unfold wrap64; omega

theorem fit64_lt {s : Bool} {N : Nat} (h : fit64 (sg s N) = true) : N < 18446744073709551616 := by
  unfold fit64 sg at h
  cases s <;> simp at h <;> omega

set_option maxRecDepth 100000 in
set_option maxHeartbeats 1000000 in
theorem int64_any (b o : Nat) (s : Bool) (N : Nat) (w : World) (h : BigAt 143 w b o s N) (hf : fit64 (sg s N) = true) :
    Calls Tryz.prog 113 #[.pointer (some ⟨b, o, none⟩)] w fun e w' => e = .returned (.int .i64 (sg s N)) ∧ w = w' := by
  obtain ⟨a, n, c, h0, h1, hN⟩ := h.val
  have hcm := hN.num.cm
  have hnc := hN.num.nc
  have HN := Lib.hid hN
  have HP := Lib.hid (int64_plain s N hf)
  have HM := Lib.hid (show N % 18446744073709551616 = N from Nat.mod_eq_of_lt (fit64_lt hf))
  clear h hN hf
  cases s
  · go_enter Tryz.func113, Tryz.ntmps113
    go_wp2_with fail
    refine (low64_any a n c _ _ HN.out.num).mono ?_
    rintro e w1 ⟨rfl, rfl⟩
    rw [HM.out]
    go_upto_region 2 with fail
    generalize wrap64 (N : Int) = z at *
    go_wp2
    go_ret
    exact ⟨ret_int (by simpa using HP.out), rfl⟩
  · go_enter Tryz.func113, Tryz.ntmps113
    go_wp2_with fail
    refine (low64_any a n c _ _ HN.out.num).mono ?_
    rintro e w1 ⟨rfl, rfl⟩
    rw [HM.out]
    go_upto_region 2 with fail
    generalize wrap64 (N : Int) = z at *
    go_wp2
    go_ret
    exact ⟨ret_int (by simpa using HP.out), rfl⟩

/-- an integer of the package -/
def CInt (w : World) (v : Value) (z : Int) : Prop :=
  (v = .iface 57 (.int .i64 z) ∧ fit64 z = true) ∨ ∃ b o s N, v = .iface 60 (.agg #[.pointer (some ⟨b, o, none⟩)]) ∧ BigAt 143 w b o s N ∧ sg s N = z

theorem CInt.keep {w w' : World} {v : Value} {z : Int} (h : CInt w v z) (hb : Below w.heap.size w w') : CInt w' v z := by
  rcases h with h | ⟨b, o, s, N, rfl, h1, h2⟩
  · exact .inl h
  · exact .inr ⟨b, o, s, N, rfl, h1.keep hb, h2⟩

set_option maxRecDepth 100000 in
set_option maxHeartbeats 1000000 in
theorem makeInt_any (b o : Nat) (s : Bool) (N : Nat) (w : World) (h : BigAt 143 w b o s N) :
    Calls Tryz.prog 54 #[.pointer (some ⟨b, o, none⟩)] w fun e w' => ∃ v, e = .returned v ∧ CInt w' v (sg s N) ∧ w = w' := by
  have HH := Lib.hid h
  clear h
  cases hf : fit64 (sg s N)
  · have HF := Lib.hid hf
    clear hf
    go_enter Tryz.func54, Tryz.ntmps54
    go_wp2_with fail
    refine (isInt64_any b o s N _ HH.out).mono ?_
    rintro e w1 ⟨rfl, rfl⟩
    rw [HF.out]
    go_wp2
    go_ret
    exact ⟨_, rfl, .inr ⟨b, o, s, N, rfl, HH.out, rfl⟩, rfl⟩
  · have HF := Lib.hid hf
    clear hf
    go_enter Tryz.func54, Tryz.ntmps54
    go_wp2_with fail
    refine (isInt64_any b o s N _ HH.out).mono ?_
    rintro e w1 ⟨rfl, rfl⟩
    rw [HF.out]
    go_wp2_with fail
    refine (int64_any b o s N _ HH.out HF.out).mono ?_
    rintro e w1 ⟨rfl, rfl⟩
    go_wp2
    go_ret
    exact ⟨_, rfl, .inl ⟨rfl, HF.out⟩, rfl⟩

set_option maxRecDepth 100000 in
set_option maxHeartbeats 1000000 in
theorem makeOfInt_any (b o : Nat) (s : Bool) (N : Nat) (w : World) (h : BigAt 143 w b o s N) :
    Calls Tryz.prog 26 #[.iface 58 (.pointer (some ⟨b, o, none⟩))] w fun e w' => ∃ v, e = .returned v ∧ CInt w' v (sg s N) ∧ w = w' := by
  have HH := Lib.hid h
  clear h
  obtain ⟨t1, t2, t3, t4, t5, t6⟩ := ta_any_pInt
  go_enter Tryz.func26, Tryz.ntmps26
  go_wp2_with fail
  refine (makeInt_any b o s N _ HH.out).mono ?_
  rintro e w1 ⟨v, rfl, hv, rfl⟩
  have HV := Lib.hid hv
  clear hv
  go_wp2
  go_ret
  exact ⟨_, rfl, HV.out, rfl⟩
end Go.Proofs.YtdepmbpickonoaaGreatDoor
