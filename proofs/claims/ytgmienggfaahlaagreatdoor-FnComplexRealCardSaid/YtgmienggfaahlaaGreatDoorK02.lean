/-
  Contracts and lemmas: BigD Ta BigE RtB BigF BigG.
-/
import Derived.Test.YtgmienggfaahlaaGreatDoorK01
import Derived.Test.YtgmienggfaahlaaGreatDoorK00
set_option linter.unusedSimpArgs false
set_option linter.unusedVariables false
set_option maxRecDepth 100000
set_option maxHeartbeats 8000000
namespace Go.Proofs.YtgmienggfaahlaaGreatDoor
open Go.RowKit Go.Bg Dg
theorem low64_any (a : Option Addr) (n c N : Nat) (w : World) (h : NumAt .u64 W64 w a n c N) :
    Calls Tryz.prog 193 #[.slice a n c] w fun e w' => e = .returned (.int .u64 (N % 18446744073709551616 : Nat)) ∧ w = w' := by
  have hcm := h.cm
  have hnc := h.nc
  by_cases h0 : n = 0
  · subst h0
    have hN : N = 0 := by have := h.lt; simpa using this
    clear h
    subst hN
    go_enter Tryz.func193, Tryz.ntmps193
    go_wp2
    go_ret
    exact ⟨rfl, rfl⟩
  · obtain ⟨b, off, rfl, _⟩ := h.form (by omega)
    have hc := h.cell (i := 0) (by omega)
    have hd : dg W64 N 0 = N % 18446744073709551616 := by simp [dg, W64]
    rw [hd, Nat.add_zero] at hc
    clear h hd
    have hlt : N % 18446744073709551616 < 18446744073709551616 := Nat.mod_lt _ (by decide)
    generalize N % 18446744073709551616 = x at *
    have hz : ((n : Int) == 0) = false := by simpa using h0
    go_enter Tryz.func193, Tryz.ntmps193
    go_wp2
    go_ret
    exact ⟨rfl, rfl⟩
def fit64 (z : Int) : Bool := decide (-9223372036854775808 ≤ z ∧ z < 9223372036854775808)
theorem fits_plain (s : Bool) (N : Nat) (h : N < 18446744073709551616) : (decide (0 ≤ wrap64 (N : Int)) || (s && wrap64 (N : Int) == wrap64 (-wrap64 (N : Int)))) = fit64 (sg s N) := by
  by_cases h1 : N < 9223372036854775808
  · have e : wrap64 (N : Int) = N := by unfold wrap64; omega
    rw [e]
    unfold fit64 sg
    cases s
    · simp; omega
    · simp; omega
  · have e : wrap64 (N : Int) = N - 18446744073709551616 := by unfold wrap64; omega
    have e0 : decide (0 ≤ wrap64 (N : Int)) = false := by rw [e]; simp; omega
    rw [e0, e]
    by_cases h2 : N = 9223372036854775808
    · subst h2
      have e3 : wrap64 (-(((9223372036854775808 : Nat) : Int) - 18446744073709551616)) = -9223372036854775808 := by unfold wrap64; omega
      rw [e3]
      unfold fit64 sg
      cases s <;> simp
    · have e3 : wrap64 (-((N : Int) - 18446744073709551616)) = 18446744073709551616 - N := by unfold wrap64; omega
      rw [e3]
      unfold fit64 sg
      cases s
      · simp; omega
      · have : ((N : Int) - 18446744073709551616 == 18446744073709551616 - N) = false := by simp; omega
        rw [this]; simp; omega
theorem one_word {k : IntKind} {w : World} {a : Option Addr} {n c N : Nat} (h : NumAt k W64 w a n c N) (hn : n ≤ 1) : N < 18446744073709551616 := by
  have h1 := h.lt
  have h3 : W64 ^ n ≤ W64 ^ 1 := Nat.pow_le_pow_right W64_pos hn
  rw [Nat.pow_one] at h3
  exact Nat.lt_of_lt_of_le h1 h3
theorem more_words {k : IntKind} {w : World} {a : Option Addr} {n c N : Nat} (h : NumAt k W64 w a n c N) (hn : ¬ n ≤ 1) : 18446744073709551616 ≤ N := by
  rcases h.top with h3 | h3
  · omega
  · have h4 : W64 ^ 1 ≤ W64 ^ (n - 1) := Nat.pow_le_pow_right W64_pos (by omega)
    rw [Nat.pow_one] at h4
    exact Nat.le_trans h4 h3
theorem fit64_great (s : Bool) (N : Nat) (h : 18446744073709551616 ≤ N) : fit64 (sg s N) = false := by
  unfold fit64 sg
  cases s <;> simp <;> omega
theorem wrap64_bd (x : Int) : -9223372036854775808 ≤ wrap64 x ∧ wrap64 x ≤ 9223372036854775807 := by unfold wrap64; omega
theorem isInt64_any (b o : Nat) (s : Bool) (N : Nat) (w : World) (h : BigAt 155 w b o s N) :
    Calls Tryz.prog 134 #[.pointer (some ⟨b, o, none⟩)] w fun e w' => e = .returned (.bool (fit64 (sg s N))) ∧ w = w' := by
  obtain ⟨a, n, c, h0, h1, hN⟩ := h.val
  have hcm := hN.num.cm
  have hnc := hN.num.nc
  have HN := Lib.hid hN
  clear h
  by_cases h2 : n ≤ 1
  · have hlt := one_word hN.num h2
    have HM := Lib.hid (show N % 18446744073709551616 = N from Nat.mod_eq_of_lt hlt)
    clear hN
    have HP := Lib.hid (fits_plain s N hlt)
    have hbd := wrap64_bd (N : Int)
    clear hlt
    by_cases hz : 0 ≤ wrap64 (N : Int)
    · go_enter Tryz.func134, Tryz.ntmps134
      go_wp2_with fail
      refine (low64_any a n c _ _ HN.out.num).mono ?_
      rintro e w1 ⟨rfl, rfl⟩
      rw [HM.out]
      go_upto_region 3 with fail
      generalize wrap64 (N : Int) = z at *
      go_wp2
      go_ret
      exact ⟨ret_bool (by rw [← HP.out]; simp [hz]), rfl⟩
    · cases s
      · go_enter Tryz.func134, Tryz.ntmps134
        go_wp2_with fail
        refine (low64_any a n c _ _ HN.out.num).mono ?_
        rintro e w1 ⟨rfl, rfl⟩
        rw [HM.out]
        go_upto_region 3 with fail
        generalize wrap64 (N : Int) = z at *
        have hd : decide (0 ≤ z) = false := by simp; omega
        clear hz hbd
        go_wp2
        go_ret
        exact ⟨ret_bool (by rw [← HP.out]; simp [hd]), rfl⟩
      · go_enter Tryz.func134, Tryz.ntmps134
        go_wp2_with fail
        refine (low64_any a n c _ _ HN.out.num).mono ?_
        rintro e w1 ⟨rfl, rfl⟩
        rw [HM.out]
        go_upto_region 3 with fail
        generalize wrap64 (N : Int) = z at *
        have hd : decide (0 ≤ z) = false := by simp; omega
        clear hz hbd
        go_wp2
        go_ret
        exact ⟨ret_bool (by rw [← HP.out]; simp [hd]), rfl⟩
  · have hge := more_words hN.num h2
    have e1 := fit64_great s N hge
    clear hN hge
    go_enter Tryz.func134, Tryz.ntmps134
    go_wp2
    go_ret
    exact ⟨ret_bool e1.symm, rfl⟩
end Go.Proofs.YtgmienggfaahlaaGreatDoor
namespace Go.Proofs.YtgmienggfaahlaaGreatDoor
theorem ta_int64Val : (∀ (v : Value) (w : World), (Instr.typeAssert (.iface 87 v) 63 85 true).run Tryz.prog w = .ok (.tuple #[.agg #[], .bool false]) w) ∧
    (∀ (v : Value) (w : World), (Instr.typeAssert (.iface 87 v) 63 86 true).run Tryz.prog w = .ok (.tuple #[.bool false, .bool false]) w) ∧
    (∀ (v : Value) (w : World), (Instr.typeAssert (.iface 87 v) 63 87 true).run Tryz.prog w = .ok (.tuple #[v, .bool true]) w) ∧
    (∀ (v : Value) (w : World), (Instr.typeAssert (.iface 87 v) 63 98 true).run Tryz.prog w = .ok (.tuple #[.agg #[.pointer none], .bool false]) w) ∧
    (∀ (v : Value) (w : World), (Instr.typeAssert (.iface 87 v) 63 102 true).run Tryz.prog w = .ok (.tuple #[.agg #[.pointer none], .bool false]) w) ∧
    (∀ (v : Value) (w : World), (Instr.typeAssert (.iface 87 v) 63 106 true).run Tryz.prog w = .ok (.tuple #[.agg #[.pointer none], .bool false]) w) ∧
    (∀ (v : Value) (w : World), (Instr.typeAssert (.iface 87 v) 63 111 true).run Tryz.prog w = .ok (.tuple #[.agg #[.nilIface, .nilIface], .bool false]) w) ∧
    (∀ (v : Value) (w : World), (Instr.typeAssert (.iface 87 v) 63 113 true).run Tryz.prog w = .ok (.tuple #[.pointer none, .bool false]) w) ∧
    (∀ (v : Value) (w : World), (Instr.typeAssert (.iface 87 v) 63 87 false).run Tryz.prog w = .ok v w) := by
  refine ⟨?_, ?_, ?_, ?_, ?_, ?_, ?_, ?_, ?_⟩ <;> (intro v w; kernel_rfl)
theorem ta_intVal : (∀ (v : Value) (w : World), (Instr.typeAssert (.iface 98 v) 63 85 true).run Tryz.prog w = .ok (.tuple #[.agg #[], .bool false]) w) ∧
    (∀ (v : Value) (w : World), (Instr.typeAssert (.iface 98 v) 63 86 true).run Tryz.prog w = .ok (.tuple #[.bool false, .bool false]) w) ∧
    (∀ (v : Value) (w : World), (Instr.typeAssert (.iface 98 v) 63 87 true).run Tryz.prog w = .ok (.tuple #[.int .i64 0, .bool false]) w) ∧
    (∀ (v : Value) (w : World), (Instr.typeAssert (.iface 98 v) 63 98 true).run Tryz.prog w = .ok (.tuple #[v, .bool true]) w) ∧
    (∀ (v : Value) (w : World), (Instr.typeAssert (.iface 98 v) 63 102 true).run Tryz.prog w = .ok (.tuple #[.agg #[.pointer none], .bool false]) w) ∧
    (∀ (v : Value) (w : World), (Instr.typeAssert (.iface 98 v) 63 106 true).run Tryz.prog w = .ok (.tuple #[.agg #[.pointer none], .bool false]) w) ∧
    (∀ (v : Value) (w : World), (Instr.typeAssert (.iface 98 v) 63 111 true).run Tryz.prog w = .ok (.tuple #[.agg #[.nilIface, .nilIface], .bool false]) w) ∧
    (∀ (v : Value) (w : World), (Instr.typeAssert (.iface 98 v) 63 113 true).run Tryz.prog w = .ok (.tuple #[.pointer none, .bool false]) w) ∧
    (∀ (v : Value) (w : World), (Instr.typeAssert (.iface 98 v) 63 98 false).run Tryz.prog w = .ok v w) := by
  refine ⟨?_, ?_, ?_, ?_, ?_, ?_, ?_, ?_, ?_⟩ <;> (intro v w; kernel_rfl)
theorem ta_ratVal : (∀ (v : Value) (w : World), (Instr.typeAssert (.iface 102 v) 63 85 true).run Tryz.prog w = .ok (.tuple #[.agg #[], .bool false]) w) ∧
    (∀ (v : Value) (w : World), (Instr.typeAssert (.iface 102 v) 63 86 true).run Tryz.prog w = .ok (.tuple #[.bool false, .bool false]) w) ∧
    (∀ (v : Value) (w : World), (Instr.typeAssert (.iface 102 v) 63 87 true).run Tryz.prog w = .ok (.tuple #[.int .i64 0, .bool false]) w) ∧
    (∀ (v : Value) (w : World), (Instr.typeAssert (.iface 102 v) 63 98 true).run Tryz.prog w = .ok (.tuple #[.agg #[.pointer none], .bool false]) w) ∧
    (∀ (v : Value) (w : World), (Instr.typeAssert (.iface 102 v) 63 102 true).run Tryz.prog w = .ok (.tuple #[v, .bool true]) w) ∧
    (∀ (v : Value) (w : World), (Instr.typeAssert (.iface 102 v) 63 106 true).run Tryz.prog w = .ok (.tuple #[.agg #[.pointer none], .bool false]) w) ∧
    (∀ (v : Value) (w : World), (Instr.typeAssert (.iface 102 v) 63 111 true).run Tryz.prog w = .ok (.tuple #[.agg #[.nilIface, .nilIface], .bool false]) w) ∧
    (∀ (v : Value) (w : World), (Instr.typeAssert (.iface 102 v) 63 113 true).run Tryz.prog w = .ok (.tuple #[.pointer none, .bool false]) w) ∧
    (∀ (v : Value) (w : World), (Instr.typeAssert (.iface 102 v) 63 102 false).run Tryz.prog w = .ok v w) := by
  refine ⟨?_, ?_, ?_, ?_, ?_, ?_, ?_, ?_, ?_⟩ <;> (intro v w; kernel_rfl)
theorem ta_complexVal : (∀ (v : Value) (w : World), (Instr.typeAssert (.iface 111 v) 63 85 true).run Tryz.prog w = .ok (.tuple #[.agg #[], .bool false]) w) ∧
    (∀ (v : Value) (w : World), (Instr.typeAssert (.iface 111 v) 63 86 true).run Tryz.prog w = .ok (.tuple #[.bool false, .bool false]) w) ∧
    (∀ (v : Value) (w : World), (Instr.typeAssert (.iface 111 v) 63 87 true).run Tryz.prog w = .ok (.tuple #[.int .i64 0, .bool false]) w) ∧
    (∀ (v : Value) (w : World), (Instr.typeAssert (.iface 111 v) 63 98 true).run Tryz.prog w = .ok (.tuple #[.agg #[.pointer none], .bool false]) w) ∧
    (∀ (v : Value) (w : World), (Instr.typeAssert (.iface 111 v) 63 102 true).run Tryz.prog w = .ok (.tuple #[.agg #[.pointer none], .bool false]) w) ∧
    (∀ (v : Value) (w : World), (Instr.typeAssert (.iface 111 v) 63 106 true).run Tryz.prog w = .ok (.tuple #[.agg #[.pointer none], .bool false]) w) ∧
    (∀ (v : Value) (w : World), (Instr.typeAssert (.iface 111 v) 63 111 true).run Tryz.prog w = .ok (.tuple #[v, .bool true]) w) ∧
    (∀ (v : Value) (w : World), (Instr.typeAssert (.iface 111 v) 63 113 true).run Tryz.prog w = .ok (.tuple #[.pointer none, .bool false]) w) ∧
    (∀ (v : Value) (w : World), (Instr.typeAssert (.iface 111 v) 63 111 false).run Tryz.prog w = .ok v w) := by
  refine ⟨?_, ?_, ?_, ?_, ?_, ?_, ?_, ?_, ?_⟩ <;> (intro v w; kernel_rfl)
theorem ta_any_int64 : (∀ (v : Value) (w : World), (Instr.typeAssert (.iface 2 v) 20 4 true).run Tryz.prog w = .ok (.tuple #[.bool false, .bool false]) w) ∧
    (∀ (v : Value) (w : World), (Instr.typeAssert (.iface 2 v) 20 9 true).run Tryz.prog w = .ok (.tuple #[.string ⟨#[]⟩, .bool false]) w) ∧
    (∀ (v : Value) (w : World), (Instr.typeAssert (.iface 2 v) 20 2 true).run Tryz.prog w = .ok (.tuple #[v, .bool true]) w) ∧
    (∀ (v : Value) (w : World), (Instr.typeAssert (.iface 2 v) 20 90 true).run Tryz.prog w = .ok (.tuple #[.pointer none, .bool false]) w) ∧
    (∀ (v : Value) (w : World), (Instr.typeAssert (.iface 2 v) 20 95 true).run Tryz.prog w = .ok (.tuple #[.pointer none, .bool false]) w) ∧
    (∀ (v : Value) (w : World), (Instr.typeAssert (.iface 2 v) 20 104 true).run Tryz.prog w = .ok (.tuple #[.pointer none, .bool false]) w) := by
  refine ⟨?_, ?_, ?_, ?_, ?_, ?_⟩ <;> (intro v w; kernel_rfl)
theorem ta_any_pInt : (∀ (v : Value) (w : World), (Instr.typeAssert (.iface 90 v) 20 4 true).run Tryz.prog w = .ok (.tuple #[.bool false, .bool false]) w) ∧
    (∀ (v : Value) (w : World), (Instr.typeAssert (.iface 90 v) 20 9 true).run Tryz.prog w = .ok (.tuple #[.string ⟨#[]⟩, .bool false]) w) ∧
    (∀ (v : Value) (w : World), (Instr.typeAssert (.iface 90 v) 20 2 true).run Tryz.prog w = .ok (.tuple #[.int .i64 0, .bool false]) w) ∧
    (∀ (v : Value) (w : World), (Instr.typeAssert (.iface 90 v) 20 90 true).run Tryz.prog w = .ok (.tuple #[v, .bool true]) w) ∧
    (∀ (v : Value) (w : World), (Instr.typeAssert (.iface 90 v) 20 95 true).run Tryz.prog w = .ok (.tuple #[.pointer none, .bool false]) w) ∧
    (∀ (v : Value) (w : World), (Instr.typeAssert (.iface 90 v) 20 104 true).run Tryz.prog w = .ok (.tuple #[.pointer none, .bool false]) w) := by
  refine ⟨?_, ?_, ?_, ?_, ?_, ?_⟩ <;> (intro v w; kernel_rfl)
theorem ta_any_pRat : (∀ (v : Value) (w : World), (Instr.typeAssert (.iface 95 v) 20 4 true).run Tryz.prog w = .ok (.tuple #[.bool false, .bool false]) w) ∧
    (∀ (v : Value) (w : World), (Instr.typeAssert (.iface 95 v) 20 9 true).run Tryz.prog w = .ok (.tuple #[.string ⟨#[]⟩, .bool false]) w) ∧
    (∀ (v : Value) (w : World), (Instr.typeAssert (.iface 95 v) 20 2 true).run Tryz.prog w = .ok (.tuple #[.int .i64 0, .bool false]) w) ∧
    (∀ (v : Value) (w : World), (Instr.typeAssert (.iface 95 v) 20 90 true).run Tryz.prog w = .ok (.tuple #[.pointer none, .bool false]) w) ∧
    (∀ (v : Value) (w : World), (Instr.typeAssert (.iface 95 v) 20 95 true).run Tryz.prog w = .ok (.tuple #[v, .bool true]) w) ∧
    (∀ (v : Value) (w : World), (Instr.typeAssert (.iface 95 v) 20 104 true).run Tryz.prog w = .ok (.tuple #[.pointer none, .bool false]) w) := by
  refine ⟨?_, ?_, ?_, ?_, ?_, ?_⟩ <;> (intro v w; kernel_rfl)
end Go.Proofs.YtgmienggfaahlaaGreatDoor
namespace Go.Proofs.YtgmienggfaahlaaGreatDoor
open Go.RowKit Go.Bg Dg
theorem int64_plain (s : Bool) (N : Nat) (h : fit64 (sg s N) = true) : (if s then wrap64 (-wrap64 (N : Int)) else wrap64 (N : Int)) = sg s N := by
  unfold fit64 sg at h
  unfold sg
  cases s
  · simp at h ⊢; unfold wrap64; omega
  · simp at h ⊢
    by_cases h2 : N = 9223372036854775808
    · subst h2
      have e1 : wrap64 ((9223372036854775808 : Nat) : Int) = -9223372036854775808 := by unfold wrap64; omega
      rw [e1]; unfold wrap64; omega
    · have e1 : wrap64 (N : Int) = N := by unfold wrap64; omega
      rw [e1]; unfold wrap64; omega
theorem fit64_lt {s : Bool} {N : Nat} (h : fit64 (sg s N) = true) : N < 18446744073709551616 := by
  unfold fit64 sg at h
  cases s <;> simp at h <;> omega
theorem int64_any (b o : Nat) (s : Bool) (N : Nat) (w : World) (h : BigAt 155 w b o s N) (hf : fit64 (sg s N) = true) :
    Calls Tryz.prog 135 #[.pointer (some ⟨b, o, none⟩)] w fun e w' => e = .returned (.int .i64 (sg s N)) ∧ w = w' := by
  obtain ⟨a, n, c, h0, h1, hN⟩ := h.val
  have hcm := hN.num.cm
  have hnc := hN.num.nc
  have HN := Lib.hid hN
  have HP := Lib.hid (int64_plain s N hf)
  have HM := Lib.hid (show N % 18446744073709551616 = N from Nat.mod_eq_of_lt (fit64_lt hf))
  clear h hN hf
  cases s
  · go_enter Tryz.func135, Tryz.ntmps135
    go_wp2_with fail
    refine (low64_any a n c _ _ HN.out.num).mono ?_
    rintro e w1 ⟨rfl, rfl⟩
    rw [HM.out]
    go_upto_region 2 with fail
    generalize wrap64 (N : Int) = z at *
    go_wp2
    go_ret
    exact ⟨ret_int (by simpa using HP.out), rfl⟩
  · go_enter Tryz.func135, Tryz.ntmps135
    go_wp2_with fail
    refine (low64_any a n c _ _ HN.out.num).mono ?_
    rintro e w1 ⟨rfl, rfl⟩
    rw [HM.out]
    go_upto_region 2 with fail
    generalize wrap64 (N : Int) = z at *
    go_wp2
    go_ret
    exact ⟨ret_int (by simpa using HP.out), rfl⟩
def CInt (w : World) (v : Value) (z : Int) : Prop :=
  (v = .iface 87 (.int .i64 z) ∧ fit64 z = true) ∨ ∃ b o s N, v = .iface 98 (.agg #[.pointer (some ⟨b, o, none⟩)]) ∧ BigAt 155 w b o s N ∧ sg s N = z
theorem CInt.keep {w w' : World} {v : Value} {z : Int} (h : CInt w v z) (hb : Below w.heap.size w w') : CInt w' v z := by
  rcases h with h | ⟨b, o, s, N, rfl, h1, h2⟩
  · exact .inl h
  · exact .inr ⟨b, o, s, N, rfl, h1.keep hb, h2⟩
theorem makeInt_any (b o : Nat) (s : Bool) (N : Nat) (w : World) (h : BigAt 155 w b o s N) :
    Calls Tryz.prog 59 #[.pointer (some ⟨b, o, none⟩)] w fun e w' => ∃ v, e = .returned v ∧ CInt w' v (sg s N) ∧ w = w' := by
  have HH := Lib.hid h
  clear h
  cases hf : fit64 (sg s N)
  · have HF := Lib.hid hf
    clear hf
    go_enter Tryz.func59, Tryz.ntmps59
    go_wp2_with fail
    refine (isInt64_any b o s N _ HH.out).mono ?_
    rintro e w1 ⟨rfl, rfl⟩
    rw [HF.out]
    go_wp2
    go_ret
    exact ⟨_, rfl, .inr ⟨b, o, s, N, rfl, HH.out, rfl⟩, rfl⟩
  · have HF := Lib.hid hf
    clear hf
    go_enter Tryz.func59, Tryz.ntmps59
    go_wp2_with fail
    refine (isInt64_any b o s N _ HH.out).mono ?_
    rintro e w1 ⟨rfl, rfl⟩
    rw [HF.out]
    go_wp2_with fail
    refine (int64_any b o s N _ HH.out HF.out).mono ?_
    rintro e w1 ⟨rfl, rfl⟩
    go_wp2
    go_ret
    exact ⟨_, rfl, .inl ⟨rfl, HF.out⟩, rfl⟩
theorem makeOfInt_any (b o : Nat) (s : Bool) (N : Nat) (w : World) (h : BigAt 155 w b o s N) :
    Calls Tryz.prog 93 #[.iface 90 (.pointer (some ⟨b, o, none⟩))] w fun e w' => ∃ v, e = .returned v ∧ CInt w' v (sg s N) ∧ w = w' := by
  have HH := Lib.hid h
  clear h
  obtain ⟨t1, t2, t3, t4, t5, t6⟩ := ta_any_pInt
  go_enter Tryz.func93, Tryz.ntmps93
  go_wp2_with fail
  refine (makeInt_any b o s N _ HH.out).mono ?_
  rintro e w1 ⟨v, rfl, hv, rfl⟩
  have HV := Lib.hid hv
  clear hv
  go_wp2
  go_ret
  exact ⟨_, rfl, HV.out, rfl⟩
end Go.Proofs.YtgmienggfaahlaaGreatDoor
namespace Go.Bg
open Go.RowKit Dg
theorem RtAt.mono {w : World} {s : Bool} {a : Option Addr} {n c : Nat} {a' : Option Addr} {n' c' : Nat} {r : Rt} {L L' : Nat} (h : RtAt w s a n c a' n' c' r L) (hL : L ≤ L') : RtAt w s a n c a' n' c' r L' :=
  ⟨h.neg, h.num, h.den, Nat.lt_of_lt_of_le h.numL (Nat.pow_le_pow_right (by decide) hL), Nat.lt_of_lt_of_le h.denL (Nat.pow_le_pow_right (by decide) hL)⟩
def Reads2 (b : Bool) (r q : Rt) (L : Nat) (w : World) (e : Ending) (w' : World) : Prop :=
  ∃ s a n c a' n' c' t p m d p' m' d', e = .returned (.tuple #[.agg #[.bool s, .slice a n c, .slice a' n' c'], .agg #[.bool t, .slice p m d, .slice p' m' d'], .bool b]) ∧
    (b = true → RtAt w' s a n c a' n' c' r L ∧ RtAt w' t p m d p' m' d' q L) ∧ Below w.heap.size w w'
theorem RtAt.drew {w : World} {s : Bool} {a : Option Addr} {n c : Nat} {a' : Option Addr} {n' c' : Nat} {r : Rt} {L : Nat} (h : RtAt w s a n c a' n' c' r L) : RtAt w.drew s a n c a' n' c' r L :=
  h.keep (Below.refl _ _).drew
theorem below33 {B : Nat} {w w1 : World} (h : Below B w w1) {s1 s2 : Nat} (h1 : B ≤ s1) (h2 : B ≤ s2) (x0 x1 x2 y0 y1 y2 : Value) :
    Below B w ((((((w1.setCell ⟨s1, 0, none⟩ x0).setCell ⟨s1, 1, none⟩ x1).setCell ⟨s1, 2, none⟩ x2).setCell ⟨s2, 0, none⟩ y0).setCell ⟨s2, 1, none⟩ y1).setCell ⟨s2, 2, none⟩ y2).drew :=
  ((((((h.setCell h1 _).setCell h1 _).setCell h1 _).setCell h2 _).setCell h2 _).setCell h2 _).drew
theorem stored33 {w1 : World} {s1 s2 L : Nat} {sg : Bool} {a : Option Addr} {n c : Nat} {a' : Option Addr} {n' c' : Nat} {sg2 : Bool} {p : Option Addr} {m d : Nat} {p' : Option Addr} {m' d' : Nat} {r : Rt} (N1 : NoInt w1 s1) (N2 : NoInt w1 s2)
    {t : Bool} {x : Option Addr} {y z : Nat} {x' : Option Addr} {y' z' : Nat} (h : RtAt w1 t x y z x' y' z' r L) :
    RtAt ((((((w1.setCell ⟨s1, 0, none⟩ (.bool sg)).setCell ⟨s1, 1, none⟩ (.slice a n c)).setCell ⟨s1, 2, none⟩ (.slice a' n' c')).setCell ⟨s2, 0, none⟩ (.bool sg2)).setCell ⟨s2, 1, none⟩ (.slice p m d)).setCell ⟨s2, 2, none⟩ (.slice p' m' d')) t x y z x' y' z' r L := by
  have b0 : ∀ k n, Value.bool sg ≠ .int k n := fun k n h => by cases h
  have b1 : ∀ k n, Value.slice a n c ≠ .int k n := fun k n h => by cases h
  have NB : ∀ (w : World) (s t o : Nat) (b : Bool), NoInt w s → NoInt (w.setCell ⟨t, o, none⟩ (.bool b)) s := fun w s t o b h => h.setCell (by intro k n h; cases h)
  have NS : ∀ (w : World) (s t o : Nat) (a : Option Addr) (n c : Nat), NoInt w s → NoInt (w.setCell ⟨t, o, none⟩ (.slice a n c)) s := fun w s t o a n c h => h.setCell (by intro k n h; cases h)
  have x1 := NB w1 s1 s1 0 sg N1
  have x2 := NS _ s1 s1 1 a n c x1
  have y1 := NB w1 s2 s1 0 sg N2
  have y2 := NS _ s2 s1 1 a n c y1
  have y3 := NS _ s2 s1 2 a' n' c' y2
  have y4 := NB _ s2 s2 0 sg2 y3
  have y5 := NS _ s2 s2 1 p m d y4
  exact ⟨h.neg, (((((h.num.setCell _ N1).setCell _ x1).setCell _ x2).setCell _ y3).setCell _ y4).setCell _ y5, (((((h.den.setCell _ N1).setCell _ x1).setCell _ x2).setCell _ y3).setCell _ y4).setCell _ y5, h.numL, h.denL⟩
structure Box9 (W : World) (b : Nat) (v : Vl) : Prop where
  c0 : W.cell? ⟨b, 0, none⟩ = some (.int .i64 v.kind)
  c1 : W.cell? ⟨b, 1, none⟩ = some (.bool v.truth)
  c2 : W.cell? ⟨b, 2, none⟩ = some (.string v.text)
  c3 : W.cell? ⟨b, 3, none⟩ = some (.bool v.neg)
  c4 : W.cell? ⟨b, 4, none⟩ = some (.slice v.wa v.wn v.wc)
  c5 : W.cell? ⟨b, 5, none⟩ = some (.slice v.da v.dn v.dc)
  c6 : W.cell? ⟨b, 6, none⟩ = some (.bool v.ineg)
  c7 : W.cell? ⟨b, 7, none⟩ = some (.slice v.ia v.inn v.ic)
  c8 : W.cell? ⟨b, 8, none⟩ = some (.slice v.ea v.en v.ec)
theorem Box9.keep {w w1 : World} {b : Nat} {v : Vl} (h : Box9 w b v) (hb : Below w.heap.size w w1) : Box9 w1 b v :=
  ⟨cell_keep h.c0 hb, cell_keep h.c1 hb, cell_keep h.c2 hb, cell_keep h.c3 hb, cell_keep h.c4 hb, cell_keep h.c5 hb, cell_keep h.c6 hb, cell_keep h.c7 hb, cell_keep h.c8 hb⟩
theorem Box9.alloc {w : World} {b : Nat} {v : Vl} (h : Box9 w b v) (o : Obj) : Box9 (w.alloc o) b v := h.keep ((Below.refl _ _).alloc (Nat.le_refl _) _)
theorem Box9.new (w : World) (v : Vl) (T : TypeId) {b : Nat} (hb : b = w.heap.size) : Box9 (w.alloc (.cells #[.int .i64 v.kind, .bool v.truth, .string v.text, .bool v.neg, .slice v.wa v.wn v.wc, .slice v.da v.dn v.dc, .bool v.ineg, .slice v.ia v.inn v.ic, .slice v.ea v.en v.ec] T)) b v :=
  ⟨alloc_new _ _ _ hb rfl, alloc_new _ _ _ hb rfl, alloc_new _ _ _ hb rfl, alloc_new _ _ _ hb rfl, alloc_new _ _ _ hb rfl, alloc_new _ _ _ hb rfl, alloc_new _ _ _ hb rfl, alloc_new _ _ _ hb rfl, alloc_new _ _ _ hb rfl⟩
theorem Box9.all {W : World} {b : Nat} {v : Vl} (h : Box9 W b v) : W.cell? ⟨b, 0, none⟩ = some (.int .i64 v.kind) ∧ W.cell? ⟨b, 1, none⟩ = some (.bool v.truth) ∧ W.cell? ⟨b, 2, none⟩ = some (.string v.text) ∧ W.cell? ⟨b, 3, none⟩ = some (.bool v.neg) ∧ W.cell? ⟨b, 4, none⟩ = some (.slice v.wa v.wn v.wc) ∧ W.cell? ⟨b, 5, none⟩ = some (.slice v.da v.dn v.dc) ∧ W.cell? ⟨b, 6, none⟩ = some (.bool v.ineg) ∧ W.cell? ⟨b, 7, none⟩ = some (.slice v.ia v.inn v.ic) ∧ W.cell? ⟨b, 8, none⟩ = some (.slice v.ea v.en v.ec) := ⟨h.c0, h.c1, h.c2, h.c3, h.c4, h.c5, h.c6, h.c7, h.c8⟩
theorem ResBlk.new (w : World) (T : TypeId) {b : Nat} (hb : b = w.heap.size) : ResBlk (w.alloc (.cells #[.bool false, .slice none 0 0, .slice none 0 0] T)) b := by subst hb; exact ResBlk.alloc w T
theorem ResBlk.alloc1 {w : World} {b : Nat} (h : ResBlk w b) (o : Obj) : ResBlk (w.alloc o) b := h.below h.lt ((Below.refl _ _).alloc (Nat.le_refl _) _)
theorem RtBlk.all {W : World} {b : Nat} {s : Bool} {a : Option Addr} {n c : Nat} {a' : Option Addr} {n' c' : Nat} (h : RtBlk W b s a n c a' n' c') : W.cell? ⟨b, 0, none⟩ = some (.bool s) ∧ W.cell? ⟨b, 1, none⟩ = some (.slice a n c) ∧ W.cell? ⟨b, 2, none⟩ = some (.slice a' n' c') := ⟨h.c0, h.c1, h.c2⟩
theorem RtBlk.new (w : World) (T : TypeId) {b : Nat} (hb : b = w.heap.size) (sg : Bool) (a : Option Addr) (n c : Nat) (a' : Option Addr) (n' c' : Nat) :
    RtBlk (w.alloc (.cells #[.bool sg, .slice a n c, .slice a' n' c'] T)) b sg a n c a' n' c' := by subst hb; exact rtBlk_new _ _ _ _ _ _ _ _ _
end Go.Bg
namespace Go.Proofs.YtgmienggfaahlaaGreatDoor
open Go.RowKit Go.Bg Dg
theorem sg_and (s : Bool) (N : Nat) : sg (s && decide (0 < N)) N = sg s N := by
  cases s
  · rfl
  · by_cases h : 0 < N
    · simp [h]
    · have : N = 0 := by omega
      subst this; rfl
theorem madeInt_any (v : Vl) (w : World) (h : VlAt w v) (hk : v.kind = 3) (hn : v.wn ≤ 1000000) :
    Calls Tryz.prog 38 #[.agg #[.int .i64 v.kind, .bool v.truth, .string v.text, .bool v.neg, .slice v.wa v.wn v.wc, .slice v.da v.dn v.dc, .bool v.ineg, .slice v.ia v.inn v.ic, .slice v.ea v.en v.ec]] w fun e w' => ∃ u, e = .returned u ∧ CInt w' u (sg v.neg (val W64 v.wf v.wn)) ∧ Below w.heap.size w w' := by
  obtain ⟨W0, hW0⟩ : ∃ W0, W0 = w.alloc (.cells #[.int .i64 v.kind, .bool v.truth, .string v.text, .bool v.neg, .slice v.wa v.wn v.wc, .slice v.da v.dn v.dc, .bool v.ineg, .slice v.ia v.inn v.ic, .slice v.ea v.en v.ec] 26) := ⟨_, rfl⟩
  have HW := Lib.hid hW0
  have hb0 : Below w.heap.size w W0 := by rw [hW0]; exact Below.alloc' (Below.refl _ _) _
  have X : Box9 W0 w.heap.size v := by rw [hW0]; exact Box9.new w v _ rfl
  have HX := Lib.hid (h.keep hb0)
  clear hW0 h
  obtain ⟨xc0, xc1, xc2, xc3, xc4, xc5, xc6, xc7, xc8⟩ := (X).all
  rw [hk] at xc0
  clear hk
  go_enter Tryz.func38, Tryz.ntmps38
  go_upto_region 1 with fail
  rw [← HW.out]
  go_wp2_with fail
  refine (of_any' v.neg v.wa v.wn v.wc v.wf _ HX.out.ws hn).mono ?_
  rintro e w1 ⟨b, rfl, hb, hI, hB1⟩
  go_wp2_with fail
  refine (makeOfInt_any b 0 _ _ _ hI).mono ?_
  rintro e w2 ⟨u, rfl, hu, rfl⟩
  rw [sg_and] at hu
  have hbf := Below.then hb0 (Nat.le_refl _) hB1
  go_wp2
  go_ret
  exact ⟨_, rfl, hu, hbf⟩
def cmpTok (k : Nat) : Int := if k = 0 then 39 else if k = 1 then 44 else if k = 2 then 40 else if k = 3 then 45 else if k = 4 then 41 else 46
theorem comparison_any (k : Nat) (hk : k < 6) (w : World) :
    Calls Tryz.prog 40 #[.int .i64 k] w fun e w' => e = .returned (.tuple #[.int .i64 (cmpTok k), .bool true]) ∧ Below w.heap.size w w' := by
  have HB := Lib.hid (fun (o : Obj) => (Below.alloc' (Below.refl w.heap.size w) o))
  obtain ⟨T, hT⟩ : ∃ T, T = cmpTok k := ⟨_, rfl⟩
  rcases (by omega : k = 0 ∨ k = 1 ∨ k = 2 ∨ k = 3 ∨ k = 4 ∨ k = 5) with rfl | rfl | rfl | rfl | rfl | rfl
  all_goals
    go_enter Tryz.func40, Tryz.ntmps40
    go_wp2
    refine bodyPost_ret (v := .tuple #[.int .i64 T, .bool true]) (by rw [hT]; simp [results, Tryz.results40, go_sem, cmpTok]) rfl ⟨by rw [hT], HB.out _⟩
def cmpB (k : Nat) (c : Int) : Bool := if k = 0 then decide (c = 0) else if k = 1 then decide (c ≠ 0) else if k = 2 then decide (c < 0) else if k = 3 then decide (c ≤ 0) else if k = 4 then decide (0 < c) else decide (0 ≤ c)
theorem cmpZero_any (k : Nat) (hk : k < 6) (c : Int) (w : World) :
    Calls Tryz.prog 99 #[.int .i64 c, .int .i64 (cmpTok k)] w fun e w' => e = .returned (.bool (cmpB k c)) ∧ w = w' := by
  rcases (by omega : k = 0 ∨ k = 1 ∨ k = 2 ∨ k = 3 ∨ k = 4 ∨ k = 5) with rfl | rfl | rfl | rfl | rfl | rfl
  all_goals
    simp only [cmpTok, cmpB]
    go_enter Tryz.func99, Tryz.ntmps99
    go_wp2
    go_ret
    exact ⟨ret_bool (by first | rfl | (simp; done) | (simp; rfl)), rfl⟩
def ordOf (v : Value) : Int := match v with | .iface t _ => if t = 87 then 2 else 3 | _ => 0
theorem ordInt_any (v : Value) (z : Int) (w : World) (h : CInt w v z) :
    Calls Tryz.prog 132 #[v] w fun e w' => e = .returned (.int .i64 (ordOf v)) ∧ w = w' := by
  rcases h with ⟨rfl, _⟩ | ⟨b, o, s, N, rfl, _, _⟩
  · obtain ⟨t1, t2, t3, t4, t5, t6, t7, t8, t9⟩ := ta_int64Val
    go_enter Tryz.func132, Tryz.ntmps132
    go_wp2
    go_ret
    exact ⟨ret_int rfl, rfl⟩
  · obtain ⟨t1, t2, t3, t4, t5, t6, t7, t8, t9⟩ := ta_intVal
    go_enter Tryz.func132, Tryz.ntmps132
    go_wp2
    go_ret
    exact ⟨ret_int rfl, rfl⟩
end Go.Proofs.YtgmienggfaahlaaGreatDoor
namespace Go.Bg
open Go.RowKit Dg
theorem bigN_word {T : TypeId} {w : World} {g x c : Nat} (hg : BlkAt w g (Array.replicate c (.int .u64 0)) T) (hc : 0 < c) (hc4 : c ≤ 5) (hx : x < W64) (h0 : 0 < x) : BigN T (w.setCell ⟨g, 0, none⟩ (.int .u64 (x : Nat))) (some ⟨g, 0, none⟩) 1 c x := by
  refine ⟨⟨by simpa using hx, .inr (by simp; omega), hc, by unfold maxLen; omega, fun _ => ⟨g, 0, rfl, fun i hi => ?_⟩⟩, .inr ⟨g, _, rfl, hg.set 0 _, by simp⟩⟩
  obtain rfl : i = 0 := by omega
  rw [(hg.set 0 _).cell]
  simp [dg, Nat.mod_eq_of_lt hx, hc]
def GivesN (T : TypeId) (N : Nat) (w : World) (e : Ending) (w' : World) : Prop := ∃ a n c, e = .returned (.slice a n c) ∧ BigN T w' a n c N ∧ Below w.heap.size w w'
end Go.Bg
namespace Go.Proofs.YtgmienggfaahlaaGreatDoor
open Go.RowKit Go.Bg Dg
theorem make_nil (n : Nat) (hn : n ≤ 1000000) (w : World) :
    Calls Tryz.prog 194 #[.slice none 0 0, .int .i64 n] w (MadeIs 155 n w) := by
  by_cases h0 : n = 0
  · subst h0
    go_enter Tryz.func194, Tryz.ntmps194
    go_wp2
    go_ret
    exact .inl ⟨rfl, rfl, rfl⟩
  · by_cases h1 : n = 1
    · subst h1
      have hmk : ∀ w : World, (Instr.makeSlice 147 (.int .i64 1) (.int .i64 1)).run Tryz.prog w = .ok (.slice (some ⟨w.heap.size, 0, none⟩) 1 1) (w.alloc (.cells (Array.replicate 1 (.int .u64 0)) 155)) :=
        run_make_nat 147 155 Tryz.underlying147 infoWord 1 1 (Nat.le_refl _) (by omega)
      go_enter Tryz.func194, Tryz.ntmps194
      go_wp2
      go_ret
      exact .inr ⟨1, by omega, Nat.le_refl _, by omega, rfl, rfl⟩
    · have hz : ((n : Int) == 1) = false := by simp; omega
      have hmk : ∀ w : World, (Instr.makeSlice 147 (.int .i64 (n : Int)) (.int .i64 ((n : Int) + 4))).run Tryz.prog w = .ok (.slice (some ⟨w.heap.size, 0, none⟩) n (n + 4)) (w.alloc (.cells (Array.replicate (n + 4) (.int .u64 0)) 155)) :=
        run_make_nat 147 155 Tryz.underlying147 infoWord n (n + 4) (by omega) (by omega)
      have hle : ¬ ((n : Int) ≤ 0) := by omega
      go_enter Tryz.func194, Tryz.ntmps194
      go_wp2
      go_ret
      exact .inr ⟨n + 4, by omega, by omega, by omega, rfl, rfl⟩
theorem setWord_nil (x : Nat) (hx : x < 18446744073709551616) (w : World) :
    Calls Tryz.prog 156 #[.slice none 0 0, .int .u64 x] w (GivesN 155 x w) := by
  by_cases h0 : x = 0
  · subst h0
    go_enter Tryz.func156, Tryz.ntmps156
    go_wp2
    go_ret
    exact ⟨_, _, _, rfl, BigN.nil _ _, Below.refl _ _⟩
  · have hz : ((x : Int) == 0) = false := by simpa using h0
    go_enter Tryz.func156, Tryz.ntmps156
    go_wp2_with fail
    refine (make_nil 1 (by omega) _).mono ?_
    rintro e w1 (⟨h, _⟩ | ⟨c, _, hc0, hc, rfl, hw⟩)
    · cases h
    have hb : BlkAt w1 w.heap.size (Array.replicate c (.int .u64 0)) 155 := by rw [hw]; exact BlkAt.new _ _ _
    have hB1 : Below w.heap.size w w1 := by rw [hw]; exact (Below.refl _ _).alloc (Nat.le_refl _) _
    have HN := Lib.hid (bigN_word hb (by omega) hc hx (by omega))
    have HB := Lib.hid (hB1.setCell (p := ⟨w.heap.size, 0, none⟩) (Nat.le_refl _) (.int .u64 (x : Nat)))
    have c0 : w1.cell? ⟨w.heap.size, 0, none⟩ = some (.int .u64 0) := by rw [hb.cell, Array.getElem?_replicate, if_pos (by omega)]
    have f0 := hb.frozen 0
    clear hb hw hB1 hx
    go_wp2
    go_ret
    exact ⟨_, _, _, rfl, HN.out, HB.out⟩
theorem setUint64_nil (x : Nat) (hx : x < 18446744073709551616) (w : World) :
    Calls Tryz.prog 188 #[.slice none 0 0, .int .u64 x] w (GivesN 155 x w) := by
  have HX := Lib.hid hx
  clear hx
  go_enter Tryz.func188, Tryz.ntmps188
  go_wp2_with fail
  refine (setWord_nil x HX.out _).mono ?_
  rintro e w1 ⟨a, n, c, rfl, hN, hB⟩
  go_wp2
  go_ret
  exact ⟨_, _, _, rfl, hN, hB⟩
structure NewInt (w : World) (b o : Nat) : Prop where
  blk : Strct 155 w b
  c0 : ∃ u, w.cell? ⟨b, o, none⟩ = some u
  c1 : w.cell? ⟨b, o + 1, none⟩ = some (.slice none 0 0)
theorem NewInt.keep {w w1 : World} {b o : Nat} (h : NewInt w b o) (hb : Below w.heap.size w w1) : NewInt w1 b o := by
  obtain ⟨u, h0⟩ := h.c0
  exact ⟨h.blk.keep hb, ⟨u, cell_keep h0 hb⟩, cell_keep h.c1 hb⟩
theorem NewInt.made {w w1 : World} {b o : Nat} (h : NewInt w b o) (hb : Below w.heap.size w w1) {a : Option Addr} {n c N : Nat} {s : Bool} (hN : BigN 155 w1 a n c N) (hz : s = true → 0 < N) :
    IntIs b o s N w (.returned (.pointer (some ⟨b, o, none⟩))) ((w1.setCell ⟨b, o + 1, none⟩ (.slice a n c)).setCell ⟨b, o, none⟩ (.bool s)) := by
  have h' := h.keep hb
  exact ⟨rfl, BigAt.stored h'.blk h'.c0 ⟨_, h'.c1⟩ hN hz, (UpdI.of_below hb h.blk).trans ((UpdI.set1 _ _ _ _).trans (UpdI.set0 _ _ _ _))⟩
theorem setInt64_any (b o : Nat) (x : Int) (hx : -9223372036854775808 ≤ x ∧ x < 9223372036854775808) (w : World) (h : NewInt w b o) :
    Calls Tryz.prog 128 #[.pointer (some ⟨b, o, none⟩), .int .i64 x] w (IntIs b o (decide (x < 0)) x.natAbs w) := by
  have HH := Lib.hid h
  have h1 := h.c1
  by_cases hn : x < 0
  · have HX := Lib.hid (show IntKind.u64.wrap (wrap64 (-x)) = (x.natAbs : Int) from by rw [IntKind.wrap_u64]; unfold wrap64; omega)
    have HL := Lib.hid (show x.natAbs < 18446744073709551616 from by omega)
    have HD := Lib.hid (show 0 < x.natAbs from by omega)
    have hd : decide (x < 0) = true := by simpa using hn
    rw [hd]
    clear hd
    clear h hx
    go_enter Tryz.func128, Tryz.ntmps128
    go_wp2_with fail
    rw [HX.out]
    refine (setUint64_nil _ HL.out _).mono ?_
    rintro e w1 ⟨a, n, c, rfl, hN, hB⟩
    have HF := Lib.hid (HH.out.made hB (s := true) hN (fun _ => HD.out))
    have h' := HH.out.keep hB
    obtain ⟨u0, k0⟩ := h'.c0
    have k1 := h'.c1
    have f0 := h'.blk.frozen o
    have f1 := h'.blk.frozen (o + 1)
    have k0' : ∀ v, (w1.setCell ⟨b, o + 1, none⟩ v).cell? ⟨b, o, none⟩ = some u0 := fun v => by
      rw [World.cell?_setCell_other _ _ _ _ (fun hh => by injection hh with _ hh _; omega)]; exact k0
    clear h' hN hB
    go_wp2
    go_ret
    exact HF.out
  · have HX := Lib.hid (show IntKind.u64.wrap x = (x.natAbs : Int) from by rw [IntKind.wrap_u64]; omega)
    have HL := Lib.hid (show x.natAbs < 18446744073709551616 from by omega)
    have hd : decide (x < 0) = false := by simpa using hn
    rw [hd]
    clear hd
    clear h hx
    go_enter Tryz.func128, Tryz.ntmps128
    go_wp2_with fail
    rw [HX.out]
    refine (setUint64_nil _ HL.out _).mono ?_
    rintro e w1 ⟨a, n, c, rfl, hN, hB⟩
    have HF := Lib.hid (HH.out.made hB (s := false) hN (by simp))
    have h' := HH.out.keep hB
    obtain ⟨u0, k0⟩ := h'.c0
    have k1 := h'.c1
    have f0 := h'.blk.frozen o
    have f1 := h'.blk.frozen (o + 1)
    have k0' : ∀ v, (w1.setCell ⟨b, o + 1, none⟩ v).cell? ⟨b, o, none⟩ = some u0 := fun v => by
      rw [World.cell?_setCell_other _ _ _ _ (fun hh => by injection hh with _ hh _; omega)]; exact k0
    clear h' hN hB
    go_wp2
    go_ret
    exact HF.out
theorem sg_natAbs (x : Int) : sg (decide (x < 0)) x.natAbs = x := by
  unfold sg
  by_cases h : x < 0 <;> simp [h] <;> omega
theorem newInt_any (w : World) : Calls Tryz.prog 60 #[] w fun e w' => e = .returned (.pointer (some ⟨w.heap.size, 0, none⟩)) ∧ w' = w.alloc (.cells #[.bool false, .slice none 0 0] 168) := by
  go_enter Tryz.func60, Tryz.ntmps60
  go_wp2
  go_ret
  exact ⟨rfl, rfl⟩
theorem newInt_is (w : World) : NewInt (w.alloc (.cells #[.bool false, .slice none 0 0] 168)) w.heap.size 0 := by
  have h := BlkAt.new w #[.bool false, .slice none 0 0] 168
  exact ⟨⟨_, _, h, by decide⟩, ⟨_, h.cell 0⟩, h.cell 1⟩
theorem i64toi_any (x : Int) (hx : -9223372036854775808 ≤ x ∧ x < 9223372036854775808) (w : World) :
    Calls Tryz.prog 190 #[.int .i64 x] w fun e w' => ∃ b, e = .returned (.agg #[.pointer (some ⟨b, 0, none⟩)]) ∧ BigAt 155 w' b 0 (decide (x < 0)) x.natAbs ∧ Below w.heap.size w w' := by
  have HX := Lib.hid hx
  clear hx
  go_enter Tryz.func190, Tryz.ntmps190
  go_wp2_with fail
  refine (newInt_any _).mono ?_
  rintro e w1 ⟨rfl, hw1⟩
  have hs1 : w1.heap.size = w.heap.size + 1 + 1 := by rw [hw1]; simp
  have hb1 : Below w.heap.size w w1 := by rw [hw1]; exact Below.alloc' (Below.alloc' (Below.refl _ _) _) _
  have hn1 : NewInt w1 (w.heap.size + 1) 0 := by rw [hw1]; simpa using newInt_is (w.alloc (.cells #[.pointer none] 98))
  have hl : BlkAt w1 w.heap.size #[.pointer none] 98 := by rw [hw1]; exact (BlkAt.new _ _ _).keep ((Below.refl _ _).alloc (Nat.le_refl _) _)
  have HW1 := Lib.hid hw1
  clear hw1
  go_wp2_with fail
  refine (setInt64_any (w.heap.size + 1) 0 x HX.out _ hn1).mono ?_
  rintro e w2 ⟨rfl, hI, hU⟩
  have hl2 := hU.upd.blk hl (Nat.ne_of_lt (Nat.lt_succ_self _))
  have HI := Lib.hid (hI.upd (Upd.set1 w2 w.heap.size 0 (.pointer (some ⟨w.heap.size + 1, 0, none⟩))) (Nat.ne_of_gt (Nat.lt_succ_self _)) (fun k _ e => by subst e; exact ⟨_, _, hl2, by decide⟩))
  have HB := Lib.hid ((hU.upd.below hb1 (by omega) (fun k _ e => by subst e; exact Nat.le_add_right _ 1)).setCell (p := ⟨w.heap.size, 0, none⟩) (Nat.le_refl _) (.pointer (some ⟨w.heap.size + 1, 0, none⟩)))
  have c0 := hl2.cell 0
  have f0 := hl2.frozen 0
  simp only [List.getElem?_toArray, List.getElem?_cons_zero] at c0
  clear hl hl2 hI hU hn1 hb1
  go_wp2
  exact bodyPost_ret (v := .agg #[.pointer (some ⟨w.heap.size + 1, 0, none⟩)]) (by simp [results, Tryz.results190, go_sem, c0]) rfl ⟨_, rfl, HI.out, HB.out⟩
end Go.Proofs.YtgmienggfaahlaaGreatDoor
