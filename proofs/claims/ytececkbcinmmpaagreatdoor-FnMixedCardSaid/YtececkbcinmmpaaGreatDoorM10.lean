/-
  Contracts and lemmas: Ta BigE BigF BigG BigH BigI.
-/
import Derived.Test.YtececkbcinmmpaaGreatDoorM01
import Derived.Test.YtececkbcinmmpaaGreatDoorM09
import Derived.Test.YtececkbcinmmpaaGreatDoorM06
import Derived.LaidEqlPtr
set_option linter.unusedSimpArgs false
set_option linter.unusedVariables false
set_option maxRecDepth 100000
set_option maxHeartbeats 8000000
namespace Go.Proofs.YtececkbcinmmpaaGreatDoor
theorem ta_int64Val : (∀ (v : Value) (w : World), (Instr.typeAssert (.iface 91 v) 64 89 true).run Tryz.prog w = .ok (.tuple #[.agg #[], .bool false]) w) ∧
    (∀ (v : Value) (w : World), (Instr.typeAssert (.iface 91 v) 64 90 true).run Tryz.prog w = .ok (.tuple #[.bool false, .bool false]) w) ∧
    (∀ (v : Value) (w : World), (Instr.typeAssert (.iface 91 v) 64 91 true).run Tryz.prog w = .ok (.tuple #[v, .bool true]) w) ∧
    (∀ (v : Value) (w : World), (Instr.typeAssert (.iface 91 v) 64 102 true).run Tryz.prog w = .ok (.tuple #[.agg #[.pointer none], .bool false]) w) ∧
    (∀ (v : Value) (w : World), (Instr.typeAssert (.iface 91 v) 64 106 true).run Tryz.prog w = .ok (.tuple #[.agg #[.pointer none], .bool false]) w) ∧
    (∀ (v : Value) (w : World), (Instr.typeAssert (.iface 91 v) 64 110 true).run Tryz.prog w = .ok (.tuple #[.agg #[.pointer none], .bool false]) w) ∧
    (∀ (v : Value) (w : World), (Instr.typeAssert (.iface 91 v) 64 115 true).run Tryz.prog w = .ok (.tuple #[.agg #[.nilIface, .nilIface], .bool false]) w) ∧
    (∀ (v : Value) (w : World), (Instr.typeAssert (.iface 91 v) 64 117 true).run Tryz.prog w = .ok (.tuple #[.pointer none, .bool false]) w) ∧
    (∀ (v : Value) (w : World), (Instr.typeAssert (.iface 91 v) 64 91 false).run Tryz.prog w = .ok v w) := by
  refine ⟨?_, ?_, ?_, ?_, ?_, ?_, ?_, ?_, ?_⟩ <;> (intro v w; kernel_rfl)
theorem ta_intVal : (∀ (v : Value) (w : World), (Instr.typeAssert (.iface 102 v) 64 89 true).run Tryz.prog w = .ok (.tuple #[.agg #[], .bool false]) w) ∧
    (∀ (v : Value) (w : World), (Instr.typeAssert (.iface 102 v) 64 90 true).run Tryz.prog w = .ok (.tuple #[.bool false, .bool false]) w) ∧
    (∀ (v : Value) (w : World), (Instr.typeAssert (.iface 102 v) 64 91 true).run Tryz.prog w = .ok (.tuple #[.int .i64 0, .bool false]) w) ∧
    (∀ (v : Value) (w : World), (Instr.typeAssert (.iface 102 v) 64 102 true).run Tryz.prog w = .ok (.tuple #[v, .bool true]) w) ∧
    (∀ (v : Value) (w : World), (Instr.typeAssert (.iface 102 v) 64 106 true).run Tryz.prog w = .ok (.tuple #[.agg #[.pointer none], .bool false]) w) ∧
    (∀ (v : Value) (w : World), (Instr.typeAssert (.iface 102 v) 64 110 true).run Tryz.prog w = .ok (.tuple #[.agg #[.pointer none], .bool false]) w) ∧
    (∀ (v : Value) (w : World), (Instr.typeAssert (.iface 102 v) 64 115 true).run Tryz.prog w = .ok (.tuple #[.agg #[.nilIface, .nilIface], .bool false]) w) ∧
    (∀ (v : Value) (w : World), (Instr.typeAssert (.iface 102 v) 64 117 true).run Tryz.prog w = .ok (.tuple #[.pointer none, .bool false]) w) ∧
    (∀ (v : Value) (w : World), (Instr.typeAssert (.iface 102 v) 64 102 false).run Tryz.prog w = .ok v w) := by
  refine ⟨?_, ?_, ?_, ?_, ?_, ?_, ?_, ?_, ?_⟩ <;> (intro v w; kernel_rfl)
theorem ta_ratVal : (∀ (v : Value) (w : World), (Instr.typeAssert (.iface 106 v) 64 89 true).run Tryz.prog w = .ok (.tuple #[.agg #[], .bool false]) w) ∧
    (∀ (v : Value) (w : World), (Instr.typeAssert (.iface 106 v) 64 90 true).run Tryz.prog w = .ok (.tuple #[.bool false, .bool false]) w) ∧
    (∀ (v : Value) (w : World), (Instr.typeAssert (.iface 106 v) 64 91 true).run Tryz.prog w = .ok (.tuple #[.int .i64 0, .bool false]) w) ∧
    (∀ (v : Value) (w : World), (Instr.typeAssert (.iface 106 v) 64 102 true).run Tryz.prog w = .ok (.tuple #[.agg #[.pointer none], .bool false]) w) ∧
    (∀ (v : Value) (w : World), (Instr.typeAssert (.iface 106 v) 64 106 true).run Tryz.prog w = .ok (.tuple #[v, .bool true]) w) ∧
    (∀ (v : Value) (w : World), (Instr.typeAssert (.iface 106 v) 64 110 true).run Tryz.prog w = .ok (.tuple #[.agg #[.pointer none], .bool false]) w) ∧
    (∀ (v : Value) (w : World), (Instr.typeAssert (.iface 106 v) 64 115 true).run Tryz.prog w = .ok (.tuple #[.agg #[.nilIface, .nilIface], .bool false]) w) ∧
    (∀ (v : Value) (w : World), (Instr.typeAssert (.iface 106 v) 64 117 true).run Tryz.prog w = .ok (.tuple #[.pointer none, .bool false]) w) ∧
    (∀ (v : Value) (w : World), (Instr.typeAssert (.iface 106 v) 64 106 false).run Tryz.prog w = .ok v w) := by
  refine ⟨?_, ?_, ?_, ?_, ?_, ?_, ?_, ?_, ?_⟩ <;> (intro v w; kernel_rfl)
theorem ta_any_pInt : (∀ (v : Value) (w : World), (Instr.typeAssert (.iface 94 v) 20 4 true).run Tryz.prog w = .ok (.tuple #[.bool false, .bool false]) w) ∧
    (∀ (v : Value) (w : World), (Instr.typeAssert (.iface 94 v) 20 9 true).run Tryz.prog w = .ok (.tuple #[.string ⟨#[]⟩, .bool false]) w) ∧
    (∀ (v : Value) (w : World), (Instr.typeAssert (.iface 94 v) 20 2 true).run Tryz.prog w = .ok (.tuple #[.int .i64 0, .bool false]) w) ∧
    (∀ (v : Value) (w : World), (Instr.typeAssert (.iface 94 v) 20 94 true).run Tryz.prog w = .ok (.tuple #[v, .bool true]) w) ∧
    (∀ (v : Value) (w : World), (Instr.typeAssert (.iface 94 v) 20 99 true).run Tryz.prog w = .ok (.tuple #[.pointer none, .bool false]) w) ∧
    (∀ (v : Value) (w : World), (Instr.typeAssert (.iface 94 v) 20 108 true).run Tryz.prog w = .ok (.tuple #[.pointer none, .bool false]) w) := by
  refine ⟨?_, ?_, ?_, ?_, ?_, ?_⟩ <;> (intro v w; kernel_rfl)
theorem ta_any_pRat : (∀ (v : Value) (w : World), (Instr.typeAssert (.iface 99 v) 20 4 true).run Tryz.prog w = .ok (.tuple #[.bool false, .bool false]) w) ∧
    (∀ (v : Value) (w : World), (Instr.typeAssert (.iface 99 v) 20 9 true).run Tryz.prog w = .ok (.tuple #[.string ⟨#[]⟩, .bool false]) w) ∧
    (∀ (v : Value) (w : World), (Instr.typeAssert (.iface 99 v) 20 2 true).run Tryz.prog w = .ok (.tuple #[.int .i64 0, .bool false]) w) ∧
    (∀ (v : Value) (w : World), (Instr.typeAssert (.iface 99 v) 20 94 true).run Tryz.prog w = .ok (.tuple #[.pointer none, .bool false]) w) ∧
    (∀ (v : Value) (w : World), (Instr.typeAssert (.iface 99 v) 20 99 true).run Tryz.prog w = .ok (.tuple #[v, .bool true]) w) ∧
    (∀ (v : Value) (w : World), (Instr.typeAssert (.iface 99 v) 20 108 true).run Tryz.prog w = .ok (.tuple #[.pointer none, .bool false]) w) := by
  refine ⟨?_, ?_, ?_, ?_, ?_, ?_⟩ <;> (intro v w; kernel_rfl)
end Go.Proofs.YtececkbcinmmpaaGreatDoor
namespace Go.Proofs.YtececkbcinmmpaaGreatDoor
open Go.RowKit Go.Bg Dg
theorem int64_plain (s : Bool) (N : Nat) (h : fit64 (sg s N) = true) : (if s then wrap64 (-wrap64 (N : Int)) else wrap64 (N : Int)) = sg s N := by
  unfold fit64 sg at h
  unfold sg
  cases s
  · simp at h ⊢; unfold wrap64; omega
  · simp at h ⊢
    by_cases h2 : N = 9223372036854775808
    · subst h2
      have e1 : wrap64 ((9223372036854775808 : Nat) : Int) = -9223372036854775808 := by unfold wrap64; omega
      rw [e1]; unfold wrap64; omega
    · have e1 : wrap64 (N : Int) = N := by unfold wrap64; omega
      rw [e1]; unfold wrap64; omega
theorem fit64_lt {s : Bool} {N : Nat} (h : fit64 (sg s N) = true) : N < 18446744073709551616 := by
  unfold fit64 sg at h
  cases s <;> simp at h <;> omega
theorem int64_any (b o : Nat) (s : Bool) (N : Nat) (w : World) (h : BigAt 139 w b o s N) (hf : fit64 (sg s N) = true) :
    Calls Tryz.prog 143 #[.pointer (some ⟨b, o, none⟩)] w fun e w' => e = .returned (.int .i64 (sg s N)) ∧ w = w' := by
  obtain ⟨a, n, c, h0, h1, hN⟩ := h.val
  have hcm := hN.num.cm
  have hnc := hN.num.nc
  have HN := Lib.hid hN
  have HP := Lib.hid (int64_plain s N hf)
  have HM := Lib.hid (show N % 18446744073709551616 = N from Nat.mod_eq_of_lt (fit64_lt hf))
  clear h hN hf
  cases s
  · go_enter Tryz.func143, Tryz.ntmps143
    go_wp2_with fail
    refine (low64_any a n c _ _ HN.out.num).mono ?_
    rintro e w1 ⟨rfl, rfl⟩
    rw [HM.out]
    go_upto_region 2 with fail
    generalize wrap64 (N : Int) = z at *
    go_wp2
    go_ret
    exact ⟨ret_int (by simpa using HP.out), rfl⟩
  · go_enter Tryz.func143, Tryz.ntmps143
    go_wp2_with fail
    refine (low64_any a n c _ _ HN.out.num).mono ?_
    rintro e w1 ⟨rfl, rfl⟩
    rw [HM.out]
    go_upto_region 2 with fail
    generalize wrap64 (N : Int) = z at *
    go_wp2
    go_ret
    exact ⟨ret_int (by simpa using HP.out), rfl⟩
def CInt (w : World) (v : Value) (z : Int) : Prop :=
  (v = .iface 91 (.int .i64 z) ∧ fit64 z = true) ∨ ∃ b o s N, v = .iface 102 (.agg #[.pointer (some ⟨b, o, none⟩)]) ∧ BigAt 139 w b o s N ∧ sg s N = z
theorem CInt.keep {w w' : World} {v : Value} {z : Int} (h : CInt w v z) (hb : Below w.heap.size w w') : CInt w' v z := by
  rcases h with h | ⟨b, o, s, N, rfl, h1, h2⟩
  · exact .inl h
  · exact .inr ⟨b, o, s, N, rfl, h1.keep hb, h2⟩
theorem makeInt_any (b o : Nat) (s : Bool) (N : Nat) (w : World) (h : BigAt 139 w b o s N) :
    Calls Tryz.prog 75 #[.pointer (some ⟨b, o, none⟩)] w fun e w' => ∃ v, e = .returned v ∧ CInt w' v (sg s N) ∧ w = w' := by
  have HH := Lib.hid h
  clear h
  cases hf : fit64 (sg s N)
  · have HF := Lib.hid hf
    clear hf
    go_enter Tryz.func75, Tryz.ntmps75
    go_wp2_with fail
    refine (isInt64_any b o s N _ HH.out).mono ?_
    rintro e w1 ⟨rfl, rfl⟩
    rw [HF.out]
    go_wp2
    go_ret
    exact ⟨_, rfl, .inr ⟨b, o, s, N, rfl, HH.out, rfl⟩, rfl⟩
  · have HF := Lib.hid hf
    clear hf
    go_enter Tryz.func75, Tryz.ntmps75
    go_wp2_with fail
    refine (isInt64_any b o s N _ HH.out).mono ?_
    rintro e w1 ⟨rfl, rfl⟩
    rw [HF.out]
    go_wp2_with fail
    refine (int64_any b o s N _ HH.out HF.out).mono ?_
    rintro e w1 ⟨rfl, rfl⟩
    go_wp2
    go_ret
    exact ⟨_, rfl, .inl ⟨rfl, HF.out⟩, rfl⟩
theorem makeOfInt_any (b o : Nat) (s : Bool) (N : Nat) (w : World) (h : BigAt 139 w b o s N) :
    Calls Tryz.prog 109 #[.iface 94 (.pointer (some ⟨b, o, none⟩))] w fun e w' => ∃ v, e = .returned v ∧ CInt w' v (sg s N) ∧ w = w' := by
  have HH := Lib.hid h
  clear h
  obtain ⟨t1, t2, t3, t4, t5, t6⟩ := ta_any_pInt
  go_enter Tryz.func109, Tryz.ntmps109
  go_wp2_with fail
  refine (makeInt_any b o s N _ HH.out).mono ?_
  rintro e w1 ⟨v, rfl, hv, rfl⟩
  have HV := Lib.hid hv
  clear hv
  go_wp2
  go_ret
  exact ⟨_, rfl, HV.out, rfl⟩
theorem sg_and (s : Bool) (N : Nat) : sg (s && decide (0 < N)) N = sg s N := by
  cases s
  · rfl
  · by_cases h : 0 < N
    · simp [h]
    · have : N = 0 := by omega
      subst this; rfl
theorem madeInt_any (v : Vl) (w : World) (h : VlAt w v) (hk : v.kind = 3) (hn : v.wn ≤ 1000000) :
    Calls Tryz.prog 49 #[.agg #[.int .i64 v.kind, .bool v.truth, .string v.text, .bool v.neg, .slice v.wa v.wn v.wc, .slice v.da v.dn v.dc, .bool v.ineg, .slice v.ia v.inn v.ic, .slice v.ea v.en v.ec]] w fun e w' => ∃ u, e = .returned u ∧ CInt w' u (sg v.neg (val W64 v.wf v.wn)) ∧ Below w.heap.size w w' := by
  obtain ⟨W0, hW0⟩ : ∃ W0, W0 = w.alloc (.cells #[.int .i64 v.kind, .bool v.truth, .string v.text, .bool v.neg, .slice v.wa v.wn v.wc, .slice v.da v.dn v.dc, .bool v.ineg, .slice v.ia v.inn v.ic, .slice v.ea v.en v.ec] 26) := ⟨_, rfl⟩
  have HW := Lib.hid hW0
  have hb0 : Below w.heap.size w W0 := by rw [hW0]; exact Below.alloc' (Below.refl _ _) _
  have X : Box9 W0 w.heap.size v := by rw [hW0]; exact Box9.new w v _ rfl
  have HX := Lib.hid (h.keep hb0)
  clear hW0 h
  obtain ⟨xc0, xc1, xc2, xc3, xc4, xc5, xc6, xc7, xc8⟩ := (X).all
  rw [hk] at xc0
  clear hk
  go_enter Tryz.func49, Tryz.ntmps49
  go_upto_region 1 with fail
  rw [← HW.out]
  go_wp2_with fail
  refine (of_any' v.neg v.wa v.wn v.wc v.wf _ HX.out.ws hn).mono ?_
  rintro e w1 ⟨b, rfl, hb, hI, hB1⟩
  go_wp2_with fail
  refine (makeOfInt_any b 0 _ _ _ hI).mono ?_
  rintro e w2 ⟨u, rfl, hu, rfl⟩
  rw [sg_and] at hu
  have hbf := Below.then hb0 (Nat.le_refl _) hB1
  go_wp2
  go_ret
  exact ⟨_, rfl, hu, hbf⟩
def ordOf (v : Value) : Int := match v with | .iface t _ => if t = 91 then 2 else 3 | _ => 0
theorem ordInt_any (v : Value) (z : Int) (w : World) (h : CInt w v z) :
    Calls Tryz.prog 140 #[v] w fun e w' => e = .returned (.int .i64 (ordOf v)) ∧ w = w' := by
  rcases h with ⟨rfl, _⟩ | ⟨b, o, s, N, rfl, _, _⟩
  · obtain ⟨t1, t2, t3, t4, t5, t6, t7, t8, t9⟩ := ta_int64Val
    go_enter Tryz.func140, Tryz.ntmps140
    go_wp2
    go_ret
    exact ⟨ret_int rfl, rfl⟩
  · obtain ⟨t1, t2, t3, t4, t5, t6, t7, t8, t9⟩ := ta_intVal
    go_enter Tryz.func140, Tryz.ntmps140
    go_wp2
    go_ret
    exact ⟨ret_int rfl, rfl⟩
end Go.Proofs.YtececkbcinmmpaaGreatDoor
namespace Go.Bg
open Go.RowKit Dg
theorem bigN_word {T : TypeId} {w : World} {g x c : Nat} (hg : BlkAt w g (Array.replicate c (.int .u64 0)) T) (hc : 0 < c) (hc4 : c ≤ 5) (hx : x < W64) (h0 : 0 < x) : BigN T (w.setCell ⟨g, 0, none⟩ (.int .u64 (x : Nat))) (some ⟨g, 0, none⟩) 1 c x := by
  refine ⟨⟨by simpa using hx, .inr (by simp; omega), hc, by unfold maxLen; omega, fun _ => ⟨g, 0, rfl, fun i hi => ?_⟩⟩, .inr ⟨g, _, rfl, hg.set 0 _, by simp⟩⟩
  obtain rfl : i = 0 := by omega
  rw [(hg.set 0 _).cell]
  simp [dg, Nat.mod_eq_of_lt hx, hc]
def GivesN (T : TypeId) (N : Nat) (w : World) (e : Ending) (w' : World) : Prop := ∃ a n c, e = .returned (.slice a n c) ∧ BigN T w' a n c N ∧ Below w.heap.size w w'
end Go.Bg
namespace Go.Proofs.YtececkbcinmmpaaGreatDoor
open Go.RowKit Go.Bg Dg
theorem make_nil (n : Nat) (hn : n ≤ 1000000) (w : World) :
    Calls Tryz.prog 204 #[.slice none 0 0, .int .i64 n] w (MadeIs 139 n w) := by
  by_cases h0 : n = 0
  · subst h0
    go_enter Tryz.func204, Tryz.ntmps204
    go_wp2
    go_ret
    exact .inl ⟨rfl, rfl, rfl⟩
  · by_cases h1 : n = 1
    · subst h1
      have hmk : ∀ w : World, (Instr.makeSlice 153 (.int .i64 1) (.int .i64 1)).run Tryz.prog w = .ok (.slice (some ⟨w.heap.size, 0, none⟩) 1 1) (w.alloc (.cells (Array.replicate 1 (.int .u64 0)) 139)) :=
        run_make_nat 153 139 Tryz.underlying153 infoWord 1 1 (Nat.le_refl _) (by omega)
      go_enter Tryz.func204, Tryz.ntmps204
      go_wp2
      go_ret
      exact .inr ⟨1, by omega, Nat.le_refl _, by omega, rfl, rfl⟩
    · have hz : ((n : Int) == 1) = false := by simp; omega
      have hmk : ∀ w : World, (Instr.makeSlice 153 (.int .i64 (n : Int)) (.int .i64 ((n : Int) + 4))).run Tryz.prog w = .ok (.slice (some ⟨w.heap.size, 0, none⟩) n (n + 4)) (w.alloc (.cells (Array.replicate (n + 4) (.int .u64 0)) 139)) :=
        run_make_nat 153 139 Tryz.underlying153 infoWord n (n + 4) (by omega) (by omega)
      have hle : ¬ ((n : Int) ≤ 0) := by omega
      go_enter Tryz.func204, Tryz.ntmps204
      go_wp2
      go_ret
      exact .inr ⟨n + 4, by omega, by omega, by omega, rfl, rfl⟩
theorem setWord_nil (x : Nat) (hx : x < 18446744073709551616) (w : World) :
    Calls Tryz.prog 165 #[.slice none 0 0, .int .u64 x] w (GivesN 139 x w) := by
  by_cases h0 : x = 0
  · subst h0
    go_enter Tryz.func165, Tryz.ntmps165
    go_wp2
    go_ret
    exact ⟨_, _, _, rfl, BigN.nil _ _, Below.refl _ _⟩
  · have hz : ((x : Int) == 0) = false := by simpa using h0
    go_enter Tryz.func165, Tryz.ntmps165
    go_wp2_with fail
    refine (make_nil 1 (by omega) _).mono ?_
    rintro e w1 (⟨h, _⟩ | ⟨c, _, hc0, hc, rfl, hw⟩)
    · cases h
    have hb : BlkAt w1 w.heap.size (Array.replicate c (.int .u64 0)) 139 := by rw [hw]; exact BlkAt.new _ _ _
    have hB1 : Below w.heap.size w w1 := by rw [hw]; exact (Below.refl _ _).alloc (Nat.le_refl _) _
    have HN := Lib.hid (bigN_word hb (by omega) hc hx (by omega))
    have HB := Lib.hid (hB1.setCell (p := ⟨w.heap.size, 0, none⟩) (Nat.le_refl _) (.int .u64 (x : Nat)))
    have c0 : w1.cell? ⟨w.heap.size, 0, none⟩ = some (.int .u64 0) := by rw [hb.cell, Array.getElem?_replicate, if_pos (by omega)]
    have f0 := hb.frozen 0
    clear hb hw hB1 hx
    go_wp2
    go_ret
    exact ⟨_, _, _, rfl, HN.out, HB.out⟩
theorem setUint64_nil (x : Nat) (hx : x < 18446744073709551616) (w : World) :
    Calls Tryz.prog 192 #[.slice none 0 0, .int .u64 x] w (GivesN 139 x w) := by
  have HX := Lib.hid hx
  clear hx
  go_enter Tryz.func192, Tryz.ntmps192
  go_wp2_with fail
  refine (setWord_nil x HX.out _).mono ?_
  rintro e w1 ⟨a, n, c, rfl, hN, hB⟩
  go_wp2
  go_ret
  exact ⟨_, _, _, rfl, hN, hB⟩
structure NewInt (w : World) (b o : Nat) : Prop where
  blk : Strct 139 w b
  c0 : ∃ u, w.cell? ⟨b, o, none⟩ = some u
  c1 : w.cell? ⟨b, o + 1, none⟩ = some (.slice none 0 0)
theorem NewInt.keep {w w1 : World} {b o : Nat} (h : NewInt w b o) (hb : Below w.heap.size w w1) : NewInt w1 b o := by
  obtain ⟨u, h0⟩ := h.c0
  exact ⟨h.blk.keep hb, ⟨u, cell_keep h0 hb⟩, cell_keep h.c1 hb⟩
theorem NewInt.made {w w1 : World} {b o : Nat} (h : NewInt w b o) (hb : Below w.heap.size w w1) {a : Option Addr} {n c N : Nat} {s : Bool} (hN : BigN 139 w1 a n c N) (hz : s = true → 0 < N) :
    IntIs b o s N w (.returned (.pointer (some ⟨b, o, none⟩))) ((w1.setCell ⟨b, o + 1, none⟩ (.slice a n c)).setCell ⟨b, o, none⟩ (.bool s)) := by
  have h' := h.keep hb
  exact ⟨rfl, BigAt.stored h'.blk h'.c0 ⟨_, h'.c1⟩ hN hz, (UpdI.of_below hb h.blk).trans ((UpdI.set1 _ _ _ _).trans (UpdI.set0 _ _ _ _))⟩
theorem setInt64_any (b o : Nat) (x : Int) (hx : -9223372036854775808 ≤ x ∧ x < 9223372036854775808) (w : World) (h : NewInt w b o) :
    Calls Tryz.prog 135 #[.pointer (some ⟨b, o, none⟩), .int .i64 x] w (IntIs b o (decide (x < 0)) x.natAbs w) := by
  have HH := Lib.hid h
  have h1 := h.c1
  by_cases hn : x < 0
  · have HX := Lib.hid (show IntKind.u64.wrap (wrap64 (-x)) = (x.natAbs : Int) from by rw [IntKind.wrap_u64]; unfold wrap64; omega)
    have HL := Lib.hid (show x.natAbs < 18446744073709551616 from by omega)
    have HD := Lib.hid (show 0 < x.natAbs from by omega)
    have hd : decide (x < 0) = true := by simpa using hn
    rw [hd]
    clear hd
    clear h hx
    go_enter Tryz.func135, Tryz.ntmps135
    go_wp2_with fail
    rw [HX.out]
    refine (setUint64_nil _ HL.out _).mono ?_
    rintro e w1 ⟨a, n, c, rfl, hN, hB⟩
    have HF := Lib.hid (HH.out.made hB (s := true) hN (fun _ => HD.out))
    have h' := HH.out.keep hB
    obtain ⟨u0, k0⟩ := h'.c0
    have k1 := h'.c1
    have f0 := h'.blk.frozen o
    have f1 := h'.blk.frozen (o + 1)
    have k0' : ∀ v, (w1.setCell ⟨b, o + 1, none⟩ v).cell? ⟨b, o, none⟩ = some u0 := fun v => by
      rw [World.cell?_setCell_other _ _ _ _ (fun hh => by injection hh with _ hh _; omega)]; exact k0
    clear h' hN hB
    go_wp2
    go_ret
    exact HF.out
  · have HX := Lib.hid (show IntKind.u64.wrap x = (x.natAbs : Int) from by rw [IntKind.wrap_u64]; omega)
    have HL := Lib.hid (show x.natAbs < 18446744073709551616 from by omega)
    have hd : decide (x < 0) = false := by simpa using hn
    rw [hd]
    clear hd
    clear h hx
    go_enter Tryz.func135, Tryz.ntmps135
    go_wp2_with fail
    rw [HX.out]
    refine (setUint64_nil _ HL.out _).mono ?_
    rintro e w1 ⟨a, n, c, rfl, hN, hB⟩
    have HF := Lib.hid (HH.out.made hB (s := false) hN (by simp))
    have h' := HH.out.keep hB
    obtain ⟨u0, k0⟩ := h'.c0
    have k1 := h'.c1
    have f0 := h'.blk.frozen o
    have f1 := h'.blk.frozen (o + 1)
    have k0' : ∀ v, (w1.setCell ⟨b, o + 1, none⟩ v).cell? ⟨b, o, none⟩ = some u0 := fun v => by
      rw [World.cell?_setCell_other _ _ _ _ (fun hh => by injection hh with _ hh _; omega)]; exact k0
    clear h' hN hB
    go_wp2
    go_ret
    exact HF.out
theorem newInt_is (w : World) : NewInt (w.alloc (.cells #[.bool false, .slice none 0 0] 155)) w.heap.size 0 := by
  have h := BlkAt.new w #[.bool false, .slice none 0 0] 155
  exact ⟨⟨_, _, h, by decide⟩, ⟨_, h.cell 0⟩, h.cell 1⟩
end Go.Proofs.YtececkbcinmmpaaGreatDoor
namespace Go.Bg
open Go.RowKit
theorem quiet_of2 {P : Program} {f : FuncId} {args : Array Value} {w : World} {q n : Nat} {v : Value}
    (h : Calls P f args (w.drewN (q + n)) fun e w' => e = .returned v ∧ ∃ m, w' = (w.drewN (q + n)).drewN m) : Calls P f args (w.drewN (q + n)) fun e w'' => e = .returned v ∧ ∃ m, w'' = w.drewN (q + m) :=
  h.mono fun _ _ ⟨he, m, hm⟩ => ⟨he, n + m, by rw [hm, World.drewN_drewN, Nat.add_assoc]⟩
theorem NumAt.drewN {k : IntKind} {B : Nat} {w : World} {a : Option Addr} {n c N : Nat} (h : NumAt k B w a n c N) (m : Nat) : NumAt k B (w.drewN m) a n c N := h.keep (below_of_drewN ⟨m, rfl⟩)
end Go.Bg
namespace Go.Proofs.YtececkbcinmmpaaGreatDoor
open Go.RowKit Go.Bg Dg
theorem natCmp_any (a1 a2 : Option Addr) (n1 n2 c1 c2 N1 N2 : Nat) (w : World) (h1 : NumAt .u64 W64 w a1 n1 c1 N1) (h2 : NumAt .u64 W64 w a2 n2 c2 N2) :
    Calls Tryz.prog 145 #[.slice a1 n1 c1, .slice a2 n2 c2] w fun e w' => e = .returned (.int .i64 (cmpI N1 N2)) ∧ ∃ m, w' = w.drewN m := by
  have hm1 := h1.cm
  have hm2 := h2.cm
  have hc1 := h1.nc
  have hc2 := h2.nc
  unfold maxLen at hm1 hm2
  rcases Nat.lt_trichotomy n1 n2 with hlt | heq | hgt
  · have hr : cmpI N1 N2 = -1 := if_pos (lt_of_len W64_gt h1.lt h2.top hlt)
    rw [hr]
    clear hr h1 h2
    have hne : ((n1 : Int) == n2) = false := by simp; omega
    go_enter Tryz.func145, Tryz.ntmps145
    go_wp2
    go_ret
    exact ⟨rfl, 0, rfl⟩
  · subst heq
    by_cases hz : n1 = 0
    · subst hz
      have e1 : N1 = 0 := by have := h1.lt; simpa using this
      have e2 : N2 = 0 := by have := h2.lt; simpa using this
      subst e1
      subst e2
      clear h1 h2
      go_enter Tryz.func145, Tryz.ntmps145
      go_wp2
      go_ret
      exact ⟨rfl, 0, rfl⟩
    have hz1 : ((n1 : Int) == 0) = false := by simpa using hz
    obtain ⟨b1, o1, rfl, _⟩ := h1.form (by omega)
    obtain ⟨b2, o2, rfl, _⟩ := h2.form (by omega)
    have H1 := Lib.hid h1
    have H2 := Lib.hid h2
    have HA := Lib.hid (show N1 / W64 ^ n1 = N2 / W64 ^ n1 from by rw [Nat.div_eq_of_lt h1.lt, Nat.div_eq_of_lt h2.lt])
    clear h1 h2
    go_enter Tryz.func145, Tryz.ntmps145
    go_wp2
    go_loopw [7] (fun i wr => ∃ k : Nat, k < n1 ∧ i = .int .i64 (k : Int) ∧ N1 / W64 ^ (k + 1) = N2 / W64 ^ (k + 1) ∧ ∃ q, wr = w.drewN q) (fun i _ => (intOf i).toNat)
    case atStart => exact ⟨n1 - 1, by omega, by go_num, by rw [show n1 - 1 + 1 = n1 from by omega]; exact HA.out, 0, rfl⟩
    case round =>
      obtain ⟨k, hm, rfl, heq, q, rfl⟩ := hrel
      have e1 := H1.out.cell (i := k) (by omega)
      have e2 := H2.out.cell (i := k) (by omega)
      have d1 : dg W64 N1 k < 18446744073709551616 := W64_lt (dg_lt W64_pos _ _)
      have d2 : dg W64 N2 k < 18446744073709551616 := W64_lt (dg_lt W64_pos _ _)
      have HE := Lib.hid heq
      clear heq
      rcases Nat.lt_trichotomy (dg W64 N1 k) (dg W64 N2 k) with hX | hX | hX
      · have HR := Lib.hid (show cmpI N1 N2 = -1 from if_pos (lt_of_cut HE.out hX))
        have hb : decide (dg W64 N1 k < dg W64 N2 k) = true := by simpa using hX
        have hb2 : ((dg W64 N1 k : Int) == dg W64 N2 k) = false := by simp; omega
        generalize dg W64 N1 k = x1 at *
        generalize dg W64 N2 k = x2 at *
        clear hX
        by_cases h0 : 0 < k
        · have hk : decide (0 < (k : Int)) = true := by simpa using h0
          go_wp2
          go_quiet (fail)
          go_wp2
          go_quiet (fail)
          go_wp2
          go_ret
          exact ⟨ret_int HR.out.symm, drewN_ex (by (try simp only [World.drewN_drewN]); exact rfl)⟩
        · have hk : decide (0 < (k : Int)) = false := by simp; omega
          go_wp2
          go_quiet (fail)
          go_wp2
          go_quiet (fail)
          go_wp2
          go_ret
          exact ⟨ret_int HR.out.symm, drewN_ex (by (try simp only [World.drewN_drewN]); exact rfl)⟩
      · have HEQ := Lib.hid (eq_of_cut HE.out hX)
        generalize dg W64 N1 k = x1 at *
        generalize dg W64 N2 k = x2 at *
        subst hX
        by_cases h0 : 0 < k
        · have hk : decide (0 < (k : Int)) = true := by simpa using h0
          go_wp2
          go_quiet (fail)
          go_wp2
          go_roundw
          case rel => exact ⟨k - 1, by omega, by go_num, by rw [show k - 1 + 1 = k from by omega]; exact HEQ.out, drewN_ex (by (try simp only [World.drewN_drewN]); exact rfl)⟩
          case measure => simp [intOf]; omega
        · have hk : decide (0 < (k : Int)) = false := by simp; omega
          have hr : cmpI N1 N2 = 0 := by
            have := HEQ.out
            obtain rfl : k = 0 := by omega
            simp at this
            rw [cmpI, if_neg (by omega), if_neg (by omega)]
          have HR := Lib.hid hr
          clear hr
          go_wp2
          go_quiet (fail)
          go_wp2
          go_quiet (fail)
          go_wp2
          go_quiet (fail)
          go_wp2
          go_ret
          exact ⟨ret_int HR.out.symm, drewN_ex (by (try simp only [World.drewN_drewN]); exact rfl)⟩
      · have HR := Lib.hid (show cmpI N1 N2 = 1 from (by rw [cmpI, if_neg (Nat.not_lt_of_gt (lt_of_cut HE.out.symm hX)), if_pos (lt_of_cut HE.out.symm hX)]))
        have hb : decide (dg W64 N1 k < dg W64 N2 k) = false := by simp; omega
        have hb1 : decide (dg W64 N2 k < dg W64 N1 k) = true := by simpa using hX
        have hb2 : ((dg W64 N1 k : Int) == dg W64 N2 k) = false := by simp; omega
        generalize dg W64 N1 k = x1 at *
        generalize dg W64 N2 k = x2 at *
        clear hX
        by_cases h0 : 0 < k
        · have hk : decide (0 < (k : Int)) = true := by simpa using h0
          go_wp2
          go_quiet (fail)
          go_wp2
          go_quiet (fail)
          go_wp2
          go_quiet (fail)
          go_wp2
          go_ret
          exact ⟨ret_int HR.out.symm, drewN_ex (by (try simp only [World.drewN_drewN]); exact rfl)⟩
        · have hk : decide (0 < (k : Int)) = false := by simp; omega
          go_wp2
          go_quiet (fail)
          go_wp2
          go_quiet (fail)
          go_wp2
          go_quiet (fail)
          go_wp2
          go_ret
          exact ⟨ret_int HR.out.symm, drewN_ex (by (try simp only [World.drewN_drewN]); exact rfl)⟩
  · have h := lt_of_len W64_gt h2.lt h1.top hgt
    have hr : cmpI N1 N2 = 1 := by rw [cmpI, if_neg (by omega), if_pos h]
    rw [hr]
    clear hr h h1 h2
    have hne : ((n1 : Int) == n2) = false := by simp; omega
    go_enter Tryz.func145, Tryz.ntmps145
    go_wp2
    go_ret
    exact ⟨rfl, 0, rfl⟩
def cmpZ (x y : Int) : Int := if x < y then -1 else if y < x then 1 else 0
theorem cmpZ_sg (s t : Bool) (N M : Nat) (hs : s = true → 0 < N) (ht : t = true → 0 < M) :
    cmpZ (sg s N) (sg t M) = if s = t then (if s then -cmpI N M else cmpI N M) else if s then -1 else 1 := by
  unfold cmpZ cmpI sg
  cases s <;> cases t <;> simp only [if_true, if_false, Bool.false_eq_true, Bool.true_eq_false] at hs ht ⊢ <;> repeat' split
  all_goals (simp at *; try omega)
theorem wrap_neg_cmpI (N M : Nat) : wrap64 (-cmpI N M) = -cmpI N M := by
  have h : -1 ≤ cmpI N M ∧ cmpI N M ≤ 1 := by
    unfold cmpI; split
    · omega
    · split <;> omega
  unfold wrap64
  omega
theorem infoBigIntSize : (Tryz.prog.info? 155).map (·.size) = some 2 := by kernel_rfl
theorem intCmp_any (b1 o1 b2 o2 : Nat) (s t : Bool) (N M : Nat) (w : World) (h1 : BigAt 139 w b1 o1 s N) (h2 : BigAt 139 w b2 o2 t M) :
    Calls Tryz.prog 128 #[.pointer (some ⟨b1, o1, none⟩), .pointer (some ⟨b2, o2, none⟩)] w fun e w' => e = .returned (.int .i64 (cmpZ (sg s N) (sg t M))) ∧ ∃ m, w' = w.drewN m := by
  obtain ⟨j, hj, hj2⟩ := Option.map_eq_some_iff.1 infoBigIntSize
  have HR := Lib.hid (cmpZ_sg s t N M h1.zero h2.zero)
  obtain ⟨a, n, c, p0, p1, hN⟩ := h1.val
  obtain ⟨a', n', c', q0, q1, hM⟩ := h2.val
  by_cases hp : b1 = b2 ∧ o1 = o2
  · obtain ⟨rfl, rfl⟩ := hp
    have hq := run_eql_ptr_same (P := Tryz.prog) w ⟨b1, o1, none⟩ Tryz.underlying94 hj
    have e0 : s = t := by rw [p0] at q0; simpa using q0
    subst e0
    have e1 : N = M := by
      rw [p1] at q1
      injection q1 with q1; injection q1 with qa qn qc
      subst qa; subst qn
      refine eq_of_digits hN.num.lt hM.num.lt (fun i hi => ?_)
      obtain ⟨b, off, rfl, _⟩ := hN.num.form (by omega)
      have x1 := hN.num.cell hi
      have x2 := hM.num.cell hi
      rw [x1] at x2
      injection x2 with x2; injection x2 with _ x2; exact Int.ofNat.inj x2
    subst e1
    have hr : cmpZ (sg s N) (sg s N) = 0 := by simp [cmpZ]
    rw [hr]
    clear HR hr hN hM h1 h2 hj2
    go_enter Tryz.func128, Tryz.ntmps128
    go_wp2
    go_ret
    exact ⟨rfl, 0, rfl⟩
  · obtain ⟨cur1, e1, k1, _⟩ := h1.blk
    obtain ⟨cur2, e2, k2, _⟩ := h2.blk
    have hq := run_eql_ptr_other (P := Tryz.prog) (a := ⟨b1, o1, none⟩) (b := ⟨b2, o2, none⟩) w Tryz.underlying94 hj (by rw [hj2]; decide) (by intro h; apply hp; injection h with h h' _; exact ⟨h, h'⟩) k1 k2
    have HN := Lib.hid hN.num
    have HM := Lib.hid hM.num
    clear k1 k2 hj2 hN hM h1 h2 hp
    cases s <;> cases t
    · go_enter Tryz.func128, Tryz.ntmps128
      go_wp2
      go_quiet (fail)
      go_wp2
      go_quiet (first | (go_at_call 145; refine quiet_of2 (natCmp_any _ _ _ _ _ _ N M _ (HN.out.drewN _) (HM.out.drewN _))))
      go_wp2
      go_ret
      refine ⟨ret_int ?_, drewN_ex (by (try simp only [World.drewN_drewN]); exact rfl)⟩
      rw [HR.out]; simp
    · go_enter Tryz.func128, Tryz.ntmps128
      go_wp2
      go_quiet (fail)
      go_wp2
      go_ret
      exact ⟨ret_int (by rw [HR.out]; simp), drewN_ex (by (try simp only [World.drewN_drewN]); exact rfl)⟩
    · go_enter Tryz.func128, Tryz.ntmps128
      go_wp2
      go_quiet (fail)
      go_wp2
      go_ret
      exact ⟨ret_int (by rw [HR.out]; simp), drewN_ex (by (try simp only [World.drewN_drewN]); exact rfl)⟩
    · go_enter Tryz.func128, Tryz.ntmps128
      go_wp2
      go_quiet (fail)
      go_wp2
      go_quiet (first | (go_at_call 145; refine quiet_of2 (natCmp_any _ _ _ _ _ _ N M _ (HN.out.drewN _) (HM.out.drewN _))))
      go_wp2
      go_ret
      refine ⟨ret_int ?_, drewN_ex (by (try simp only [World.drewN_drewN]); exact rfl)⟩
      rw [HR.out, wrap_neg_cmpI]; simp
end Go.Proofs.YtececkbcinmmpaaGreatDoor
