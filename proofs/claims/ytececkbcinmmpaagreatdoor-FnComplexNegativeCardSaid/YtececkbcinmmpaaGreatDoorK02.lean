/-
  Contracts and lemmas: BigC BigD Ta BigE RtB.
-/
import Derived.Lib.Builder
import Derived.Test.YtececkbcinmmpaaGreatDoorK01
import Derived.Test.YtececkbcinmmpaaGreatDoorK00
set_option linter.unusedSimpArgs false
set_option linter.unusedVariables false
set_option maxRecDepth 100000
set_option maxHeartbeats 8000000
namespace Go.Proofs.YtececkbcinmmpaaGreatDoor
open Go.RowKit Go.Bg Dg
theorem infoBigInt : ∃ j, Tryz.prog.info? 155 = some j := Option.isSome_iff_exists.1 (by kernel_rfl)
def IntIs (b o : Nat) (s : Bool) (N : Nat) (w : World) (e : Ending) (w' : World) : Prop :=
  e = .returned (.pointer (some ⟨b, o, none⟩)) ∧ BigAt 139 w' b o s N ∧ UpdI 139 b o w w'
theorem setBits_any (b o : Nat) (a : Option Addr) (n c : Nat) (f : Nat → Nat) (w : World) (hb : Strct 139 w b) (h0 : ∃ u, w.cell? ⟨b, o, none⟩ = some u) (h1 : ∃ u, w.cell? ⟨b, o + 1, none⟩ = some u)
    (hn : n ≤ 1000000000) (hnc : n ≤ c) (hcm : c ≤ maxLen) (hnil : a = none → c = 0) (hf : ∀ i, i < n → f i < W64) (hc : Cells w a n (fun i => .int .u64 (f i : Nat))) (hbuf : Buf 139 w a c) :
    Calls Tryz.prog 121 #[.pointer (some ⟨b, o, none⟩), .slice a n c] w (IntIs b o false (val W64 f n) w) := by
  have HN := Lib.hid (bigN_of_words hf hnc hcm hc hbuf)
  have HS := Lib.hid (fun a n c N hN => BigAt.stored (T := 139) (s := false) (a := a) (n := n) (c := c) (N := N) hb h0 h1 hN (by simp))
  have HB := Lib.hid hb
  obtain ⟨u0, h0⟩ := h0
  obtain ⟨u1, h1⟩ := h1
  have f0 := hb.frozen o
  have f1 := hb.frozen (o + 1)
  have h0' : ∀ v, (w.setCell ⟨b, o + 1, none⟩ v).cell? ⟨b, o, none⟩ = some u0 := fun v => by
    rw [World.cell?_setCell_other _ _ _ _ (fun hh => by injection hh with _ hh _; omega)]; exact h0
  clear hb
  go_enter Tryz.func121, Tryz.ntmps121
  go_wp2_with fail
  refine (norm_any a n c f _ hn hnc hcm hnil hc).mono ?_
  rintro e w1 ⟨rfl, rfl⟩
  go_wp2
  go_ret
  exact ⟨rfl, HS.out _ _ _ _ HN.out, (UpdI.set1 _ _ _ _).trans (UpdI.set0 _ _ _ _)⟩
theorem setSelf_any (b o : Nat) (w : World) : Calls Tryz.prog 182 #[.pointer (some ⟨b, o, none⟩), .pointer (some ⟨b, o, none⟩)] w (fun e w' => e = .returned (.pointer (some ⟨b, o, none⟩)) ∧ w = w') := by
  obtain ⟨j, hj⟩ := infoBigInt
  have hq := Lib.run_neq_ptr_same (P := Tryz.prog) w ⟨b, o, none⟩ Tryz.underlying94 hj
  go_enter Tryz.func182, Tryz.ntmps182
  go_wp2
  go_ret
  exact ⟨rfl, rfl⟩
theorem negSelf_any (b o : Nat) (s : Bool) (N : Nat) (w : World) (h : BigAt 139 w b o s N) :
    Calls Tryz.prog 122 #[.pointer (some ⟨b, o, none⟩), .pointer (some ⟨b, o, none⟩)] w (IntIs b o (!s && decide (0 < N)) N w) := by
  have HS := Lib.hid (fun t ht => h.signed (t := t) ht)
  have f0 := h.blk.frozen o
  obtain ⟨a, n, c, h0, h1, hN⟩ := h.val
  have HP := Lib.hid (natAt_pos_len hN.num)
  clear hN h
  by_cases hn : 0 < n
  · go_enter Tryz.func122, Tryz.ntmps122
    go_wp2_with fail
    refine (setSelf_any b o _).mono ?_
    rintro e w1 ⟨rfl, rfl⟩
    go_wp2
    go_ret
    have hp : 0 < N := by have := HP.out; simpa [hn] using this.symm
    exact ⟨rfl, by simpa [hp] using HS.out (!s) (fun _ => hp), UpdI.set0 _ _ _ _⟩
  · go_enter Tryz.func122, Tryz.ntmps122
    go_wp2_with fail
    refine (setSelf_any b o _).mono ?_
    rintro e w1 ⟨rfl, rfl⟩
    go_wp2
    go_ret
    have hp : ¬ 0 < N := by have := HP.out; simpa [hn] using this
    exact ⟨rfl, by simpa [hp] using HS.out false (by simp), UpdI.set0 _ _ _ _⟩
theorem of_any' (s : Bool) (a : Option Addr) (n c : Nat) (f : Nat → Nat) (w : World) (h : WordsAt w a n c f) (hn : n ≤ 1000000) :
    Calls Tryz.prog 110 #[.agg #[.bool s, .slice a n c]] w fun e w' => ∃ b, e = .returned (.pointer (some ⟨b, 0, none⟩)) ∧ w.heap.size ≤ b ∧ BigAt 139 w' b 0 (s && decide (0 < val W64 f n)) (val W64 f n) ∧ Below w.heap.size w w' := by
  obtain ⟨W0, hW0⟩ : ∃ W0, W0 = (w.alloc (.cells #[.bool s, .slice a n c] 24)).alloc (.cells #[.bool false, .slice none 0 0] 155) := ⟨_, rfl⟩
  have hs0 : W0.heap.size = w.heap.size + 1 + 1 := by rw [hW0]; simp
  have HW := Lib.hid hW0
  have hb0 : Below w.heap.size w W0 := by rw [hW0]; exact Below.alloc' (Below.alloc' (Below.refl _ _) _) _
  have hz : BlkAt W0 (w.heap.size + 1) #[.bool false, .slice none 0 0] 155 := by
    rw [hW0]
    have := BlkAt.new (w.alloc (.cells #[.bool s, .slice a n c] 24)) #[.bool false, .slice none 0 0] 155
    simpa using this
  have hx : BlkAt W0 w.heap.size #[.bool s, .slice a n c] 24 := by
    rw [hW0]; exact (BlkAt.new _ _ _).keep ((Below.refl _ _).alloc (Nat.le_refl _) _)
  have hw0 := h.keep hb0
  have HX0 := hx.cell 0
  have HX1 := hx.cell 1
  simp only [List.getElem?_toArray, List.getElem?_cons_zero, List.getElem?_cons_succ] at HX0 HX1
  clear hW0 h
  have HB := Lib.hid hb0
  have HX0' := Lib.hid HX0
  clear HX0
  cases s
  · go_enter Tryz.func110, Tryz.ntmps110
    go_wp2_with fail
    rw [← HW.out]
    refine (wordsOf_any a n c f _ hw0 hn).mono ?_
    rintro e w1 ⟨v, rfl, hown, hb1⟩
    obtain ⟨a1, c1, rfl, hbuf, hnc, hcm, hnil, hcells⟩ := buf_of_own hown
    have hw1 := hcells (wv f) (fun i hi => by simp [hi])
    have hz1 := hz.keep hb1
    have hx0 := hx.keep hb1
    have hs1 : Strct 139 w1 (w.heap.size + 1) := ⟨_, _, hz1, by decide⟩
    go_wp2_with fail
    refine (setBits_any (w.heap.size + 1) 0 a1 n c1 f _ hs1 ⟨_, hz1.cell 0⟩ ⟨_, hz1.cell 1⟩ (by omega) hnc hcm hnil hw0.lt hw1 hbuf).mono ?_
    rintro e w2 ⟨rfl, hI, hU⟩
    have hx2 := (hU.upd.blk hx0 (Nat.ne_of_lt (Nat.lt_succ_self _))).cell 0
    simp only [List.getElem?_toArray, List.getElem?_cons_zero, List.getElem?_cons_succ] at hx2
    go_wp2
    go_ret
    exact ⟨_, rfl, Nat.le_add_right _ 1, by simpa using hI, hU.upd.below (Below.then hb0 (by omega) hb1) (Nat.le_trans HB.out.size hb1.size) (fun k _ e => by subst e; exact Nat.le_add_right _ 1)⟩
  · go_enter Tryz.func110, Tryz.ntmps110
    go_wp2_with fail
    rw [← HW.out]
    refine (wordsOf_any a n c f _ hw0 hn).mono ?_
    rintro e w1 ⟨v, rfl, hown, hb1⟩
    obtain ⟨a1, c1, rfl, hbuf, hnc, hcm, hnil, hcells⟩ := buf_of_own hown
    have hw1 := hcells (wv f) (fun i hi => by simp [hi])
    have hz1 := hz.keep hb1
    have hx0 := hx.keep hb1
    have hs1 : Strct 139 w1 (w.heap.size + 1) := ⟨_, _, hz1, by decide⟩
    go_wp2_with fail
    refine (setBits_any (w.heap.size + 1) 0 a1 n c1 f _ hs1 ⟨_, hz1.cell 0⟩ ⟨_, hz1.cell 1⟩ (by omega) hnc hcm hnil hw0.lt hw1 hbuf).mono ?_
    rintro e w2 ⟨rfl, hI, hU⟩
    have hx2 := (hU.upd.blk hx0 (Nat.ne_of_lt (Nat.lt_succ_self _))).cell 0
    simp only [List.getElem?_toArray, List.getElem?_cons_zero, List.getElem?_cons_succ] at hx2
    go_wp2_with fail
    refine (negSelf_any (w.heap.size + 1) 0 false _ _ hI).mono ?_
    rintro e w3 ⟨rfl, hI3, hU3⟩
    go_wp2
    go_ret
    exact ⟨_, rfl, Nat.le_add_right _ 1, by simpa using hI3, (hU.trans hU3).upd.below (Below.then hb0 (by omega) hb1) (Nat.le_trans HB.out.size hb1.size) (fun k _ e => by subst e; exact Nat.le_add_right _ 1)⟩
theorem low64_any (a : Option Addr) (n c N : Nat) (w : World) (h : NumAt .u64 W64 w a n c N) :
    Calls Tryz.prog 203 #[.slice a n c] w fun e w' => e = .returned (.int .u64 (N % 18446744073709551616 : Nat)) ∧ w = w' := by
  have hcm := h.cm
  have hnc := h.nc
  by_cases h0 : n = 0
  · subst h0
    have hN : N = 0 := by have := h.lt; simpa using this
    clear h
    subst hN
    go_enter Tryz.func203, Tryz.ntmps203
    go_wp2
    go_ret
    exact ⟨rfl, rfl⟩
  · obtain ⟨b, off, rfl, _⟩ := h.form (by omega)
    have hc := h.cell (i := 0) (by omega)
    have hd : dg W64 N 0 = N % 18446744073709551616 := by simp [dg, W64]
    rw [hd, Nat.add_zero] at hc
    clear h hd
    have hlt : N % 18446744073709551616 < 18446744073709551616 := Nat.mod_lt _ (by decide)
    generalize N % 18446744073709551616 = x at *
    have hz : ((n : Int) == 0) = false := by simpa using h0
    go_enter Tryz.func203, Tryz.ntmps203
    go_wp2
    go_ret
    exact ⟨rfl, rfl⟩
def fit64 (z : Int) : Bool := decide (-9223372036854775808 ≤ z ∧ z < 9223372036854775808)
theorem fits_plain (s : Bool) (N : Nat) (h : N < 18446744073709551616) : (decide (0 ≤ wrap64 (N : Int)) || (s && wrap64 (N : Int) == wrap64 (-wrap64 (N : Int)))) = fit64 (sg s N) := by
  by_cases h1 : N < 9223372036854775808
  · have e : wrap64 (N : Int) = N := by unfold wrap64; omega
    rw [e]
    unfold fit64 sg
    cases s
    · simp; omega
    · simp; omega
  · have e : wrap64 (N : Int) = N - 18446744073709551616 := by unfold wrap64; omega
    have e0 : decide (0 ≤ wrap64 (N : Int)) = false := by rw [e]; simp; omega
    rw [e0, e]
    by_cases h2 : N = 9223372036854775808
    · subst h2
      have e3 : wrap64 (-(((9223372036854775808 : Nat) : Int) - 18446744073709551616)) = -9223372036854775808 := by unfold wrap64; omega
      rw [e3]
      unfold fit64 sg
      cases s <;> simp
    · have e3 : wrap64 (-((N : Int) - 18446744073709551616)) = 18446744073709551616 - N := by unfold wrap64; omega
      rw [e3]
      unfold fit64 sg
      cases s
      · simp; omega
      · have : ((N : Int) - 18446744073709551616 == 18446744073709551616 - N) = false := by simp; omega
        rw [this]; simp; omega
theorem one_word {k : IntKind} {w : World} {a : Option Addr} {n c N : Nat} (h : NumAt k W64 w a n c N) (hn : n ≤ 1) : N < 18446744073709551616 := by
  have h1 := h.lt
  have h3 : W64 ^ n ≤ W64 ^ 1 := Nat.pow_le_pow_right W64_pos hn
  rw [Nat.pow_one] at h3
  exact Nat.lt_of_lt_of_le h1 h3
theorem more_words {k : IntKind} {w : World} {a : Option Addr} {n c N : Nat} (h : NumAt k W64 w a n c N) (hn : ¬ n ≤ 1) : 18446744073709551616 ≤ N := by
  rcases h.top with h3 | h3
  · omega
  · have h4 : W64 ^ 1 ≤ W64 ^ (n - 1) := Nat.pow_le_pow_right W64_pos (by omega)
    rw [Nat.pow_one] at h4
    exact Nat.le_trans h4 h3
theorem fit64_great (s : Bool) (N : Nat) (h : 18446744073709551616 ≤ N) : fit64 (sg s N) = false := by
  unfold fit64 sg
  cases s <;> simp <;> omega
theorem wrap64_bd (x : Int) : -9223372036854775808 ≤ wrap64 x ∧ wrap64 x ≤ 9223372036854775807 := by unfold wrap64; omega
theorem isInt64_any (b o : Nat) (s : Bool) (N : Nat) (w : World) (h : BigAt 139 w b o s N) :
    Calls Tryz.prog 142 #[.pointer (some ⟨b, o, none⟩)] w fun e w' => e = .returned (.bool (fit64 (sg s N))) ∧ w = w' := by
  obtain ⟨a, n, c, h0, h1, hN⟩ := h.val
  have hcm := hN.num.cm
  have hnc := hN.num.nc
  have HN := Lib.hid hN
  clear h
  by_cases h2 : n ≤ 1
  · have hlt := one_word hN.num h2
    have HM := Lib.hid (show N % 18446744073709551616 = N from Nat.mod_eq_of_lt hlt)
    clear hN
    have HP := Lib.hid (fits_plain s N hlt)
    have hbd := wrap64_bd (N : Int)
    clear hlt
    by_cases hz : 0 ≤ wrap64 (N : Int)
    · go_enter Tryz.func142, Tryz.ntmps142
      go_wp2_with fail
      refine (low64_any a n c _ _ HN.out.num).mono ?_
      rintro e w1 ⟨rfl, rfl⟩
      rw [HM.out]
      go_upto_region 3 with fail
      generalize wrap64 (N : Int) = z at *
      go_wp2
      go_ret
      exact ⟨ret_bool (by rw [← HP.out]; simp [hz]), rfl⟩
    · cases s
      · go_enter Tryz.func142, Tryz.ntmps142
        go_wp2_with fail
        refine (low64_any a n c _ _ HN.out.num).mono ?_
        rintro e w1 ⟨rfl, rfl⟩
        rw [HM.out]
        go_upto_region 3 with fail
        generalize wrap64 (N : Int) = z at *
        have hd : decide (0 ≤ z) = false := by simp; omega
        clear hz hbd
        go_wp2
        go_ret
        exact ⟨ret_bool (by rw [← HP.out]; simp [hd]), rfl⟩
      · go_enter Tryz.func142, Tryz.ntmps142
        go_wp2_with fail
        refine (low64_any a n c _ _ HN.out.num).mono ?_
        rintro e w1 ⟨rfl, rfl⟩
        rw [HM.out]
        go_upto_region 3 with fail
        generalize wrap64 (N : Int) = z at *
        have hd : decide (0 ≤ z) = false := by simp; omega
        clear hz hbd
        go_wp2
        go_ret
        exact ⟨ret_bool (by rw [← HP.out]; simp [hd]), rfl⟩
  · have hge := more_words hN.num h2
    have e1 := fit64_great s N hge
    clear hN hge
    go_enter Tryz.func142, Tryz.ntmps142
    go_wp2
    go_ret
    exact ⟨ret_bool e1.symm, rfl⟩
end Go.Proofs.YtececkbcinmmpaaGreatDoor
namespace Go.Proofs.YtececkbcinmmpaaGreatDoor
theorem ta_int64Val : (∀ (v : Value) (w : World), (Instr.typeAssert (.iface 91 v) 64 89 true).run Tryz.prog w = .ok (.tuple #[.agg #[], .bool false]) w) ∧
    (∀ (v : Value) (w : World), (Instr.typeAssert (.iface 91 v) 64 90 true).run Tryz.prog w = .ok (.tuple #[.bool false, .bool false]) w) ∧
    (∀ (v : Value) (w : World), (Instr.typeAssert (.iface 91 v) 64 91 true).run Tryz.prog w = .ok (.tuple #[v, .bool true]) w) ∧
    (∀ (v : Value) (w : World), (Instr.typeAssert (.iface 91 v) 64 102 true).run Tryz.prog w = .ok (.tuple #[.agg #[.pointer none], .bool false]) w) ∧
    (∀ (v : Value) (w : World), (Instr.typeAssert (.iface 91 v) 64 106 true).run Tryz.prog w = .ok (.tuple #[.agg #[.pointer none], .bool false]) w) ∧
    (∀ (v : Value) (w : World), (Instr.typeAssert (.iface 91 v) 64 110 true).run Tryz.prog w = .ok (.tuple #[.agg #[.pointer none], .bool false]) w) ∧
    (∀ (v : Value) (w : World), (Instr.typeAssert (.iface 91 v) 64 115 true).run Tryz.prog w = .ok (.tuple #[.agg #[.nilIface, .nilIface], .bool false]) w) ∧
    (∀ (v : Value) (w : World), (Instr.typeAssert (.iface 91 v) 64 117 true).run Tryz.prog w = .ok (.tuple #[.pointer none, .bool false]) w) ∧
    (∀ (v : Value) (w : World), (Instr.typeAssert (.iface 91 v) 64 91 false).run Tryz.prog w = .ok v w) := by
  refine ⟨?_, ?_, ?_, ?_, ?_, ?_, ?_, ?_, ?_⟩ <;> (intro v w; kernel_rfl)
theorem ta_intVal : (∀ (v : Value) (w : World), (Instr.typeAssert (.iface 102 v) 64 89 true).run Tryz.prog w = .ok (.tuple #[.agg #[], .bool false]) w) ∧
    (∀ (v : Value) (w : World), (Instr.typeAssert (.iface 102 v) 64 90 true).run Tryz.prog w = .ok (.tuple #[.bool false, .bool false]) w) ∧
    (∀ (v : Value) (w : World), (Instr.typeAssert (.iface 102 v) 64 91 true).run Tryz.prog w = .ok (.tuple #[.int .i64 0, .bool false]) w) ∧
    (∀ (v : Value) (w : World), (Instr.typeAssert (.iface 102 v) 64 102 true).run Tryz.prog w = .ok (.tuple #[v, .bool true]) w) ∧
    (∀ (v : Value) (w : World), (Instr.typeAssert (.iface 102 v) 64 106 true).run Tryz.prog w = .ok (.tuple #[.agg #[.pointer none], .bool false]) w) ∧
    (∀ (v : Value) (w : World), (Instr.typeAssert (.iface 102 v) 64 110 true).run Tryz.prog w = .ok (.tuple #[.agg #[.pointer none], .bool false]) w) ∧
    (∀ (v : Value) (w : World), (Instr.typeAssert (.iface 102 v) 64 115 true).run Tryz.prog w = .ok (.tuple #[.agg #[.nilIface, .nilIface], .bool false]) w) ∧
    (∀ (v : Value) (w : World), (Instr.typeAssert (.iface 102 v) 64 117 true).run Tryz.prog w = .ok (.tuple #[.pointer none, .bool false]) w) ∧
    (∀ (v : Value) (w : World), (Instr.typeAssert (.iface 102 v) 64 102 false).run Tryz.prog w = .ok v w) := by
  refine ⟨?_, ?_, ?_, ?_, ?_, ?_, ?_, ?_, ?_⟩ <;> (intro v w; kernel_rfl)
theorem ta_ratVal : (∀ (v : Value) (w : World), (Instr.typeAssert (.iface 106 v) 64 89 true).run Tryz.prog w = .ok (.tuple #[.agg #[], .bool false]) w) ∧
    (∀ (v : Value) (w : World), (Instr.typeAssert (.iface 106 v) 64 90 true).run Tryz.prog w = .ok (.tuple #[.bool false, .bool false]) w) ∧
    (∀ (v : Value) (w : World), (Instr.typeAssert (.iface 106 v) 64 91 true).run Tryz.prog w = .ok (.tuple #[.int .i64 0, .bool false]) w) ∧
    (∀ (v : Value) (w : World), (Instr.typeAssert (.iface 106 v) 64 102 true).run Tryz.prog w = .ok (.tuple #[.agg #[.pointer none], .bool false]) w) ∧
    (∀ (v : Value) (w : World), (Instr.typeAssert (.iface 106 v) 64 106 true).run Tryz.prog w = .ok (.tuple #[v, .bool true]) w) ∧
    (∀ (v : Value) (w : World), (Instr.typeAssert (.iface 106 v) 64 110 true).run Tryz.prog w = .ok (.tuple #[.agg #[.pointer none], .bool false]) w) ∧
    (∀ (v : Value) (w : World), (Instr.typeAssert (.iface 106 v) 64 115 true).run Tryz.prog w = .ok (.tuple #[.agg #[.nilIface, .nilIface], .bool false]) w) ∧
    (∀ (v : Value) (w : World), (Instr.typeAssert (.iface 106 v) 64 117 true).run Tryz.prog w = .ok (.tuple #[.pointer none, .bool false]) w) ∧
    (∀ (v : Value) (w : World), (Instr.typeAssert (.iface 106 v) 64 106 false).run Tryz.prog w = .ok v w) := by
  refine ⟨?_, ?_, ?_, ?_, ?_, ?_, ?_, ?_, ?_⟩ <;> (intro v w; kernel_rfl)
theorem ta_complexVal : (∀ (v : Value) (w : World), (Instr.typeAssert (.iface 115 v) 64 89 true).run Tryz.prog w = .ok (.tuple #[.agg #[], .bool false]) w) ∧
    (∀ (v : Value) (w : World), (Instr.typeAssert (.iface 115 v) 64 90 true).run Tryz.prog w = .ok (.tuple #[.bool false, .bool false]) w) ∧
    (∀ (v : Value) (w : World), (Instr.typeAssert (.iface 115 v) 64 91 true).run Tryz.prog w = .ok (.tuple #[.int .i64 0, .bool false]) w) ∧
    (∀ (v : Value) (w : World), (Instr.typeAssert (.iface 115 v) 64 102 true).run Tryz.prog w = .ok (.tuple #[.agg #[.pointer none], .bool false]) w) ∧
    (∀ (v : Value) (w : World), (Instr.typeAssert (.iface 115 v) 64 106 true).run Tryz.prog w = .ok (.tuple #[.agg #[.pointer none], .bool false]) w) ∧
    (∀ (v : Value) (w : World), (Instr.typeAssert (.iface 115 v) 64 110 true).run Tryz.prog w = .ok (.tuple #[.agg #[.pointer none], .bool false]) w) ∧
    (∀ (v : Value) (w : World), (Instr.typeAssert (.iface 115 v) 64 115 true).run Tryz.prog w = .ok (.tuple #[v, .bool true]) w) ∧
    (∀ (v : Value) (w : World), (Instr.typeAssert (.iface 115 v) 64 117 true).run Tryz.prog w = .ok (.tuple #[.pointer none, .bool false]) w) ∧
    (∀ (v : Value) (w : World), (Instr.typeAssert (.iface 115 v) 64 115 false).run Tryz.prog w = .ok v w) := by
  refine ⟨?_, ?_, ?_, ?_, ?_, ?_, ?_, ?_, ?_⟩ <;> (intro v w; kernel_rfl)
theorem ta_any_int64 : (∀ (v : Value) (w : World), (Instr.typeAssert (.iface 2 v) 20 4 true).run Tryz.prog w = .ok (.tuple #[.bool false, .bool false]) w) ∧
    (∀ (v : Value) (w : World), (Instr.typeAssert (.iface 2 v) 20 9 true).run Tryz.prog w = .ok (.tuple #[.string ⟨#[]⟩, .bool false]) w) ∧
    (∀ (v : Value) (w : World), (Instr.typeAssert (.iface 2 v) 20 2 true).run Tryz.prog w = .ok (.tuple #[v, .bool true]) w) ∧
    (∀ (v : Value) (w : World), (Instr.typeAssert (.iface 2 v) 20 94 true).run Tryz.prog w = .ok (.tuple #[.pointer none, .bool false]) w) ∧
    (∀ (v : Value) (w : World), (Instr.typeAssert (.iface 2 v) 20 99 true).run Tryz.prog w = .ok (.tuple #[.pointer none, .bool false]) w) ∧
    (∀ (v : Value) (w : World), (Instr.typeAssert (.iface 2 v) 20 108 true).run Tryz.prog w = .ok (.tuple #[.pointer none, .bool false]) w) := by
  refine ⟨?_, ?_, ?_, ?_, ?_, ?_⟩ <;> (intro v w; kernel_rfl)
theorem ta_any_pInt : (∀ (v : Value) (w : World), (Instr.typeAssert (.iface 94 v) 20 4 true).run Tryz.prog w = .ok (.tuple #[.bool false, .bool false]) w) ∧
    (∀ (v : Value) (w : World), (Instr.typeAssert (.iface 94 v) 20 9 true).run Tryz.prog w = .ok (.tuple #[.string ⟨#[]⟩, .bool false]) w) ∧
    (∀ (v : Value) (w : World), (Instr.typeAssert (.iface 94 v) 20 2 true).run Tryz.prog w = .ok (.tuple #[.int .i64 0, .bool false]) w) ∧
    (∀ (v : Value) (w : World), (Instr.typeAssert (.iface 94 v) 20 94 true).run Tryz.prog w = .ok (.tuple #[v, .bool true]) w) ∧
    (∀ (v : Value) (w : World), (Instr.typeAssert (.iface 94 v) 20 99 true).run Tryz.prog w = .ok (.tuple #[.pointer none, .bool false]) w) ∧
    (∀ (v : Value) (w : World), (Instr.typeAssert (.iface 94 v) 20 108 true).run Tryz.prog w = .ok (.tuple #[.pointer none, .bool false]) w) := by
  refine ⟨?_, ?_, ?_, ?_, ?_, ?_⟩ <;> (intro v w; kernel_rfl)
theorem ta_any_pRat : (∀ (v : Value) (w : World), (Instr.typeAssert (.iface 99 v) 20 4 true).run Tryz.prog w = .ok (.tuple #[.bool false, .bool false]) w) ∧
    (∀ (v : Value) (w : World), (Instr.typeAssert (.iface 99 v) 20 9 true).run Tryz.prog w = .ok (.tuple #[.string ⟨#[]⟩, .bool false]) w) ∧
    (∀ (v : Value) (w : World), (Instr.typeAssert (.iface 99 v) 20 2 true).run Tryz.prog w = .ok (.tuple #[.int .i64 0, .bool false]) w) ∧
    (∀ (v : Value) (w : World), (Instr.typeAssert (.iface 99 v) 20 94 true).run Tryz.prog w = .ok (.tuple #[.pointer none, .bool false]) w) ∧
    (∀ (v : Value) (w : World), (Instr.typeAssert (.iface 99 v) 20 99 true).run Tryz.prog w = .ok (.tuple #[v, .bool true]) w) ∧
    (∀ (v : Value) (w : World), (Instr.typeAssert (.iface 99 v) 20 108 true).run Tryz.prog w = .ok (.tuple #[.pointer none, .bool false]) w) := by
  refine ⟨?_, ?_, ?_, ?_, ?_, ?_⟩ <;> (intro v w; kernel_rfl)
end Go.Proofs.YtececkbcinmmpaaGreatDoor
namespace Go.Proofs.YtececkbcinmmpaaGreatDoor
open Go.RowKit Go.Bg Dg
theorem int64_plain (s : Bool) (N : Nat) (h : fit64 (sg s N) = true) : (if s then wrap64 (-wrap64 (N : Int)) else wrap64 (N : Int)) = sg s N := by
  unfold fit64 sg at h
  unfold sg
  cases s
  · simp at h ⊢; unfold wrap64; omega
  · simp at h ⊢
    by_cases h2 : N = 9223372036854775808
    · subst h2
      have e1 : wrap64 ((9223372036854775808 : Nat) : Int) = -9223372036854775808 := by unfold wrap64; omega
      rw [e1]; unfold wrap64; omega
    · have e1 : wrap64 (N : Int) = N := by unfold wrap64; omega
      rw [e1]; unfold wrap64; omega
theorem fit64_lt {s : Bool} {N : Nat} (h : fit64 (sg s N) = true) : N < 18446744073709551616 := by
  unfold fit64 sg at h
  cases s <;> simp at h <;> omega
theorem int64_any (b o : Nat) (s : Bool) (N : Nat) (w : World) (h : BigAt 139 w b o s N) (hf : fit64 (sg s N) = true) :
    Calls Tryz.prog 143 #[.pointer (some ⟨b, o, none⟩)] w fun e w' => e = .returned (.int .i64 (sg s N)) ∧ w = w' := by
  obtain ⟨a, n, c, h0, h1, hN⟩ := h.val
  have hcm := hN.num.cm
  have hnc := hN.num.nc
  have HN := Lib.hid hN
  have HP := Lib.hid (int64_plain s N hf)
  have HM := Lib.hid (show N % 18446744073709551616 = N from Nat.mod_eq_of_lt (fit64_lt hf))
  clear h hN hf
  cases s
  · go_enter Tryz.func143, Tryz.ntmps143
    go_wp2_with fail
    refine (low64_any a n c _ _ HN.out.num).mono ?_
    rintro e w1 ⟨rfl, rfl⟩
    rw [HM.out]
    go_upto_region 2 with fail
    generalize wrap64 (N : Int) = z at *
    go_wp2
    go_ret
    exact ⟨ret_int (by simpa using HP.out), rfl⟩
  · go_enter Tryz.func143, Tryz.ntmps143
    go_wp2_with fail
    refine (low64_any a n c _ _ HN.out.num).mono ?_
    rintro e w1 ⟨rfl, rfl⟩
    rw [HM.out]
    go_upto_region 2 with fail
    generalize wrap64 (N : Int) = z at *
    go_wp2
    go_ret
    exact ⟨ret_int (by simpa using HP.out), rfl⟩
def CInt (w : World) (v : Value) (z : Int) : Prop :=
  (v = .iface 91 (.int .i64 z) ∧ fit64 z = true) ∨ ∃ b o s N, v = .iface 102 (.agg #[.pointer (some ⟨b, o, none⟩)]) ∧ BigAt 139 w b o s N ∧ sg s N = z
theorem CInt.keep {w w' : World} {v : Value} {z : Int} (h : CInt w v z) (hb : Below w.heap.size w w') : CInt w' v z := by
  rcases h with h | ⟨b, o, s, N, rfl, h1, h2⟩
  · exact .inl h
  · exact .inr ⟨b, o, s, N, rfl, h1.keep hb, h2⟩
theorem makeInt_any (b o : Nat) (s : Bool) (N : Nat) (w : World) (h : BigAt 139 w b o s N) :
    Calls Tryz.prog 75 #[.pointer (some ⟨b, o, none⟩)] w fun e w' => ∃ v, e = .returned v ∧ CInt w' v (sg s N) ∧ w = w' := by
  have HH := Lib.hid h
  clear h
  cases hf : fit64 (sg s N)
  · have HF := Lib.hid hf
    clear hf
    go_enter Tryz.func75, Tryz.ntmps75
    go_wp2_with fail
    refine (isInt64_any b o s N _ HH.out).mono ?_
    rintro e w1 ⟨rfl, rfl⟩
    rw [HF.out]
    go_wp2
    go_ret
    exact ⟨_, rfl, .inr ⟨b, o, s, N, rfl, HH.out, rfl⟩, rfl⟩
  · have HF := Lib.hid hf
    clear hf
    go_enter Tryz.func75, Tryz.ntmps75
    go_wp2_with fail
    refine (isInt64_any b o s N _ HH.out).mono ?_
    rintro e w1 ⟨rfl, rfl⟩
    rw [HF.out]
    go_wp2_with fail
    refine (int64_any b o s N _ HH.out HF.out).mono ?_
    rintro e w1 ⟨rfl, rfl⟩
    go_wp2
    go_ret
    exact ⟨_, rfl, .inl ⟨rfl, HF.out⟩, rfl⟩
theorem makeOfInt_any (b o : Nat) (s : Bool) (N : Nat) (w : World) (h : BigAt 139 w b o s N) :
    Calls Tryz.prog 109 #[.iface 94 (.pointer (some ⟨b, o, none⟩))] w fun e w' => ∃ v, e = .returned v ∧ CInt w' v (sg s N) ∧ w = w' := by
  have HH := Lib.hid h
  clear h
  obtain ⟨t1, t2, t3, t4, t5, t6⟩ := ta_any_pInt
  go_enter Tryz.func109, Tryz.ntmps109
  go_wp2_with fail
  refine (makeInt_any b o s N _ HH.out).mono ?_
  rintro e w1 ⟨v, rfl, hv, rfl⟩
  have HV := Lib.hid hv
  clear hv
  go_wp2
  go_ret
  exact ⟨_, rfl, HV.out, rfl⟩
end Go.Proofs.YtececkbcinmmpaaGreatDoor
namespace Go.Bg
open Go.RowKit Dg
theorem RtAt.mono {w : World} {s : Bool} {a : Option Addr} {n c : Nat} {a' : Option Addr} {n' c' : Nat} {r : Rt} {L L' : Nat} (h : RtAt w s a n c a' n' c' r L) (hL : L ≤ L') : RtAt w s a n c a' n' c' r L' :=
  ⟨h.neg, h.num, h.den, Nat.lt_of_lt_of_le h.numL (Nat.pow_le_pow_right (by decide) hL), Nat.lt_of_lt_of_le h.denL (Nat.pow_le_pow_right (by decide) hL)⟩
def Reads2 (b : Bool) (r q : Rt) (L : Nat) (w : World) (e : Ending) (w' : World) : Prop :=
  ∃ s a n c a' n' c' t p m d p' m' d', e = .returned (.tuple #[.agg #[.bool s, .slice a n c, .slice a' n' c'], .agg #[.bool t, .slice p m d, .slice p' m' d'], .bool b]) ∧
    (b = true → RtAt w' s a n c a' n' c' r L ∧ RtAt w' t p m d p' m' d' q L) ∧ Below w.heap.size w w'
theorem RtAt.drew {w : World} {s : Bool} {a : Option Addr} {n c : Nat} {a' : Option Addr} {n' c' : Nat} {r : Rt} {L : Nat} (h : RtAt w s a n c a' n' c' r L) : RtAt w.drew s a n c a' n' c' r L :=
  h.keep (Below.refl _ _).drew
theorem below33 {B : Nat} {w w1 : World} (h : Below B w w1) {s1 s2 : Nat} (h1 : B ≤ s1) (h2 : B ≤ s2) (x0 x1 x2 y0 y1 y2 : Value) :
    Below B w ((((((w1.setCell ⟨s1, 0, none⟩ x0).setCell ⟨s1, 1, none⟩ x1).setCell ⟨s1, 2, none⟩ x2).setCell ⟨s2, 0, none⟩ y0).setCell ⟨s2, 1, none⟩ y1).setCell ⟨s2, 2, none⟩ y2).drew :=
  ((((((h.setCell h1 _).setCell h1 _).setCell h1 _).setCell h2 _).setCell h2 _).setCell h2 _).drew
theorem stored33 {w1 : World} {s1 s2 L : Nat} {sg : Bool} {a : Option Addr} {n c : Nat} {a' : Option Addr} {n' c' : Nat} {sg2 : Bool} {p : Option Addr} {m d : Nat} {p' : Option Addr} {m' d' : Nat} {r : Rt} (N1 : NoInt w1 s1) (N2 : NoInt w1 s2)
    {t : Bool} {x : Option Addr} {y z : Nat} {x' : Option Addr} {y' z' : Nat} (h : RtAt w1 t x y z x' y' z' r L) :
    RtAt ((((((w1.setCell ⟨s1, 0, none⟩ (.bool sg)).setCell ⟨s1, 1, none⟩ (.slice a n c)).setCell ⟨s1, 2, none⟩ (.slice a' n' c')).setCell ⟨s2, 0, none⟩ (.bool sg2)).setCell ⟨s2, 1, none⟩ (.slice p m d)).setCell ⟨s2, 2, none⟩ (.slice p' m' d')) t x y z x' y' z' r L := by
  have b0 : ∀ k n, Value.bool sg ≠ .int k n := fun k n h => by cases h
  have b1 : ∀ k n, Value.slice a n c ≠ .int k n := fun k n h => by cases h
  have NB : ∀ (w : World) (s t o : Nat) (b : Bool), NoInt w s → NoInt (w.setCell ⟨t, o, none⟩ (.bool b)) s := fun w s t o b h => h.setCell (by intro k n h; cases h)
  have NS : ∀ (w : World) (s t o : Nat) (a : Option Addr) (n c : Nat), NoInt w s → NoInt (w.setCell ⟨t, o, none⟩ (.slice a n c)) s := fun w s t o a n c h => h.setCell (by intro k n h; cases h)
  have x1 := NB w1 s1 s1 0 sg N1
  have x2 := NS _ s1 s1 1 a n c x1
  have y1 := NB w1 s2 s1 0 sg N2
  have y2 := NS _ s2 s1 1 a n c y1
  have y3 := NS _ s2 s1 2 a' n' c' y2
  have y4 := NB _ s2 s2 0 sg2 y3
  have y5 := NS _ s2 s2 1 p m d y4
  exact ⟨h.neg, (((((h.num.setCell _ N1).setCell _ x1).setCell _ x2).setCell _ y3).setCell _ y4).setCell _ y5, (((((h.den.setCell _ N1).setCell _ x1).setCell _ x2).setCell _ y3).setCell _ y4).setCell _ y5, h.numL, h.denL⟩
structure Box9 (W : World) (b : Nat) (v : Vl) : Prop where
  c0 : W.cell? ⟨b, 0, none⟩ = some (.int .i64 v.kind)
  c1 : W.cell? ⟨b, 1, none⟩ = some (.bool v.truth)
  c2 : W.cell? ⟨b, 2, none⟩ = some (.string v.text)
  c3 : W.cell? ⟨b, 3, none⟩ = some (.bool v.neg)
  c4 : W.cell? ⟨b, 4, none⟩ = some (.slice v.wa v.wn v.wc)
  c5 : W.cell? ⟨b, 5, none⟩ = some (.slice v.da v.dn v.dc)
  c6 : W.cell? ⟨b, 6, none⟩ = some (.bool v.ineg)
  c7 : W.cell? ⟨b, 7, none⟩ = some (.slice v.ia v.inn v.ic)
  c8 : W.cell? ⟨b, 8, none⟩ = some (.slice v.ea v.en v.ec)
theorem Box9.keep {w w1 : World} {b : Nat} {v : Vl} (h : Box9 w b v) (hb : Below w.heap.size w w1) : Box9 w1 b v :=
  ⟨cell_keep h.c0 hb, cell_keep h.c1 hb, cell_keep h.c2 hb, cell_keep h.c3 hb, cell_keep h.c4 hb, cell_keep h.c5 hb, cell_keep h.c6 hb, cell_keep h.c7 hb, cell_keep h.c8 hb⟩
theorem Box9.alloc {w : World} {b : Nat} {v : Vl} (h : Box9 w b v) (o : Obj) : Box9 (w.alloc o) b v := h.keep ((Below.refl _ _).alloc (Nat.le_refl _) _)
theorem Box9.new (w : World) (v : Vl) (T : TypeId) {b : Nat} (hb : b = w.heap.size) : Box9 (w.alloc (.cells #[.int .i64 v.kind, .bool v.truth, .string v.text, .bool v.neg, .slice v.wa v.wn v.wc, .slice v.da v.dn v.dc, .bool v.ineg, .slice v.ia v.inn v.ic, .slice v.ea v.en v.ec] T)) b v :=
  ⟨alloc_new _ _ _ hb rfl, alloc_new _ _ _ hb rfl, alloc_new _ _ _ hb rfl, alloc_new _ _ _ hb rfl, alloc_new _ _ _ hb rfl, alloc_new _ _ _ hb rfl, alloc_new _ _ _ hb rfl, alloc_new _ _ _ hb rfl, alloc_new _ _ _ hb rfl⟩
theorem Box9.all {W : World} {b : Nat} {v : Vl} (h : Box9 W b v) : W.cell? ⟨b, 0, none⟩ = some (.int .i64 v.kind) ∧ W.cell? ⟨b, 1, none⟩ = some (.bool v.truth) ∧ W.cell? ⟨b, 2, none⟩ = some (.string v.text) ∧ W.cell? ⟨b, 3, none⟩ = some (.bool v.neg) ∧ W.cell? ⟨b, 4, none⟩ = some (.slice v.wa v.wn v.wc) ∧ W.cell? ⟨b, 5, none⟩ = some (.slice v.da v.dn v.dc) ∧ W.cell? ⟨b, 6, none⟩ = some (.bool v.ineg) ∧ W.cell? ⟨b, 7, none⟩ = some (.slice v.ia v.inn v.ic) ∧ W.cell? ⟨b, 8, none⟩ = some (.slice v.ea v.en v.ec) := ⟨h.c0, h.c1, h.c2, h.c3, h.c4, h.c5, h.c6, h.c7, h.c8⟩
theorem ResBlk.new (w : World) (T : TypeId) {b : Nat} (hb : b = w.heap.size) : ResBlk (w.alloc (.cells #[.bool false, .slice none 0 0, .slice none 0 0] T)) b := by subst hb; exact ResBlk.alloc w T
theorem ResBlk.alloc1 {w : World} {b : Nat} (h : ResBlk w b) (o : Obj) : ResBlk (w.alloc o) b := h.below h.lt ((Below.refl _ _).alloc (Nat.le_refl _) _)
theorem RtBlk.all {W : World} {b : Nat} {s : Bool} {a : Option Addr} {n c : Nat} {a' : Option Addr} {n' c' : Nat} (h : RtBlk W b s a n c a' n' c') : W.cell? ⟨b, 0, none⟩ = some (.bool s) ∧ W.cell? ⟨b, 1, none⟩ = some (.slice a n c) ∧ W.cell? ⟨b, 2, none⟩ = some (.slice a' n' c') := ⟨h.c0, h.c1, h.c2⟩
theorem RtBlk.new (w : World) (T : TypeId) {b : Nat} (hb : b = w.heap.size) (sg : Bool) (a : Option Addr) (n c : Nat) (a' : Option Addr) (n' c' : Nat) :
    RtBlk (w.alloc (.cells #[.bool sg, .slice a n c, .slice a' n' c'] T)) b sg a n c a' n' c' := by subst hb; exact rtBlk_new _ _ _ _ _ _ _ _ _
end Go.Bg
