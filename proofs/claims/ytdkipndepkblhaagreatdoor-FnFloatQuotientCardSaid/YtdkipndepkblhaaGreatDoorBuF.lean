/-
  Words: nat.norm, wordsOf.
  Int.SetBits, Int.Neg of itself, of.
  low64, Int.IsInt64, Int.Int64, makeInt, Make of an Int.
  What a type assertion answers, by the dynamic type and the asked one (printed by gen_ta.py).
  Int.Int64, makeInt, Make of an Int: the package's integers.
  made of an Int; the operators that compare; ord, cmpZero.
  nat.make of one word, setWord, setUint64, SetInt64, i64toi.
-/
import Derived.Test.YtdkipndepkblhaaGreatDoorBuA
import Derived.Deep.RegionHeld3
import Derived.Deep.DeepCutAuto
import Derived.Lib.Builder
set_option linter.unusedSimpArgs false
set_option linter.unusedVariables false
namespace Go.Proofs.YtdkipndepkblhaaGreatDoor
open Go.RowKit Go.Bg Dg

set_option maxHeartbeats 400000 in
theorem norm_any (a : Option Addr) (n c : Nat) (f : Nat → Nat) (w : World)
    (hn : n ≤ 1000000000) (hnc : n ≤ c) (hcm : c ≤ maxLen) (hnil : a = none → c = 0) (hc : Cells w a n (fun i => .int .u64 (f i : Nat))) :
    Calls Tryz.prog 187 #[.slice a n c] w fun e w' => e = .returned (.slice a (tlen f n) c) ∧ w = w' := by
  go_enter Tryz.func187, Tryz.ntmps187
  go_wp2
  go_loop [3] (fun v => ∃ m : Nat, m ≤ n ∧ v = .int .i64 m ∧ tlen f m = tlen f n) (fun v => (intOf v).toNat)
  case atStart => exact ⟨n, Nat.le_refl _, rfl, rfl⟩
  case round =>
    obtain ⟨m, hm, rfl, ht⟩ := hrel
    have HT := Lib.hid ht; clear ht
    by_cases h0 : 0 < m
    · obtain ⟨b, off, rfl, hcell⟩ := hc (by omega)
      have hcm := hcell (m - 1) (by omega)
      obtain ⟨k, rfl⟩ : ∃ k, m = k + 1 := ⟨m - 1, by omega⟩
      clear hc hcell
      simp only [Nat.add_sub_cancel] at hcm
      by_cases hz : f k = 0
      · have hz2 : ((f k : Int) == 0) = true := by simpa using hz
        go_wp2
        go_round
        case rel => exact ⟨k, by omega, by go_num, by rw [← HT.out, tlen, if_pos hz]⟩
        case measure => simp [intOf]; try omega
      · have hz2 : ((f k : Int) == 0) = false := by simpa using hz
        go_wp2
        go_ret
        exact ⟨ret_slice (by rw [← HT.out, tlen, if_neg hz]), rfl⟩
    · obtain rfl : m = 0 := by omega
      go_wp2
      go_ret
      exact ⟨ret_slice HT.out, rfl⟩

def wv (f : Nat → Nat) (i : Nat) : Value := .int .u64 (f i : Nat)

set_option maxHeartbeats 1000000 in
theorem wordsOf_any (a : Option Addr) (n c : Nat) (f : Nat → Nat) (w : World) (h : WordsAt w a n c f) (hn : n ≤ 1000000) :
    Calls Tryz.prog 157 #[.slice a n c] w fun e w' => ∃ v, e = .returned v ∧ w'.ownsRow w.heap.size 151 1 v n ((List.range n).map (wv f)) ∧ Below w.heap.size w w' := by
  obtain ⟨i0, hi, hz0, hz1, hz2⟩ := info_parts infoWord
  go_enter Tryz.func157, Tryz.ntmps157
  go_wp2
  go_loopw [3, 5, 8] (fun out _ i wr => ∃ k : Nat, k ≤ n ∧ i = .int .i64 k ∧ wr.ownsRow w.heap.size 151 1 out k ((List.range k).map (wv f)) ∧ Below w.heap.size w wr)
    (fun _ _ i _ => n - (intOf i).toNat)
  case atStart => exact ⟨0, Nat.zero_le _, rfl, World.ownsRow_nil _ _ _ _, Below.refl _ _⟩
  case round =>
    obtain ⟨k, hk, rfl, hown, hbel⟩ := hrel
    by_cases k1 : k < n
    · have h' := h.keep hbel
      obtain ⟨b1, o1, rfl, hcell⟩ := h'.cells (by omega)
      have e1 := hcell k k1
      have hnc := h'.nc
      have hcm := h'.cm
      clear hcell h' h
      go_wp2_with (at_builtin; refine wpList_app1 rfl _ _ 140 rfl w.heap.size 151 i0 _ 8 Tryz.underlying140 hi hz0 hz1 hz2 rfl (by decide) _ _ _ _ rfl rfl rfl hown rfl (by omega) hbel.size ?_; intro v' w1 hown1 hbel1 hne1)
      go_roundw
      case rel => exact ⟨k + 1, by omega, by go_num, by rw [map_range_succ]; simpa [wv] using hown1, hbel.trans hbel1⟩
      case measure => simp [intOf]; omega
    · obtain rfl : k = n := by omega
      go_wp2
      go_ret
      exact ⟨_, rfl, hown, hbel⟩
end Go.Proofs.YtdkipndepkblhaaGreatDoor

set_option linter.unusedSimpArgs false
set_option linter.unusedVariables false
namespace Go.Proofs.YtdkipndepkblhaaGreatDoor
open Go.RowKit Go.Bg Dg

theorem infoBigInt : ∃ j, Tryz.prog.info? 143 = some j := Option.isSome_iff_exists.1 (by kernel_rfl)

/-- the big integer at (b, o) is what has been asked for -/
def IntIs (b o : Nat) (s : Bool) (N : Nat) (w : World) (e : Ending) (w' : World) : Prop :=
  e = .returned (.pointer (some ⟨b, o, none⟩)) ∧ BigAt 151 w' b o s N ∧ UpdI 151 b o w w'

set_option maxRecDepth 100000 in
set_option maxHeartbeats 1000000 in
theorem setBits_any (b o : Nat) (a : Option Addr) (n c : Nat) (f : Nat → Nat) (w : World) (hb : Strct 151 w b) (h0 : ∃ u, w.cell? ⟨b, o, none⟩ = some u) (h1 : ∃ u, w.cell? ⟨b, o + 1, none⟩ = some u)
    (hn : n ≤ 1000000000) (hnc : n ≤ c) (hcm : c ≤ maxLen) (hnil : a = none → c = 0) (hf : ∀ i, i < n → f i < W64) (hc : Cells w a n (fun i => .int .u64 (f i : Nat))) (hbuf : Buf 151 w a c) :
    Calls Tryz.prog 156 #[.pointer (some ⟨b, o, none⟩), .slice a n c] w (IntIs b o false (val W64 f n) w) := by
  have HN := Lib.hid (bigN_of_words hf hnc hcm hc hbuf)
  have HS := Lib.hid (fun a n c N hN => BigAt.stored (T := 151) (s := false) (a := a) (n := n) (c := c) (N := N) hb h0 h1 hN (by simp))
  have HB := Lib.hid hb
  obtain ⟨u0, h0⟩ := h0
  obtain ⟨u1, h1⟩ := h1
  have f0 := hb.frozen o
  have f1 := hb.frozen (o + 1)
  have h0' : ∀ v, (w.setCell ⟨b, o + 1, none⟩ v).cell? ⟨b, o, none⟩ = some u0 := fun v => by
    rw [World.cell?_setCell_other _ _ _ _ (fun hh => by injection hh with _ hh _; omega)]; exact h0
  clear hb
  go_enter Tryz.func156, Tryz.ntmps156
  go_wp2_with fail
  refine (norm_any a n c f _ hn hnc hcm hnil hc).mono ?_
  rintro e w1 ⟨rfl, rfl⟩
  go_wp2
  go_ret
  exact ⟨rfl, HS.out _ _ _ _ HN.out, (UpdI.set1 _ _ _ _).trans (UpdI.set0 _ _ _ _)⟩

set_option maxRecDepth 100000 in
set_option maxHeartbeats 1000000 in
theorem setSelf_any (b o : Nat) (w : World) : Calls Tryz.prog 160 #[.pointer (some ⟨b, o, none⟩), .pointer (some ⟨b, o, none⟩)] w (fun e w' => e = .returned (.pointer (some ⟨b, o, none⟩)) ∧ w = w') := by
  obtain ⟨j, hj⟩ := infoBigInt
  have hq := Lib.run_neq_ptr_same (P := Tryz.prog) w ⟨b, o, none⟩ Tryz.underlying85 hj
  go_enter Tryz.func160, Tryz.ntmps160
  go_wp2
  go_ret
  exact ⟨rfl, rfl⟩

set_option maxRecDepth 100000 in
set_option maxHeartbeats 1000000 in
theorem negSelf_any (b o : Nat) (s : Bool) (N : Nat) (w : World) (h : BigAt 151 w b o s N) :
    Calls Tryz.prog 103 #[.pointer (some ⟨b, o, none⟩), .pointer (some ⟨b, o, none⟩)] w (IntIs b o (!s && decide (0 < N)) N w) := by
  have HS := Lib.hid (fun t ht => h.signed (t := t) ht)
  have f0 := h.blk.frozen o
  obtain ⟨a, n, c, h0, h1, hN⟩ := h.val
  have HP := Lib.hid (natAt_pos_len hN.num)
  clear hN h
  by_cases hn : 0 < n
  · go_enter Tryz.func103, Tryz.ntmps103
    go_wp2_with fail
    refine (setSelf_any b o _).mono ?_
    rintro e w1 ⟨rfl, rfl⟩
    go_wp2
    go_ret
    have hp : 0 < N := by have := HP.out; simpa [hn] using this.symm
    exact ⟨rfl, by simpa [hp] using HS.out (!s) (fun _ => hp), UpdI.set0 _ _ _ _⟩
  · go_enter Tryz.func103, Tryz.ntmps103
    go_wp2_with fail
    refine (setSelf_any b o _).mono ?_
    rintro e w1 ⟨rfl, rfl⟩
    go_wp2
    go_ret
    have hp : ¬ 0 < N := by have := HP.out; simpa [hn] using this
    exact ⟨rfl, by simpa [hp] using HS.out false (by simp), UpdI.set0 _ _ _ _⟩

set_option maxRecDepth 100000 in
set_option maxHeartbeats 1000000 in
theorem of_any' (s : Bool) (a : Option Addr) (n c : Nat) (f : Nat → Nat) (w : World) (h : WordsAt w a n c f) (hn : n ≤ 1000000) :
    Calls Tryz.prog 96 #[.agg #[.bool s, .slice a n c]] w fun e w' => ∃ b, e = .returned (.pointer (some ⟨b, 0, none⟩)) ∧ w.heap.size ≤ b ∧ BigAt 151 w' b 0 (s && decide (0 < val W64 f n)) (val W64 f n) ∧ Below w.heap.size w w' := by
  obtain ⟨W0, hW0⟩ : ∃ W0, W0 = (w.alloc (.cells #[.bool s, .slice a n c] 24)).alloc (.cells #[.bool false, .slice none 0 0] 143) := ⟨_, rfl⟩
  have hs0 : W0.heap.size = w.heap.size + 1 + 1 := by rw [hW0]; simp
  have HW := Lib.hid hW0
  have hb0 : Below w.heap.size w W0 := by rw [hW0]; exact Below.alloc' (Below.alloc' (Below.refl _ _) _) _
  have hz : BlkAt W0 (w.heap.size + 1) #[.bool false, .slice none 0 0] 143 := by
    rw [hW0]
    have := BlkAt.new (w.alloc (.cells #[.bool s, .slice a n c] 24)) #[.bool false, .slice none 0 0] 143
    simpa using this
  have hx : BlkAt W0 w.heap.size #[.bool s, .slice a n c] 24 := by
    rw [hW0]; exact (BlkAt.new _ _ _).keep ((Below.refl _ _).alloc (Nat.le_refl _) _)
  have hw0 := h.keep hb0
  have HX0 := hx.cell 0
  have HX1 := hx.cell 1
  simp only [List.getElem?_toArray, List.getElem?_cons_zero, List.getElem?_cons_succ] at HX0 HX1
  clear hW0 h
  have HB := Lib.hid hb0
  have HX0' := Lib.hid HX0
  clear HX0
  cases s
  · go_enter Tryz.func96, Tryz.ntmps96
    go_wp2_with fail
    rw [← HW.out]
    refine (wordsOf_any a n c f _ hw0 hn).mono ?_
    rintro e w1 ⟨v, rfl, hown, hb1⟩
    obtain ⟨a1, c1, rfl, hbuf, hnc, hcm, hnil, hcells⟩ := buf_of_own hown
    have hw1 := hcells (wv f) (fun i hi => by simp [hi])
    have hz1 := hz.keep hb1
    have hx0 := hx.keep hb1
    have hs1 : Strct 151 w1 (w.heap.size + 1) := ⟨_, _, hz1, by decide⟩
    go_wp2_with fail
    refine (setBits_any (w.heap.size + 1) 0 a1 n c1 f _ hs1 ⟨_, hz1.cell 0⟩ ⟨_, hz1.cell 1⟩ (by omega) hnc hcm hnil hw0.lt hw1 hbuf).mono ?_
    rintro e w2 ⟨rfl, hI, hU⟩
    have hx2 := (hU.upd.blk hx0 (Nat.ne_of_lt (Nat.lt_succ_self _))).cell 0
    simp only [List.getElem?_toArray, List.getElem?_cons_zero, List.getElem?_cons_succ] at hx2
    go_wp2
    go_ret
    exact ⟨_, rfl, Nat.le_add_right _ 1, by simpa using hI, hU.upd.below (Below.then hb0 (by omega) hb1) (Nat.le_trans HB.out.size hb1.size) (fun k _ e => by subst e; exact Nat.le_add_right _ 1)⟩
  · go_enter Tryz.func96, Tryz.ntmps96
    go_wp2_with fail
    rw [← HW.out]
    refine (wordsOf_any a n c f _ hw0 hn).mono ?_
    rintro e w1 ⟨v, rfl, hown, hb1⟩
    obtain ⟨a1, c1, rfl, hbuf, hnc, hcm, hnil, hcells⟩ := buf_of_own hown
    have hw1 := hcells (wv f) (fun i hi => by simp [hi])
    have hz1 := hz.keep hb1
    have hx0 := hx.keep hb1
    have hs1 : Strct 151 w1 (w.heap.size + 1) := ⟨_, _, hz1, by decide⟩
    go_wp2_with fail
    refine (setBits_any (w.heap.size + 1) 0 a1 n c1 f _ hs1 ⟨_, hz1.cell 0⟩ ⟨_, hz1.cell 1⟩ (by omega) hnc hcm hnil hw0.lt hw1 hbuf).mono ?_
    rintro e w2 ⟨rfl, hI, hU⟩
    have hx2 := (hU.upd.blk hx0 (Nat.ne_of_lt (Nat.lt_succ_self _))).cell 0
    simp only [List.getElem?_toArray, List.getElem?_cons_zero, List.getElem?_cons_succ] at hx2
    go_wp2_with fail
    refine (negSelf_any (w.heap.size + 1) 0 false _ _ hI).mono ?_
    rintro e w3 ⟨rfl, hI3, hU3⟩
    go_wp2
    go_ret
    exact ⟨_, rfl, Nat.le_add_right _ 1, by simpa using hI3, (hU.trans hU3).upd.below (Below.then hb0 (by omega) hb1) (Nat.le_trans HB.out.size hb1.size) (fun k _ e => by subst e; exact Nat.le_add_right _ 1)⟩
end Go.Proofs.YtdkipndepkblhaaGreatDoor

set_option linter.unusedSimpArgs false
set_option linter.unusedVariables false
namespace Go.Proofs.YtdkipndepkblhaaGreatDoor
open Go.RowKit Go.Bg Dg

set_option maxRecDepth 100000 in
set_option maxHeartbeats 1000000 in
theorem low64_any (a : Option Addr) (n c N : Nat) (w : World) (h : NumAt .u64 W64 w a n c N) :
    Calls Tryz.prog 183 #[.slice a n c] w fun e w' => e = .returned (.int .u64 (N % 18446744073709551616 : Nat)) ∧ w = w' := by
  have hcm := h.cm
  have hnc := h.nc
  by_cases h0 : n = 0
  · subst h0
    have hN : N = 0 := by have := h.lt; simpa using this
    clear h
    subst hN
    go_enter Tryz.func183, Tryz.ntmps183
    go_wp2
    go_ret
    exact ⟨rfl, rfl⟩
  · obtain ⟨b, off, rfl, _⟩ := h.form (by omega)
    have hc := h.cell (i := 0) (by omega)
    have hd : dg W64 N 0 = N % 18446744073709551616 := by simp [dg, W64]
    rw [hd, Nat.add_zero] at hc
    clear h hd
    have hlt : N % 18446744073709551616 < 18446744073709551616 := Nat.mod_lt _ (by decide)
    generalize N % 18446744073709551616 = x at *
    have hz : ((n : Int) == 0) = false := by simpa using h0
    go_enter Tryz.func183, Tryz.ntmps183
    go_wp2
    go_ret
    exact ⟨rfl, rfl⟩

/-- the number is an int64 -/
def fit64 (z : Int) : Bool := decide (-9223372036854775808 ≤ z ∧ z < 9223372036854775808)

theorem fits_plain (s : Bool) (N : Nat) (h : N < 18446744073709551616) : (decide (0 ≤ wrap64 (N : Int)) || (s && wrap64 (N : Int) == wrap64 (-wrap64 (N : Int)))) = fit64 (sg s N) := by
  by_cases h1 : N < 9223372036854775808
  · have e : wrap64 (N : Int) = N := by unfold wrap64; omega
    rw [e]
    unfold fit64 sg
    cases s
    · simp; omega
    · simp; omega
  · have e : wrap64 (N : Int) = N - 18446744073709551616 := by unfold wrap64; omega
    have e0 : decide (0 ≤ wrap64 (N : Int)) = false := by rw [e]; simp; omega
    rw [e0, e]
    by_cases h2 : N = 9223372036854775808
    · subst h2
      have e3 : wrap64 (-(((9223372036854775808 : Nat) : Int) - 18446744073709551616)) = -9223372036854775808 := by unfold wrap64; omega
      rw [e3]
      unfold fit64 sg
      cases s <;> simp
    · have e3 : wrap64 (-((N : Int) - 18446744073709551616)) = 18446744073709551616 - N := by unfold wrap64; omega
      rw [e3]
      unfold fit64 sg
      cases s
      · simp; omega
      · have : ((N : Int) - 18446744073709551616 == 18446744073709551616 - N) = false := by simp; omega
        rw [this]; simp; omega

theorem one_word {k : IntKind} {w : World} {a : Option Addr} {n c N : Nat} (h : NumAt k W64 w a n c N) (hn : n ≤ 1) : N < 18446744073709551616 := by
  have h1 := h.lt
  have h3 : W64 ^ n ≤ W64 ^ 1 := Nat.pow_le_pow_right W64_pos hn
  rw [Nat.pow_one] at h3
  exact Nat.lt_of_lt_of_le h1 h3
theorem more_words {k : IntKind} {w : World} {a : Option Addr} {n c N : Nat} (h : NumAt k W64 w a n c N) (hn : ¬ n ≤ 1) : 18446744073709551616 ≤ N := by
  rcases h.top with h3 | h3
  · omega
  · have h4 : W64 ^ 1 ≤ W64 ^ (n - 1) := Nat.pow_le_pow_right W64_pos (by omega)
    rw [Nat.pow_one] at h4
    exact Nat.le_trans h4 h3
theorem fit64_great (s : Bool) (N : Nat) (h : 18446744073709551616 ≤ N) : fit64 (sg s N) = false := by
  unfold fit64 sg
  cases s <;> simp <;> omega

theorem wrap64_bd (x : Int) : -9223372036854775808 ≤ wrap64 x ∧ wrap64 x ≤ 9223372036854775807 := by unfold wrap64; omega

set_option maxRecDepth 100000 in
set_option maxHeartbeats 1000000 in
theorem isInt64_any (b o : Nat) (s : Bool) (N : Nat) (w : World) (h : BigAt 151 w b o s N) :
    Calls Tryz.prog 122 #[.pointer (some ⟨b, o, none⟩)] w fun e w' => e = .returned (.bool (fit64 (sg s N))) ∧ w = w' := by
  obtain ⟨a, n, c, h0, h1, hN⟩ := h.val
  have hcm := hN.num.cm
  have hnc := hN.num.nc
  have HN := Lib.hid hN
  clear h
  by_cases h2 : n ≤ 1
  · have hlt := one_word hN.num h2
    have HM := Lib.hid (show N % 18446744073709551616 = N from Nat.mod_eq_of_lt hlt)
    clear hN
    have HP := Lib.hid (fits_plain s N hlt)
    have hbd := wrap64_bd (N : Int)
    clear hlt
    by_cases hz : 0 ≤ wrap64 (N : Int)
    · go_enter Tryz.func122, Tryz.ntmps122
      go_wp2_with fail
      refine (low64_any a n c _ _ HN.out.num).mono ?_
      rintro e w1 ⟨rfl, rfl⟩
      rw [HM.out]
      go_upto_region 3 with fail
      generalize wrap64 (N : Int) = z at *
      go_wp2
      go_ret
      exact ⟨ret_bool (by rw [← HP.out]; simp [hz]), rfl⟩
    · cases s
      · go_enter Tryz.func122, Tryz.ntmps122
        go_wp2_with fail
        refine (low64_any a n c _ _ HN.out.num).mono ?_
        rintro e w1 ⟨rfl, rfl⟩
        rw [HM.out]
        go_upto_region 3 with fail
        generalize wrap64 (N : Int) = z at *
        have hd : decide (0 ≤ z) = false := by simp; omega
        clear hz hbd
        go_wp2
        go_ret
        exact ⟨ret_bool (by rw [← HP.out]; simp [hd]), rfl⟩
      · go_enter Tryz.func122, Tryz.ntmps122
        go_wp2_with fail
        refine (low64_any a n c _ _ HN.out.num).mono ?_
        rintro e w1 ⟨rfl, rfl⟩
        rw [HM.out]
        go_upto_region 3 with fail
        generalize wrap64 (N : Int) = z at *
        have hd : decide (0 ≤ z) = false := by simp; omega
        clear hz hbd
        go_wp2
        go_ret
        exact ⟨ret_bool (by rw [← HP.out]; simp [hd]), rfl⟩
  · have hge := more_words hN.num h2
    have e1 := fit64_great s N hge
    clear hN hge
    go_enter Tryz.func122, Tryz.ntmps122
    go_wp2
    go_ret
    exact ⟨ret_bool e1.symm, rfl⟩
end Go.Proofs.YtdkipndepkblhaaGreatDoor

set_option linter.unusedSimpArgs false
set_option linter.unusedVariables false
namespace Go.Proofs.YtdkipndepkblhaaGreatDoor
theorem ta_unknownVal : (∀ (v : Value) (w : World), (Instr.typeAssert (.iface 80 v) 60 80 true).run Tryz.prog w = .ok (.tuple #[v, .bool true]) w) ∧
    (∀ (v : Value) (w : World), (Instr.typeAssert (.iface 80 v) 60 81 true).run Tryz.prog w = .ok (.tuple #[.bool false, .bool false]) w) ∧
    (∀ (v : Value) (w : World), (Instr.typeAssert (.iface 80 v) 60 82 true).run Tryz.prog w = .ok (.tuple #[.int .i64 0, .bool false]) w) ∧
    (∀ (v : Value) (w : World), (Instr.typeAssert (.iface 80 v) 60 93 true).run Tryz.prog w = .ok (.tuple #[.agg #[.pointer none], .bool false]) w) ∧
    (∀ (v : Value) (w : World), (Instr.typeAssert (.iface 80 v) 60 97 true).run Tryz.prog w = .ok (.tuple #[.agg #[.pointer none], .bool false]) w) ∧
    (∀ (v : Value) (w : World), (Instr.typeAssert (.iface 80 v) 60 101 true).run Tryz.prog w = .ok (.tuple #[.agg #[.pointer none], .bool false]) w) ∧
    (∀ (v : Value) (w : World), (Instr.typeAssert (.iface 80 v) 60 106 true).run Tryz.prog w = .ok (.tuple #[.agg #[.nilIface, .nilIface], .bool false]) w) ∧
    (∀ (v : Value) (w : World), (Instr.typeAssert (.iface 80 v) 60 108 true).run Tryz.prog w = .ok (.tuple #[.pointer none, .bool false]) w) ∧
    (∀ (v : Value) (w : World), (Instr.typeAssert (.iface 80 v) 60 80 false).run Tryz.prog w = .ok v w) := by
  refine ⟨?_, ?_, ?_, ?_, ?_, ?_, ?_, ?_, ?_⟩ <;> (intro v w; kernel_rfl)
theorem ta_boolVal : (∀ (v : Value) (w : World), (Instr.typeAssert (.iface 81 v) 60 80 true).run Tryz.prog w = .ok (.tuple #[.agg #[], .bool false]) w) ∧
    (∀ (v : Value) (w : World), (Instr.typeAssert (.iface 81 v) 60 81 true).run Tryz.prog w = .ok (.tuple #[v, .bool true]) w) ∧
    (∀ (v : Value) (w : World), (Instr.typeAssert (.iface 81 v) 60 82 true).run Tryz.prog w = .ok (.tuple #[.int .i64 0, .bool false]) w) ∧
    (∀ (v : Value) (w : World), (Instr.typeAssert (.iface 81 v) 60 93 true).run Tryz.prog w = .ok (.tuple #[.agg #[.pointer none], .bool false]) w) ∧
    (∀ (v : Value) (w : World), (Instr.typeAssert (.iface 81 v) 60 97 true).run Tryz.prog w = .ok (.tuple #[.agg #[.pointer none], .bool false]) w) ∧
    (∀ (v : Value) (w : World), (Instr.typeAssert (.iface 81 v) 60 101 true).run Tryz.prog w = .ok (.tuple #[.agg #[.pointer none], .bool false]) w) ∧
    (∀ (v : Value) (w : World), (Instr.typeAssert (.iface 81 v) 60 106 true).run Tryz.prog w = .ok (.tuple #[.agg #[.nilIface, .nilIface], .bool false]) w) ∧
    (∀ (v : Value) (w : World), (Instr.typeAssert (.iface 81 v) 60 108 true).run Tryz.prog w = .ok (.tuple #[.pointer none, .bool false]) w) ∧
    (∀ (v : Value) (w : World), (Instr.typeAssert (.iface 81 v) 60 81 false).run Tryz.prog w = .ok v w) := by
  refine ⟨?_, ?_, ?_, ?_, ?_, ?_, ?_, ?_, ?_⟩ <;> (intro v w; kernel_rfl)
theorem ta_int64Val : (∀ (v : Value) (w : World), (Instr.typeAssert (.iface 82 v) 60 80 true).run Tryz.prog w = .ok (.tuple #[.agg #[], .bool false]) w) ∧
    (∀ (v : Value) (w : World), (Instr.typeAssert (.iface 82 v) 60 81 true).run Tryz.prog w = .ok (.tuple #[.bool false, .bool false]) w) ∧
    (∀ (v : Value) (w : World), (Instr.typeAssert (.iface 82 v) 60 82 true).run Tryz.prog w = .ok (.tuple #[v, .bool true]) w) ∧
    (∀ (v : Value) (w : World), (Instr.typeAssert (.iface 82 v) 60 93 true).run Tryz.prog w = .ok (.tuple #[.agg #[.pointer none], .bool false]) w) ∧
    (∀ (v : Value) (w : World), (Instr.typeAssert (.iface 82 v) 60 97 true).run Tryz.prog w = .ok (.tuple #[.agg #[.pointer none], .bool false]) w) ∧
    (∀ (v : Value) (w : World), (Instr.typeAssert (.iface 82 v) 60 101 true).run Tryz.prog w = .ok (.tuple #[.agg #[.pointer none], .bool false]) w) ∧
    (∀ (v : Value) (w : World), (Instr.typeAssert (.iface 82 v) 60 106 true).run Tryz.prog w = .ok (.tuple #[.agg #[.nilIface, .nilIface], .bool false]) w) ∧
    (∀ (v : Value) (w : World), (Instr.typeAssert (.iface 82 v) 60 108 true).run Tryz.prog w = .ok (.tuple #[.pointer none, .bool false]) w) ∧
    (∀ (v : Value) (w : World), (Instr.typeAssert (.iface 82 v) 60 82 false).run Tryz.prog w = .ok v w) := by
  refine ⟨?_, ?_, ?_, ?_, ?_, ?_, ?_, ?_, ?_⟩ <;> (intro v w; kernel_rfl)
theorem ta_intVal : (∀ (v : Value) (w : World), (Instr.typeAssert (.iface 93 v) 60 80 true).run Tryz.prog w = .ok (.tuple #[.agg #[], .bool false]) w) ∧
    (∀ (v : Value) (w : World), (Instr.typeAssert (.iface 93 v) 60 81 true).run Tryz.prog w = .ok (.tuple #[.bool false, .bool false]) w) ∧
    (∀ (v : Value) (w : World), (Instr.typeAssert (.iface 93 v) 60 82 true).run Tryz.prog w = .ok (.tuple #[.int .i64 0, .bool false]) w) ∧
    (∀ (v : Value) (w : World), (Instr.typeAssert (.iface 93 v) 60 93 true).run Tryz.prog w = .ok (.tuple #[v, .bool true]) w) ∧
    (∀ (v : Value) (w : World), (Instr.typeAssert (.iface 93 v) 60 97 true).run Tryz.prog w = .ok (.tuple #[.agg #[.pointer none], .bool false]) w) ∧
    (∀ (v : Value) (w : World), (Instr.typeAssert (.iface 93 v) 60 101 true).run Tryz.prog w = .ok (.tuple #[.agg #[.pointer none], .bool false]) w) ∧
    (∀ (v : Value) (w : World), (Instr.typeAssert (.iface 93 v) 60 106 true).run Tryz.prog w = .ok (.tuple #[.agg #[.nilIface, .nilIface], .bool false]) w) ∧
    (∀ (v : Value) (w : World), (Instr.typeAssert (.iface 93 v) 60 108 true).run Tryz.prog w = .ok (.tuple #[.pointer none, .bool false]) w) ∧
    (∀ (v : Value) (w : World), (Instr.typeAssert (.iface 93 v) 60 93 false).run Tryz.prog w = .ok v w) := by
  refine ⟨?_, ?_, ?_, ?_, ?_, ?_, ?_, ?_, ?_⟩ <;> (intro v w; kernel_rfl)
theorem ta_ratVal : (∀ (v : Value) (w : World), (Instr.typeAssert (.iface 97 v) 60 80 true).run Tryz.prog w = .ok (.tuple #[.agg #[], .bool false]) w) ∧
    (∀ (v : Value) (w : World), (Instr.typeAssert (.iface 97 v) 60 81 true).run Tryz.prog w = .ok (.tuple #[.bool false, .bool false]) w) ∧
    (∀ (v : Value) (w : World), (Instr.typeAssert (.iface 97 v) 60 82 true).run Tryz.prog w = .ok (.tuple #[.int .i64 0, .bool false]) w) ∧
    (∀ (v : Value) (w : World), (Instr.typeAssert (.iface 97 v) 60 93 true).run Tryz.prog w = .ok (.tuple #[.agg #[.pointer none], .bool false]) w) ∧
    (∀ (v : Value) (w : World), (Instr.typeAssert (.iface 97 v) 60 97 true).run Tryz.prog w = .ok (.tuple #[v, .bool true]) w) ∧
    (∀ (v : Value) (w : World), (Instr.typeAssert (.iface 97 v) 60 101 true).run Tryz.prog w = .ok (.tuple #[.agg #[.pointer none], .bool false]) w) ∧
    (∀ (v : Value) (w : World), (Instr.typeAssert (.iface 97 v) 60 106 true).run Tryz.prog w = .ok (.tuple #[.agg #[.nilIface, .nilIface], .bool false]) w) ∧
    (∀ (v : Value) (w : World), (Instr.typeAssert (.iface 97 v) 60 108 true).run Tryz.prog w = .ok (.tuple #[.pointer none, .bool false]) w) ∧
    (∀ (v : Value) (w : World), (Instr.typeAssert (.iface 97 v) 60 97 false).run Tryz.prog w = .ok v w) := by
  refine ⟨?_, ?_, ?_, ?_, ?_, ?_, ?_, ?_, ?_⟩ <;> (intro v w; kernel_rfl)
theorem ta_floatVal : (∀ (v : Value) (w : World), (Instr.typeAssert (.iface 101 v) 60 80 true).run Tryz.prog w = .ok (.tuple #[.agg #[], .bool false]) w) ∧
    (∀ (v : Value) (w : World), (Instr.typeAssert (.iface 101 v) 60 81 true).run Tryz.prog w = .ok (.tuple #[.bool false, .bool false]) w) ∧
    (∀ (v : Value) (w : World), (Instr.typeAssert (.iface 101 v) 60 82 true).run Tryz.prog w = .ok (.tuple #[.int .i64 0, .bool false]) w) ∧
    (∀ (v : Value) (w : World), (Instr.typeAssert (.iface 101 v) 60 93 true).run Tryz.prog w = .ok (.tuple #[.agg #[.pointer none], .bool false]) w) ∧
    (∀ (v : Value) (w : World), (Instr.typeAssert (.iface 101 v) 60 97 true).run Tryz.prog w = .ok (.tuple #[.agg #[.pointer none], .bool false]) w) ∧
    (∀ (v : Value) (w : World), (Instr.typeAssert (.iface 101 v) 60 101 true).run Tryz.prog w = .ok (.tuple #[v, .bool true]) w) ∧
    (∀ (v : Value) (w : World), (Instr.typeAssert (.iface 101 v) 60 106 true).run Tryz.prog w = .ok (.tuple #[.agg #[.nilIface, .nilIface], .bool false]) w) ∧
    (∀ (v : Value) (w : World), (Instr.typeAssert (.iface 101 v) 60 108 true).run Tryz.prog w = .ok (.tuple #[.pointer none, .bool false]) w) ∧
    (∀ (v : Value) (w : World), (Instr.typeAssert (.iface 101 v) 60 101 false).run Tryz.prog w = .ok v w) := by
  refine ⟨?_, ?_, ?_, ?_, ?_, ?_, ?_, ?_, ?_⟩ <;> (intro v w; kernel_rfl)
theorem ta_complexVal : (∀ (v : Value) (w : World), (Instr.typeAssert (.iface 106 v) 60 80 true).run Tryz.prog w = .ok (.tuple #[.agg #[], .bool false]) w) ∧
    (∀ (v : Value) (w : World), (Instr.typeAssert (.iface 106 v) 60 81 true).run Tryz.prog w = .ok (.tuple #[.bool false, .bool false]) w) ∧
    (∀ (v : Value) (w : World), (Instr.typeAssert (.iface 106 v) 60 82 true).run Tryz.prog w = .ok (.tuple #[.int .i64 0, .bool false]) w) ∧
    (∀ (v : Value) (w : World), (Instr.typeAssert (.iface 106 v) 60 93 true).run Tryz.prog w = .ok (.tuple #[.agg #[.pointer none], .bool false]) w) ∧
    (∀ (v : Value) (w : World), (Instr.typeAssert (.iface 106 v) 60 97 true).run Tryz.prog w = .ok (.tuple #[.agg #[.pointer none], .bool false]) w) ∧
    (∀ (v : Value) (w : World), (Instr.typeAssert (.iface 106 v) 60 101 true).run Tryz.prog w = .ok (.tuple #[.agg #[.pointer none], .bool false]) w) ∧
    (∀ (v : Value) (w : World), (Instr.typeAssert (.iface 106 v) 60 106 true).run Tryz.prog w = .ok (.tuple #[v, .bool true]) w) ∧
    (∀ (v : Value) (w : World), (Instr.typeAssert (.iface 106 v) 60 108 true).run Tryz.prog w = .ok (.tuple #[.pointer none, .bool false]) w) ∧
    (∀ (v : Value) (w : World), (Instr.typeAssert (.iface 106 v) 60 106 false).run Tryz.prog w = .ok v w) := by
  refine ⟨?_, ?_, ?_, ?_, ?_, ?_, ?_, ?_, ?_⟩ <;> (intro v w; kernel_rfl)
theorem ta_pstringVal : (∀ (v : Value) (w : World), (Instr.typeAssert (.iface 108 v) 60 80 true).run Tryz.prog w = .ok (.tuple #[.agg #[], .bool false]) w) ∧
    (∀ (v : Value) (w : World), (Instr.typeAssert (.iface 108 v) 60 81 true).run Tryz.prog w = .ok (.tuple #[.bool false, .bool false]) w) ∧
    (∀ (v : Value) (w : World), (Instr.typeAssert (.iface 108 v) 60 82 true).run Tryz.prog w = .ok (.tuple #[.int .i64 0, .bool false]) w) ∧
    (∀ (v : Value) (w : World), (Instr.typeAssert (.iface 108 v) 60 93 true).run Tryz.prog w = .ok (.tuple #[.agg #[.pointer none], .bool false]) w) ∧
    (∀ (v : Value) (w : World), (Instr.typeAssert (.iface 108 v) 60 97 true).run Tryz.prog w = .ok (.tuple #[.agg #[.pointer none], .bool false]) w) ∧
    (∀ (v : Value) (w : World), (Instr.typeAssert (.iface 108 v) 60 101 true).run Tryz.prog w = .ok (.tuple #[.agg #[.pointer none], .bool false]) w) ∧
    (∀ (v : Value) (w : World), (Instr.typeAssert (.iface 108 v) 60 106 true).run Tryz.prog w = .ok (.tuple #[.agg #[.nilIface, .nilIface], .bool false]) w) ∧
    (∀ (v : Value) (w : World), (Instr.typeAssert (.iface 108 v) 60 108 true).run Tryz.prog w = .ok (.tuple #[v, .bool true]) w) ∧
    (∀ (v : Value) (w : World), (Instr.typeAssert (.iface 108 v) 60 108 false).run Tryz.prog w = .ok v w) := by
  refine ⟨?_, ?_, ?_, ?_, ?_, ?_, ?_, ?_, ?_⟩ <;> (intro v w; kernel_rfl)
theorem ta_any_bool : (∀ (v : Value) (w : World), (Instr.typeAssert (.iface 4 v) 20 4 true).run Tryz.prog w = .ok (.tuple #[v, .bool true]) w) ∧
    (∀ (v : Value) (w : World), (Instr.typeAssert (.iface 4 v) 20 9 true).run Tryz.prog w = .ok (.tuple #[.string ⟨#[]⟩, .bool false]) w) ∧
    (∀ (v : Value) (w : World), (Instr.typeAssert (.iface 4 v) 20 2 true).run Tryz.prog w = .ok (.tuple #[.int .i64 0, .bool false]) w) ∧
    (∀ (v : Value) (w : World), (Instr.typeAssert (.iface 4 v) 20 85 true).run Tryz.prog w = .ok (.tuple #[.pointer none, .bool false]) w) ∧
    (∀ (v : Value) (w : World), (Instr.typeAssert (.iface 4 v) 20 90 true).run Tryz.prog w = .ok (.tuple #[.pointer none, .bool false]) w) ∧
    (∀ (v : Value) (w : World), (Instr.typeAssert (.iface 4 v) 20 99 true).run Tryz.prog w = .ok (.tuple #[.pointer none, .bool false]) w) := by
  refine ⟨?_, ?_, ?_, ?_, ?_, ?_⟩ <;> (intro v w; kernel_rfl)
theorem ta_any_string : (∀ (v : Value) (w : World), (Instr.typeAssert (.iface 9 v) 20 4 true).run Tryz.prog w = .ok (.tuple #[.bool false, .bool false]) w) ∧
    (∀ (v : Value) (w : World), (Instr.typeAssert (.iface 9 v) 20 9 true).run Tryz.prog w = .ok (.tuple #[v, .bool true]) w) ∧
    (∀ (v : Value) (w : World), (Instr.typeAssert (.iface 9 v) 20 2 true).run Tryz.prog w = .ok (.tuple #[.int .i64 0, .bool false]) w) ∧
    (∀ (v : Value) (w : World), (Instr.typeAssert (.iface 9 v) 20 85 true).run Tryz.prog w = .ok (.tuple #[.pointer none, .bool false]) w) ∧
    (∀ (v : Value) (w : World), (Instr.typeAssert (.iface 9 v) 20 90 true).run Tryz.prog w = .ok (.tuple #[.pointer none, .bool false]) w) ∧
    (∀ (v : Value) (w : World), (Instr.typeAssert (.iface 9 v) 20 99 true).run Tryz.prog w = .ok (.tuple #[.pointer none, .bool false]) w) := by
  refine ⟨?_, ?_, ?_, ?_, ?_, ?_⟩ <;> (intro v w; kernel_rfl)
theorem ta_any_int64 : (∀ (v : Value) (w : World), (Instr.typeAssert (.iface 2 v) 20 4 true).run Tryz.prog w = .ok (.tuple #[.bool false, .bool false]) w) ∧
    (∀ (v : Value) (w : World), (Instr.typeAssert (.iface 2 v) 20 9 true).run Tryz.prog w = .ok (.tuple #[.string ⟨#[]⟩, .bool false]) w) ∧
    (∀ (v : Value) (w : World), (Instr.typeAssert (.iface 2 v) 20 2 true).run Tryz.prog w = .ok (.tuple #[v, .bool true]) w) ∧
    (∀ (v : Value) (w : World), (Instr.typeAssert (.iface 2 v) 20 85 true).run Tryz.prog w = .ok (.tuple #[.pointer none, .bool false]) w) ∧
    (∀ (v : Value) (w : World), (Instr.typeAssert (.iface 2 v) 20 90 true).run Tryz.prog w = .ok (.tuple #[.pointer none, .bool false]) w) ∧
    (∀ (v : Value) (w : World), (Instr.typeAssert (.iface 2 v) 20 99 true).run Tryz.prog w = .ok (.tuple #[.pointer none, .bool false]) w) := by
  refine ⟨?_, ?_, ?_, ?_, ?_, ?_⟩ <;> (intro v w; kernel_rfl)
theorem ta_any_pInt : (∀ (v : Value) (w : World), (Instr.typeAssert (.iface 85 v) 20 4 true).run Tryz.prog w = .ok (.tuple #[.bool false, .bool false]) w) ∧
    (∀ (v : Value) (w : World), (Instr.typeAssert (.iface 85 v) 20 9 true).run Tryz.prog w = .ok (.tuple #[.string ⟨#[]⟩, .bool false]) w) ∧
    (∀ (v : Value) (w : World), (Instr.typeAssert (.iface 85 v) 20 2 true).run Tryz.prog w = .ok (.tuple #[.int .i64 0, .bool false]) w) ∧
    (∀ (v : Value) (w : World), (Instr.typeAssert (.iface 85 v) 20 85 true).run Tryz.prog w = .ok (.tuple #[v, .bool true]) w) ∧
    (∀ (v : Value) (w : World), (Instr.typeAssert (.iface 85 v) 20 90 true).run Tryz.prog w = .ok (.tuple #[.pointer none, .bool false]) w) ∧
    (∀ (v : Value) (w : World), (Instr.typeAssert (.iface 85 v) 20 99 true).run Tryz.prog w = .ok (.tuple #[.pointer none, .bool false]) w) := by
  refine ⟨?_, ?_, ?_, ?_, ?_, ?_⟩ <;> (intro v w; kernel_rfl)
theorem ta_any_pRat : (∀ (v : Value) (w : World), (Instr.typeAssert (.iface 90 v) 20 4 true).run Tryz.prog w = .ok (.tuple #[.bool false, .bool false]) w) ∧
    (∀ (v : Value) (w : World), (Instr.typeAssert (.iface 90 v) 20 9 true).run Tryz.prog w = .ok (.tuple #[.string ⟨#[]⟩, .bool false]) w) ∧
    (∀ (v : Value) (w : World), (Instr.typeAssert (.iface 90 v) 20 2 true).run Tryz.prog w = .ok (.tuple #[.int .i64 0, .bool false]) w) ∧
    (∀ (v : Value) (w : World), (Instr.typeAssert (.iface 90 v) 20 85 true).run Tryz.prog w = .ok (.tuple #[.pointer none, .bool false]) w) ∧
    (∀ (v : Value) (w : World), (Instr.typeAssert (.iface 90 v) 20 90 true).run Tryz.prog w = .ok (.tuple #[v, .bool true]) w) ∧
    (∀ (v : Value) (w : World), (Instr.typeAssert (.iface 90 v) 20 99 true).run Tryz.prog w = .ok (.tuple #[.pointer none, .bool false]) w) := by
  refine ⟨?_, ?_, ?_, ?_, ?_, ?_⟩ <;> (intro v w; kernel_rfl)
theorem ta_any_pFloat : (∀ (v : Value) (w : World), (Instr.typeAssert (.iface 99 v) 20 4 true).run Tryz.prog w = .ok (.tuple #[.bool false, .bool false]) w) ∧
    (∀ (v : Value) (w : World), (Instr.typeAssert (.iface 99 v) 20 9 true).run Tryz.prog w = .ok (.tuple #[.string ⟨#[]⟩, .bool false]) w) ∧
    (∀ (v : Value) (w : World), (Instr.typeAssert (.iface 99 v) 20 2 true).run Tryz.prog w = .ok (.tuple #[.int .i64 0, .bool false]) w) ∧
    (∀ (v : Value) (w : World), (Instr.typeAssert (.iface 99 v) 20 85 true).run Tryz.prog w = .ok (.tuple #[.pointer none, .bool false]) w) ∧
    (∀ (v : Value) (w : World), (Instr.typeAssert (.iface 99 v) 20 90 true).run Tryz.prog w = .ok (.tuple #[.pointer none, .bool false]) w) ∧
    (∀ (v : Value) (w : World), (Instr.typeAssert (.iface 99 v) 20 99 true).run Tryz.prog w = .ok (.tuple #[v, .bool true]) w) := by
  refine ⟨?_, ?_, ?_, ?_, ?_, ?_⟩ <;> (intro v w; kernel_rfl)
end Go.Proofs.YtdkipndepkblhaaGreatDoor

set_option linter.unusedSimpArgs false
set_option linter.unusedVariables false
namespace Go.Proofs.YtdkipndepkblhaaGreatDoor
open Go.RowKit Go.Bg Dg

theorem int64_plain (s : Bool) (N : Nat) (h : fit64 (sg s N) = true) : (if s then wrap64 (-wrap64 (N : Int)) else wrap64 (N : Int)) = sg s N := by
  unfold fit64 sg at h
  unfold sg
  cases s
  · simp at h ⊢; unfold wrap64; omega
  · simp at h ⊢
    by_cases h2 : N = 9223372036854775808
    · subst h2
      have e1 : wrap64 ((9223372036854775808 : Nat) : Int) = -9223372036854775808 := by unfold wrap64; omega
      rw [e1]; unfold wrap64; omega
    · have e1 : wrap64 (N : Int) = N := by unfold wrap64; omega
      rw [e1]; unfold wrap64; omega

theorem fit64_lt {s : Bool} {N : Nat} (h : fit64 (sg s N) = true) : N < 18446744073709551616 := by
  unfold fit64 sg at h
  cases s <;> simp at h <;> omega

set_option maxRecDepth 100000 in
set_option maxHeartbeats 1000000 in
theorem int64_any (b o : Nat) (s : Bool) (N : Nat) (w : World) (h : BigAt 151 w b o s N) (hf : fit64 (sg s N) = true) :
    Calls Tryz.prog 123 #[.pointer (some ⟨b, o, none⟩)] w fun e w' => e = .returned (.int .i64 (sg s N)) ∧ w = w' := by
  obtain ⟨a, n, c, h0, h1, hN⟩ := h.val
  have hcm := hN.num.cm
  have hnc := hN.num.nc
  have HN := Lib.hid hN
  have HP := Lib.hid (int64_plain s N hf)
  have HM := Lib.hid (show N % 18446744073709551616 = N from Nat.mod_eq_of_lt (fit64_lt hf))
  clear h hN hf
  cases s
  · go_enter Tryz.func123, Tryz.ntmps123
    go_wp2_with fail
    refine (low64_any a n c _ _ HN.out.num).mono ?_
    rintro e w1 ⟨rfl, rfl⟩
    rw [HM.out]
    go_upto_region 2 with fail
    generalize wrap64 (N : Int) = z at *
    go_wp2
    go_ret
    exact ⟨ret_int (by simpa using HP.out), rfl⟩
  · go_enter Tryz.func123, Tryz.ntmps123
    go_wp2_with fail
    refine (low64_any a n c _ _ HN.out.num).mono ?_
    rintro e w1 ⟨rfl, rfl⟩
    rw [HM.out]
    go_upto_region 2 with fail
    generalize wrap64 (N : Int) = z at *
    go_wp2
    go_ret
    exact ⟨ret_int (by simpa using HP.out), rfl⟩

/-- an integer of the package -/
def CInt (w : World) (v : Value) (z : Int) : Prop :=
  (v = .iface 82 (.int .i64 z) ∧ fit64 z = true) ∨ ∃ b o s N, v = .iface 93 (.agg #[.pointer (some ⟨b, o, none⟩)]) ∧ BigAt 151 w b o s N ∧ sg s N = z

theorem CInt.keep {w w' : World} {v : Value} {z : Int} (h : CInt w v z) (hb : Below w.heap.size w w') : CInt w' v z := by
  rcases h with h | ⟨b, o, s, N, rfl, h1, h2⟩
  · exact .inl h
  · exact .inr ⟨b, o, s, N, rfl, h1.keep hb, h2⟩

set_option maxRecDepth 100000 in
set_option maxHeartbeats 1000000 in
theorem makeInt_any (b o : Nat) (s : Bool) (N : Nat) (w : World) (h : BigAt 151 w b o s N) :
    Calls Tryz.prog 61 #[.pointer (some ⟨b, o, none⟩)] w fun e w' => ∃ v, e = .returned v ∧ CInt w' v (sg s N) ∧ w = w' := by
  have HH := Lib.hid h
  clear h
  cases hf : fit64 (sg s N)
  · have HF := Lib.hid hf
    clear hf
    go_enter Tryz.func61, Tryz.ntmps61
    go_wp2_with fail
    refine (isInt64_any b o s N _ HH.out).mono ?_
    rintro e w1 ⟨rfl, rfl⟩
    rw [HF.out]
    go_wp2
    go_ret
    exact ⟨_, rfl, .inr ⟨b, o, s, N, rfl, HH.out, rfl⟩, rfl⟩
  · have HF := Lib.hid hf
    clear hf
    go_enter Tryz.func61, Tryz.ntmps61
    go_wp2_with fail
    refine (isInt64_any b o s N _ HH.out).mono ?_
    rintro e w1 ⟨rfl, rfl⟩
    rw [HF.out]
    go_wp2_with fail
    refine (int64_any b o s N _ HH.out HF.out).mono ?_
    rintro e w1 ⟨rfl, rfl⟩
    go_wp2
    go_ret
    exact ⟨_, rfl, .inl ⟨rfl, HF.out⟩, rfl⟩

set_option maxRecDepth 100000 in
set_option maxHeartbeats 1000000 in
theorem makeOfInt_any (b o : Nat) (s : Bool) (N : Nat) (w : World) (h : BigAt 151 w b o s N) :
    Calls Tryz.prog 95 #[.iface 85 (.pointer (some ⟨b, o, none⟩))] w fun e w' => ∃ v, e = .returned v ∧ CInt w' v (sg s N) ∧ w = w' := by
  have HH := Lib.hid h
  clear h
  obtain ⟨t1, t2, t3, t4, t5, t6⟩ := ta_any_pInt
  go_enter Tryz.func95, Tryz.ntmps95
  go_wp2_with fail
  refine (makeInt_any b o s N _ HH.out).mono ?_
  rintro e w1 ⟨v, rfl, hv, rfl⟩
  have HV := Lib.hid hv
  clear hv
  go_wp2
  go_ret
  exact ⟨_, rfl, HV.out, rfl⟩
end Go.Proofs.YtdkipndepkblhaaGreatDoor

set_option linter.unusedSimpArgs false
set_option linter.unusedVariables false
namespace Go.Proofs.YtdkipndepkblhaaGreatDoor
open Go.RowKit Go.Bg Dg

theorem sg_and (s : Bool) (N : Nat) : sg (s && decide (0 < N)) N = sg s N := by
  cases s
  · rfl
  · by_cases h : 0 < N
    · simp [h]
    · have : N = 0 := by omega
      subst this; rfl

set_option maxRecDepth 100000 in
set_option maxHeartbeats 1000000 in
theorem madeInt_any (v : Vl) (w : World) (h : VlAt w v) (hk : v.kind = 3) (hn : v.wn ≤ 1000000) :
    Calls Tryz.prog 39 #[.agg #[.int .i64 v.kind, .bool v.truth, .string v.text, .bool v.neg, .slice v.wa v.wn v.wc, .slice v.da v.dn v.dc, .bool v.ineg, .slice v.ia v.inn v.ic, .slice v.ea v.en v.ec]] w fun e w' => ∃ u, e = .returned u ∧ CInt w' u (sg v.neg (val W64 v.wf v.wn)) ∧ Below w.heap.size w w' := by
  obtain ⟨W0, hW0⟩ : ∃ W0, W0 = w.alloc (.cells #[.int .i64 v.kind, .bool v.truth, .string v.text, .bool v.neg, .slice v.wa v.wn v.wc, .slice v.da v.dn v.dc, .bool v.ineg, .slice v.ia v.inn v.ic, .slice v.ea v.en v.ec] 26) := ⟨_, rfl⟩
  have HW := Lib.hid hW0
  have hb0 : Below w.heap.size w W0 := by rw [hW0]; exact Below.alloc' (Below.refl _ _) _
  have X : Box9 W0 w.heap.size v := by rw [hW0]; exact Box9.new w v _ rfl
  have HX := Lib.hid (h.keep hb0)
  clear hW0 h
  obtain ⟨xc0, xc1, xc2, xc3, xc4, xc5, xc6, xc7, xc8⟩ := (X).all
  rw [hk] at xc0
  clear hk
  go_enter Tryz.func39, Tryz.ntmps39
  go_upto_region 1 with fail
  rw [← HW.out]
  go_wp2_with fail
  refine (of_any' v.neg v.wa v.wn v.wc v.wf _ HX.out.ws hn).mono ?_
  rintro e w1 ⟨b, rfl, hb, hI, hB1⟩
  go_wp2_with fail
  refine (makeOfInt_any b 0 _ _ _ hI).mono ?_
  rintro e w2 ⟨u, rfl, hu, rfl⟩
  rw [sg_and] at hu
  have hbf := Below.then hb0 (Nat.le_refl _) hB1
  go_wp2
  go_ret
  exact ⟨_, rfl, hu, hbf⟩

/-- the token of an operator that compares -/
def cmpTok (k : Nat) : Int := if k = 0 then 39 else if k = 1 then 44 else if k = 2 then 40 else if k = 3 then 45 else if k = 4 then 41 else 46

/-- what an operator that compares says of an order -/
def cmpB (k : Nat) (c : Int) : Bool := if k = 0 then decide (c = 0) else if k = 1 then decide (c ≠ 0) else if k = 2 then decide (c < 0) else if k = 3 then decide (c ≤ 0) else if k = 4 then decide (0 < c) else decide (0 ≤ c)

/-- the place of an integer's form among the forms -/
def ordOf (v : Value) : Int := match v with | .iface t _ => if t = 82 then 2 else 3 | _ => 0

set_option maxRecDepth 100000 in
set_option maxHeartbeats 1000000 in
theorem ordInt_any (v : Value) (z : Int) (w : World) (h : CInt w v z) :
    Calls Tryz.prog 120 #[v] w fun e w' => e = .returned (.int .i64 (ordOf v)) ∧ w = w' := by
  rcases h with ⟨rfl, _⟩ | ⟨b, o, s, N, rfl, _, _⟩
  · obtain ⟨t1, t2, t3, t4, t5, t6, t7, t8, t9⟩ := ta_int64Val
    go_enter Tryz.func120, Tryz.ntmps120
    go_wp2
    go_ret
    exact ⟨ret_int rfl, rfl⟩
  · obtain ⟨t1, t2, t3, t4, t5, t6, t7, t8, t9⟩ := ta_intVal
    go_enter Tryz.func120, Tryz.ntmps120
    go_wp2
    go_ret
    exact ⟨ret_int rfl, rfl⟩
end Go.Proofs.YtdkipndepkblhaaGreatDoor

set_option linter.unusedSimpArgs false
set_option linter.unusedVariables false
namespace Go.Bg
open Go.RowKit Dg
/-- one word, stored into a block of its own -/
theorem bigN_word {T : TypeId} {w : World} {g x c : Nat} (hg : BlkAt w g (Array.replicate c (.int .u64 0)) T) (hc : 0 < c) (hc4 : c ≤ 5) (hx : x < W64) (h0 : 0 < x) : BigN T (w.setCell ⟨g, 0, none⟩ (.int .u64 (x : Nat))) (some ⟨g, 0, none⟩) 1 c x := by
  refine ⟨⟨by simpa using hx, .inr (by simp; omega), hc, by unfold maxLen; omega, fun _ => ⟨g, 0, rfl, fun i hi => ?_⟩⟩, .inr ⟨g, _, rfl, hg.set 0 _, by simp⟩⟩
  obtain rfl : i = 0 := by omega
  rw [(hg.set 0 _).cell]
  simp [dg, Nat.mod_eq_of_lt hx, hc]
/-- a new number that nothing else holds -/
def GivesN (T : TypeId) (N : Nat) (w : World) (e : Ending) (w' : World) : Prop := ∃ a n c, e = .returned (.slice a n c) ∧ BigN T w' a n c N ∧ Below w.heap.size w w'
end Go.Bg
namespace Go.Proofs.YtdkipndepkblhaaGreatDoor
open Go.RowKit Go.Bg Dg

set_option maxRecDepth 100000 in
set_option maxHeartbeats 1000000 in
theorem make_nil (n : Nat) (hn : n ≤ 1000000) (w : World) :
    Calls Tryz.prog 184 #[.slice none 0 0, .int .i64 n] w (MadeIs 151 n w) := by
  by_cases h0 : n = 0
  · subst h0
    go_enter Tryz.func184, Tryz.ntmps184
    go_wp2
    go_ret
    exact .inl ⟨rfl, rfl, rfl⟩
  · by_cases h1 : n = 1
    · subst h1
      have hmk : ∀ w : World, (Instr.makeSlice 141 (.int .i64 1) (.int .i64 1)).run Tryz.prog w = .ok (.slice (some ⟨w.heap.size, 0, none⟩) 1 1) (w.alloc (.cells (Array.replicate 1 (.int .u64 0)) 151)) :=
        run_make_nat 141 151 Tryz.underlying141 infoWord 1 1 (Nat.le_refl _) (by omega)
      go_enter Tryz.func184, Tryz.ntmps184
      go_wp2
      go_ret
      exact .inr ⟨1, by omega, Nat.le_refl _, by omega, rfl, rfl⟩
    · have hz : ((n : Int) == 1) = false := by simp; omega
      have hmk : ∀ w : World, (Instr.makeSlice 141 (.int .i64 (n : Int)) (.int .i64 ((n : Int) + 4))).run Tryz.prog w = .ok (.slice (some ⟨w.heap.size, 0, none⟩) n (n + 4)) (w.alloc (.cells (Array.replicate (n + 4) (.int .u64 0)) 151)) :=
        run_make_nat 141 151 Tryz.underlying141 infoWord n (n + 4) (by omega) (by omega)
      have hle : ¬ ((n : Int) ≤ 0) := by omega
      go_enter Tryz.func184, Tryz.ntmps184
      go_wp2
      go_ret
      exact .inr ⟨n + 4, by omega, by omega, by omega, rfl, rfl⟩

set_option maxRecDepth 100000 in
set_option maxHeartbeats 1000000 in
theorem setWord_nil (x : Nat) (hx : x < 18446744073709551616) (w : World) :
    Calls Tryz.prog 145 #[.slice none 0 0, .int .u64 x] w (GivesN 151 x w) := by
  by_cases h0 : x = 0
  · subst h0
    go_enter Tryz.func145, Tryz.ntmps145
    go_wp2
    go_ret
    exact ⟨_, _, _, rfl, BigN.nil _ _, Below.refl _ _⟩
  · have hz : ((x : Int) == 0) = false := by simpa using h0
    go_enter Tryz.func145, Tryz.ntmps145
    go_wp2_with fail
    refine (make_nil 1 (by omega) _).mono ?_
    rintro e w1 (⟨h, _⟩ | ⟨c, _, hc0, hc, rfl, hw⟩)
    · cases h
    have hb : BlkAt w1 w.heap.size (Array.replicate c (.int .u64 0)) 151 := by rw [hw]; exact BlkAt.new _ _ _
    have hB1 : Below w.heap.size w w1 := by rw [hw]; exact (Below.refl _ _).alloc (Nat.le_refl _) _
    have HN := Lib.hid (bigN_word hb (by omega) hc hx (by omega))
    have HB := Lib.hid (hB1.setCell (p := ⟨w.heap.size, 0, none⟩) (Nat.le_refl _) (.int .u64 (x : Nat)))
    have c0 : w1.cell? ⟨w.heap.size, 0, none⟩ = some (.int .u64 0) := by rw [hb.cell, Array.getElem?_replicate, if_pos (by omega)]
    have f0 := hb.frozen 0
    clear hb hw hB1 hx
    go_wp2
    go_ret
    exact ⟨_, _, _, rfl, HN.out, HB.out⟩

set_option maxRecDepth 100000 in
set_option maxHeartbeats 1000000 in
theorem setUint64_nil (x : Nat) (hx : x < 18446744073709551616) (w : World) :
    Calls Tryz.prog 166 #[.slice none 0 0, .int .u64 x] w (GivesN 151 x w) := by
  have HX := Lib.hid hx
  clear hx
  go_enter Tryz.func166, Tryz.ntmps166
  go_wp2_with fail
  refine (setWord_nil x HX.out _).mono ?_
  rintro e w1 ⟨a, n, c, rfl, hN, hB⟩
  go_wp2
  go_ret
  exact ⟨_, _, _, rfl, hN, hB⟩

/-- a big integer that holds nothing yet -/
structure NewInt (w : World) (b o : Nat) : Prop where
  blk : Strct 151 w b
  c0 : ∃ u, w.cell? ⟨b, o, none⟩ = some u
  c1 : w.cell? ⟨b, o + 1, none⟩ = some (.slice none 0 0)

theorem NewInt.keep {w w1 : World} {b o : Nat} (h : NewInt w b o) (hb : Below w.heap.size w w1) : NewInt w1 b o := by
  obtain ⟨u, h0⟩ := h.c0
  exact ⟨h.blk.keep hb, ⟨u, cell_keep h0 hb⟩, cell_keep h.c1 hb⟩

/-- the two stores that make a number of a new one -/
theorem NewInt.made {w w1 : World} {b o : Nat} (h : NewInt w b o) (hb : Below w.heap.size w w1) {a : Option Addr} {n c N : Nat} {s : Bool} (hN : BigN 151 w1 a n c N) (hz : s = true → 0 < N) :
    IntIs b o s N w (.returned (.pointer (some ⟨b, o, none⟩))) ((w1.setCell ⟨b, o + 1, none⟩ (.slice a n c)).setCell ⟨b, o, none⟩ (.bool s)) := by
  have h' := h.keep hb
  exact ⟨rfl, BigAt.stored h'.blk h'.c0 ⟨_, h'.c1⟩ hN hz, (UpdI.of_below hb h.blk).trans ((UpdI.set1 _ _ _ _).trans (UpdI.set0 _ _ _ _))⟩

set_option maxRecDepth 100000 in
set_option maxHeartbeats 1000000 in
theorem setInt64_any (b o : Nat) (x : Int) (hx : -9223372036854775808 ≤ x ∧ x < 9223372036854775808) (w : World) (h : NewInt w b o) :
    Calls Tryz.prog 118 #[.pointer (some ⟨b, o, none⟩), .int .i64 x] w (IntIs b o (decide (x < 0)) x.natAbs w) := by
  have HH := Lib.hid h
  have h1 := h.c1
  by_cases hn : x < 0
  · have HX := Lib.hid (show IntKind.u64.wrap (wrap64 (-x)) = (x.natAbs : Int) from by rw [IntKind.wrap_u64]; unfold wrap64; omega)
    have HL := Lib.hid (show x.natAbs < 18446744073709551616 from by omega)
    have HD := Lib.hid (show 0 < x.natAbs from by omega)
    have hd : decide (x < 0) = true := by simpa using hn
    rw [hd]
    clear hd
    clear h hx
    go_enter Tryz.func118, Tryz.ntmps118
    go_wp2_with fail
    rw [HX.out]
    refine (setUint64_nil _ HL.out _).mono ?_
    rintro e w1 ⟨a, n, c, rfl, hN, hB⟩
    have HF := Lib.hid (HH.out.made hB (s := true) hN (fun _ => HD.out))
    have h' := HH.out.keep hB
    obtain ⟨u0, k0⟩ := h'.c0
    have k1 := h'.c1
    have f0 := h'.blk.frozen o
    have f1 := h'.blk.frozen (o + 1)
    have k0' : ∀ v, (w1.setCell ⟨b, o + 1, none⟩ v).cell? ⟨b, o, none⟩ = some u0 := fun v => by
      rw [World.cell?_setCell_other _ _ _ _ (fun hh => by injection hh with _ hh _; omega)]; exact k0
    clear h' hN hB
    go_wp2
    go_ret
    exact HF.out
  · have HX := Lib.hid (show IntKind.u64.wrap x = (x.natAbs : Int) from by rw [IntKind.wrap_u64]; omega)
    have HL := Lib.hid (show x.natAbs < 18446744073709551616 from by omega)
    have hd : decide (x < 0) = false := by simpa using hn
    rw [hd]
    clear hd
    clear h hx
    go_enter Tryz.func118, Tryz.ntmps118
    go_wp2_with fail
    rw [HX.out]
    refine (setUint64_nil _ HL.out _).mono ?_
    rintro e w1 ⟨a, n, c, rfl, hN, hB⟩
    have HF := Lib.hid (HH.out.made hB (s := false) hN (by simp))
    have h' := HH.out.keep hB
    obtain ⟨u0, k0⟩ := h'.c0
    have k1 := h'.c1
    have f0 := h'.blk.frozen o
    have f1 := h'.blk.frozen (o + 1)
    have k0' : ∀ v, (w1.setCell ⟨b, o + 1, none⟩ v).cell? ⟨b, o, none⟩ = some u0 := fun v => by
      rw [World.cell?_setCell_other _ _ _ _ (fun hh => by injection hh with _ hh _; omega)]; exact k0
    clear h' hN hB
    go_wp2
    go_ret
    exact HF.out

/-- the number itself, of its sign and its magnitude -/
theorem sg_natAbs (x : Int) : sg (decide (x < 0)) x.natAbs = x := by
  unfold sg
  by_cases h : x < 0 <;> simp [h] <;> omega

set_option maxRecDepth 100000 in
set_option maxHeartbeats 1000000 in
theorem newInt_any (w : World) : Calls Tryz.prog 62 #[] w fun e w' => e = .returned (.pointer (some ⟨w.heap.size, 0, none⟩)) ∧ w' = w.alloc (.cells #[.bool false, .slice none 0 0] 143) := by
  go_enter Tryz.func62, Tryz.ntmps62
  go_wp2
  go_ret
  exact ⟨rfl, rfl⟩

theorem newInt_is (w : World) : NewInt (w.alloc (.cells #[.bool false, .slice none 0 0] 143)) w.heap.size 0 := by
  have h := BlkAt.new w #[.bool false, .slice none 0 0] 143
  exact ⟨⟨_, _, h, by decide⟩, ⟨_, h.cell 0⟩, h.cell 1⟩

set_option maxRecDepth 100000 in
set_option maxHeartbeats 1000000 in
theorem i64toi_any (x : Int) (hx : -9223372036854775808 ≤ x ∧ x < 9223372036854775808) (w : World) :
    Calls Tryz.prog 176 #[.int .i64 x] w fun e w' => ∃ b, e = .returned (.agg #[.pointer (some ⟨b, 0, none⟩)]) ∧ BigAt 151 w' b 0 (decide (x < 0)) x.natAbs ∧ Below w.heap.size w w' := by
  have HX := Lib.hid hx
  clear hx
  go_enter Tryz.func176, Tryz.ntmps176
  go_wp2_with fail
  refine (newInt_any _).mono ?_
  rintro e w1 ⟨rfl, hw1⟩
  have hs1 : w1.heap.size = w.heap.size + 1 + 1 := by rw [hw1]; simp
  have hb1 : Below w.heap.size w w1 := by rw [hw1]; exact Below.alloc' (Below.alloc' (Below.refl _ _) _) _
  have hn1 : NewInt w1 (w.heap.size + 1) 0 := by rw [hw1]; simpa using newInt_is (w.alloc (.cells #[.pointer none] 93))
  have hl : BlkAt w1 w.heap.size #[.pointer none] 93 := by rw [hw1]; exact (BlkAt.new _ _ _).keep ((Below.refl _ _).alloc (Nat.le_refl _) _)
  have HW1 := Lib.hid hw1
  clear hw1
  go_wp2_with fail
  refine (setInt64_any (w.heap.size + 1) 0 x HX.out _ hn1).mono ?_
  rintro e w2 ⟨rfl, hI, hU⟩
  have hl2 := hU.upd.blk hl (Nat.ne_of_lt (Nat.lt_succ_self _))
  have HI := Lib.hid (hI.upd (Upd.set1 w2 w.heap.size 0 (.pointer (some ⟨w.heap.size + 1, 0, none⟩))) (Nat.ne_of_gt (Nat.lt_succ_self _)) (fun k _ e => by subst e; exact ⟨_, _, hl2, by decide⟩))
  have HB := Lib.hid ((hU.upd.below hb1 (by omega) (fun k _ e => by subst e; exact Nat.le_add_right _ 1)).setCell (p := ⟨w.heap.size, 0, none⟩) (Nat.le_refl _) (.pointer (some ⟨w.heap.size + 1, 0, none⟩)))
  have c0 := hl2.cell 0
  have f0 := hl2.frozen 0
  simp only [List.getElem?_toArray, List.getElem?_cons_zero] at c0
  clear hl hl2 hI hU hn1 hb1
  go_wp2
  exact bodyPost_ret (v := .agg #[.pointer (some ⟨w.heap.size + 1, 0, none⟩)]) (by simp [results, Tryz.results176, go_sem, c0]) rfl ⟨_, rfl, HI.out, HB.out⟩
end Go.Proofs.YtdkipndepkblhaaGreatDoor
