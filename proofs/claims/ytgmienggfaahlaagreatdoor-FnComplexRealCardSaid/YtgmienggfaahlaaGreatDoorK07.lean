/-
  Contracts and lemmas: StkA Spec3 Spec4 Spec5 Spec6.
-/
import Derived.Lib.AppendZeros
import Derived.Lib.AppendZerosOnto
import Derived.Lib.SliceRun
import Derived.Test.YtgmienggfaahlaaGreatDoorK04
import Derived.Test.YtgmienggfaahlaaGreatDoorK03
set_option linter.unusedSimpArgs false
set_option linter.unusedVariables false
set_option maxRecDepth 100000
set_option maxHeartbeats 8000000
namespace Go.Proofs.YtgmienggfaahlaaGreatDoor
open Go.RowKit Go.Bg Dg
def GrewIs (n : Nat) (w : World) (e : Ending) (w' : World) : Prop :=
  ∃ (c : Nat) (cur : Array Value), n ≤ c ∧ c ≤ maxLen ∧ cur.size = c ∧ e = .returned (.slice (some ⟨w.heap.size, 0, none⟩) 0 c) ∧ w' = w.drew.alloc (.cells cur 155)
theorem growN_nil (n : Nat) (h0 : 0 < n) (hn : n ≤ 1000000) (w : World) :
    Calls Tryz.prog 270 #[.slice none 0 0, .int .i64 n] w (GrewIs n w) := by
  obtain ⟨i0, hi, hz0, hz1, hz2⟩ := info_parts infoWord
  have happ := Lib.run_append_nil_zeros (P := Tryz.prog) w 147 3 147 155 i0 (.int .u64 0) .i64 .i64 Tryz.underlying147 Tryz.underlying3 hi hz0 n h0 (by omega) (by omega) (by rw [hz2]; omega)
  generalize hcap : grownCap w n 0 155 = c at happ
  have hcge : n ≤ c := by rw [← hcap]; exact grownCap_ge w _ 0 155
  have hcle : c ≤ maxLen := by rw [← hcap]; exact grownCap_le_maxLen w _ 0 155 (by unfold maxLen; omega)
  generalize hZ : (Builtin.zeroCells (Value.int .u64 0).cells n ++ Builtin.zeroCells (Value.int .u64 0).cells (c - n)) = Z at happ
  have hZs : Z.size = c := by rw [← hZ]; simp [size_zeroCells, Value.cells]; omega
  have HA := Lib.hid happ
  have HS := Lib.hid hZs
  have HC := Lib.hid hcle
  have hcm : c ≤ 9223372036854775807 := by unfold maxLen at hcle; omega
  clear hcap hZ happ hZs hi hz0 hz1 hz2 hcle
  go_enter Tryz.func270, Tryz.ntmps270
  go_wp2_with (at_builtin; refine Lib.wpList_append_run _ rfl _ _ _ _ rfl _ _ rfl rfl _ _ HA.out ?_)
  go_wp2
  go_ret
  exact ⟨c, Z, hcge, HC.out, HS.out, rfl, rfl⟩
theorem growW_nil (n : Nat) (h0 : 0 < n) (hn : n ≤ 1000000) (w : World) :
    Calls Tryz.prog 297 #[.slice none 0 0, .int .i64 n] w (GrewIs n w) := by
  obtain ⟨i0, hi, hz0, hz1, hz2⟩ := info_parts infoWord
  have happ := Lib.run_append_nil_zeros (P := Tryz.prog) w 146 3 146 155 i0 (.int .u64 0) .i64 .i64 Tryz.underlying146 Tryz.underlying3 hi hz0 n h0 (by omega) (by omega) (by rw [hz2]; omega)
  generalize hcap : grownCap w n 0 155 = c at happ
  have hcge : n ≤ c := by rw [← hcap]; exact grownCap_ge w _ 0 155
  have hcle : c ≤ maxLen := by rw [← hcap]; exact grownCap_le_maxLen w _ 0 155 (by unfold maxLen; omega)
  generalize hZ : (Builtin.zeroCells (Value.int .u64 0).cells n ++ Builtin.zeroCells (Value.int .u64 0).cells (c - n)) = Z at happ
  have hZs : Z.size = c := by rw [← hZ]; simp [size_zeroCells, Value.cells]; omega
  have HA := Lib.hid happ
  have HS := Lib.hid hZs
  have HC := Lib.hid hcle
  have hcm : c ≤ 9223372036854775807 := by unfold maxLen at hcle; omega
  clear hcap hZ happ hZs hi hz0 hz1 hz2 hcle
  go_enter Tryz.func297, Tryz.ntmps297
  go_wp2_with (at_builtin; refine Lib.wpList_append_run _ rfl _ _ _ _ rfl _ _ rfl rfl _ _ HA.out ?_)
  go_wp2
  go_ret
  exact ⟨c, Z, hcge, HC.out, HS.out, rfl, rfl⟩
theorem growW_room (a : Option Addr) (l c n : Nat) (w : World) (hlc : l ≤ c) (hc : c ≤ maxLen) (hr : l + n ≤ c) :
    Calls Tryz.prog 297 #[.slice a l c, .int .i64 n] w fun e w' => e = .returned (.slice a l c) ∧ w' = w := by
  unfold maxLen at hc
  have h1 : ¬ ((n : Int) < 0) := by omega
  have h4 : ¬ ((n : Int) - ((c : Int) - (l : Int)) > 0) := by omega
  go_enter Tryz.func297, Tryz.ntmps297
  go_wp2
  go_ret
  exact ⟨rfl, rfl⟩
def GrewOn (l n : Nat) (w : World) (e : Ending) (w' : World) : Prop :=
  ∃ (c : Nat) (cur : Array Value), l + n ≤ c ∧ c ≤ maxLen ∧ cur.size = c ∧ e = .returned (.slice (some ⟨w.heap.size, 0, none⟩) l c) ∧ w' = w.drew.alloc (.cells cur 155)
theorem growW_onto (g l c n : Nat) (cur : Array Value) (w : World) (hg : BlkAt w g cur 155) (hs : cur.size = c) (hlc : l ≤ c) (hr : c < l + n) (hb : l + n ≤ 1000000) :
    Calls Tryz.prog 297 #[.slice (some ⟨g, 0, none⟩) l c, .int .i64 n] w (GrewOn l n w) := by
  obtain ⟨i0, hi, hz0, hz1, hz2⟩ := info_parts infoWord
  have hcl : cur.toList.length = c * i0.size := by rw [hz1]; simp [hs]
  have hold := run_firstCells_some (P := Tryz.prog) (w := w.drew) i0.size c ⟨g, 0, none⟩ c c cur.toList hcl (fun j v hj => by
    rw [Addr.add_lit, Nat.zero_add]
    have h2 : BlkAt w.drew g cur 155 := hg
    rw [h2.cell]
    simpa using hj)
  have hck : c + (l + n - c) = l + n := by omega
  have happ := Lib.run_append_grow_zeros (P := Tryz.prog) w 146 3 146 155 i0 (.int .u64 0) .i64 .i64 Tryz.underlying146 Tryz.underlying3 hi hz0 (some ⟨g, 0, none⟩) c c cur.toList hold (l + n - c) (by omega) (by omega) (by omega) (by omega)
    (by rw [hz2]; omega) (by rw [hck]; exact growslice_fits hr (by rw [hz2]; omega))
  rw [hck] at happ
  have hk : ((l + n - c : Nat) : Int) = (n : Int) - ((c : Int) - (l : Int)) := by omega
  rw [hk] at happ
  generalize hcap : grownCap w (l + n) c 155 = C at happ
  have hcge : l + n ≤ C := by rw [← hcap]; exact grownCap_ge w _ _ 155
  have hcle : C ≤ maxLen := by rw [← hcap]; exact grownCap_le_maxLen w _ _ 155 (by unfold maxLen; omega)
  generalize hZ : (cur.toList.toArray ++ Builtin.zeroCells (Value.int .u64 0).cells (l + n - c) ++ Builtin.zeroCells (Value.int .u64 0).cells (C - (l + n))) = Z at happ
  have hZs : Z.size = C := by rw [← hZ]; simp [size_zeroCells, Value.cells]; omega
  have HA := Lib.hid happ
  have HS := Lib.hid hZs
  have HC := Lib.hid hcle
  have hcm : C ≤ 9223372036854775807 := by unfold maxLen at hcle; omega
  have h1 : ¬ ((n : Int) < 0) := by omega
  have h4 : (n : Int) - ((c : Int) - (l : Int)) > 0 := by omega
  clear hcap hZ happ hZs hi hz0 hz1 hz2 hcle hold hcl hck hk hs
  go_enter Tryz.func297, Tryz.ntmps297
  go_wp2_with (at_builtin; refine Lib.wpList_append_run _ rfl _ _ _ _ rfl _ _ rfl rfl _ _ HA.out ?_)
  go_wp2
  go_ret
  exact ⟨C, Z, hcge, HC.out, HS.out, rfl, rfl⟩
def GivesQ (Q r : Nat) (w : World) (e : Ending) (w' : World) : Prop :=
  ∃ a n c, e = .returned (.tuple #[.slice a n c, .int .i64 r]) ∧ NatAt w' a n c Q ∧ Below w.heap.size w w'
theorem rowIs_cells {w : World} {b : Nat} {t : TypeId} {n : Nat} {f : Nat → Value} (h : w.rowIs b t n f) : ∀ i, i < n → w.cell? ⟨b, i, none⟩ = some (f i) := fun _ hi => h.cell hi
theorem byDigit_any (a1 : Option Addr) (n1 c1 N d : Nat) (w : World) (h1 : NatAt w a1 n1 c1 N) (hb1 : n1 ≤ 1000000) (hd1 : 1 ≤ d) (hd2 : d ≤ 65535) :
    Calls Tryz.prog 122 #[.slice a1 n1 c1, .int .i64 d] w (GivesQ (N / d) (N % d) w) := by
  have hmk := run_make_row' (P := Tryz.prog) 29 3 (.int .i64 0) 8 Tryz.underlying29 infoInt rfl .i64 .i64 n1 (by omega) (by omega)
  go_enter Tryz.func122, Tryz.ntmps122
  go_wp2
  go_loopw [7, 8] (fun rest i wr => ∃ m : Nat, m ≤ n1 ∧ i = .int .i64 ((m : Int) - 1) ∧ rest = .int .i64 (N / 65536 ^ m % d : Nat) ∧
      wr.rowIs w.heap.size 3 n1 (fun j => if j < m then .int .i64 0 else dig (N / d) j) ∧ Below w.heap.size w wr)
    (fun _ i _ => (intOf i + 1).toNat)
  case atStart =>
    exact ⟨n1, Nat.le_refl _, rfl, by rw [Nat.div_eq_of_lt h1.lt]; simp, (World.rowIs_made w (.int .i64 0) n1 3).congr (fun i hi => by rw [if_pos hi]), (Below.refl _ _).alloc (Nat.le_refl _) _⟩
  case round =>
    obtain ⟨m, hm, rfl, rfl, hrow, hbel⟩ := hrel
    have h1' := h1.keep hbel
    have hl1 := h1.lt
    clear h1 hmk
    by_cases h0 : 0 < m
    · obtain ⟨k, rfl⟩ : ∃ k, m = k + 1 := ⟨m - 1, by omega⟩
      obtain ⟨b1, o1, rfl, _⟩ := h1'.form (by omega)
      have e1 := h1'.cell (i := k) (by omega)
      have d1 : dg 65536 N k < 65536 := dg_lt (by decide) _ _
      have hst := byDigit_step (B := 65536) (by decide) N d k (by omega)
      have hr : N / 65536 ^ (k + 1) % d < d := Nat.mod_lt _ (by omega)
      have hk : ((k + 1 : Nat) : Int) - 1 = k := by omega
      rw [hk]
      have hfz := hrow.frozen k
      have hlt := hrow.lt
      have hold := hrow.cell (i := k) (by omega)
      simp only [if_pos (Nat.lt_succ_self k)] at hold
      have HR := Lib.hid hrow
      have fin : ∀ (v : Int), v = ((N / 65536 ^ (k + 1) % d : Nat) : Int) * 65536 + (dg 65536 N k : Nat) →
          (wr.setCell ⟨w.heap.size, k, none⟩ (.int .i64 (v / d))).rowIs w.heap.size 3 n1 (fun j => if j < k then .int .i64 0 else dig (N / d) j) ∧ Value.int .i64 (v % d) = .int .i64 (N / 65536 ^ k % d : Nat) := by
        intro v hv
        have hv' : v = ((N / 65536 ^ (k + 1) % d * 65536 + dg 65536 N k : Nat) : Int) := by rw [hv]; simp
        refine ⟨(hrow.set k _).congr fun j hj => ?_, by rw [hv', ← hst.2]; simp⟩
        by_cases hjk : j = k
        · subst hjk
          rw [if_pos rfl, if_neg (by omega), dig, ← hst.1, hv']; simp
        · rw [if_neg hjk]
          by_cases hj2 : j < k
          · rw [if_pos hj2, if_pos (by omega)]
          · rw [if_neg hj2, if_neg (by omega)]
      have HF := Lib.hid fin
      clear fin hst hrow hl1 hk h1'
      generalize N / 65536 ^ (k + 1) % d = r at *
      generalize dg 65536 N k = x at *
      go_wp2
      have F := HF.out _ rfl
      go_roundw
      case rel => exact ⟨k, by omega, rfl, F.2, F.1, hbel.setCell (Nat.le_refl _) _⟩
      case measure => simp [intOf]
    · obtain rfl : m = 0 := by omega
      have hq : N / d < 65536 ^ n1 := Nat.lt_of_le_of_lt (Nat.div_le_self _ _) hl1
      have HL := Lib.hid hq
      have hrow' : wr.rowIs w.heap.size 3 n1 (dig (N / d)) := hrow.congr fun i hi => by simp
      have HC := Lib.hid (rowIs_cells hrow')
      have hr : N / 65536 ^ 0 % d = N % d := by simp
      rw [hr]
      clear hrow hrow' hl1 hq h1' hr
      go_wp2_with (go_at_call 49; refine (trim_any _ _ _ (dg 65536 (N / d)) _ (by omega) (Nat.le_refl _) (fun _ => ⟨_, 0, rfl, fun i hi => by rw [Nat.zero_add]; exact HC.out i hi⟩)).mono ?_; rintro e w2 ⟨rfl, rfl⟩)
      go_ret2
      exact ⟨_, _, _, rfl, natAt_of_row HL.out (Nat.le_refl _) (by unfold maxLen; omega) HC.out, hbel⟩
theorem len_any (a1 : Option Addr) (n1 c1 N : Nat) (w : World) (h1 : NatAt w a1 n1 c1 N) (hb1 : n1 ≤ 1000000) :
    Calls Tryz.prog 123 #[.slice a1 n1 c1] w fun e w' => e = .returned (.int .i64 (bl N : Nat)) ∧ w = w' := by
  by_cases h0 : n1 = 0
  · subst h0
    have hN : N = 0 := by have := h1.lt; simpa using this
    subst hN
    go_enter Tryz.func123, Tryz.ntmps123
    go_wp2
    go_ret
    exact ⟨rfl, rfl⟩
  · obtain ⟨k, rfl⟩ : ∃ k, n1 = k + 1 := ⟨n1 - 1, by omega⟩
    obtain ⟨b1, o1, rfl, _⟩ := h1.form (by omega)
    have e1 := h1.cell (i := k) (by omega)
    have htop : 65536 ^ k ≤ N := by
      rcases h1.top with h | h
      · omega
      · simpa using h
    have hN : N = 65536 ^ k * (dg 65536 N k) + N % 65536 ^ k := by
      have := mod_succ 65536 N k
      rw [Nat.mod_eq_of_lt h1.lt] at this; omega
    have hm : N % 65536 ^ k < 65536 ^ k := Nat.mod_lt _ (Nat.pow_pos (by decide))
    have hp : 65536 ^ k = 2 ^ (16 * k) := by rw [Nat.pow_mul]
    have hx : bl N = 16 * k + bl (dg 65536 N k) := by
      symm
      refine bl_unique ?_ ?_
      · rw [Nat.pow_add, ← hp]
        have h2 := bl_lt (dg 65536 N k)
        have : 65536 ^ k * (dg 65536 N k + 1) ≤ 65536 ^ k * 2 ^ bl (dg 65536 N k) := Nat.mul_le_mul_left _ h2
        rw [Nat.mul_add] at this
        omega
      · refine .inr ?_
        have hpos : 0 < dg 65536 N k := by
          refine Nat.pos_of_ne_zero fun h => ?_
          rw [h] at hN; simp at hN; omega
        have hb := bl_pos hpos
        rcases bl_top (dg 65536 N k) with h | h
        · omega
        · have : 16 * k + bl (dg 65536 N k) - 1 = 16 * k + (bl (dg 65536 N k) - 1) := by omega
          rw [this, Nat.pow_add, ← hp]
          have : 65536 ^ k * 2 ^ (bl (dg 65536 N k) - 1) ≤ 65536 ^ k * dg 65536 N k := Nat.mul_le_mul_left _ h
          omega
    have HX := Lib.hid hx
    have d1 : dg 65536 N k < 65536 := dg_lt (by decide) _ _
    clear hN hm hp hx htop h1 h0
    generalize dg 65536 N k = x at *
    go_enter Tryz.func123, Tryz.ntmps123
    go_wp2
    go_loop [3, 4] (fun n top => ∃ t j : Nat, top = .int .i64 t ∧ n = .int .i64 (16 * (k : Int) + j) ∧ j + bl t = bl x ∧ t ≤ x ∧ j ≤ 16 ∧ t * 2 ^ j ≤ x) (fun _ top => (intOf top).toNat)
    case atStart => exact ⟨x, 0, rfl, by simp, by simp, Nat.le_refl _, by omega, by simp⟩
    case round =>
      obtain ⟨t, j, rfl, rfl, hj, htx, hj16, hjt⟩ := hrel
      by_cases ht : 0 < t
      · have hh := bl_half ht
        have hj' : j + 1 ≤ 16 := by
          refine Nat.lt_of_not_le fun h => ?_
          obtain rfl : j = 16 := by omega
          have : 1 * 2 ^ 16 ≤ t * 2 ^ 16 := Nat.mul_le_mul_right _ ht
          omega
        have hjt' : t / 2 * 2 ^ (j + 1) ≤ x := by
          have : t / 2 * 2 ≤ t := Nat.div_mul_le_self _ _
          have := Nat.mul_le_mul_right (2 ^ j) this
          rw [Nat.pow_succ, Nat.mul_comm (2 ^ j) 2, ← Nat.mul_assoc]
          omega
        have H1 := Lib.hid hj
        have H2 := Lib.hid hh
        have H3 := Lib.hid hjt'
        clear hj hh hjt hjt'
        go_wp2
        go_round
        case rel => exact ⟨t / 2, j + 1, rfl, by simp; omega, by have := H1.out; have := H2.out; omega, by omega, hj', H3.out⟩
        case measure => simp [intOf]; omega
      · obtain rfl : t = 0 := by omega
        have H1 := Lib.hid hj
        clear hj hjt
        go_wp2
        go_ret
        exact ⟨ret_int (by have := H1.out; have := HX.out; rw [bl_zero] at *; omega), rfl⟩
theorem bit_any (i : Nat) (w : World) (hi : i ≤ 10000000) :
    Calls Tryz.prog 125 #[.int .i64 i] w (Gives .i64 65536 (2 ^ i) w) := by
  have hp1 : (1 : Int) ≤ 2 ^ (i % 16) := by have : 0 < (2 : Nat) ^ (i % 16) := Nat.pow_pos (by decide); exact_mod_cast this
  have hp2 : (2 : Int) ^ (i % 16) ≤ 32768 := by
    have : (2 : Nat) ^ (i % 16) ≤ 2 ^ 15 := Nat.pow_le_pow_right (by decide) (by omega)
    exact_mod_cast this
  go_enter Tryz.func125, Tryz.ntmps125
  go_wp2_with (at_make; refine wpList_mkrow rfl _ _ 29 rfl 3 _ Tryz.underlying29 infoInt rfl (i / 16 + 1) .i64 .i64 _ _ rfl rfl (by omega) (by omega) (by omega) ?_; intro w1 hrow hbel hsz; have hc1 := hrow.cell (i := i / 16) (by omega); have hf1 := hrow.frozen (i / 16))
  go_ret
  refine ⟨_, _, _, rfl, ⟨?_, .inr ?_, Nat.le_refl _, by unfold maxLen; omega, fun _ => ⟨_, 0, rfl, fun j hj => ?_⟩⟩, hbel.setCell (Nat.le_refl _) _⟩
  · rw [show (65536 : Nat) = 2 ^ 16 from rfl, ← Nat.pow_mul]
    exact Nat.pow_lt_pow_right (by decide) (by omega)
  · rw [show (65536 : Nat) = 2 ^ 16 from rfl, ← Nat.pow_mul]
    exact Nat.pow_le_pow_right (by decide) (by omega)
  · have hd := dg_pow (i / 16) (i % 16) j (by omega)
    rw [show 16 * (i / 16) + i % 16 = i from by omega] at hd
    rw [Nat.zero_add, (hrow.set (i / 16) _).cell hj]
    show _ = some (Value.int .i64 (dg 65536 (2 ^ i) j : Nat))
    rw [hd]
    by_cases h : j = i / 16
    · rw [if_pos h, if_pos h]; simp
    · rw [if_neg h, if_neg h]; rfl
theorem shl_any (a1 : Option Addr) (n1 c1 N n : Nat) (w : World) (h1 : NatAt w a1 n1 c1 N) (hb1 : n1 ≤ 1000000) (hn : n ≤ 10000000) :
    Calls Tryz.prog 124 #[.slice a1 n1 c1, .int .i64 n] w (Gives .i64 65536 (N * 2 ^ n) w) := by
  by_cases h0 : n1 = 0
  · subst h0
    have hN : N = 0 := by have := h1.lt; simpa using this
    subst hN
    go_enter Tryz.func124, Tryz.ntmps124
    go_wp2
    go_ret
    exact ⟨_, _, _, rfl, by rw [Nat.zero_mul]; exact h1, Below.refl _ _⟩
  · have hp1 : (1 : Int) ≤ 2 ^ (n % 16) := by have : 0 < (2 : Nat) ^ (n % 16) := Nat.pow_pos (by decide); exact_mod_cast this
    have hp2 : (2 : Int) ^ (n % 16) ≤ 32768 := by
      have : (2 : Nat) ^ (n % 16) ≤ 2 ^ 15 := Nat.pow_le_pow_right (by decide) (by omega)
      exact_mod_cast this
    have hz : ((n1 : Int) == 0) = false := by simp; omega
    have hn16 : 16 * (n / 16) + n % 16 = n := by omega
    have HN := Lib.hid hn16
    clear hn16
    go_enter Tryz.func124, Tryz.ntmps124
    go_wp2_with (at_make; refine wpList_mkrow rfl _ _ 29 rfl 3 _ Tryz.underlying29 infoInt rfl (n / 16 + n1 + 1) .i64 .i64 _ _ rfl rfl (by omega) (by omega) (by omega) ?_; intro w1 hrow hbel hsz)
    go_loopw [6, 7, 21] (fun _ _ i wr => ∃ k : Nat, k ≤ n1 ∧ i = .int .i64 k ∧ wr.rowIs w.heap.size 3 (n / 16 + n1 + 1) (dig (N % 65536 ^ k * 2 ^ n)) ∧ Below w.heap.size w wr)
      (fun _ _ i _ => n1 - (intOf i).toNat)
    case atStart => exact ⟨0, Nat.zero_le _, rfl, hrow.congr (fun i hi => by rw [Nat.pow_zero, Nat.mod_one, Nat.zero_mul]; simp [dig, dg]), hbel⟩
    case round =>
      clear hrow hbel hsz
      obtain ⟨k, hk, rfl, hrow, hbel⟩ := hrel
      have h1' := h1.keep hbel
      have hl1 := h1.lt
      clear h1
      by_cases k1 : k < n1
      · obtain ⟨b1, o1, rfl, _⟩ := h1'.form (by omega)
        have e1 := h1'.cell k1
        have d1 : dg 65536 N k < 65536 := dg_lt (by decide) _ _
        have hst := shl_step N (n / 16) (n % 16) k (by omega)
        rw [HN.out] at hst
        have c1' := hrow.cell (i := n / 16 + k) (by omega)
        have c2' := hrow.cell (i := n / 16 + k + 1) (by omega)
        have f1 := hrow.frozen (n / 16 + k)
        have f2 := hrow.frozen (n / 16 + k + 1)
        have dq : dg 65536 (N % 65536 ^ k * 2 ^ n) (n / 16 + k) < 65536 := dg_lt (by decide) _ _
        unfold dig at c1' c2'
        have fin : ∀ (u v : Int), v = (dg 65536 N k : Int) * 2 ^ (n % 16) → u = (dg 65536 (N % 65536 ^ k * 2 ^ n) (n / 16 + k) : Nat) + v % 65536 →
            ((wr.setCell ⟨w.heap.size, n / 16 + k, none⟩ (.int .i64 u)).setCell ⟨w.heap.size, n / 16 + k + 1, none⟩ (.int .i64 (v / 65536))).rowIs w.heap.size 3 (n / 16 + n1 + 1) (dig (N % 65536 ^ (k + 1) * 2 ^ n)) := by
          intro u v hv hu
          have hv' : v = ((dg 65536 N k * 2 ^ (n % 16) : Nat) : Int) := by rw [hv]; simp
          refine ((hrow.set (n / 16 + k) _).set (n / 16 + k + 1) _).congr fun j hj => ?_
          show _ = Value.int .i64 (dg 65536 (N % 65536 ^ (k + 1) * 2 ^ n) j : Nat)
          rw [hst j]
          by_cases hj1 : j = n / 16 + k + 1
          · subst hj1
            rw [if_pos rfl, if_pos rfl, hv']; simp
          · rw [if_neg hj1, if_neg hj1]
            by_cases hj2 : j = n / 16 + k
            · subst hj2
              rw [if_pos rfl, if_pos rfl, hu, hv']; simp
            · rw [if_neg hj2, if_neg hj2]; rfl
        have hm0 : (0 : Int) ≤ (dg 65536 N k : Int) * 2 ^ (n % 16) := Int.mul_nonneg (by omega) (by omega)
        have hm1 : (dg 65536 N k : Int) * 2 ^ (n % 16) ≤ 65535 * 32768 := Int.mul_le_mul (by omega) hp2 (by omega) (by omega)
        have HF := Lib.hid fin
        clear fin hst hrow hl1 h1'
        generalize dg 65536 (N % 65536 ^ k * 2 ^ n) (n / 16 + k) = y at *
        generalize dg 65536 (N % 65536 ^ k * 2 ^ n) (n / 16 + k + 1) = y2 at *
        generalize dg 65536 N k = x at *
        go_wp2
        have F := HF.out _ _ rfl rfl
        go_roundw
        case rel => exact ⟨k + 1, by omega, by go_num, F, (hbel.setCell (Nat.le_refl _) _).setCell (Nat.le_refl _) _⟩
        case measure => simp [intOf]; omega
      · obtain rfl : k = n1 := by omega
        have hm : N % 65536 ^ k = N := Nat.mod_eq_of_lt hl1
        rw [hm] at hrow
        have hlt : N * 2 ^ n < 65536 ^ (n / 16 + k + 1) := by
          have e : (2 : Nat) ^ n = 65536 ^ (n / 16) * 2 ^ (n % 16) := by
            conv => lhs; rw [← HN.out]
            rw [Nat.pow_add, Nat.pow_mul]
          have hP : (2 : Nat) ^ (n % 16) ≤ 65536 := by
            have : (2 : Nat) ^ (n % 16) ≤ 2 ^ 16 := Nat.pow_le_pow_right (by decide) (by omega)
            exact this
          rw [e, show n / 16 + k + 1 = n / 16 + (k + 1) from by omega, Nat.pow_add, Nat.mul_left_comm]
          refine Nat.mul_lt_mul_of_pos_left ?_ (Nat.pow_pos (by decide))
          rw [Nat.pow_succ]
          exact Nat.lt_of_lt_of_le (Nat.mul_lt_mul_of_pos_right hl1 (Nat.pow_pos (by decide))) (Nat.mul_le_mul_left _ hP)
        have HL := Lib.hid hlt
        have HC := Lib.hid (rowIs_cells hrow)
        clear hrow hl1 h1' hm hlt
        go_wp2_with (go_at_call 49; refine (trim_any _ _ _ (dg 65536 (N * 2 ^ n)) _ (by omega) (Nat.le_refl _) (fun _ => ⟨_, 0, rfl, fun i hi => by rw [Nat.zero_add]; exact HC.out i hi⟩)).mono ?_; rintro e w2 ⟨rfl, rfl⟩)
        go_ret
        exact ⟨_, _, _, rfl, natAt_of_row HL.out (Nat.le_refl _) (by unfold maxLen; omega) HC.out, hbel⟩
theorem mul_any (a1 a2 : Option Addr) (n1 n2 c1 c2 N1 N2 : Nat) (w : World) (h1 : NatAt w a1 n1 c1 N1) (h2 : NatAt w a2 n2 c2 N2) (hb1 : n1 ≤ 1000000) (hb2 : n2 ≤ 1000000) :
    Calls Tryz.prog 28 #[.slice a1 n1 c1, .slice a2 n2 c2] w (Gives .i64 65536 (N1 * N2) w) := by
  go_enter Tryz.func28, Tryz.ntmps28
  go_wp2_with (at_make; refine wpList_mkrow rfl _ _ 29 rfl 3 _ Tryz.underlying29 infoInt rfl (n1 + n2) .i64 .i64 _ _ rfl rfl (by omega) (by omega) (by omega) ?_; intro w1 hrow hbel hsz)
  go_loopw [6, 7, 8, 9, 10, 19, 24, 25, 26] (fun _ _ _ _ _ i _ _ _ wr => ∃ k : Nat, k ≤ n1 ∧ i = .int .i64 k ∧ wr.rowIs w.heap.size 3 (n1 + n2) (dig (N1 % 65536 ^ k * N2)) ∧ Below w.heap.size w wr)
    (fun _ _ _ _ _ i _ _ _ _ => n1 - (intOf i).toNat)
  case atStart => exact ⟨0, Nat.zero_le _, rfl, hrow.congr (fun i hi => by rw [Nat.pow_zero, Nat.mod_one, Nat.zero_mul]; simp [dig, dg]), hbel⟩
  case round =>
    clear hrow hbel hsz
    obtain ⟨i, hi, rfl, hrow, hbel⟩ := hrel
    obtain ⟨wo, rfl⟩ : ∃ wo : World, wo = wr := ⟨_, rfl⟩
    by_cases k1 : i < n1
    · have h1' := h1.keep hbel
      obtain ⟨b1, o1, rfl, _⟩ := h1'.form (by omega)
      have e1 := h1'.cell k1
      have d1 : dg 65536 N1 i < 65536 := dg_lt (by decide) _ _
      have hdone := mul_done (B := 65536) (A := N1) (i := i) (by decide) h2.lt
      have hstep := fun k => mul_step (B := 65536) (by decide) (N1 % 65536 ^ i * N2) (dg 65536 N1 i) N2 i k
      have hlt := fun k => mulU_lt (B := 65536) (P := N1 % 65536 ^ i * N2) (Y := N2) (i := i) (k := k) (by decide) d1
      generalize N1 % 65536 ^ i * N2 = P at *
      generalize dg 65536 N1 i = x at *
      have HD := Lib.hid hdone
      have HS := Lib.hid hstep
      have HL := Lib.hid hlt
      clear hdone hstep hlt h1' h1
      go_wp2
      go_loopw [8, 9, 10, 26] (fun carry _ _ j wr => ∃ k : Nat, k ≤ n2 ∧ j = .int .i64 k ∧ carry = .int .i64 (mulU 65536 P x N2 i k / 65536 ^ (i + k) : Nat) ∧
          wr.rowIs w.heap.size 3 (n1 + n2) (fun j => if j < i + k then dig (mulT 65536 P x N2 i k) j else dig P j) ∧ Below w.heap.size w wr)
        (fun _ _ _ j _ => n2 - (intOf j).toNat)
      case atStart =>
        refine ⟨0, Nat.zero_le _, rfl, ?_, hrow.congr fun j hj => ?_, hbel⟩
        · have : mulU 65536 P x N2 i 0 / 65536 ^ (i + 0) = 0 := by
            unfold mulU; rw [Nat.pow_zero, Nat.mod_one, Nat.mul_zero, Nat.mul_zero, Nat.add_zero]
            exact Nat.div_eq_of_lt (Nat.mod_lt _ (Nat.pow_pos (by decide)))
          rw [this]; rfl
        · have : mulT 65536 P x N2 i 0 = P := by unfold mulT; rw [Nat.pow_zero, Nat.mod_one]; simp
          rw [this]; split <;> rfl
      case round =>
        clear hrow hbel e1
        obtain ⟨k, hk, rfl, rfl, hrow, hbel⟩ := hrel
        by_cases k2 : k < n2
        · have h2' := h2.keep hbel
          obtain ⟨b2, o2, rfl, _⟩ := h2'.form (by omega)
          have e2 := h2'.cell k2
          have d2 : dg 65536 N2 k < 65536 := dg_lt (by decide) _ _
          have hc : mulU 65536 P x N2 i k / 65536 ^ (i + k) < 65536 := HL.out k
          have hst := HS.out k
          have cO := hrow.cell (i := i + k) (by omega)
          simp only [Nat.lt_irrefl, if_false] at cO
          unfold dig at cO
          have dO : dg 65536 P (i + k) < 65536 := dg_lt (by decide) _ _
          have fO := hrow.frozen (i + k)
          have fin : ∀ t : Int, t = (mulU 65536 P x N2 i k / 65536 ^ (i + k) : Nat) + ((dg 65536 P (i + k) : Nat) + (x : Int) * (dg 65536 N2 k : Nat)) →
              (wr.setCell ⟨w.heap.size, i + k, none⟩ (.int .i64 (t % 65536))).rowIs w.heap.size 3 (n1 + n2) (fun j => if j < i + (k + 1) then dig (mulT 65536 P x N2 i (k + 1)) j else dig P j) ∧
              Value.int .i64 (t / 65536) = .int .i64 (mulU 65536 P x N2 i (k + 1) / 65536 ^ (i + (k + 1)) : Nat) := by
            intro t ht
            have ht' : t = ((mulU 65536 P x N2 i k / 65536 ^ (i + k) + (dg 65536 P (i + k) + x * dg 65536 N2 k) : Nat) : Int) := by rw [ht]; simp
            refine ⟨(hrow.set (i + k) _).congr fun j hj => ?_, by rw [ht', ← hst.2.1]; rfl⟩
            by_cases hjk : j = i + k
            · subst hjk
              rw [if_pos rfl, if_pos (by omega), ht']
              show _ = Value.int .i64 (dg 65536 (mulT 65536 P x N2 i (k + 1)) (i + k) : Nat)
              rw [← hst.1]; rfl
            · rw [if_neg hjk]
              by_cases hj2 : j < i + k
              · rw [if_pos hj2, if_pos (by omega)]
                show Value.int .i64 _ = Value.int .i64 _
                rw [hst.2.2 j hj2]
              · rw [if_neg hj2, if_neg (by omega)]
          have HF := Lib.hid fin
          clear fin hst hrow h2'
          generalize mulU 65536 P x N2 i k / 65536 ^ (i + k) = cy at *
          generalize dg 65536 P (i + k) = p at *
          generalize dg 65536 N2 k = y at *
          have hm0 : (0 : Int) ≤ (x : Int) * (y : Int) := Int.mul_nonneg (by omega) (by omega)
          have hm1 : (x : Int) * (y : Int) ≤ 65535 * 65535 := Int.mul_le_mul (by omega) (by omega) (by omega) (by omega)
          go_wp2
          have F := HF.out _ rfl
          go_roundw
          case rel => exact ⟨k + 1, by omega, by go_num, F.2, F.1, hbel.setCell (Nat.le_refl _) _⟩
          case measure => simp [intOf]; omega
        · obtain rfl : k = n2 := by omega
          have hd := HD.out
          have fO := hrow.frozen (i + k)
          have hlen := hrow.lt
          have cO := hrow.cell (i := i + k) (by omega)
          have fin : (wr.setCell ⟨w.heap.size, i + k, none⟩ (.int .i64 (mulU 65536 P x N2 i k / 65536 ^ (i + k) : Nat))).rowIs w.heap.size 3 (n1 + k) (dig (N1 % 65536 ^ (i + 1) * N2)) := by
            refine (hrow.set (i + k) _).congr fun j hj => ?_
            by_cases hjk : j = i + k
            · subst hjk
              rw [if_pos rfl, hd.2.1]; rfl
            · rw [if_neg hjk]
              by_cases hj2 : j < i + k
              · rw [if_pos hj2, hd.1]
              · rw [if_neg hj2]
                show Value.int .i64 _ = Value.int .i64 _
                rw [hd.2.2 j (by omega)]
          have HF := Lib.hid fin
          clear fin hd hrow
          simp only [Nat.lt_irrefl, if_false] at cO
          generalize mulU 65536 P x N2 i k / 65536 ^ (i + k) = cy at *
          go_wp2
          go_roundw
          case rel => exact ⟨i + 1, by omega, by go_num, HF.out, hbel.setCell (Nat.le_refl _) _⟩
          case measure => simp [intOf]; omega
    · obtain rfl : i = n1 := by omega
      have hm : N1 % 65536 ^ i = N1 := Nat.mod_eq_of_lt h1.lt
      rw [hm] at hrow
      have hlt : N1 * N2 < 65536 ^ (i + n2) := by
        rw [Nat.pow_add]; exact Nat.mul_lt_mul'' h1.lt h2.lt
      have HL := Lib.hid hlt
      have HC := Lib.hid (rowIs_cells hrow)
      clear hrow hm hlt h1 h2
      go_wp2_with (go_at_call 49; refine (trim_any _ _ _ (dg 65536 (N1 * N2)) _ (by omega) (Nat.le_refl _) (fun _ => ⟨_, 0, rfl, fun i hi => by rw [Nat.zero_add]; exact HC.out i hi⟩)).mono ?_; rintro e w2 ⟨rfl, rfl⟩)
      go_ret
      exact ⟨_, _, _, rfl, natAt_of_row HL.out (Nat.le_refl _) (by unfold maxLen; omega) HC.out, hbel⟩
def Gives2 (Q R : Nat) (w : World) (e : Ending) (w' : World) : Prop :=
  ∃ a n c a' n' c', e = .returned (.tuple #[.slice a n c, .slice a' n' c']) ∧ NatAt w' a n c Q ∧ NatAt w' a' n' c' R ∧ Below w.heap.size w w'
theorem cmpI_le {X Y : Nat} (h : X ≤ Y) : (cmpI X Y : Int) ≤ 0 := by unfold cmpI; split; · decide
                                                                     · rw [if_neg (by omega)]; decide
theorem cmpI_gt {X Y : Nat} (h : Y < X) : ¬ (cmpI X Y : Int) ≤ 0 := by unfold cmpI; rw [if_neg (by omega), if_pos h]; decide
theorem divMod_any (a1 a2 : Option Addr) (n1 n2 c1 c2 N1 N2 : Nat) (w : World) (h1 : NatAt w a1 n1 c1 N1) (h2 : NatAt w a2 n2 c2 N2) (hb1 : n1 ≤ 400000) (hb2 : n2 ≤ 400000) (hpos : 0 < N2) :
    Calls Tryz.prog 51 #[.slice a1 n1 c1, .slice a2 n2 c2] w (Gives2 (N1 / N2) (N1 % N2) w) := by
  by_cases hone : n2 = 1
  · subst hone
    obtain ⟨b2, o2, rfl, _⟩ := h2.form (by omega)
    have e2 := h2.cell (i := 0) (by omega)
    have hl2 := h2.lt
    have hd : dg 65536 N2 0 = N2 := by rw [dg]; simp at hl2 ⊢; exact hl2
    rw [hd] at e2
    simp only [Nat.add_zero] at e2
    simp at hl2
    clear hd
    go_enter Tryz.func51, Tryz.ntmps51
    go_wp2_with fail
    refine (byDigit_any _ _ _ N1 N2 _ h1 (by omega) (by omega) (by omega)).mono ?_
    rintro e w1 ⟨aq, nq, cq, rfl, hQ, hB⟩
    go_wp2_with fail
    refine (small_any (N1 % N2) _ (by have := Nat.mod_lt N1 hpos; omega)).mono ?_
    rintro e w2 ⟨ar, nr, cr, rfl, hR, hB2⟩
    go_wp2
    go_ret2
    exact ⟨_, _, _, _, _, _, rfl, hQ.keep hB2, hR, hB.trans (hB2.mono hB.size)⟩
  · have hne : ((n2 : Int) == 1) = false := by simp; omega
    have hbl1 := bl_le h1.lt
    have hbl2 := bl_le h2.lt
    have hst := div_start (N := N1) hpos
    have HST := Lib.hid hst
    have HH1 := Lib.hid h1
    have HH2 := Lib.hid h2
    clear hst
    go_enter Tryz.func51, Tryz.ntmps51
    go_wp2_with fail
    refine (len_any a1 n1 c1 N1 _ (h1.keep ((Below.refl _ _).alloc (Nat.le_refl _) _)) (by omega)).mono ?_
    rintro e w1 ⟨rfl, rfl⟩
    go_wp2_with fail
    refine (len_any a2 n2 c2 N2 _ (h2.keep ((Below.refl _ _).alloc (Nat.le_refl _) _)) (by omega)).mono ?_
    rintro e w1 ⟨rfl, rfl⟩
    clear h1 h2
    go_wp2_with fail
    go_loopw [0, 8, 9, 10] (fun va vq vi _ wr => ∃ (aA : Option Addr) (nA cA : Nat) (aQ : Option Addr) (nQ cQ A Q : Nat) (iv : Int), va = .slice aA nA cA ∧ vq = .slice aQ nQ cQ ∧ vi = .int .i64 iv ∧
        NatAt wr aA nA cA A ∧ NatAt wr aQ nQ cQ Q ∧ N1 = Q * N2 + A ∧ A < N2 * 2 ^ (iv + 1).toNat ∧ iv ≤ 6400000 ∧ -10000000 ≤ iv ∧ Below w.heap.size w wr)
      (fun _ _ vi _ _ => (intOf vi + 1).toNat)
    case atStart =>
      refine ⟨_, _, _, _, 0, 0, N1, 0, _, rfl, rfl, rfl, HH1.out.keep ((Below.refl _ _).alloc (Nat.le_refl _) _), ⟨by simp, .inl rfl, Nat.le_refl _, by simp [maxLen], fun h => by omega⟩, by simp, HST.out, by omega, by omega, (Below.refl _ _).alloc (Nat.le_refl _) _⟩
    case round =>
      obtain ⟨aA, nA, cA, aQ, nQ, cQ, A, Q, iv, rfl, rfl, rfl, hA, hQ, hN, hlt, hi1, hi2, hbel⟩ := hrel
      have hAle : A ≤ N1 := by rw [hN]; exact Nat.le_add_left _ _
      have hQle : Q ≤ N1 := by rw [hN]; exact Nat.le_trans (Nat.le_mul_of_pos_right _ hpos) (Nat.le_add_right _ _)
      have hnA : nA ≤ n1 := hA.len16 (Nat.lt_of_le_of_lt hAle HH1.out.lt)
      have hnQ : nQ ≤ n1 := hQ.len16 (Nat.lt_of_le_of_lt hQle HH1.out.lt)
      by_cases hneg : iv < 0
      · have e0 : (iv + 1).toNat = 0 := by omega
        rw [e0, Nat.pow_zero, Nat.mul_one] at hlt
        have hq : N1 / N2 = Q ∧ N1 % N2 = A := by
          rw [hN, Nat.mul_comm Q]
          exact ⟨by rw [Nat.mul_add_div hpos, Nat.div_eq_of_lt hlt, Nat.add_zero], by rw [Nat.mul_add_mod, Nat.mod_eq_of_lt hlt]⟩
        have HQ := Lib.hid hq
        clear hN hlt hq e0 hAle hQle
        go_wp2
        go_ret2
        refine ⟨_, _, _, _, _, _, rfl, ?_, ?_, hbel⟩
        · rw [HQ.out.1]; exact hQ
        · rw [HQ.out.2]; exact hA
      · obtain ⟨i, rfl⟩ : ∃ i : Nat, iv = i := ⟨iv.toNat, by omega⟩
        have e0 : ((i : Int) + 1).toNat = i + 1 := by omega
        rw [e0] at hlt
        have hD : N2 * 2 ^ i < 65536 ^ (n2 + (i / 16 + 1)) := by
          rw [Nat.pow_add]
          refine Nat.mul_lt_mul'' HH2.out.lt ?_
          rw [show (65536 : Nat) = 2 ^ 16 from rfl, ← Nat.pow_mul]
          exact Nat.pow_lt_pow_right (by decide) (by omega)
        have h2' := HH2.out.keep hbel
        by_cases hle : N2 * 2 ^ i ≤ A
        · have hcl := cmpI_le hle
          have new1 : N1 = (Q + 2 ^ i) * N2 + (A - N2 * 2 ^ i) := by rw [hN, Nat.add_mul, Nat.mul_comm (2 ^ i)]; omega
          have new2 : A - N2 * 2 ^ i < N2 * 2 ^ i := by rw [Nat.pow_succ, ← Nat.mul_assoc] at hlt; omega
          have HN1 := Lib.hid new1
          have HN2 := Lib.hid new2
          have HD := Lib.hid hD
          have hBb : 2 ^ i < 65536 ^ (i / 16 + 1) := by
            rw [show (65536 : Nat) = 2 ^ 16 from rfl, ← Nat.pow_mul]
            exact Nat.pow_lt_pow_right (by decide) (by omega)
          have HBb := Lib.hid hBb
          have HLE := Lib.hid hle
          clear hN hlt new1 new2 e0 hD hBb hle hAle hQle
          go_wp2_with fail
          refine (shl_any _ _ _ N2 i _ h2' (by omega) (by omega)).mono ?_
          rintro e w1 ⟨aD, nD, cD, rfl, hDN, hB1⟩
          have hnD := hDN.len16 HD.out
          go_wp2_with fail
          refine (cmp_any _ _ _ _ _ _ (N2 * 2 ^ i) A _ hDN (hA.keep hB1) (by omega) (by omega)).mono ?_
          rintro e w2 ⟨rfl, hdr⟩
          have hB2 : Below w1.heap.size w1 w2 := below_of_drewN hdr
          go_wp2_with fail
          refine (sub_any _ _ _ _ _ _ A (N2 * 2 ^ i) _ ((hA.keep hB1).keep hB2) (hDN.keep hB2) (by omega) (by omega) HLE.out).mono ?_
          rintro e w3 ⟨aS, nS, cS, rfl, hS, hB3⟩
          go_wp2_with fail
          refine (bit_any i _ (by omega)).mono ?_
          rintro e w4 ⟨aB, nB, cB, rfl, hBt, hB4⟩
          have hnB := hBt.len16 HBb.out
          go_wp2_with fail
          refine (add_any _ _ _ _ _ _ Q (2 ^ i) _ ((((hQ.keep hB1).keep hB2).keep hB3).keep hB4) hBt (by omega) (by omega)).mono ?_
          rintro e w5 ⟨aT, nT, cT, rfl, hT, hB5⟩
          go_wp2
          go_roundw
          case rel =>
            refine ⟨_, _, _, _, _, _, A - N2 * 2 ^ i, Q + 2 ^ i, (i : Int) - 1, rfl, rfl, rfl, (hS.keep hB4).keep hB5, hT, HN1.out, ?_, by omega, by omega, ?_⟩
            · rw [show ((i : Int) - 1 + 1).toNat = i from by omega]; exact HN2.out
            · exact Below.then (Below.then (Below.then (Below.then (Below.then hbel (Nat.le_refl _) hB1) (Nat.le_refl _) hB2) (Nat.le_refl _) hB3) (Nat.le_refl _) hB4) (Nat.le_refl _) hB5
          case measure => simp [intOf]
        · have hcl := cmpI_gt (by omega : A < N2 * 2 ^ i)
          have HN1 := Lib.hid hN
          have HN2 := Lib.hid (by omega : A < N2 * 2 ^ i)
          have HD := Lib.hid hD
          clear hN hlt e0 hD hle hAle hQle
          go_wp2_with fail
          refine (shl_any _ _ _ N2 i _ h2' (by omega) (by omega)).mono ?_
          rintro e w1 ⟨aD, nD, cD, rfl, hDN, hB1⟩
          have hnD := hDN.len16 HD.out
          go_wp2_with fail
          refine (cmp_any _ _ _ _ _ _ (N2 * 2 ^ i) A _ hDN (hA.keep hB1) (by omega) (by omega)).mono ?_
          rintro e w2 ⟨rfl, hdr⟩
          have hB2 : Below w1.heap.size w1 w2 := below_of_drewN hdr
          go_wp2
          go_roundw
          case rel =>
            refine ⟨_, _, _, _, _, _, A, Q, (i : Int) - 1, rfl, rfl, rfl, (hA.keep hB1).keep hB2, (hQ.keep hB1).keep hB2, HN1.out, ?_, by omega, by omega, ?_⟩
            · rw [show ((i : Int) - 1 + 1).toNat = i from by omega]; exact HN2.out
            · exact Below.then (Below.then hbel (Nat.le_refl _) hB1) (Nat.le_refl _) hB2
          case measure => simp [intOf]
theorem gcd_any (a1 a2 : Option Addr) (n1 n2 c1 c2 N1 N2 : Nat) (w : World) (h1 : NatAt w a1 n1 c1 N1) (h2 : NatAt w a2 n2 c2 N2) (hb1 : n1 ≤ 400000) (hb2 : n2 ≤ 400000) :
    Calls Tryz.prog 50 #[.slice a1 n1 c1, .slice a2 n2 c2] w (Gives .i64 65536 (Nat.gcd N1 N2) w) := by
  go_enter Tryz.func50, Tryz.ntmps50
  go_wp2_with fail
  go_loopg [0, 1, 5, 6, 10, 14] N2 (fun gk va vb _ _ _ _ wr => ∃ (a : Option Addr) (n c : Nat) (a' : Option Addr) (n' c' A B : Nat), va = .slice a n c ∧ vb = .slice a' n' c' ∧ NatAt wr a n c A ∧ NatAt wr a' n' c' B ∧ n ≤ 400000 ∧ n' ≤ 400000 ∧ Nat.gcd A B = Nat.gcd N1 N2 ∧ B ≤ gk ∧ Below w.heap.size w wr)
  case atStart => exact ⟨_, _, _, _, _, _, N1, N2, rfl, rfl, h1, h2, hb1, hb2, rfl, Nat.le_refl _, Below.refl _ _⟩
  case round =>
    obtain ⟨a, n, c, a', n', c', A, B, rfl, rfl, hA, hB, hn, hn', hg, hk, hbel⟩ := hrel
    by_cases h0 : n' = 0
    · subst h0
      have hB0 : B = 0 := by have := hB.lt; simpa using this
      subst hB0
      rw [Nat.gcd_zero_right] at hg
      have HG := Lib.hid hg
      clear hg h1 h2 hB
      go_wp2_with fail
      go_ret
      exact ⟨_, _, _, rfl, by rw [← HG.out]; exact hA, hbel⟩
    · have hBpos : 0 < B := by
        rcases hB.top with h | h
        · omega
        · exact Nat.lt_of_lt_of_le (Nat.pow_pos (by decide)) h
      have hlt : A % B < B := Nat.mod_lt _ hBpos
      have hRb : A % B < 65536 ^ n' := Nat.lt_trans hlt hB.lt
      have hgg : Nat.gcd B (A % B) = Nat.gcd N1 N2 := by rw [← hg, Nat.gcd_comm B, ← Nat.gcd_rec, Nat.gcd_comm]
      have HG := Lib.hid hgg
      have HL := Lib.hid hlt
      have HR := Lib.hid hRb
      clear hg hgg hlt hRb h1 h2
      go_wp2_with fail
      refine (divMod_any _ _ _ _ _ _ A B _ hA hB hn hn' hBpos).mono ?_
      rintro e w1 ⟨aQ, nQ, cQ, aR, nR, cR, rfl, hQ, hR, hB1⟩
      have hnR := hR.len16 HR.out
      go_wp2_with fail
      go_roundg (A % B)
      case rel => exact ⟨_, _, _, _, _, _, B, A % B, rfl, rfl, hB.keep hB1, hR, hn', by omega, HG.out, Nat.le_refl _, Below.then hbel (Nat.le_refl _) hB1⟩
      case measure => have := HL.out; omega
end Go.Proofs.YtgmienggfaahlaaGreatDoor
