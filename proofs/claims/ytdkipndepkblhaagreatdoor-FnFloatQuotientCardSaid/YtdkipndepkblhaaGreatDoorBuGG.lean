/-
  slices.Grow of nothing.
-/
import Derived.Test.YtdkipndepkblhaaGreatDoorBuG
import Derived.Lib.AppendZeros
import Derived.Lib.AppendZerosOnto
import Derived.Lib.SliceRun
set_option linter.unusedSimpArgs false
set_option linter.unusedVariables false
namespace Go.Proofs.YtdkipndepkblhaaGreatDoor
open Go.RowKit Go.Bg Dg

/-- room for n words at least, in new memory -/
def GrewIs (n : Nat) (w : World) (e : Ending) (w' : World) : Prop :=
  ∃ (c : Nat) (cur : Array Value), n ≤ c ∧ c ≤ maxLen ∧ cur.size = c ∧ e = .returned (.slice (some ⟨w.heap.size, 0, none⟩) 0 c) ∧ w' = w.drew.alloc (.cells cur 151)

set_option maxRecDepth 100000 in
set_option maxHeartbeats 1000000 in
theorem growN_nil (n : Nat) (h0 : 0 < n) (hn : n ≤ 1000000) (w : World) :
    Calls Tryz.prog 262 #[.slice none 0 0, .int .i64 n] w (GrewIs n w) := by
  obtain ⟨i0, hi, hz0, hz1, hz2⟩ := info_parts infoWord
  have happ := Lib.run_append_nil_zeros (P := Tryz.prog) w 141 3 141 151 i0 (.int .u64 0) .i64 .i64 Tryz.underlying141 Tryz.underlying3 hi hz0 n h0 (by omega) (by omega) (by rw [hz2]; omega)
  generalize hcap : grownCap w n 0 151 = c at happ
  have hcge : n ≤ c := by rw [← hcap]; exact grownCap_ge w _ 0 151
  have hcle : c ≤ maxLen := by rw [← hcap]; exact grownCap_le_maxLen w _ 0 151 (by unfold maxLen; omega)
  generalize hZ : (Builtin.zeroCells (Value.int .u64 0).cells n ++ Builtin.zeroCells (Value.int .u64 0).cells (c - n)) = Z at happ
  have hZs : Z.size = c := by rw [← hZ]; simp [size_zeroCells, Value.cells]; omega
  have HA := Lib.hid happ
  have HS := Lib.hid hZs
  have HC := Lib.hid hcle
  have hcm : c ≤ 9223372036854775807 := by unfold maxLen at hcle; omega
  clear hcap hZ happ hZs hi hz0 hz1 hz2 hcle
  go_enter Tryz.func262, Tryz.ntmps262
  go_wp2_with (at_builtin; refine Lib.wpList_append_run _ rfl _ _ _ _ rfl _ _ rfl rfl _ _ HA.out ?_)
  go_wp2
  go_ret
  exact ⟨c, Z, hcge, HC.out, HS.out, rfl, rfl⟩
set_option maxRecDepth 100000 in
set_option maxHeartbeats 1000000 in
theorem growW_nil (n : Nat) (h0 : 0 < n) (hn : n ≤ 1000000) (w : World) :
    Calls Tryz.prog 287 #[.slice none 0 0, .int .i64 n] w (GrewIs n w) := by
  obtain ⟨i0, hi, hz0, hz1, hz2⟩ := info_parts infoWord
  have happ := Lib.run_append_nil_zeros (P := Tryz.prog) w 140 3 140 151 i0 (.int .u64 0) .i64 .i64 Tryz.underlying140 Tryz.underlying3 hi hz0 n h0 (by omega) (by omega) (by rw [hz2]; omega)
  generalize hcap : grownCap w n 0 151 = c at happ
  have hcge : n ≤ c := by rw [← hcap]; exact grownCap_ge w _ 0 151
  have hcle : c ≤ maxLen := by rw [← hcap]; exact grownCap_le_maxLen w _ 0 151 (by unfold maxLen; omega)
  generalize hZ : (Builtin.zeroCells (Value.int .u64 0).cells n ++ Builtin.zeroCells (Value.int .u64 0).cells (c - n)) = Z at happ
  have hZs : Z.size = c := by rw [← hZ]; simp [size_zeroCells, Value.cells]; omega
  have HA := Lib.hid happ
  have HS := Lib.hid hZs
  have HC := Lib.hid hcle
  have hcm : c ≤ 9223372036854775807 := by unfold maxLen at hcle; omega
  clear hcap hZ happ hZs hi hz0 hz1 hz2 hcle
  go_enter Tryz.func287, Tryz.ntmps287
  go_wp2_with (at_builtin; refine Lib.wpList_append_run _ rfl _ _ _ _ rfl _ _ rfl rfl _ _ HA.out ?_)
  go_wp2
  go_ret
  exact ⟨c, Z, hcge, HC.out, HS.out, rfl, rfl⟩

set_option maxRecDepth 100000 in
set_option maxHeartbeats 1000000 in
theorem growW_room (a : Option Addr) (l c n : Nat) (w : World) (hlc : l ≤ c) (hc : c ≤ maxLen) (hr : l + n ≤ c) :
    Calls Tryz.prog 287 #[.slice a l c, .int .i64 n] w fun e w' => e = .returned (.slice a l c) ∧ w' = w := by
  unfold maxLen at hc
  have h1 : ¬ ((n : Int) < 0) := by omega
  have h4 : ¬ ((n : Int) - ((c : Int) - (l : Int)) > 0) := by omega
  go_enter Tryz.func287, Tryz.ntmps287
  go_wp2
  go_ret
  exact ⟨rfl, rfl⟩

/-- room for n more words behind l, in new memory -/
def GrewOn (l n : Nat) (w : World) (e : Ending) (w' : World) : Prop :=
  ∃ (c : Nat) (cur : Array Value), l + n ≤ c ∧ c ≤ maxLen ∧ cur.size = c ∧ e = .returned (.slice (some ⟨w.heap.size, 0, none⟩) l c) ∧ w' = w.drew.alloc (.cells cur 151)

set_option maxRecDepth 100000 in
set_option maxHeartbeats 1000000 in
theorem growW_onto (g l c n : Nat) (cur : Array Value) (w : World) (hg : BlkAt w g cur 151) (hs : cur.size = c) (hlc : l ≤ c) (hr : c < l + n) (hb : l + n ≤ 1000000) :
    Calls Tryz.prog 287 #[.slice (some ⟨g, 0, none⟩) l c, .int .i64 n] w (GrewOn l n w) := by
  obtain ⟨i0, hi, hz0, hz1, hz2⟩ := info_parts infoWord
  have hcl : cur.toList.length = c * i0.size := by rw [hz1]; simp [hs]
  have hold := run_firstCells_some (P := Tryz.prog) (w := w.drew) i0.size c ⟨g, 0, none⟩ c c cur.toList hcl (fun j v hj => by
    rw [Addr.add_lit, Nat.zero_add]
    have h2 : BlkAt w.drew g cur 151 := hg
    rw [h2.cell]
    simpa using hj)
  have hck : c + (l + n - c) = l + n := by omega
  have happ := Lib.run_append_grow_zeros (P := Tryz.prog) w 140 3 140 151 i0 (.int .u64 0) .i64 .i64 Tryz.underlying140 Tryz.underlying3 hi hz0 (some ⟨g, 0, none⟩) c c cur.toList hold (l + n - c) (by omega) (by omega) (by omega) (by omega)
    (by rw [hz2]; omega) (by rw [hck]; exact growslice_fits hr (by rw [hz2]; omega))
  rw [hck] at happ
  have hk : ((l + n - c : Nat) : Int) = (n : Int) - ((c : Int) - (l : Int)) := by omega
  rw [hk] at happ
  generalize hcap : grownCap w (l + n) c 151 = C at happ
  have hcge : l + n ≤ C := by rw [← hcap]; exact grownCap_ge w _ _ 151
  have hcle : C ≤ maxLen := by rw [← hcap]; exact grownCap_le_maxLen w _ _ 151 (by unfold maxLen; omega)
  generalize hZ : (cur.toList.toArray ++ Builtin.zeroCells (Value.int .u64 0).cells (l + n - c) ++ Builtin.zeroCells (Value.int .u64 0).cells (C - (l + n))) = Z at happ
  have hZs : Z.size = C := by rw [← hZ]; simp [size_zeroCells, Value.cells]; omega
  have HA := Lib.hid happ
  have HS := Lib.hid hZs
  have HC := Lib.hid hcle
  have hcm : C ≤ 9223372036854775807 := by unfold maxLen at hcle; omega
  have h1 : ¬ ((n : Int) < 0) := by omega
  have h4 : (n : Int) - ((c : Int) - (l : Int)) > 0 := by omega
  clear hcap hZ happ hZs hi hz0 hz1 hz2 hcle hold hcl hck hk hs
  go_enter Tryz.func287, Tryz.ntmps287
  go_wp2_with (at_builtin; refine Lib.wpList_append_run _ rfl _ _ _ _ rfl _ _ rfl rfl _ _ HA.out ?_)
  go_wp2
  go_ret
  exact ⟨C, Z, hcge, HC.out, HS.out, rfl, rfl⟩
end Go.Proofs.YtdkipndepkblhaaGreatDoor
