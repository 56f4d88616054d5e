/-
  Words: nat.norm, wordsOf.
-/
import Derived.Test.YtdepmbpickonoaaGreatDoorKitP
import Derived.Test.YtdepmbpickonoaaGreatDoorBigA
import Derived.Deep.RegionHeld3
import Derived.Deep.DeepCutAuto
import Derived.Test.YtdepmbpickonoaaGreatDoorVl
set_option linter.unusedSimpArgs false
set_option linter.unusedVariables false
namespace Go.Proofs.YtdepmbpickonoaaGreatDoor
open Go.RowKit Go.Bg Dg

set_option maxHeartbeats 400000 in
theorem norm_any (a : Option Addr) (n c : Nat) (f : Nat → Nat) (w : World)
    (hn : n ≤ 1000000000) (hnc : n ≤ c) (hcm : c ≤ maxLen) (hnil : a = none → c = 0) (hc : Cells w a n (fun i => .int .u64 (f i : Nat))) :
    Calls Tryz.prog 120 #[.slice a n c] w fun e w' => e = .returned (.slice a (tlen f n) c) ∧ w = w' := by
  go_enter Tryz.func120, Tryz.ntmps120
  go_wp2
  go_loop [3] (fun v => ∃ m : Nat, m ≤ n ∧ v = .int .i64 m ∧ tlen f m = tlen f n) (fun v => (intOf v).toNat)
  case atStart => exact ⟨n, Nat.le_refl _, rfl, rfl⟩
  case round =>
    obtain ⟨m, hm, rfl, ht⟩ := hrel
    have HT := Lib.hid ht; clear ht
    by_cases h0 : 0 < m
    · obtain ⟨b, off, rfl, hcell⟩ := hc (by omega)
      have hcm := hcell (m - 1) (by omega)
      obtain ⟨k, rfl⟩ : ∃ k, m = k + 1 := ⟨m - 1, by omega⟩
      clear hc hcell
      simp only [Nat.add_sub_cancel] at hcm
      by_cases hz : f k = 0
      · have hz2 : ((f k : Int) == 0) = true := by simpa using hz
        go_wp2
        go_round
        case rel => exact ⟨k, by omega, by go_num, by rw [← HT.out, tlen, if_pos hz]⟩
        case measure => simp [intOf]; try omega
      · have hz2 : ((f k : Int) == 0) = false := by simpa using hz
        go_wp2
        go_ret
        exact ⟨ret_slice (by rw [← HT.out, tlen, if_neg hz]), rfl⟩
    · obtain rfl : m = 0 := by omega
      go_wp2
      go_ret
      exact ⟨ret_slice HT.out, rfl⟩

def wv (f : Nat → Nat) (i : Nat) : Value := .int .u64 (f i : Nat)

set_option maxHeartbeats 1000000 in
theorem wordsOf_any (a : Option Addr) (n c : Nat) (f : Nat → Nat) (w : World) (h : WordsAt w a n c f) (hn : n ≤ 1000000) :
    Calls Tryz.prog 58 #[.slice a n c] w fun e w' => ∃ v, e = .returned v ∧ w'.ownsRow w.heap.size 143 1 v n ((List.range n).map (wv f)) ∧ Below w.heap.size w w' := by
  obtain ⟨i0, hi, hz0, hz1, hz2⟩ := info_parts infoWord
  go_enter Tryz.func58, Tryz.ntmps58
  go_wp2
  go_loopw [3, 5, 8] (fun out _ i wr => ∃ k : Nat, k ≤ n ∧ i = .int .i64 k ∧ wr.ownsRow w.heap.size 143 1 out k ((List.range k).map (wv f)) ∧ Below w.heap.size w wr)
    (fun _ _ i _ => n - (intOf i).toNat)
  case atStart => exact ⟨0, Nat.zero_le _, rfl, World.ownsRow_nil _ _ _ _, Below.refl _ _⟩
  case round =>
    obtain ⟨k, hk, rfl, hown, hbel⟩ := hrel
    by_cases k1 : k < n
    · have h' := h.keep hbel
      obtain ⟨b1, o1, rfl, hcell⟩ := h'.cells (by omega)
      have e1 := hcell k k1
      have hnc := h'.nc
      have hcm := h'.cm
      clear hcell h' h
      go_wp2_with (at_builtin; refine wpList_app1 rfl _ _ 90 rfl w.heap.size 143 i0 _ 8 Tryz.underlying90 hi hz0 hz1 hz2 rfl (by decide) _ _ _ _ rfl rfl rfl hown rfl (by omega) hbel.size ?_; intro v' w1 hown1 hbel1 hne1)
      go_roundw
      case rel => exact ⟨k + 1, by omega, by go_num, by rw [map_range_succ]; simpa [wv] using hown1, hbel.trans hbel1⟩
      case measure => simp [intOf]; omega
    · obtain rfl : k = n := by omega
      go_wp2
      go_ret
      exact ⟨_, rfl, hown, hbel⟩
end Go.Proofs.YtdepmbpickonoaaGreatDoor
