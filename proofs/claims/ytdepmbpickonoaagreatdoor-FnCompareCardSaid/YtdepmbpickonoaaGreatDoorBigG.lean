/-
  nat.make of one word, setWord, setUint64, SetInt64, i64toi.
-/
import Derived.Test.YtdepmbpickonoaaGreatDoorBigF
set_option linter.unusedSimpArgs false
set_option linter.unusedVariables false
namespace Go.Bg
open Go.RowKit Dg
/-- one word, stored into a block of its own -/
theorem bigN_word {T : TypeId} {w : World} {g x c : Nat} (hg : BlkAt w g (Array.replicate c (.int .u64 0)) T) (hc : 0 < c) (hc4 : c ≤ 5) (hx : x < W64) (h0 : 0 < x) : BigN T (w.setCell ⟨g, 0, none⟩ (.int .u64 (x : Nat))) (some ⟨g, 0, none⟩) 1 c x := by
  refine ⟨⟨by simpa using hx, .inr (by simp; omega), hc, by unfold maxLen; omega, fun _ => ⟨g, 0, rfl, fun i hi => ?_⟩⟩, .inr ⟨g, _, rfl, hg.set 0 _, by simp⟩⟩
  obtain rfl : i = 0 := by omega
  rw [(hg.set 0 _).cell]
  simp [dg, Nat.mod_eq_of_lt hx, hc]
/-- a new number that nothing else holds -/
def GivesN (T : TypeId) (N : Nat) (w : World) (e : Ending) (w' : World) : Prop := ∃ a n c, e = .returned (.slice a n c) ∧ BigN T w' a n c N ∧ Below w.heap.size w w'
end Go.Bg
namespace Go.Proofs.YtdepmbpickonoaaGreatDoor
open Go.RowKit Go.Bg Dg

set_option maxRecDepth 100000 in
set_option maxHeartbeats 1000000 in
theorem make_nil (n : Nat) (hn : n ≤ 1000000) (w : World) :
    Calls Tryz.prog 154 #[.slice none 0 0, .int .i64 n] w (MadeIs 143 n w) := by
  by_cases h0 : n = 0
  · subst h0
    go_enter Tryz.func154, Tryz.ntmps154
    go_wp2
    go_ret
    exact .inl ⟨rfl, rfl, rfl⟩
  · by_cases h1 : n = 1
    · subst h1
      have hmk : ∀ w : World, (Instr.makeSlice 91 (.int .i64 1) (.int .i64 1)).run Tryz.prog w = .ok (.slice (some ⟨w.heap.size, 0, none⟩) 1 1) (w.alloc (.cells (Array.replicate 1 (.int .u64 0)) 143)) :=
        run_make_nat 91 143 Tryz.underlying91 infoWord 1 1 (Nat.le_refl _) (by omega)
      go_enter Tryz.func154, Tryz.ntmps154
      go_wp2
      go_ret
      exact .inr ⟨1, by omega, Nat.le_refl _, by omega, rfl, rfl⟩
    · have hz : ((n : Int) == 1) = false := by simp; omega
      have hmk : ∀ w : World, (Instr.makeSlice 91 (.int .i64 (n : Int)) (.int .i64 ((n : Int) + 4))).run Tryz.prog w = .ok (.slice (some ⟨w.heap.size, 0, none⟩) n (n + 4)) (w.alloc (.cells (Array.replicate (n + 4) (.int .u64 0)) 143)) :=
        run_make_nat 91 143 Tryz.underlying91 infoWord n (n + 4) (by omega) (by omega)
      have hle : ¬ ((n : Int) ≤ 0) := by omega
      go_enter Tryz.func154, Tryz.ntmps154
      go_wp2
      go_ret
      exact .inr ⟨n + 4, by omega, by omega, by omega, rfl, rfl⟩

set_option maxRecDepth 100000 in
set_option maxHeartbeats 1000000 in
theorem setWord_nil (x : Nat) (hx : x < 18446744073709551616) (w : World) :
    Calls Tryz.prog 121 #[.slice none 0 0, .int .u64 x] w (GivesN 143 x w) := by
  by_cases h0 : x = 0
  · subst h0
    go_enter Tryz.func121, Tryz.ntmps121
    go_wp2
    go_ret
    exact ⟨_, _, _, rfl, BigN.nil _ _, Below.refl _ _⟩
  · have hz : ((x : Int) == 0) = false := by simpa using h0
    go_enter Tryz.func121, Tryz.ntmps121
    go_wp2_with fail
    refine (make_nil 1 (by omega) _).mono ?_
    rintro e w1 (⟨h, _⟩ | ⟨c, _, hc0, hc, rfl, hw⟩)
    · cases h
    have hb : BlkAt w1 w.heap.size (Array.replicate c (.int .u64 0)) 143 := by rw [hw]; exact BlkAt.new _ _ _
    have hB1 : Below w.heap.size w w1 := by rw [hw]; exact (Below.refl _ _).alloc (Nat.le_refl _) _
    have HN := Lib.hid (bigN_word hb (by omega) hc hx (by omega))
    have HB := Lib.hid (hB1.setCell (p := ⟨w.heap.size, 0, none⟩) (Nat.le_refl _) (.int .u64 (x : Nat)))
    have c0 : w1.cell? ⟨w.heap.size, 0, none⟩ = some (.int .u64 0) := by rw [hb.cell, Array.getElem?_replicate, if_pos (by omega)]
    have f0 := hb.frozen 0
    clear hb hw hB1 hx
    go_wp2
    go_ret
    exact ⟨_, _, _, rfl, HN.out, HB.out⟩

set_option maxRecDepth 100000 in
set_option maxHeartbeats 1000000 in
theorem setUint64_nil (x : Nat) (hx : x < 18446744073709551616) (w : World) :
    Calls Tryz.prog 178 #[.slice none 0 0, .int .u64 x] w (GivesN 143 x w) := by
  have HX := Lib.hid hx
  clear hx
  go_enter Tryz.func178, Tryz.ntmps178
  go_wp2_with fail
  refine (setWord_nil x HX.out _).mono ?_
  rintro e w1 ⟨a, n, c, rfl, hN, hB⟩
  go_wp2
  go_ret
  exact ⟨_, _, _, rfl, hN, hB⟩

/-- a big integer that holds nothing yet -/
structure NewInt (w : World) (b o : Nat) : Prop where
  blk : Strct 143 w b
  c0 : ∃ u, w.cell? ⟨b, o, none⟩ = some u
  c1 : w.cell? ⟨b, o + 1, none⟩ = some (.slice none 0 0)

theorem NewInt.keep {w w1 : World} {b o : Nat} (h : NewInt w b o) (hb : Below w.heap.size w w1) : NewInt w1 b o := by
  obtain ⟨u, h0⟩ := h.c0
  exact ⟨h.blk.keep hb, ⟨u, cell_keep h0 hb⟩, cell_keep h.c1 hb⟩

/-- the two stores that make a number of a new one -/
theorem NewInt.made {w w1 : World} {b o : Nat} (h : NewInt w b o) (hb : Below w.heap.size w w1) {a : Option Addr} {n c N : Nat} {s : Bool} (hN : BigN 143 w1 a n c N) (hz : s = true → 0 < N) :
    IntIs b o s N w (.returned (.pointer (some ⟨b, o, none⟩))) ((w1.setCell ⟨b, o + 1, none⟩ (.slice a n c)).setCell ⟨b, o, none⟩ (.bool s)) := by
  have h' := h.keep hb
  exact ⟨rfl, BigAt.stored h'.blk h'.c0 ⟨_, h'.c1⟩ hN hz, (UpdI.of_below hb h.blk).trans ((UpdI.set1 _ _ _ _).trans (UpdI.set0 _ _ _ _))⟩

set_option maxRecDepth 100000 in
set_option maxHeartbeats 1000000 in
theorem setInt64_any (b o : Nat) (x : Int) (hx : -9223372036854775808 ≤ x ∧ x < 9223372036854775808) (w : World) (h : NewInt w b o) :
    Calls Tryz.prog 149 #[.pointer (some ⟨b, o, none⟩), .int .i64 x] w (IntIs b o (decide (x < 0)) x.natAbs w) := by
  have HH := Lib.hid h
  have h1 := h.c1
  by_cases hn : x < 0
  · have HX := Lib.hid (show IntKind.u64.wrap (wrap64 (-x)) = (x.natAbs : Int) from by rw [IntKind.wrap_u64]; unfold wrap64; omega)
    have HL := Lib.hid (show x.natAbs < 18446744073709551616 from by omega)
    have HD := Lib.hid (show 0 < x.natAbs from by omega)
    have hd : decide (x < 0) = true := by simpa using hn
    rw [hd]
    clear hd
    clear h hx
    go_enter Tryz.func149, Tryz.ntmps149
    go_wp2_with fail
    rw [HX.out]
    refine (setUint64_nil _ HL.out _).mono ?_
    rintro e w1 ⟨a, n, c, rfl, hN, hB⟩
    have HF := Lib.hid (HH.out.made hB (s := true) hN (fun _ => HD.out))
    have h' := HH.out.keep hB
    obtain ⟨u0, k0⟩ := h'.c0
    have k1 := h'.c1
    have f0 := h'.blk.frozen o
    have f1 := h'.blk.frozen (o + 1)
    have k0' : ∀ v, (w1.setCell ⟨b, o + 1, none⟩ v).cell? ⟨b, o, none⟩ = some u0 := fun v => by
      rw [World.cell?_setCell_other _ _ _ _ (fun hh => by injection hh with _ hh _; omega)]; exact k0
    clear h' hN hB
    go_wp2
    go_ret
    exact HF.out
  · have HX := Lib.hid (show IntKind.u64.wrap x = (x.natAbs : Int) from by rw [IntKind.wrap_u64]; omega)
    have HL := Lib.hid (show x.natAbs < 18446744073709551616 from by omega)
    have hd : decide (x < 0) = false := by simpa using hn
    rw [hd]
    clear hd
    clear h hx
    go_enter Tryz.func149, Tryz.ntmps149
    go_wp2_with fail
    rw [HX.out]
    refine (setUint64_nil _ HL.out _).mono ?_
    rintro e w1 ⟨a, n, c, rfl, hN, hB⟩
    have HF := Lib.hid (HH.out.made hB (s := false) hN (by simp))
    have h' := HH.out.keep hB
    obtain ⟨u0, k0⟩ := h'.c0
    have k1 := h'.c1
    have f0 := h'.blk.frozen o
    have f1 := h'.blk.frozen (o + 1)
    have k0' : ∀ v, (w1.setCell ⟨b, o + 1, none⟩ v).cell? ⟨b, o, none⟩ = some u0 := fun v => by
      rw [World.cell?_setCell_other _ _ _ _ (fun hh => by injection hh with _ hh _; omega)]; exact k0
    clear h' hN hB
    go_wp2
    go_ret
    exact HF.out

/-- the number itself, of its sign and its magnitude -/
theorem sg_natAbs (x : Int) : sg (decide (x < 0)) x.natAbs = x := by
  unfold sg
  by_cases h : x < 0 <;> simp [h] <;> omega

set_option maxRecDepth 100000 in
set_option maxHeartbeats 1000000 in
theorem newInt_any (w : World) : Calls Tryz.prog 63 #[] w fun e w' => e = .returned (.pointer (some ⟨w.heap.size, 0, none⟩)) ∧ w' = w.alloc (.cells #[.bool false, .slice none 0 0] 93) := by
  go_enter Tryz.func63, Tryz.ntmps63
  go_wp2
  go_ret
  exact ⟨rfl, rfl⟩

theorem newInt_is (w : World) : NewInt (w.alloc (.cells #[.bool false, .slice none 0 0] 93)) w.heap.size 0 := by
  have h := BlkAt.new w #[.bool false, .slice none 0 0] 93
  exact ⟨⟨_, _, h, by decide⟩, ⟨_, h.cell 0⟩, h.cell 1⟩

set_option maxRecDepth 100000 in
set_option maxHeartbeats 1000000 in
theorem i64toi_any (x : Int) (hx : -9223372036854775808 ≤ x ∧ x < 9223372036854775808) (w : World) :
    Calls Tryz.prog 97 #[.int .i64 x] w fun e w' => ∃ b, e = .returned (.agg #[.pointer (some ⟨b, 0, none⟩)]) ∧ BigAt 143 w' b 0 (decide (x < 0)) x.natAbs ∧ Below w.heap.size w w' := by
  have HX := Lib.hid hx
  clear hx
  go_enter Tryz.func97, Tryz.ntmps97
  go_wp2_with fail
  refine (newInt_any _).mono ?_
  rintro e w1 ⟨rfl, hw1⟩
  have hs1 : w1.heap.size = w.heap.size + 1 + 1 := by rw [hw1]; simp
  have hb1 : Below w.heap.size w w1 := by rw [hw1]; exact Below.alloc' (Below.alloc' (Below.refl _ _) _) _
  have hn1 : NewInt w1 (w.heap.size + 1) 0 := by rw [hw1]; simpa using newInt_is (w.alloc (.cells #[.pointer none] 60))
  have hl : BlkAt w1 w.heap.size #[.pointer none] 60 := by rw [hw1]; exact (BlkAt.new _ _ _).keep ((Below.refl _ _).alloc (Nat.le_refl _) _)
  have HW1 := Lib.hid hw1
  clear hw1
  go_wp2_with fail
  refine (setInt64_any (w.heap.size + 1) 0 x HX.out _ hn1).mono ?_
  rintro e w2 ⟨rfl, hI, hU⟩
  have hl2 := hU.upd.blk hl (Nat.ne_of_lt (Nat.lt_succ_self _))
  have HI := Lib.hid (hI.upd (Upd.set1 w2 w.heap.size 0 (.pointer (some ⟨w.heap.size + 1, 0, none⟩))) (Nat.ne_of_gt (Nat.lt_succ_self _)) (fun k _ e => by subst e; exact ⟨_, _, hl2, by decide⟩))
  have HB := Lib.hid ((hU.upd.below hb1 (by omega) (fun k _ e => by subst e; exact Nat.le_add_right _ 1)).setCell (p := ⟨w.heap.size, 0, none⟩) (Nat.le_refl _) (.pointer (some ⟨w.heap.size + 1, 0, none⟩)))
  have c0 := hl2.cell 0
  have f0 := hl2.frozen 0
  simp only [List.getElem?_toArray, List.getElem?_cons_zero] at c0
  clear hl hl2 hI hU hn1 hb1
  go_wp2
  exact bodyPost_ret (v := .agg #[.pointer (some ⟨w.heap.size + 1, 0, none⟩)]) (by simp [results, Tryz.results97, go_sem, c0]) rfl ⟨_, rfl, HI.out, HB.out⟩
end Go.Proofs.YtdepmbpickonoaaGreatDoor
