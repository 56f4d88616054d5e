/-
  Contracts and lemmas: BigF BigG Spec1 Spec2.
-/
import Derived.Test.YtececkbcinmmpaaGreatDoorK02
import Derived.Test.YtececkbcinmmpaaGreatDoorK00
set_option linter.unusedSimpArgs false
set_option linter.unusedVariables false
set_option maxRecDepth 100000
set_option maxHeartbeats 8000000
namespace Go.Proofs.YtececkbcinmmpaaGreatDoor
open Go.RowKit Go.Bg Dg
theorem sg_and (s : Bool) (N : Nat) : sg (s && decide (0 < N)) N = sg s N := by
  cases s
  · rfl
  · by_cases h : 0 < N
    · simp [h]
    · have : N = 0 := by omega
      subst this; rfl
theorem madeInt_any (v : Vl) (w : World) (h : VlAt w v) (hk : v.kind = 3) (hn : v.wn ≤ 1000000) :
    Calls Tryz.prog 49 #[.agg #[.int .i64 v.kind, .bool v.truth, .string v.text, .bool v.neg, .slice v.wa v.wn v.wc, .slice v.da v.dn v.dc, .bool v.ineg, .slice v.ia v.inn v.ic, .slice v.ea v.en v.ec]] w fun e w' => ∃ u, e = .returned u ∧ CInt w' u (sg v.neg (val W64 v.wf v.wn)) ∧ Below w.heap.size w w' := by
  obtain ⟨W0, hW0⟩ : ∃ W0, W0 = w.alloc (.cells #[.int .i64 v.kind, .bool v.truth, .string v.text, .bool v.neg, .slice v.wa v.wn v.wc, .slice v.da v.dn v.dc, .bool v.ineg, .slice v.ia v.inn v.ic, .slice v.ea v.en v.ec] 26) := ⟨_, rfl⟩
  have HW := Lib.hid hW0
  have hb0 : Below w.heap.size w W0 := by rw [hW0]; exact Below.alloc' (Below.refl _ _) _
  have X : Box9 W0 w.heap.size v := by rw [hW0]; exact Box9.new w v _ rfl
  have HX := Lib.hid (h.keep hb0)
  clear hW0 h
  obtain ⟨xc0, xc1, xc2, xc3, xc4, xc5, xc6, xc7, xc8⟩ := (X).all
  rw [hk] at xc0
  clear hk
  go_enter Tryz.func49, Tryz.ntmps49
  go_upto_region 1 with fail
  rw [← HW.out]
  go_wp2_with fail
  refine (of_any' v.neg v.wa v.wn v.wc v.wf _ HX.out.ws hn).mono ?_
  rintro e w1 ⟨b, rfl, hb, hI, hB1⟩
  go_wp2_with fail
  refine (makeOfInt_any b 0 _ _ _ hI).mono ?_
  rintro e w2 ⟨u, rfl, hu, rfl⟩
  rw [sg_and] at hu
  have hbf := Below.then hb0 (Nat.le_refl _) hB1
  go_wp2
  go_ret
  exact ⟨_, rfl, hu, hbf⟩
def cmpTok (k : Nat) : Int := if k = 0 then 39 else if k = 1 then 44 else if k = 2 then 40 else if k = 3 then 45 else if k = 4 then 41 else 46
theorem comparison_any (k : Nat) (hk : k < 6) (w : World) :
    Calls Tryz.prog 66 #[.int .i64 k] w fun e w' => e = .returned (.tuple #[.int .i64 (cmpTok k), .bool true]) ∧ Below w.heap.size w w' := by
  have HB := Lib.hid (fun (o : Obj) => (Below.alloc' (Below.refl w.heap.size w) o))
  obtain ⟨T, hT⟩ : ∃ T, T = cmpTok k := ⟨_, rfl⟩
  rcases (by omega : k = 0 ∨ k = 1 ∨ k = 2 ∨ k = 3 ∨ k = 4 ∨ k = 5) with rfl | rfl | rfl | rfl | rfl | rfl
  all_goals
    go_enter Tryz.func66, Tryz.ntmps66
    go_wp2
    refine bodyPost_ret (v := .tuple #[.int .i64 T, .bool true]) (by rw [hT]; simp [results, Tryz.results66, go_sem, cmpTok]) rfl ⟨by rw [hT], HB.out _⟩
def cmpB (k : Nat) (c : Int) : Bool := if k = 0 then decide (c = 0) else if k = 1 then decide (c ≠ 0) else if k = 2 then decide (c < 0) else if k = 3 then decide (c ≤ 0) else if k = 4 then decide (0 < c) else decide (0 ≤ c)
theorem cmpZero_any (k : Nat) (hk : k < 6) (c : Int) (w : World) :
    Calls Tryz.prog 127 #[.int .i64 c, .int .i64 (cmpTok k)] w fun e w' => e = .returned (.bool (cmpB k c)) ∧ w = w' := by
  rcases (by omega : k = 0 ∨ k = 1 ∨ k = 2 ∨ k = 3 ∨ k = 4 ∨ k = 5) with rfl | rfl | rfl | rfl | rfl | rfl
  all_goals
    simp only [cmpTok, cmpB]
    go_enter Tryz.func127, Tryz.ntmps127
    go_wp2
    go_ret
    exact ⟨ret_bool (by first | rfl | (simp; done) | (simp; rfl)), rfl⟩
def ordOf (v : Value) : Int := match v with | .iface t _ => if t = 91 then 2 else 3 | _ => 0
theorem ordInt_any (v : Value) (z : Int) (w : World) (h : CInt w v z) :
    Calls Tryz.prog 140 #[v] w fun e w' => e = .returned (.int .i64 (ordOf v)) ∧ w = w' := by
  rcases h with ⟨rfl, _⟩ | ⟨b, o, s, N, rfl, _, _⟩
  · obtain ⟨t1, t2, t3, t4, t5, t6, t7, t8, t9⟩ := ta_int64Val
    go_enter Tryz.func140, Tryz.ntmps140
    go_wp2
    go_ret
    exact ⟨ret_int rfl, rfl⟩
  · obtain ⟨t1, t2, t3, t4, t5, t6, t7, t8, t9⟩ := ta_intVal
    go_enter Tryz.func140, Tryz.ntmps140
    go_wp2
    go_ret
    exact ⟨ret_int rfl, rfl⟩
end Go.Proofs.YtececkbcinmmpaaGreatDoor
namespace Go.Bg
open Go.RowKit Dg
theorem bigN_word {T : TypeId} {w : World} {g x c : Nat} (hg : BlkAt w g (Array.replicate c (.int .u64 0)) T) (hc : 0 < c) (hc4 : c ≤ 5) (hx : x < W64) (h0 : 0 < x) : BigN T (w.setCell ⟨g, 0, none⟩ (.int .u64 (x : Nat))) (some ⟨g, 0, none⟩) 1 c x := by
  refine ⟨⟨by simpa using hx, .inr (by simp; omega), hc, by unfold maxLen; omega, fun _ => ⟨g, 0, rfl, fun i hi => ?_⟩⟩, .inr ⟨g, _, rfl, hg.set 0 _, by simp⟩⟩
  obtain rfl : i = 0 := by omega
  rw [(hg.set 0 _).cell]
  simp [dg, Nat.mod_eq_of_lt hx, hc]
def GivesN (T : TypeId) (N : Nat) (w : World) (e : Ending) (w' : World) : Prop := ∃ a n c, e = .returned (.slice a n c) ∧ BigN T w' a n c N ∧ Below w.heap.size w w'
end Go.Bg
namespace Go.Proofs.YtececkbcinmmpaaGreatDoor
open Go.RowKit Go.Bg Dg
theorem make_nil (n : Nat) (hn : n ≤ 1000000) (w : World) :
    Calls Tryz.prog 204 #[.slice none 0 0, .int .i64 n] w (MadeIs 139 n w) := by
  by_cases h0 : n = 0
  · subst h0
    go_enter Tryz.func204, Tryz.ntmps204
    go_wp2
    go_ret
    exact .inl ⟨rfl, rfl, rfl⟩
  · by_cases h1 : n = 1
    · subst h1
      have hmk : ∀ w : World, (Instr.makeSlice 153 (.int .i64 1) (.int .i64 1)).run Tryz.prog w = .ok (.slice (some ⟨w.heap.size, 0, none⟩) 1 1) (w.alloc (.cells (Array.replicate 1 (.int .u64 0)) 139)) :=
        run_make_nat 153 139 Tryz.underlying153 infoWord 1 1 (Nat.le_refl _) (by omega)
      go_enter Tryz.func204, Tryz.ntmps204
      go_wp2
      go_ret
      exact .inr ⟨1, by omega, Nat.le_refl _, by omega, rfl, rfl⟩
    · have hz : ((n : Int) == 1) = false := by simp; omega
      have hmk : ∀ w : World, (Instr.makeSlice 153 (.int .i64 (n : Int)) (.int .i64 ((n : Int) + 4))).run Tryz.prog w = .ok (.slice (some ⟨w.heap.size, 0, none⟩) n (n + 4)) (w.alloc (.cells (Array.replicate (n + 4) (.int .u64 0)) 139)) :=
        run_make_nat 153 139 Tryz.underlying153 infoWord n (n + 4) (by omega) (by omega)
      have hle : ¬ ((n : Int) ≤ 0) := by omega
      go_enter Tryz.func204, Tryz.ntmps204
      go_wp2
      go_ret
      exact .inr ⟨n + 4, by omega, by omega, by omega, rfl, rfl⟩
theorem setWord_nil (x : Nat) (hx : x < 18446744073709551616) (w : World) :
    Calls Tryz.prog 165 #[.slice none 0 0, .int .u64 x] w (GivesN 139 x w) := by
  by_cases h0 : x = 0
  · subst h0
    go_enter Tryz.func165, Tryz.ntmps165
    go_wp2
    go_ret
    exact ⟨_, _, _, rfl, BigN.nil _ _, Below.refl _ _⟩
  · have hz : ((x : Int) == 0) = false := by simpa using h0
    go_enter Tryz.func165, Tryz.ntmps165
    go_wp2_with fail
    refine (make_nil 1 (by omega) _).mono ?_
    rintro e w1 (⟨h, _⟩ | ⟨c, _, hc0, hc, rfl, hw⟩)
    · cases h
    have hb : BlkAt w1 w.heap.size (Array.replicate c (.int .u64 0)) 139 := by rw [hw]; exact BlkAt.new _ _ _
    have hB1 : Below w.heap.size w w1 := by rw [hw]; exact (Below.refl _ _).alloc (Nat.le_refl _) _
    have HN := Lib.hid (bigN_word hb (by omega) hc hx (by omega))
    have HB := Lib.hid (hB1.setCell (p := ⟨w.heap.size, 0, none⟩) (Nat.le_refl _) (.int .u64 (x : Nat)))
    have c0 : w1.cell? ⟨w.heap.size, 0, none⟩ = some (.int .u64 0) := by rw [hb.cell, Array.getElem?_replicate, if_pos (by omega)]
    have f0 := hb.frozen 0
    clear hb hw hB1 hx
    go_wp2
    go_ret
    exact ⟨_, _, _, rfl, HN.out, HB.out⟩
theorem setUint64_nil (x : Nat) (hx : x < 18446744073709551616) (w : World) :
    Calls Tryz.prog 192 #[.slice none 0 0, .int .u64 x] w (GivesN 139 x w) := by
  have HX := Lib.hid hx
  clear hx
  go_enter Tryz.func192, Tryz.ntmps192
  go_wp2_with fail
  refine (setWord_nil x HX.out _).mono ?_
  rintro e w1 ⟨a, n, c, rfl, hN, hB⟩
  go_wp2
  go_ret
  exact ⟨_, _, _, rfl, hN, hB⟩
structure NewInt (w : World) (b o : Nat) : Prop where
  blk : Strct 139 w b
  c0 : ∃ u, w.cell? ⟨b, o, none⟩ = some u
  c1 : w.cell? ⟨b, o + 1, none⟩ = some (.slice none 0 0)
theorem NewInt.keep {w w1 : World} {b o : Nat} (h : NewInt w b o) (hb : Below w.heap.size w w1) : NewInt w1 b o := by
  obtain ⟨u, h0⟩ := h.c0
  exact ⟨h.blk.keep hb, ⟨u, cell_keep h0 hb⟩, cell_keep h.c1 hb⟩
theorem NewInt.made {w w1 : World} {b o : Nat} (h : NewInt w b o) (hb : Below w.heap.size w w1) {a : Option Addr} {n c N : Nat} {s : Bool} (hN : BigN 139 w1 a n c N) (hz : s = true → 0 < N) :
    IntIs b o s N w (.returned (.pointer (some ⟨b, o, none⟩))) ((w1.setCell ⟨b, o + 1, none⟩ (.slice a n c)).setCell ⟨b, o, none⟩ (.bool s)) := by
  have h' := h.keep hb
  exact ⟨rfl, BigAt.stored h'.blk h'.c0 ⟨_, h'.c1⟩ hN hz, (UpdI.of_below hb h.blk).trans ((UpdI.set1 _ _ _ _).trans (UpdI.set0 _ _ _ _))⟩
theorem setInt64_any (b o : Nat) (x : Int) (hx : -9223372036854775808 ≤ x ∧ x < 9223372036854775808) (w : World) (h : NewInt w b o) :
    Calls Tryz.prog 135 #[.pointer (some ⟨b, o, none⟩), .int .i64 x] w (IntIs b o (decide (x < 0)) x.natAbs w) := by
  have HH := Lib.hid h
  have h1 := h.c1
  by_cases hn : x < 0
  · have HX := Lib.hid (show IntKind.u64.wrap (wrap64 (-x)) = (x.natAbs : Int) from by rw [IntKind.wrap_u64]; unfold wrap64; omega)
    have HL := Lib.hid (show x.natAbs < 18446744073709551616 from by omega)
    have HD := Lib.hid (show 0 < x.natAbs from by omega)
    have hd : decide (x < 0) = true := by simpa using hn
    rw [hd]
    clear hd
    clear h hx
    go_enter Tryz.func135, Tryz.ntmps135
    go_wp2_with fail
    rw [HX.out]
    refine (setUint64_nil _ HL.out _).mono ?_
    rintro e w1 ⟨a, n, c, rfl, hN, hB⟩
    have HF := Lib.hid (HH.out.made hB (s := true) hN (fun _ => HD.out))
    have h' := HH.out.keep hB
    obtain ⟨u0, k0⟩ := h'.c0
    have k1 := h'.c1
    have f0 := h'.blk.frozen o
    have f1 := h'.blk.frozen (o + 1)
    have k0' : ∀ v, (w1.setCell ⟨b, o + 1, none⟩ v).cell? ⟨b, o, none⟩ = some u0 := fun v => by
      rw [World.cell?_setCell_other _ _ _ _ (fun hh => by injection hh with _ hh _; omega)]; exact k0
    clear h' hN hB
    go_wp2
    go_ret
    exact HF.out
  · have HX := Lib.hid (show IntKind.u64.wrap x = (x.natAbs : Int) from by rw [IntKind.wrap_u64]; omega)
    have HL := Lib.hid (show x.natAbs < 18446744073709551616 from by omega)
    have hd : decide (x < 0) = false := by simpa using hn
    rw [hd]
    clear hd
    clear h hx
    go_enter Tryz.func135, Tryz.ntmps135
    go_wp2_with fail
    rw [HX.out]
    refine (setUint64_nil _ HL.out _).mono ?_
    rintro e w1 ⟨a, n, c, rfl, hN, hB⟩
    have HF := Lib.hid (HH.out.made hB (s := false) hN (by simp))
    have h' := HH.out.keep hB
    obtain ⟨u0, k0⟩ := h'.c0
    have k1 := h'.c1
    have f0 := h'.blk.frozen o
    have f1 := h'.blk.frozen (o + 1)
    have k0' : ∀ v, (w1.setCell ⟨b, o + 1, none⟩ v).cell? ⟨b, o, none⟩ = some u0 := fun v => by
      rw [World.cell?_setCell_other _ _ _ _ (fun hh => by injection hh with _ hh _; omega)]; exact k0
    clear h' hN hB
    go_wp2
    go_ret
    exact HF.out
theorem sg_natAbs (x : Int) : sg (decide (x < 0)) x.natAbs = x := by
  unfold sg
  by_cases h : x < 0 <;> simp [h] <;> omega
theorem newInt_any (w : World) : Calls Tryz.prog 76 #[] w fun e w' => e = .returned (.pointer (some ⟨w.heap.size, 0, none⟩)) ∧ w' = w.alloc (.cells #[.bool false, .slice none 0 0] 155) := by
  go_enter Tryz.func76, Tryz.ntmps76
  go_wp2
  go_ret
  exact ⟨rfl, rfl⟩
theorem newInt_is (w : World) : NewInt (w.alloc (.cells #[.bool false, .slice none 0 0] 155)) w.heap.size 0 := by
  have h := BlkAt.new w #[.bool false, .slice none 0 0] 155
  exact ⟨⟨_, _, h, by decide⟩, ⟨_, h.cell 0⟩, h.cell 1⟩
theorem i64toi_any (x : Int) (hx : -9223372036854775808 ≤ x ∧ x < 9223372036854775808) (w : World) :
    Calls Tryz.prog 196 #[.int .i64 x] w fun e w' => ∃ b, e = .returned (.agg #[.pointer (some ⟨b, 0, none⟩)]) ∧ BigAt 139 w' b 0 (decide (x < 0)) x.natAbs ∧ Below w.heap.size w w' := by
  have HX := Lib.hid hx
  clear hx
  go_enter Tryz.func196, Tryz.ntmps196
  go_wp2_with fail
  refine (newInt_any _).mono ?_
  rintro e w1 ⟨rfl, hw1⟩
  have hs1 : w1.heap.size = w.heap.size + 1 + 1 := by rw [hw1]; simp
  have hb1 : Below w.heap.size w w1 := by rw [hw1]; exact Below.alloc' (Below.alloc' (Below.refl _ _) _) _
  have hn1 : NewInt w1 (w.heap.size + 1) 0 := by rw [hw1]; simpa using newInt_is (w.alloc (.cells #[.pointer none] 102))
  have hl : BlkAt w1 w.heap.size #[.pointer none] 102 := by rw [hw1]; exact (BlkAt.new _ _ _).keep ((Below.refl _ _).alloc (Nat.le_refl _) _)
  have HW1 := Lib.hid hw1
  clear hw1
  go_wp2_with fail
  refine (setInt64_any (w.heap.size + 1) 0 x HX.out _ hn1).mono ?_
  rintro e w2 ⟨rfl, hI, hU⟩
  have hl2 := hU.upd.blk hl (Nat.ne_of_lt (Nat.lt_succ_self _))
  have HI := Lib.hid (hI.upd (Upd.set1 w2 w.heap.size 0 (.pointer (some ⟨w.heap.size + 1, 0, none⟩))) (Nat.ne_of_gt (Nat.lt_succ_self _)) (fun k _ e => by subst e; exact ⟨_, _, hl2, by decide⟩))
  have HB := Lib.hid ((hU.upd.below hb1 (by omega) (fun k _ e => by subst e; exact Nat.le_add_right _ 1)).setCell (p := ⟨w.heap.size, 0, none⟩) (Nat.le_refl _) (.pointer (some ⟨w.heap.size + 1, 0, none⟩)))
  have c0 := hl2.cell 0
  have f0 := hl2.frozen 0
  simp only [List.getElem?_toArray, List.getElem?_cons_zero] at c0
  clear hl hl2 hI hU hn1 hb1
  go_wp2
  exact bodyPost_ret (v := .agg #[.pointer (some ⟨w.heap.size + 1, 0, none⟩)]) (by simp [results, Tryz.results196, go_sem, c0]) rfl ⟨_, rfl, HI.out, HB.out⟩
theorem trim_any (a : Option Addr) (n c : Nat) (f : Nat → Nat) (w : World)
    (hn : n ≤ 1000000000) (hnc : n ≤ c) (hc : Cells w a n (fun i => .int .i64 (f i : Nat))) :
    Calls Tryz.prog 113 #[.slice a n c] w fun e w' => e = .returned (.slice a (tlen f n) c) ∧ w = w' := by
  go_enter Tryz.func113, Tryz.ntmps113
  go_wp2
  go_loop [0] (fun v => ∃ m : Nat, m ≤ n ∧ v = .slice a m c ∧ tlen f m = tlen f n) (fun v => sliceLen v)
  case atStart => exact ⟨n, Nat.le_refl _, rfl, rfl⟩
  case round =>
    obtain ⟨m, hm, rfl, ht⟩ := hrel
    have HT := Lib.hid ht; clear ht
    by_cases h0 : 0 < m
    · obtain ⟨b, off, rfl, hcell⟩ := hc (by omega)
      have hcm := hcell (m - 1) (by omega)
      obtain ⟨k, rfl⟩ : ∃ k, m = k + 1 := ⟨m - 1, by omega⟩
      clear hc hcell
      simp only [Nat.add_sub_cancel] at hcm
      go_wp2
      · have hz : ((f k : Int) == 0) = true := by assumption
        have hz : f k = 0 := by simpa using hz
        go_round
        case rel => exact ⟨k, by omega, rfl, by rw [← HT.out, tlen, if_pos hz]⟩
        case measure => simp [sliceLen]
      · have hz : ((f k : Int) == 0) = false := by assumption
        have hz : f k ≠ 0 := by simpa using hz
        go_ret
        exact ⟨ret_slice (by rw [← HT.out, tlen, if_neg hz]), rfl⟩
    · obtain rfl : m = 0 := by omega
      go_wp2
      go_ret
      exact ⟨ret_slice HT.out, rfl⟩
def dig (X k : Nat) : Value := .int .i64 (dg 65536 X k : Nat)
theorem natAt_of_row {w : World} {g n cap X : Nat} (hX : X < 65536 ^ n) (hnc : n ≤ cap) (hcm : cap ≤ maxLen) (hcell : ∀ i, i < n → w.cell? ⟨g, i, none⟩ = some (dig X i)) :
    NatAt w (some ⟨g, 0, none⟩) (tlen (dg 65536 X) n) cap X :=
  ⟨tlen_lt hX, tlen_top hX, Nat.le_trans (tlen_le _ _) hnc, hcm, fun _ => ⟨g, 0, rfl, fun i hi => by rw [Nat.zero_add]; exact hcell i (Nat.lt_of_lt_of_le hi (tlen_le _ _))⟩⟩
theorem row_cells {w : World} {g n : Nat} {f : Nat → Value} (h : ∀ i, i < n → w.cell? ⟨g, i, none⟩ = ((List.range n).map f)[i]?) : ∀ i, i < n → w.cell? ⟨g, i, none⟩ = some (f i) := by
  intro i hi
  rw [h i hi]; simp [hi]
theorem add_any (a1 a2 : Option Addr) (n1 n2 c1 c2 N1 N2 : Nat) (w : World) (h1 : NatAt w a1 n1 c1 N1) (h2 : NatAt w a2 n2 c2 N2) (hb1 : n1 ≤ 1000000) (hb2 : n2 ≤ 1000000) :
    Calls Tryz.prog 52 #[.slice a1 n1 c1, .slice a2 n2 c2] w (Gives .i64 65536 (N1 + N2) w) := by
  obtain ⟨i0, hi, hz0, hz1, hz2⟩ := info_parts infoInt
  go_enter Tryz.func52, Tryz.ntmps52
  go_wp2
  go_loopw [5, 6, 7] (fun out carry i wr => ∃ k : Nat, (k ≤ n1 ∨ k ≤ n2) ∧ i = .int .i64 k ∧ carry = .int .i64 ((N1 % 65536 ^ k + N2 % 65536 ^ k) / 65536 ^ k : Nat) ∧
      wr.ownsRow w.heap.size 3 1 out k ((List.range k).map (dig (N1 + N2))) ∧ out ≠ .slice none 0 0 ∧ Below w.heap.size w wr)
    (fun _ _ i _ => (n1 - (intOf i).toNat) + (n2 - (intOf i).toNat))
  case atStart => exact ⟨0, .inl (Nat.zero_le _), rfl, by simp [Nat.mod_one], World.ownsRow_made w #[] 0 (Nat.le_refl _) (by simp [maxLen]) rfl, by simp, (Below.refl _ _).alloc (Nat.le_refl _) _⟩
  case round =>
    obtain ⟨k, hk, rfl, rfl, hown, hne, hbel⟩ := hrel
    have h1' := h1.keep hbel
    have h2' := h2.keep hbel
    have hl1 := h1.lt
    have hl2 := h2.lt
    clear h1 h2
    have d1 : dg 65536 N1 k < 65536 := dg_lt (by decide) _ _
    have d2 : dg 65536 N2 k < 65536 := dg_lt (by decide) _ _
    have hcy : (N1 % 65536 ^ k + N2 % 65536 ^ k) / 65536 ^ k ≤ 1 := add_carry_le (by decide) _ _ _
    have hst := add_step (B := 65536) (by decide) N1 N2 k
    by_cases hend : k < n1 ∨ k < n2
    · have z1 : ¬ k < n1 → dg 65536 N1 k = 0 := fun h => dg_of_lt (Nat.lt_of_lt_of_le hl1 (Nat.pow_le_pow_right (by decide) (by omega)))
      have z2 : ¬ k < n2 → dg 65536 N2 k = 0 := fun h => dg_of_lt (Nat.lt_of_lt_of_le hl2 (Nat.pow_le_pow_right (by decide) (by omega)))
      have fin : ∀ (v : Value) (w1 : World) (u : Nat), u = ((N1 % 65536 ^ k + N2 % 65536 ^ k) / 65536 ^ k + dg 65536 N1 k + dg 65536 N2 k) → w1.ownsRow w.heap.size 3 1 v (k + 1) ((List.range k).map (dig (N1 + N2)) ++ [.int .i64 ((u : Int) % 65536)]) →
          (Value.int .i64 ((u : Int) / 65536) = .int .i64 ((N1 % 65536 ^ (k + 1) + N2 % 65536 ^ (k + 1)) / 65536 ^ (k + 1) : Nat)) ∧ w1.ownsRow w.heap.size 3 1 v (k + 1) ((List.range (k + 1)).map (dig (N1 + N2))) := by
        intro v w1 u hu ho
        rw [← hu] at hst
        refine ⟨by rw [← hst.2]; rfl, ?_⟩
        rw [map_range_succ, dig, ← hst.1]; exact ho
      generalize (N1 % 65536 ^ k + N2 % 65536 ^ k) / 65536 ^ k = cy at hst hcy fin ⊢
      have HF := Lib.hid fin
      clear fin hst hl1 hl2
      by_cases k1 : k < n1
      · obtain ⟨b1, o1, rfl, _⟩ := h1'.form (by omega)
        have e1 := h1'.cell k1
        generalize dg 65536 N1 k = x1 at HF d1 e1 z1
        clear z1 h1'
        by_cases k2 : k < n2
        · obtain ⟨b2, o2, rfl, _⟩ := h2'.form (by omega)
          have e2 := h2'.cell k2
          generalize dg 65536 N2 k = x2 at HF d2 e2 z2
          clear z2 h2'
          go_wp2_with (at_builtin; refine wpList_app1 rfl _ _ 29 rfl w.heap.size 3 i0 _ 8 Tryz.underlying29 hi hz0 hz1 hz2 rfl (by decide) _ _ _ _ rfl rfl rfl hown rfl (by omega) (hbel).size ?_; intro v' w1 hown1 hbel1 hne1)
          have F := HF.out v' w1 (cy + x1 + x2) rfl (by simpa using hown1)
          go_roundw
          case rel => exact ⟨k + 1, by omega, by go_num, by rw [← F.1]; simp, F.2, hne1, hbel.trans hbel1⟩
          case measure => simp [intOf]; omega
        · have e0 := z2 k2
          rw [e0] at HF
          clear e0 z2 h2' d2
          go_wp2_with (at_builtin; refine wpList_app1 rfl _ _ 29 rfl w.heap.size 3 i0 _ 8 Tryz.underlying29 hi hz0 hz1 hz2 rfl (by decide) _ _ _ _ rfl rfl rfl hown rfl (by omega) (hbel).size ?_; intro v' w1 hown1 hbel1 hne1)
          have F := HF.out v' w1 (cy + x1) rfl (by simpa using hown1)
          go_roundw
          case rel => exact ⟨k + 1, by omega, by go_num, by rw [← F.1]; simp, F.2, hne1, hbel.trans hbel1⟩
          case measure => simp [intOf]; omega
      · have e0 := z1 k1
        rw [e0] at HF
        clear e0 z1 h1' d1
        have k2 : k < n2 := by omega
        obtain ⟨b2, o2, rfl, _⟩ := h2'.form (by omega)
        have e2 := h2'.cell k2
        generalize dg 65536 N2 k = x2 at HF d2 e2 z2
        clear z2 h2'
        go_wp2_with (at_builtin; refine wpList_app1 rfl _ _ 29 rfl w.heap.size 3 i0 _ 8 Tryz.underlying29 hi hz0 hz1 hz2 rfl (by decide) _ _ _ _ rfl rfl rfl hown rfl (by omega) (hbel).size ?_; intro v' w1 hown1 hbel1 hne1)
        have F := HF.out v' w1 (cy + x2) (by omega) (by simpa using hown1)
        go_roundw
        case rel => exact ⟨k + 1, by omega, by go_num, by rw [← F.1]; simp, F.2, hne1, hbel.trans hbel1⟩
        case measure => simp [intOf]; omega
    · have k1 : ¬ k < n1 := by omega
      have k2 : ¬ k < n2 := by omega
      have m1 : N1 % 65536 ^ k = N1 := Nat.mod_eq_of_lt (Nat.lt_of_lt_of_le hl1 (Nat.pow_le_pow_right (by decide) (by omega)))
      have m2 : N2 % 65536 ^ k = N2 := Nat.mod_eq_of_lt (Nat.lt_of_lt_of_le hl2 (Nat.pow_le_pow_right (by decide) (by omega)))
      have hlt : N1 + N2 < 65536 ^ (k + 1) := by
        have : 65536 ^ n1 ≤ 65536 ^ k := Nat.pow_le_pow_right (by decide) (by omega)
        have : 65536 ^ n2 ≤ 65536 ^ k := Nat.pow_le_pow_right (by decide) (by omega)
        rw [Nat.pow_succ]; omega
      rw [m1, m2] at hcy ⊢
      have hd : (N1 + N2) / 65536 ^ k = dg 65536 (N1 + N2) k := by
        rw [dg, Nat.mod_eq_of_lt (by omega)]
      rw [hd]
      have HL := Lib.hid hlt
      clear hst d1 d2 h1' h2' hl1 hl2 m1 m2 hcy hd hlt
      go_wp2_with (at_builtin; refine wpList_app1 rfl _ _ 29 rfl w.heap.size 3 i0 _ 8 Tryz.underlying29 hi hz0 hz1 hz2 rfl (by decide) _ _ _ _ rfl rfl rfl hown rfl (by omega) (hbel).size ?_; intro v' w1 hown1 hbel1 hne1)
      have hown1 : w1.ownsRow w.heap.size 3 1 v' (k + 1) ((List.range (k + 1)).map (dig (N1 + N2))) := by rw [map_range_succ]; exact hown1
      obtain ⟨g, cap, rfl, hg, hgs, hnc, hcm, hcell⟩ := own_form hown1 hne1
      have HC := Lib.hid (row_cells hcell)
      clear hcell hown1 hown
      refine (trim_any _ _ _ (dg 65536 (N1 + N2)) _ (by omega) hnc (fun _ => ⟨g, 0, rfl, fun i hi => by rw [Nat.zero_add]; exact HC.out i hi⟩)).mono ?_
      rintro e w2 ⟨rfl, rfl⟩
      go_wp2
      go_ret
      exact ⟨_, _, _, rfl, natAt_of_row HL.out hnc hcm HC.out, hbel.trans hbel1⟩
theorem sub_any (a1 a2 : Option Addr) (n1 n2 c1 c2 N1 N2 : Nat) (w : World) (h1 : NatAt w a1 n1 c1 N1) (h2 : NatAt w a2 n2 c2 N2) (hb1 : n1 ≤ 1000000) (hb2 : n2 ≤ 1000000) (hle : N2 ≤ N1) :
    Calls Tryz.prog 54 #[.slice a1 n1 c1, .slice a2 n2 c2] w (Gives .i64 65536 (N1 - N2) w) := by
  obtain ⟨i0, hi, hz0, hz1, hz2⟩ := info_parts infoInt
  go_enter Tryz.func54, Tryz.ntmps54
  go_wp2
  go_loopw [5, 6, 7, 8, 12] (fun out borrow _ _ i wr => ∃ k : Nat, k ≤ n1 ∧ i = .int .i64 k ∧ borrow = .int .i64 (if N1 % 65536 ^ k < N2 % 65536 ^ k then 1 else 0) ∧
      wr.ownsRow w.heap.size 3 1 out k ((List.range k).map (dig (N1 - N2))) ∧ out ≠ .slice none 0 0 ∧ Below w.heap.size w wr)
    (fun _ _ _ _ i _ => n1 - (intOf i).toNat)
  case atStart => exact ⟨0, Nat.zero_le _, rfl, by simp [Nat.mod_one], World.ownsRow_made w #[] 0 (Nat.le_refl _) (by simp [maxLen]) rfl, by simp, (Below.refl _ _).alloc (Nat.le_refl _) _⟩
  case round =>
    obtain ⟨k, hk, rfl, rfl, hown, hne, hbel⟩ := hrel
    have h1' := h1.keep hbel
    have h2' := h2.keep hbel
    have hl1 := h1.lt
    have hl2 := h2.lt
    clear h1 h2
    have d1 : dg 65536 N1 k < 65536 := dg_lt (by decide) _ _
    have d2 : dg 65536 N2 k < 65536 := dg_lt (by decide) _ _
    have hst := sub_step (B := 65536) (by decide) N1 N2 k hle
    have hbo : (0 : Int) ≤ (if N1 % 65536 ^ k < N2 % 65536 ^ k then 1 else 0) ∧ (if N1 % 65536 ^ k < N2 % 65536 ^ k then 1 else 0) ≤ (1 : Int) := by split <;> omega
    by_cases k1 : k < n1
    · have z2 : ¬ k < n2 → dg 65536 N2 k = 0 := fun h => dg_of_lt (Nat.lt_of_lt_of_le hl2 (Nat.pow_le_pow_right (by decide) (by omega)))
      have fin : ∀ (v : Value) (w1 : World) (t : Int), t = (dg 65536 N1 k : Int) - (if N1 % 65536 ^ k < N2 % 65536 ^ k then 1 else 0) - dg 65536 N2 k →
          (t < 0 → w1.ownsRow w.heap.size 3 1 v (k + 1) ((List.range k).map (dig (N1 - N2)) ++ [.int .i64 (t + 65536)]) →
            Value.int .i64 1 = .int .i64 (if N1 % 65536 ^ (k + 1) < N2 % 65536 ^ (k + 1) then 1 else 0) ∧ w1.ownsRow w.heap.size 3 1 v (k + 1) ((List.range (k + 1)).map (dig (N1 - N2)))) ∧
          (0 ≤ t → w1.ownsRow w.heap.size 3 1 v (k + 1) ((List.range k).map (dig (N1 - N2)) ++ [.int .i64 t]) →
            Value.int .i64 0 = .int .i64 (if N1 % 65536 ^ (k + 1) < N2 % 65536 ^ (k + 1) then 1 else 0) ∧ w1.ownsRow w.heap.size 3 1 v (k + 1) ((List.range (k + 1)).map (dig (N1 - N2)))) := by
        intro v w1 t ht
        rw [← ht] at hst
        refine ⟨fun hneg ho => ?_, fun hpos ho => ?_⟩
        · obtain ⟨e1, e2⟩ := hst.1 hneg
          refine ⟨by rw [if_pos e2], ?_⟩
          rw [map_range_succ, dig, e1]; exact ho
        · obtain ⟨e1, e2⟩ := hst.2 (by omega)
          refine ⟨by rw [if_neg e2], ?_⟩
          rw [map_range_succ, dig, e1]; exact ho
      generalize (if N1 % 65536 ^ k < N2 % 65536 ^ k then (1 : Int) else 0) = bo at hst hbo fin ⊢
      obtain ⟨hbo1, hbo2⟩ := hbo
      have HF := Lib.hid fin
      clear fin hst hl1 hl2 hle
      obtain ⟨b1, o1, rfl, _⟩ := h1'.form (by omega)
      have e1 := h1'.cell k1
      generalize dg 65536 N1 k = x1 at HF d1 e1
      clear h1'
      by_cases k2 : k < n2
      · obtain ⟨b2, o2, rfl, _⟩ := h2'.form (by omega)
        have e2 := h2'.cell k2
        generalize dg 65536 N2 k = x2 at HF d2 e2 z2
        clear z2 h2'
        by_cases hneg : (x1 : Int) - bo - x2 < 0
        · go_wp2_with (at_builtin; refine wpList_app1 rfl _ _ 29 rfl w.heap.size 3 i0 _ 8 Tryz.underlying29 hi hz0 hz1 hz2 rfl (by decide) _ _ _ _ rfl rfl rfl hown rfl (by omega) (hbel).size ?_; intro v' w1 hown1 hbel1 hne1)
          have F := (HF.out v' w1 (x1 - bo - x2) rfl).1 hneg (by simpa using hown1)
          go_roundw
          case rel => exact ⟨k + 1, by omega, by go_num, F.1, F.2, hne1, hbel.trans hbel1⟩
          case measure => simp [intOf]; omega
        · have hpos : 0 ≤ (x1 : Int) - bo - x2 := by omega
          go_wp2_with (at_builtin; refine wpList_app1 rfl _ _ 29 rfl w.heap.size 3 i0 _ 8 Tryz.underlying29 hi hz0 hz1 hz2 rfl (by decide) _ _ _ _ rfl rfl rfl hown rfl (by omega) (hbel).size ?_; intro v' w1 hown1 hbel1 hne1)
          have F := (HF.out v' w1 (x1 - bo - x2) rfl).2 hpos (by simpa using hown1)
          go_roundw
          case rel => exact ⟨k + 1, by omega, by go_num, F.1, F.2, hne1, hbel.trans hbel1⟩
          case measure => simp [intOf]; omega
      · have e0 := z2 k2
        rw [e0] at HF
        clear e0 z2 h2' d2
        by_cases hneg : (x1 : Int) - bo < 0
        · go_wp2_with (at_builtin; refine wpList_app1 rfl _ _ 29 rfl w.heap.size 3 i0 _ 8 Tryz.underlying29 hi hz0 hz1 hz2 rfl (by decide) _ _ _ _ rfl rfl rfl hown rfl (by omega) (hbel).size ?_; intro v' w1 hown1 hbel1 hne1)
          have F := (HF.out v' w1 (x1 - bo) (by simp)).1 hneg (by simpa using hown1)
          go_roundw
          case rel => exact ⟨k + 1, by omega, by go_num, F.1, F.2, hne1, hbel.trans hbel1⟩
          case measure => simp [intOf]; omega
        · have hpos : 0 ≤ (x1 : Int) - bo := by omega
          go_wp2_with (at_builtin; refine wpList_app1 rfl _ _ 29 rfl w.heap.size 3 i0 _ 8 Tryz.underlying29 hi hz0 hz1 hz2 rfl (by decide) _ _ _ _ rfl rfl rfl hown rfl (by omega) (hbel).size ?_; intro v' w1 hown1 hbel1 hne1)
          have F := (HF.out v' w1 (x1 - bo) (by simp)).2 hpos (by simpa using hown1)
          go_roundw
          case rel => exact ⟨k + 1, by omega, by go_num, F.1, F.2, hne1, hbel.trans hbel1⟩
          case measure => simp [intOf]; omega
    · obtain rfl : k = n1 := by omega
      have hlt : N1 - N2 < 65536 ^ k := by omega
      have HL := Lib.hid hlt
      clear hst d1 d2 h1' h2' hl1 hl2 hlt hbo hle
      generalize (if N1 % 65536 ^ k < N2 % 65536 ^ k then (1 : Int) else 0) = bo
      obtain ⟨g, cap, rfl, hg, hgs, hnc, hcm, hcell⟩ := own_form hown hne
      have HC := Lib.hid (row_cells hcell)
      clear hcell hown
      go_wp2_with (go_at_call 113; refine (trim_any _ _ _ (dg 65536 (N1 - N2)) _ (by omega) hnc (fun _ => ⟨g, 0, rfl, fun i hi => by rw [Nat.zero_add]; exact HC.out i hi⟩)).mono ?_; rintro e w2 ⟨rfl, rfl⟩)
      go_ret
      exact ⟨_, _, _, rfl, natAt_of_row HL.out hnc hcm HC.out, hbel⟩
theorem small_any (n : Nat) (w : World) (hn : n ≤ 9000000000000000000) : Calls Tryz.prog 61 #[.int .i64 n] w (Gives .i64 65536 n w) := by
  obtain ⟨i0, hi, hz0, hz1, hz2⟩ := info_parts infoInt
  go_enter Tryz.func61, Tryz.ntmps61
  go_wp2
  go_loopw [0, 3] (fun m out wr => ∃ k : Nat, k ≤ 5 ∧ m = .int .i64 (n / 65536 ^ k : Nat) ∧ (k = 0 ∨ 65536 ^ (k - 1) ≤ n) ∧
      wr.ownsRow w.heap.size 3 1 out k ((List.range k).map (dig n)) ∧ out ≠ .slice none 0 0 ∧ Below w.heap.size w wr)
    (fun m _ _ => (intOf m).toNat)
  case atStart => exact ⟨0, Nat.zero_le _, by simp, .inl rfl, World.ownsRow_made w #[] 0 (Nat.le_refl _) (by simp [maxLen]) rfl, by simp, (Below.refl _ _).alloc (Nat.le_refl _) _⟩
  case round =>
    obtain ⟨k, hk, rfl, htop, hown, hne, hbel⟩ := hrel
    have hq : n / 65536 ^ k ≤ 9000000000000000000 := Nat.le_trans (Nat.div_le_self _ _) hn
    by_cases hpos : 0 < n / 65536 ^ k
    · have hk4 : k + 1 ≤ 5 := by
        have : 65536 ^ k ≤ n := by
          refine Nat.le_of_not_lt fun h => ?_
          rw [Nat.div_eq_of_lt h] at hpos; omega
        refine Nat.lt_of_not_le fun h => ?_
        obtain rfl : k = 5 := by omega
        simp at this; omega
      have ht : 65536 ^ k ≤ n := by
        refine Nat.le_of_not_lt fun h => ?_
        rw [Nat.div_eq_of_lt h] at hpos; omega
      have hd : n / 65536 ^ k % 65536 = dg 65536 n k := rfl
      have hs : n / 65536 ^ (k + 1) = n / 65536 ^ k / 65536 := by rw [Nat.pow_succ, Nat.div_div_eq_div_mul]
      have H1 := Lib.hid hd
      have H2 := Lib.hid hs
      have H3 := Lib.hid ht
      clear hd hs ht
      generalize n / 65536 ^ k = q at *
      go_wp2_with (at_builtin; refine wpList_app1 rfl _ _ 29 rfl w.heap.size 3 i0 _ 8 Tryz.underlying29 hi hz0 hz1 hz2 rfl (by decide) _ _ _ _ rfl rfl rfl hown rfl (by omega) (hbel).size ?_; intro v' w1 hown1 hbel1 hne1)
      have hown1 : w1.ownsRow w.heap.size 3 1 v' (k + 1) ((List.range (k + 1)).map (dig n)) := by
        rw [map_range_succ, dig, ← H1.out]; exact hown1
      go_roundw
      case rel => exact ⟨k + 1, hk4, by rw [H2.out]; rfl, .inr H3.out, hown1, hne1, hbel.trans hbel1⟩
      case measure => simp [intOf]; omega
    · have h0 : n / 65536 ^ k = 0 := Nat.eq_zero_of_not_pos hpos
      rw [h0]
      have hlt : n < 65536 ^ k := by
        refine Nat.lt_of_not_le fun h => ?_
        have := Nat.div_pos h (Nat.pow_pos (by decide))
        omega
      have HL := Lib.hid hlt
      have HT := Lib.hid htop
      clear hlt htop h0 hpos hq
      go_wp2
      obtain ⟨g, cap, rfl, hg, hgs, hnc, hcm, hcell⟩ := own_form hown hne
      have HC := Lib.hid (row_cells hcell)
      go_ret
      exact ⟨_, _, _, rfl, ⟨HL.out, HT.out, hnc, hcm, fun _ => ⟨g, 0, rfl, fun i hi => by rw [Nat.zero_add]; exact HC.out i hi⟩⟩, hbel⟩
def cmpI (X Y : Nat) : Int := if X < Y then -1 else if Y < X then 1 else 0
theorem cmp_any (a1 a2 : Option Addr) (n1 n2 c1 c2 N1 N2 : Nat) (w : World) (h1 : NatAt w a1 n1 c1 N1) (h2 : NatAt w a2 n2 c2 N2) (hb1 : n1 ≤ 1000000) (hb2 : n2 ≤ 1000000) :
    Calls Tryz.prog 53 #[.slice a1 n1 c1, .slice a2 n2 c2] w fun e w' => e = .returned (.int .i64 (cmpI N1 N2)) ∧ ∃ m, w' = w.drewN m := by
  rcases Nat.lt_trichotomy n1 n2 with hlt | heq | hgt
  · have hr : cmpI N1 N2 = -1 := if_pos (lt_of_len (by decide) h1.lt h2.top hlt)
    rw [hr]
    go_enter Tryz.func53, Tryz.ntmps53
    go_wp2
    go_ret
    exact ⟨rfl, 0, rfl⟩
  · subst heq
    go_enter Tryz.func53, Tryz.ntmps53
    go_wp2
    go_loopw [5] (fun i wr => ∃ m : Nat, m ≤ n1 ∧ i = .int .i64 ((m : Int) - 1) ∧ N1 / 65536 ^ m = N2 / 65536 ^ m ∧ ∃ q, wr = w.drewN q) (fun i _ => (intOf i + 1).toNat)
    case atStart => exact ⟨n1, Nat.le_refl _, rfl, by rw [Nat.div_eq_of_lt h1.lt, Nat.div_eq_of_lt h2.lt], 0, rfl⟩
    case round =>
      obtain ⟨m, hm, rfl, heq, q, rfl⟩ := hrel
      by_cases h0 : 0 < m
      · obtain ⟨k, rfl⟩ : ∃ k, m = k + 1 := ⟨m - 1, by omega⟩
        obtain ⟨b1, o1, rfl, _⟩ := h1.form (by omega)
        obtain ⟨b2, o2, rfl, _⟩ := h2.form (by omega)
        have e1 := h1.cell (i := k) (by omega)
        have e2 := h2.cell (i := k) (by omega)
        have HE := Lib.hid heq
        have hk : ((k + 1 : Nat) : Int) - 1 = k := by omega
        rw [hk]
        clear heq hk h1 h2
        rcases Nat.lt_trichotomy (dg 65536 N1 k) (dg 65536 N2 k) with hl | he | hg
        · have hr : cmpI N1 N2 = -1 := if_pos (lt_of_cut HE.out hl)
          have HR := Lib.hid hr
          clear hr
          have hb : decide ((dg 65536 N1 k : Int) < dg 65536 N2 k) = true := by simpa using hl
          generalize dg 65536 N1 k = x1 at *
          generalize dg 65536 N2 k = x2 at *
          go_wp2
          go_quiet (fail)
          go_wp2
          go_ret
          exact ⟨ret_int HR.out.symm, drewN_ex (by (try simp only [World.drewN_drewN]); exact rfl)⟩
        · have HEQ := Lib.hid (eq_of_cut HE.out he)
          generalize dg 65536 N1 k = x1 at *
          generalize dg 65536 N2 k = x2 at *
          subst he
          go_wp2
          go_quiet (fail)
          go_wp2
          go_quiet (fail)
          go_wp2
          go_roundw
          case rel => exact ⟨k, by omega, rfl, HEQ.out, drewN_ex (by (try simp only [World.drewN_drewN]); exact rfl)⟩
          case measure => simp [intOf]
        · have hr : cmpI N1 N2 = 1 := by
            have h := lt_of_cut HE.out.symm hg
            rw [cmpI, if_neg (by omega), if_pos h]
          have HR := Lib.hid hr
          clear hr
          have hb : decide ((dg 65536 N1 k : Int) < dg 65536 N2 k) = false := by simp; omega
          generalize dg 65536 N1 k = x1 at *
          generalize dg 65536 N2 k = x2 at *
          go_wp2
          go_quiet (fail)
          go_wp2
          go_quiet (fail)
          go_wp2
          go_ret
          exact ⟨ret_int HR.out.symm, drewN_ex (by (try simp only [World.drewN_drewN]); exact rfl)⟩
      · obtain rfl : m = 0 := by omega
        have hr : cmpI N1 N2 = 0 := by
          simp at heq
          rw [cmpI, if_neg (by omega), if_neg (by omega)]
        have HR := Lib.hid hr
        clear hr heq
        go_wp2
        go_ret
        exact ⟨ret_int HR.out.symm, drewN_ex (by (try simp only [World.drewN_drewN]); exact rfl)⟩
  · have h := lt_of_len (by decide) h2.lt h1.top hgt
    have hr : cmpI N1 N2 = 1 := by rw [cmpI, if_neg (by omega), if_pos h]
    rw [hr]
    go_enter Tryz.func53, Tryz.ntmps53
    go_wp2
    go_ret
    exact ⟨rfl, 0, rfl⟩
end Go.Proofs.YtececkbcinmmpaaGreatDoor
