/-
  Contracts and lemmas: RcmpA StkB StkC StkD StkE ShP.
-/
import Derived.Defers
import Derived.Test.YtgmienggfaahlaaGreatDoorK11
import Derived.Test.YtgmienggfaahlaaGreatDoorK04
import Derived.Test.YtgmienggfaahlaaGreatDoorK07
import Derived.Test.YtgmienggfaahlaaGreatDoorK05
set_option linter.unusedSimpArgs false
set_option linter.unusedVariables false
set_option maxRecDepth 100000
set_option maxHeartbeats 8000000
namespace Go.Proofs.YtgmienggfaahlaaGreatDoor
open Go.RowKit Go.Bg Dg
theorem getStack_any (w : World) : Calls Tryz.prog 151 #[] w fun e w' => e = .returned (.pointer (some ⟨w.heap.size, 0, none⟩)) ∧ w' = w.alloc (.cells #[.pointer none] 225) := by
  go_enter Tryz.func151, Tryz.ntmps151
  go_wp2
  go_ret
  exact ⟨rfl, rfl⟩
theorem free_d (g : Nat) (u : FrameMode) (w : World) (h : w.cell? ⟨g, 0, none⟩ = some (.pointer none)) :
    CallsD Tryz.prog 152 #[.pointer (some ⟨g, 0, none⟩)] u w fun e u' w' => u' = u ∧ (e = .returned (.tuple #[]) ∧ w' = w) := by
  go_enter_d Tryz.func152, Tryz.ntmps152
  go_wp2
  go_end0
  exact ⟨rfl, rfl⟩
def SetTo (d p : Nat) (s : Bool) (R : Nat) (w : World) (e : Ending) (w' : World) : Prop := e = .returned (.tuple #[]) ∧ BigAt 155 w' d p s R ∧ UpdI 155 d p w w'
theorem scaleDenom_new (d p b o : Nat) (s : Bool) (N : Nat) (af : Option Addr) (nf cf F : Nat) (q : Value) (w : World) (hK : Thr w) (h : NewInt w d p) (h1 : BigAt 155 w b o s N) (h2 : BigN 155 w af nf cf F) (hF : 0 < F) (hne : b ≠ d) (L : Nat) (hL : L < 40) (hN : N < W64 ^ L) (hFL : F < W64 ^ L) :
    Calls Tryz.prog 153 #[.pointer (some ⟨d, p, none⟩), q, .pointer (some ⟨b, o, none⟩), .slice af nf cf] w (SetTo d p s (N * F) w) := by
  obtain ⟨a, n, c, p0, p1, hNN⟩ := h1.val
  have hn : n ≤ L := len_le W64_gt hNN.num.top hN
  have hnf : nf ≤ L := len_le W64_gt h2.num.top hFL
  have hnf0 : ((nf : Int) == 0) = false := by
    have hp := natAt_pos_len h2.num
    have : 0 < nf := by simpa [hF] using hp
    simp; omega
  have hcm := h2.num.cm
  have hnc := h2.num.nc
  have HZ := Lib.hid (show s = true → 0 < N * F from fun hs => Nat.mul_pos (h1.zero hs) hF)
  have HH := Lib.hid h
  have HN := Lib.hid hNN
  have H2 := Lib.hid h2
  have HK := Lib.hid hK
  have HP0 := Lib.hid p0
  have k1 := h.c1
  clear h h1 hNN hN p0 h2 hK
  go_enter Tryz.func153, Tryz.ntmps153
  go_upto_region 2 with fail
  have hd0 : ∀ q, Below w.heap.size w (w.drewN q) := fun q => below_drewN (Below.refl w.heap.size w) q
  go_region_with
    ((go_at_call 199; (with_reducible refine (natMul_nil a af n nf c cf N F _ ?_ ?_ ?_ (by omega) (by omega) (.inl (by omega)) q).mono ?_); exact HK.out.keep (hd0 _); exact HN.out.keep (hd0 _); exact H2.out.keep (hd0 _); rintro e w1 ⟨a2, n2, c2, rfl, hN2, hB⟩; have hB1 := Below.then (hd0 _) (Nat.le_refl _) hB; have HF := Lib.hid (HH.out.made hB1 (s := s) hN2 HZ.out); have h' := HH.out.keep hB1; obtain ⟨u0, k0⟩ := h'.c0; have k1' := h'.c1; have f0 := h'.blk.frozen p; have f1 := h'.blk.frozen (p + 1); have k0' : ∀ v, (w1.setCell ⟨d, p + 1, none⟩ v).cell? ⟨d, p, none⟩ = some u0 := (fun v => by rw [World.cell?_setCell_other _ _ _ _ (fun hh => by injection hh with _ hh _; omega)]; exact k0); have x0' : ∀ v, (w1.setCell ⟨d, p + 1, none⟩ v).cell? ⟨b, o, none⟩ = some (.bool s) := (fun v => by rw [World.cell?_setCell_other _ _ _ _ (fun hh => by injection hh with hh _ _; exact hne hh.symm)]; exact cell_keep HP0.out hB1); clear hN2 h'))
  all_goals
    clear p1 k1
    go_wp2
    go_end0
    exact ⟨rfl, HF.out.2⟩
end Go.Proofs.YtgmienggfaahlaaGreatDoor
namespace Go.Bg
open Go.RowKit Dg
def nr4 (n : Nat) : Nat := 4 * ((n + 3) / 4)
theorem nr4_ge (n : Nat) : n ≤ nr4 n := by unfold nr4; omega
theorem nr4_le (n : Nat) : nr4 n ≤ n + 3 := by unfold nr4; omega
theorem andn_three (x : Nat) : andn x 3 = 4 * (x / 4) := by
  apply Nat.eq_of_testBit_eq
  intro i
  unfold andn
  rw [Nat.testBit_xor, Nat.testBit_and, show (3 : Nat) = 2 ^ 2 - 1 from rfl, Nat.testBit_two_pow_sub_one, show (4 : Nat) * (x / 4) = 2 ^ 2 * (x / 2 ^ 2) from rfl, Nat.testBit_two_pow_mul, Nat.testBit_div_two_pow]
  by_cases h : i < 2
  · rw [decide_eq_true h, decide_eq_false (show ¬ i ≥ 2 from by omega)]; simp
  · rw [decide_eq_false h, decide_eq_true (show i ≥ 2 from by omega), show i - 2 + 2 = i from by omega]; simp
end Go.Bg
namespace Go.Proofs.YtgmienggfaahlaaGreatDoor
open Go.RowKit Go.Bg Dg
theorem bits_round4 (n : Nat) (hn : n ≤ 1000000) : bits .andNot .i64 ((n : Int) + 3) 3 = ((nr4 n : Nat) : Int) := by
  have h := bits_andn_i64 (a := (n : Int) + 3) (b := 3) (by unfold fit64; simp; omega) (by decide)
  rw [h]
  have e : jz andnT ((n : Int) + 3) 3 = sg (andnT false false) (jmag andnT false false (n + 3) 3) := by
    unfold jz
    rw [decide_eq_false (show ¬ ((n : Int) + 3 < 0) from by omega), decide_eq_false (show ¬ ((3 : Int) < 0) from by omega), show ((n : Int) + 3).natAbs = n + 3 from by omega]
    rfl
  rw [e, jmag_andn00, andn_three]
  rfl
theorem innerSave_any (ib : Nat) (a : Option Addr) (l c : Nat) (w : World) (h : w.cell? ⟨ib, 0, none⟩ = some (.slice a l c)) :
    Calls Tryz.prog 269 #[.pointer (some ⟨ib, 0, none⟩)] w fun e w' => e = .returned (.int .i64 l) ∧ w = w' := by
  go_enter Tryz.func269, Tryz.ntmps269
  go_wp2
  go_ret
  exact ⟨rfl, rfl⟩
theorem save_none (sb : Nat) (w : World) (h : w.cell? ⟨sb, 0, none⟩ = some (.pointer none)) :
    Calls Tryz.prog 233 #[.pointer (some ⟨sb, 0, none⟩)] w fun e w' => e = .returned (.int .i64 0) ∧ w = w' := by
  go_enter Tryz.func233, Tryz.ntmps233
  go_wp2
  go_ret
  exact ⟨rfl, rfl⟩
theorem save_has (sb ib : Nat) (a : Option Addr) (l c : Nat) (w : World) (h : w.cell? ⟨sb, 0, none⟩ = some (.pointer (some ⟨ib, 0, none⟩))) (h2 : w.cell? ⟨ib, 0, none⟩ = some (.slice a l c)) :
    Calls Tryz.prog 233 #[.pointer (some ⟨sb, 0, none⟩)] w fun e w' => e = .returned (.int .i64 l) ∧ w = w' := by
  have HS := Lib.hid (innerSave_any ib a l c w h2)
  clear h2
  go_enter Tryz.func233, Tryz.ntmps233
  go_wp2_with fail
  refine HS.out.mono ?_
  rintro e w1 ⟨rfl, rfl⟩
  go_wp2
  go_ret
  exact ⟨rfl, rfl⟩
theorem innerRestore_any (ib n : Nat) (a : Option Addr) (l c : Nat) (w : World) (h : BlkAt w ib #[.slice a l c] 258) (hn : n ≤ c) (hc : c ≤ 9223372036854775807) :
    Calls Tryz.prog 268 #[.pointer (some ⟨ib, 0, none⟩), .int .i64 n] w fun e w' => e = .returned (.tuple #[]) ∧ w' = w.setCell ⟨ib, 0, none⟩ (.slice a n c) := by
  have h0 := h.cell 0
  simp only [List.getElem?_toArray, List.getElem?_cons_zero] at h0
  have f0 := h.frozen 0
  have hni : (n : Int) ≤ c := by omega
  clear h
  go_enter Tryz.func268, Tryz.ntmps268
  go_wp2
  go_end0
  exact ⟨rfl, rfl⟩
theorem restore_none_d (sb n : Nat) (u : FrameMode) (w : World) (h : w.cell? ⟨sb, 0, none⟩ = some (.pointer none)) :
    CallsD Tryz.prog 232 #[.pointer (some ⟨sb, 0, none⟩), .int .i64 n] u w fun e u' w' => u' = u ∧ (e = .returned (.tuple #[]) ∧ w' = w) := by
  go_enter_d Tryz.func232, Tryz.ntmps232
  go_wp2
  exact bodyPost_ret (results_none (by kernel_rfl) _ _ _) rfl ⟨rfl, rfl⟩
theorem restore_has_d (sb ib n : Nat) (a : Option Addr) (l c : Nat) (u : FrameMode) (w : World) (h : w.cell? ⟨sb, 0, none⟩ = some (.pointer (some ⟨ib, 0, none⟩))) (h2 : BlkAt w ib #[.slice a l c] 258) (hn : n ≤ c) (hc : c ≤ 9223372036854775807) :
    CallsD Tryz.prog 232 #[.pointer (some ⟨sb, 0, none⟩), .int .i64 n] u w fun e u' w' => u' = u ∧ (e = .returned (.tuple #[]) ∧ w' = w.setCell ⟨ib, 0, none⟩ (.slice a n c)) := by
  have HR := Lib.hid (innerRestore_any ib n a l c w h2 hn hc)
  clear h2
  go_enter_d Tryz.func232, Tryz.ntmps232
  go_wp2_with fail
  refine HR.out.mono ?_
  rintro e w1 ⟨rfl, rfl⟩
  go_wp2
  exact ⟨rfl, _, results_none (by kernel_rfl) _ _ _, rfl, rfl⟩
def HandNew (ib n : Nat) (w : World) (e : Ending) (w' : World) : Prop :=
  ∃ (c g : Nat) (cur : Array Value), g = w.heap.size ∧ e = .returned (.slice (some ⟨g, 0, none⟩) n n) ∧ BlkAt w' g cur 155 ∧ cur.size = c ∧ nr4 n ≤ c ∧ c ≤ maxLen ∧ BlkAt w' ib #[.slice (some ⟨g, 0, none⟩) (nr4 n) c] 258 ∧ Upd (· = ib) w w'
theorem innerNat_new (ib n : Nat) (w : World) (hn1 : 1 ≤ n) (hn : n ≤ 100000) (h : BlkAt w ib #[.slice none 0 0] 258) :
    Calls Tryz.prog 271 #[.pointer (some ⟨ib, 0, none⟩), .int .i64 n] w (HandNew ib n w) := by
  have hbt := bits_round4 n (by omega)
  have hm1 := nr4_ge n
  have hm2 := nr4_le n
  have HB := Lib.hid h
  have hlt := h.lt
  have h0 := h.cell 0
  simp only [List.getElem?_toArray, List.getElem?_cons_zero] at h0
  have f0 := h.frozen 0
  have HG := Lib.hid (fun w' => growW_nil (nr4 n) (by omega) (by omega) w')
  have HM := Lib.hid (show nr4 n = nr4 n from rfl)
  clear h
  unfold HandNew
  generalize nr4 n = m at *
  have hsum : IntKind.i64.wrap ((n : Int) + 3) = (n : Int) + 3 := by rw [IntKind.wrap_i64]; omega
  go_enter Tryz.func271, Tryz.ntmps271
  go_wp2_with fail
  refine (HG.out _).mono ?_
  rintro e w1 ⟨c, cur, hc1, hc2, hcs, rfl, hw1⟩
  obtain ⟨g, hg⟩ : ∃ g, g = w.heap.size := ⟨_, rfl⟩
  have hgn : g ≠ ib := by omega
  rw [← hg]
  have HBel := Lib.hid (show Below w.heap.size w w1 from by rw [hw1]; exact Below.alloc' (Below.refl _ _).drew _)
  have HK := Lib.hid (show BlkAt w1 g cur 155 from by rw [hw1, hg]; exact BlkAt.new _ _ _)
  have HI := Lib.hid (HB.out.keep HBel.out)
  have k0 := cell_keep h0 HBel.out
  have fi0 := HI.out.frozen 0
  obtain ⟨v, hv⟩ : ∃ v, cur[0]? = some v := ⟨cur[0]'(by omega), by rw [Array.getElem?_eq_getElem]⟩
  have g0 : ∀ x y, ((w1.setCell ⟨ib, 0, none⟩ x).setCell ⟨ib, 0, none⟩ y).cell? ⟨g, 0, none⟩ = some v := fun x y => by
    rw [cell?_setCell_ne hgn, cell?_setCell_ne hgn, HK.out.cell, hv]
  have gf0 := HK.out.frozen 0
  unfold maxLen at hc2
  have HGE := Lib.hid hg
  have hge : w.heap.size ≤ g := by omega
  clear hw1 h0 f0 HG hg
  go_wp2
  go_ret
  have HK2 := Upd.blk ((Upd.set1 w1 ib 0 (.slice (some ⟨g, 0, none⟩) 0 c)).trans (Upd.set1 _ ib 0 (.slice (some ⟨g, 0, none⟩) m c))) HK.out hgn
  have HI2 := (HI.out.set 0 (.slice (some ⟨g, 0, none⟩) 0 c)).set 0 (.slice (some ⟨g, 0, none⟩) m c)
  refine ⟨c, g, _, HGE.out, rfl, HK2.set 0 _, by simp [hcs], hc1, hc2, ?_, ?_⟩
  · exact Upd.blk (Upd.set1 _ g 0 _) (by simpa using HI2) (fun h => hgn h.symm)
  · exact (((Upd.of_below HBel.out).trans (Upd.set1 _ _ _ _)).trans (Upd.set1 _ _ _ _)).setNew (by omega) _
def HandOn (ib g l n : Nat) (cur : Array Value) (w : World) (e : Ending) (w' : World) : Prop :=
  ∃ (c g' : Nat) (cur' : Array Value), e = .returned (.slice (some ⟨g', l, none⟩) n n) ∧ BlkAt w' g' cur' 155 ∧ cur'.size = c ∧ l + nr4 n ≤ c ∧ c ≤ maxLen ∧ BlkAt w' ib #[.slice (some ⟨g', 0, none⟩) (l + nr4 n) c] 258 ∧
    ((g' = g ∧ cur'.size = cur.size ∧ (∀ i, i < l → cur'[i]? = cur[i]?) ∧ Upd (fun k => k = ib ∨ k = g) w w') ∨ (g' = w.heap.size ∧ Upd (· = ib) w w'))
theorem innerNat_on (ib g l c n : Nat) (cur : Array Value) (w : World) (hn1 : 1 ≤ n) (hn : n ≤ 100000) (hl : l ≤ 100000) (h : BlkAt w ib #[.slice (some ⟨g, 0, none⟩) l c] 258) (hg : BlkAt w g cur 155) (hcs : cur.size = c) (hlc : l ≤ c) (hcm : c ≤ maxLen) (hl0 : 0 < l) :
    Calls Tryz.prog 271 #[.pointer (some ⟨ib, 0, none⟩), .int .i64 n] w (HandOn ib g l n cur w) := by
  have hbt := bits_round4 n (by omega)
  have hm1 := nr4_ge n
  have hm2 := nr4_le n
  have HB := Lib.hid h
  have HGB := Lib.hid hg
  have hlt := h.lt
  have hglt := hg.lt
  have h0 := h.cell 0
  simp only [List.getElem?_toArray, List.getElem?_cons_zero] at h0
  have f0 := h.frozen 0
  have hne : g ≠ ib := fun e => by
    subst e
    have h1 := h
    unfold BlkAt at h1 hg
    rw [h1] at hg
    injection hg with hg
    injection hg with _ h2 _
    exact absurd h2 (by decide)
  have hsum : IntKind.i64.wrap ((n : Int) + 3) = (n : Int) + 3 := by rw [IntKind.wrap_i64]; omega
  by_cases hr : l + nr4 n ≤ c
  · have HR := Lib.hid (fun w' => growW_room (some ⟨g, 0, none⟩) l c (nr4 n) w' hlc hcm hr)
    unfold HandOn
    have hmx := hcm
    unfold maxLen at hmx
    have HCS := Lib.hid hcs
    clear h hg hcs
    generalize nr4 n = m at *
    obtain ⟨v, hv⟩ : ∃ v, cur[l]? = some v := ⟨cur[l]'(by have := HCS.out; omega), by rw [Array.getElem?_eq_getElem]⟩
    have g0 : ∀ x y, ((w.setCell ⟨ib, 0, none⟩ x).setCell ⟨ib, 0, none⟩ y).cell? ⟨g, l, none⟩ = some v := fun x y => by
      rw [cell?_setCell_ne hne, cell?_setCell_ne hne, HGB.out.cell, hv]
    have gf0 := HGB.out.frozen l
    have hl0' : ¬ (l : Int) = 0 := by omega
    have hln : l + n - l = n := by omega
    have hcl : ¬ c = l := by omega
    have hlm : ((l : Int) + m) ≤ c := by omega
    go_enter Tryz.func271, Tryz.ntmps271
    go_wp2_with fail
    refine (HR.out _).mono ?_
    rintro e w1 ⟨rfl, rfl⟩
    go_wp2
    go_ret
    have HK2 := Upd.blk ((Upd.set1 w1 ib 0 (.slice (some ⟨g, 0, none⟩) l c)).trans (Upd.set1 _ ib 0 (.slice (some ⟨g, 0, none⟩) (l + m) c))) HGB.out hne
    have HI2 := (HB.out.set 0 (.slice (some ⟨g, 0, none⟩) l c)).set 0 (.slice (some ⟨g, 0, none⟩) (l + m) c)
    refine ⟨c, g, _, (show Ending.returned (.slice (some ⟨g, l, none⟩) (l + n - l) (l + n - l)) = _ from by rw [hln]), HK2.set l _, by simp [HCS.out], hr, hcm, ?_, .inl ⟨rfl, by simp, ?_, ?_⟩⟩
    · exact Upd.blk (Upd.set1 _ g l _) (by simpa using HI2) (fun h => hne h.symm)
    · intro i hi
      rw [Array.getElem?_setIfInBounds, if_neg (by omega)]
    · exact (((Upd.refl _ _).setCell (p := ⟨ib, 0, none⟩) (.inl rfl) _).setCell (p := ⟨ib, 0, none⟩) (.inl rfl) _).setCell (p := ⟨g, l, none⟩) (.inr rfl) _
  · have HR := Lib.hid (fun w' hg' => growW_onto g l c (nr4 n) cur w' hg' hcs hlc (by omega) (by omega))
    have HG' := HGB
    unfold HandOn
    have HCS := Lib.hid hcs
    have hrr : c < l + nr4 n := by omega
    clear h hg hcs hr
    generalize nr4 n = m at *
    have hl0' : ¬ (l : Int) = 0 := by omega
    have hln : l + n - l = n := by omega
    go_enter Tryz.func271, Tryz.ntmps271
    go_wp2_with fail
    refine (HR.out _ HG'.out).mono ?_
    rintro e w1 ⟨c', cur', hc1, hc2, hcs', rfl, hw1⟩
    obtain ⟨g', hg'⟩ : ∃ g', g' = w.heap.size := ⟨_, rfl⟩
    have hgn : g' ≠ ib := by omega
    rw [← hg']
    have HBel := Lib.hid (show Below w.heap.size w w1 from by rw [hw1]; exact Below.alloc' (Below.refl _ _).drew _)
    have HK := Lib.hid (show BlkAt w1 g' cur' 155 from by rw [hw1, hg']; exact BlkAt.new _ _ _)
    have HI := Lib.hid (HB.out.keep HBel.out)
    have k0 := cell_keep h0 HBel.out
    have fi0 := HI.out.frozen 0
    obtain ⟨v, hv⟩ : ∃ v, cur'[l]? = some v := ⟨cur'[l]'(by omega), by rw [Array.getElem?_eq_getElem]⟩
    have g0 : ∀ x y, ((w1.setCell ⟨ib, 0, none⟩ x).setCell ⟨ib, 0, none⟩ y).cell? ⟨g', l, none⟩ = some v := fun x y => by
      rw [cell?_setCell_ne hgn, cell?_setCell_ne hgn, HK.out.cell, hv]
    have gf0 := HK.out.frozen l
    have hc2' := hc2
    unfold maxLen at hc2
    have hcl : ¬ c' = l := by omega
    have hlm : ((l : Int) + m) ≤ c' := by omega
    have HGE := Lib.hid hg'
    have hge : w.heap.size ≤ g' := by omega
    clear hw1 h0 f0 HR hg'
    go_wp2
    go_ret
    have HK2 := Upd.blk ((Upd.set1 w1 ib 0 (.slice (some ⟨g', 0, none⟩) l c')).trans (Upd.set1 _ ib 0 (.slice (some ⟨g', 0, none⟩) (l + m) c'))) HK.out hgn
    have HI2 := (HI.out.set 0 (.slice (some ⟨g', 0, none⟩) l c')).set 0 (.slice (some ⟨g', 0, none⟩) (l + m) c')
    refine ⟨c', g', _, (show Ending.returned (.slice (some ⟨g', l, none⟩) (l + n - l) (l + n - l)) = _ from by rw [hln]), HK2.set l _, by simp [hcs'], hc1, hc2', ?_, .inr ⟨HGE.out, ?_⟩⟩
    · exact Upd.blk (Upd.set1 _ g' l _) (by simpa using HI2) (fun h => hgn h.symm)
    · exact (((Upd.of_below HBel.out).trans (Upd.set1 _ _ _ _)).trans (Upd.set1 _ _ _ _)).setNew (by omega) _
theorem innerNat_on0 (ib g c n : Nat) (cur : Array Value) (w : World) (hn1 : 1 ≤ n) (hn : n ≤ 100000) (h : BlkAt w ib #[.slice (some ⟨g, 0, none⟩) 0 c] 258) (hg : BlkAt w g cur 155) (hcs : cur.size = c) (hcm : c ≤ maxLen) :
    Calls Tryz.prog 271 #[.pointer (some ⟨ib, 0, none⟩), .int .i64 n] w (HandOn ib g 0 n cur w) := by
  have hbt := bits_round4 n (by omega)
  have hm1 := nr4_ge n
  have hm2 := nr4_le n
  have HB := Lib.hid h
  have HGB := Lib.hid hg
  have hlt := h.lt
  have hglt := hg.lt
  have h0 := h.cell 0
  simp only [List.getElem?_toArray, List.getElem?_cons_zero] at h0
  have f0 := h.frozen 0
  have hne : g ≠ ib := fun e => by
    subst e
    have h1 := h
    unfold BlkAt at h1 hg
    rw [h1] at hg
    injection hg with hg
    injection hg with _ h2 _
    exact absurd h2 (by decide)
  have hsum : IntKind.i64.wrap ((n : Int) + 3) = (n : Int) + 3 := by rw [IntKind.wrap_i64]; omega
  by_cases hr : nr4 n ≤ c
  · have HR := Lib.hid (fun w' => growW_room (some ⟨g, 0, none⟩) 0 c (nr4 n) w' (Nat.zero_le _) hcm (by omega))
    unfold HandOn
    have hmx := hcm
    unfold maxLen at hmx
    have HCS := Lib.hid hcs
    clear h hg hcs
    generalize nr4 n = m at *
    obtain ⟨v, hv⟩ : ∃ v, cur[0]? = some v := ⟨cur[0]'(by have := HCS.out; omega), by rw [Array.getElem?_eq_getElem]⟩
    have g0 : ∀ x y, ((w.setCell ⟨ib, 0, none⟩ x).setCell ⟨ib, 0, none⟩ y).cell? ⟨g, 0, none⟩ = some v := fun x y => by
      rw [cell?_setCell_ne hne, cell?_setCell_ne hne, HGB.out.cell, hv]
    have gf0 := HGB.out.frozen 0
    go_enter Tryz.func271, Tryz.ntmps271
    go_wp2_with fail
    refine (HR.out _).mono ?_
    rintro e w1 ⟨rfl, rfl⟩
    go_wp2
    go_ret
    have HK2 := Upd.blk ((Upd.set1 w1 ib 0 (.slice (some ⟨g, 0, none⟩) 0 c)).trans (Upd.set1 _ ib 0 (.slice (some ⟨g, 0, none⟩) m c))) HGB.out hne
    have HI2 := (HB.out.set 0 (.slice (some ⟨g, 0, none⟩) 0 c)).set 0 (.slice (some ⟨g, 0, none⟩) m c)
    refine ⟨c, g, _, rfl, HK2.set 0 _, by simp [HCS.out], by omega, hcm, ?_, .inl ⟨rfl, by simp, fun i hi => by omega, ?_⟩⟩
    · rw [Nat.zero_add]
      exact Upd.blk (Upd.set1 _ g 0 _) (by simpa using HI2) (fun h => hne h.symm)
    · exact (((Upd.refl _ _).setCell (p := ⟨ib, 0, none⟩) (.inl rfl) _).setCell (p := ⟨ib, 0, none⟩) (.inl rfl) _).setCell (p := ⟨g, 0, none⟩) (.inr rfl) _
  · have HR := Lib.hid (fun w' hg' => growW_onto g 0 c (nr4 n) cur w' hg' hcs (Nat.zero_le _) (by omega) (by omega))
    have HG' := HGB
    unfold HandOn
    have HCS := Lib.hid hcs
    have hrr : c < 0 + nr4 n := by omega
    clear h hg hcs hr
    generalize nr4 n = m at *
    go_enter Tryz.func271, Tryz.ntmps271
    go_wp2_with fail
    refine (HR.out _ HG'.out).mono ?_
    rintro e w1 ⟨c', cur', hc1, hc2, hcs', rfl, hw1⟩
    obtain ⟨g', hg'⟩ : ∃ g', g' = w.heap.size := ⟨_, rfl⟩
    have hgn : g' ≠ ib := by omega
    rw [← hg']
    have HBel := Lib.hid (show Below w.heap.size w w1 from by rw [hw1]; exact Below.alloc' (Below.refl _ _).drew _)
    have HK := Lib.hid (show BlkAt w1 g' cur' 155 from by rw [hw1, hg']; exact BlkAt.new _ _ _)
    have HI := Lib.hid (HB.out.keep HBel.out)
    have k0 := cell_keep h0 HBel.out
    have fi0 := HI.out.frozen 0
    obtain ⟨v, hv⟩ : ∃ v, cur'[0]? = some v := ⟨cur'[0]'(by omega), by rw [Array.getElem?_eq_getElem]⟩
    have g0 : ∀ x y, ((w1.setCell ⟨ib, 0, none⟩ x).setCell ⟨ib, 0, none⟩ y).cell? ⟨g', 0, none⟩ = some v := fun x y => by
      rw [cell?_setCell_ne hgn, cell?_setCell_ne hgn, HK.out.cell, hv]
    have gf0 := HK.out.frozen 0
    have hc2' := hc2
    unfold maxLen at hc2
    have HGE := Lib.hid hg'
    have hge : w.heap.size ≤ g' := by omega
    clear hw1 h0 f0 HR hg'
    go_wp2
    go_ret
    have HK2 := Upd.blk ((Upd.set1 w1 ib 0 (.slice (some ⟨g', 0, none⟩) 0 c')).trans (Upd.set1 _ ib 0 (.slice (some ⟨g', 0, none⟩) m c'))) HK.out hgn
    have HI2 := (HI.out.set 0 (.slice (some ⟨g', 0, none⟩) 0 c')).set 0 (.slice (some ⟨g', 0, none⟩) m c')
    refine ⟨c', g', _, rfl, HK2.set 0 _, by simp [hcs'], hc1, hc2', ?_, .inr ⟨HGE.out, ?_⟩⟩
    · rw [Nat.zero_add]
      exact Upd.blk (Upd.set1 _ g' 0 _) (by simpa using HI2) (fun h => hgn h.symm)
    · exact (((Upd.of_below HBel.out).trans (Upd.set1 _ _ _ _)).trans (Upd.set1 _ _ _ _)).setNew (by omega) _
theorem innerNat_all (ib g l c n : Nat) (cur : Array Value) (w : World) (hn1 : 1 ≤ n) (hn : n ≤ 100000) (hl : l ≤ 100000) (h : BlkAt w ib #[.slice (some ⟨g, 0, none⟩) l c] 258) (hg : BlkAt w g cur 155) (hcs : cur.size = c) (hlc : l ≤ c) (hcm : c ≤ maxLen) :
    Calls Tryz.prog 271 #[.pointer (some ⟨ib, 0, none⟩), .int .i64 n] w (HandOn ib g l n cur w) := by
  rcases Nat.eq_zero_or_pos l with rfl | h0
  · exact innerNat_on0 ib g c n cur w hn1 hn h hg hcs hcm
  · exact innerNat_on ib g l c n cur w hn1 hn hl h hg hcs hlc hcm h0
def StkAt (w : World) (sb : Nat) (st : Option (Nat × Nat)) (l : Nat) : Prop :=
  match st with
  | none => l = 0 ∧ BlkAt w sb #[.pointer none] 225
  | some (ib, g) => ∃ c cur, BlkAt w sb #[.pointer (some ⟨ib, 0, none⟩)] 225 ∧ BlkAt w ib #[.slice (some ⟨g, 0, none⟩) l c] 258 ∧ BlkAt w g cur 155 ∧ cur.size = c ∧ l ≤ c ∧ c ≤ maxLen
def StkBlk (sb : Nat) (st : Option (Nat × Nat)) (k : Nat) : Prop := k = sb ∨ ∃ ib g, st = some (ib, g) ∧ (k = ib ∨ k = g)
theorem words_ne {w : World} {a b : Nat} {cur cur' : Array Value} {T : TypeId} (h : BlkAt w a cur 155) (h' : BlkAt w b cur' T) (hT : T ≠ 155) : a ≠ b := fun e => by
  subst e
  unfold BlkAt at h h'
  rw [h] at h'
  injection h' with h'
  injection h' with _ h2 _
  exact hT h2.symm
theorem StkAt.keep {w w' : World} {sb : Nat} {st : Option (Nat × Nat)} {l : Nat} (h : StkAt w sb st l) (hb : Below w.heap.size w w') : StkAt w' sb st l := by
  rcases st with _ | ⟨ib, g⟩
  · exact ⟨h.1, h.2.keep hb⟩
  · obtain ⟨c, cur, h1, h2, h3, h4⟩ := h
    exact ⟨c, cur, h1.keep hb, h2.keep hb, h3.keep hb, h4⟩
theorem StkAt.lt {w : World} {sb : Nat} {st : Option (Nat × Nat)} {l : Nat} (h : StkAt w sb st l) {k : Nat} (hk : StkBlk sb st k) : k < w.heap.size := by
  rcases st with _ | ⟨ib, g⟩
  · rcases hk with rfl | ⟨_, _, h', _⟩
    · exact h.2.lt
    · cases h'
  · obtain ⟨c, cur, h1, h2, h3, h4⟩ := h
    rcases hk with rfl | ⟨_, _, h', h''⟩
    · exact h1.lt
    · injection h' with h'
      injection h' with e1 e2
      subst e1 e2
      rcases h'' with rfl | rfl
      · exact h2.lt
      · exact h3.lt
theorem StkAt.upd {w w' : World} {sb : Nat} {st : Option (Nat × Nat)} {l : Nat} (h : StkAt w sb st l) {S : Nat → Prop} (hu : Upd S w w') (h1 : ¬ S sb) (h2 : ∀ ib g, st = some (ib, g) → ¬ S ib) (h3 : ∀ ib g cur, st = some (ib, g) → BlkAt w g cur 155 → ∃ cur', BlkAt w' g cur' 155 ∧ cur'.size = cur.size) : StkAt w' sb st l := by
  rcases st with _ | ⟨ib, g⟩
  · exact ⟨h.1, hu.blk h.2 h1⟩
  · obtain ⟨c, cur, e1, e2, e3, e4, e5, e6⟩ := h
    obtain ⟨cur', f1, f2⟩ := h3 ib g cur rfl e3
    exact ⟨c, cur', hu.blk e1 h1, hu.blk e2 (h2 ib g rfl), f1, by omega, e5, e6⟩
def Handed (sb : Nat) (st : Option (Nat × Nat)) (l n : Nat) (w : World) (e : Ending) (w' : World) : Prop :=
  ∃ (st' : Option (Nat × Nat)) (l' g o k : Nat) (cur : Array Value), e = .returned (.slice (some ⟨g, o, none⟩) n k) ∧ n ≤ k ∧ k ≤ maxLen ∧ BlkAt w' g cur 155 ∧ o + n ≤ cur.size ∧ StkAt w' sb st' l' ∧
    ((w.heap.size ≤ g) ∨ ((∃ ib, st = some (ib, g)) ∧ l ≤ o)) ∧ (∀ x, StkBlk sb st' x → StkBlk sb st x ∨ w.heap.size ≤ x) ∧ (∀ ib, st' = some (ib, g) → o + n ≤ l') ∧ (l ≤ l' ∧ l' ≤ l + n + 3) ∧ (st' = none ∨ 0 < l') ∧
    Upd (StkBlk sb st) w w' ∧ (∀ x cx, BlkAt w x cx 155 → ∃ c', BlkAt w' x c' 155 ∧ c'.size = cx.size) ∧ (∀ ib g0, st = some (ib, g0) → ∀ i, i < l → w'.cell? ⟨g0, i, none⟩ = w.cell? ⟨g0, i, none⟩)
theorem stkNat_small (sb n : Nat) (w : World) (hn1 : 1 ≤ n) (hn : n ≤ 4) (h : StkAt w sb none 0) :
    Calls Tryz.prog 234 #[.pointer (some ⟨sb, 0, none⟩), .int .i64 n] w (Handed sb none 0 n w) := by
  have hb := h.2
  have h0 := hb.cell 0
  simp only [List.getElem?_toArray, List.getElem?_cons_zero] at h0
  have HB := Lib.hid hb
  have HG := Lib.hid (fun w' => growN_nil n (by omega) (by omega) w')
  clear h hb
  go_enter Tryz.func234, Tryz.ntmps234
  go_wp2_with fail
  refine (HG.out _).mono ?_
  rintro e w1 ⟨c, cur, hc1, hc2, hcs, rfl, hw1⟩
  obtain ⟨g, hg⟩ : ∃ g, g = w.heap.size := ⟨_, rfl⟩
  rw [← hg]
  have HBel := Lib.hid (show Below w.heap.size w w1 from by rw [hw1]; exact Below.alloc' (Below.refl _ _).drew _)
  have HK := Lib.hid (show BlkAt w1 g cur 155 from by rw [hw1, hg]; exact BlkAt.new _ _ _)
  obtain ⟨v, hv⟩ : ∃ v, cur[0]? = some v := ⟨cur[0]'(by omega), by rw [Array.getElem?_eq_getElem]⟩
  have g0 : w1.cell? ⟨g, 0, none⟩ = some v := by rw [HK.out.cell, hv]
  have gf0 := HK.out.frozen 0
  have hc2' := hc2
  unfold maxLen at hc2
  have HGE := Lib.hid hg
  have hge : w.heap.size ≤ g := by omega
  have hlt : sb < w.heap.size := HB.out.lt
  clear hw1 h0 HG hg
  go_wp2
  go_ret
  refine ⟨none, 0, g, 0, c, _, rfl, hc1, hc2', HK.out.set 0 _, by simp; omega, ⟨rfl, Upd.blk (Upd.set1 _ g 0 _) (HB.out.keep HBel.out) (by omega)⟩, .inl hge, fun x hx => .inl hx, fun ib h => (by cases h), ⟨Nat.le_refl _, by omega⟩, .inl rfl, (Upd.of_below HBel.out).setNew hge _, fun x cx hx => ⟨cx, Upd.blk (Upd.set1 _ g 0 _) (hx.keep HBel.out) (by have := hx.lt; omega), rfl⟩, fun _ _ h => (by cases h)⟩
theorem stkNat_great (sb n : Nat) (w : World) (hn1 : 5 ≤ n) (hn : n ≤ 1000) (h : StkAt w sb none 0) :
    Calls Tryz.prog 234 #[.pointer (some ⟨sb, 0, none⟩), .int .i64 n] w (Handed sb none 0 n w) := by
  have hb := h.2
  have hlt := hb.lt
  have h0 := hb.cell 0
  simp only [List.getElem?_toArray, List.getElem?_cons_zero] at h0
  have f0 := hb.frozen 0
  have HB := Lib.hid hb
  clear h hb
  obtain ⟨W0, hW0⟩ : ∃ W0, W0 = (w.setCell ⟨sb, 0, none⟩ (.pointer (some ⟨w.heap.size, 0, none⟩))).alloc (.cells #[.slice none 0 0] 258) := ⟨_, rfl⟩
  have hsz : (w.setCell ⟨sb, 0, none⟩ (.pointer (some ⟨w.heap.size, 0, none⟩))).heap.size = w.heap.size := by simp
  have HI := Lib.hid (show BlkAt W0 w.heap.size #[.slice none 0 0] 258 from by
    rw [hW0]
    have := BlkAt.new (w.setCell ⟨sb, 0, none⟩ (.pointer (some ⟨w.heap.size, 0, none⟩))) #[.slice none 0 0] 258
    rwa [hsz] at this)
  have HSB := Lib.hid (show BlkAt W0 sb #[.pointer (some ⟨w.heap.size, 0, none⟩)] 225 from by
    rw [hW0]
    have := HB.out.set 0 (.pointer (some ⟨w.heap.size, 0, none⟩))
    refine BlkAt.keep (by simpa using this) (Below.alloc' (Below.refl _ _) _))
  have HU := Lib.hid (show Upd (StkBlk sb none) w W0 from by rw [hW0]; exact ((Upd.refl _ _).setCell (p := ⟨sb, 0, none⟩) (.inl rfl) _).alloc _)
  have hs0 : W0.heap.size = w.heap.size + 1 := by rw [hW0]; simp
  have HW := Lib.hid hW0
  have HN := Lib.hid (innerNat_new w.heap.size n W0 (by omega) (by omega) HI.out)
  clear hsz
  clear hW0
  go_enter Tryz.func234, Tryz.ntmps234
  go_wp2_with fail
  rw [← HW.out]
  refine HN.out.mono ?_
  rintro e w1 ⟨c, g, cur, hg, rfl, hK, hcs, hc1, hc2, hI, hU⟩
  have HGE := Lib.hid hg
  clear hg
  go_wp2
  go_ret
  have hg := HGE.out
  have hm := nr4_ge n
  rw [hs0] at hg
  refine ⟨some (w.heap.size, g), nr4 n, g, 0, n, cur, rfl, Nat.le_refl _, by unfold maxLen; omega, hK, by omega, ⟨c, cur, hU.blk HSB.out (by omega), hI, hK, hcs, hc1, hc2⟩, .inl (by omega), ?_, fun ib _ => by omega, ⟨Nat.zero_le _, by have := nr4_le n; omega⟩, .inr (by omega), ?_, fun x cx hx => ⟨cx, hU.blk (HU.out.blk hx (by rintro (h | ⟨_, _, h, _⟩); exact words_ne hx HB.out (by decide) h; cases h)) (Nat.ne_of_lt hx.lt), rfl⟩, fun _ _ h => (by cases h)⟩
  · rintro x (rfl | ⟨ib, g', h', h''⟩)
    · exact .inl (.inl rfl)
    · injection h' with h'
      injection h' with e1 e2
      subst e1 e2
      rcases h'' with rfl | rfl
      · exact .inr (Nat.le_refl _)
      · exact .inr (by omega)
  · exact ⟨hU.os.trans HU.out.os, hU.tape.trans HU.out.tape, hU.output.trans HU.out.output, Nat.le_trans HU.out.size hU.size, fun k hk hn => by rw [hU.block k (Nat.lt_of_lt_of_le hk HU.out.size) (Nat.ne_of_lt hk)]; exact HU.out.block k hk hn⟩
theorem stkNat_has (sb ib g l n : Nat) (w : World) (hn1 : 1 ≤ n) (hn : n ≤ 1000) (hl : l ≤ 100000) (h : StkAt w sb (some (ib, g)) l) :
    Calls Tryz.prog 234 #[.pointer (some ⟨sb, 0, none⟩), .int .i64 n] w (Handed sb (some (ib, g)) l n w) := by
  obtain ⟨c, cur, e1, e2, e3, e4, e5, e6⟩ := h
  have h0 := e1.cell 0
  simp only [List.getElem?_toArray, List.getElem?_cons_zero] at h0
  have HN := Lib.hid (innerNat_all ib g l c n cur w hn1 (by omega) hl e2 e3 e4 e5 e6)
  have H1 := Lib.hid e1
  have H2 := Lib.hid e2
  have H3 := Lib.hid e3
  clear e1 e2 e3
  go_enter Tryz.func234, Tryz.ntmps234
  go_wp2_with fail
  refine HN.out.mono ?_
  rintro e w1 ⟨c', g', cur', rfl, hK, hcs, hc1, hc2, hI, hor⟩
  have HO := Lib.hid hor
  clear hor
  go_wp2
  go_ret
  have hm := nr4_ge n
  have hib : sb ≠ ib := fun e => by
    subst e
    have a1 := H1.out
    have a2 := H2.out
    unfold BlkAt at a1 a2
    rw [a1] at a2
    injection a2 with a2
    injection a2 with _ h2 _
    exact absurd h2 (by decide)
  have hgs : g ≠ sb := words_ne H3.out H1.out (by decide)
  have hgi : g ≠ ib := words_ne H3.out H2.out (by decide)
  have hg'i : g' ≠ ib := words_ne hK hI (by decide)
  rcases HO.out with ⟨rfl, hsz, hlow, hU⟩ | ⟨rfl, hU⟩
  · refine ⟨some (ib, g'), l + nr4 n, g', l, n, cur', rfl, Nat.le_refl _, by unfold maxLen; omega, hK, by omega, ⟨c', cur', hU.blk H1.out (by rintro (h | h) <;> omega), hI, hK, hcs, hc1, hc2⟩, .inr ⟨⟨ib, rfl⟩, Nat.le_refl _⟩, fun x hx => .inl hx, fun ib' _ => by omega, ⟨Nat.le_add_right _ _, by have := nr4_le n; omega⟩, .inr (by omega), hU.mono (fun k _ hk => .inr ⟨ib, g', rfl, hk⟩), ?_, ?_⟩
    · intro x cx hx
      by_cases e : x = g'
      · subst e
        refine ⟨cur', hK, ?_⟩
        have a1 := H3.out
        unfold BlkAt at a1 hx
        rw [a1] at hx
        injection hx with hx
        injection hx with e5 _ _
        rw [← e5]; exact hsz
      · exact ⟨cx, hU.blk hx (by rintro (h | h); exact words_ne hx H2.out (by decide) h; exact e h), rfl⟩
    intro ib' g0 h i hi
    injection h with h
    injection h with a b
    subst a b
    rw [hK.cell, H3.out.cell]
    exact hlow i hi
  · refine ⟨some (ib, w.heap.size), l + nr4 n, w.heap.size, l, n, cur', rfl, Nat.le_refl _, by unfold maxLen; omega, hK, by omega, ⟨c', cur', hU.blk H1.out hib, hI, hK, hcs, hc1, hc2⟩, .inl (Nat.le_refl _), ?_, fun ib' _ => by omega, ⟨Nat.le_add_right _ _, by have := nr4_le n; omega⟩, .inr (by omega), hU.mono (fun k _ hk => .inr ⟨ib, g, rfl, .inl hk⟩), ?_, ?_⟩
    · rintro x (rfl | ⟨ib', g', h', h''⟩)
      · exact .inl (.inl rfl)
      · injection h' with h'
        injection h' with a b
        subst a b
        rcases h'' with rfl | rfl
        · exact .inl (.inr ⟨_, _, rfl, .inl rfl⟩)
        · exact .inr (Nat.le_refl _)
    · intro x cx hx
      exact ⟨cx, hU.blk hx (words_ne hx H2.out (by decide)), rfl⟩
    · intro ib' g0 h i hi
      injection h with h
      injection h with a b
      subst a b
      exact hU.cell (p := ⟨g, i, none⟩) H3.out.lt hgi
theorem stkNat_any (sb l n : Nat) (st : Option (Nat × Nat)) (w : World) (hn1 : 1 ≤ n) (hn : n ≤ 1000) (hl : l ≤ 100000) (h : StkAt w sb st l) :
    Calls Tryz.prog 234 #[.pointer (some ⟨sb, 0, none⟩), .int .i64 n] w (Handed sb st l n w) := by
  rcases st with _ | ⟨ib, g⟩
  · obtain rfl : l = 0 := h.1
    by_cases h4 : n ≤ 4
    · exact stkNat_small sb n w hn1 h4 h
    · exact stkNat_great sb n w (by omega) hn h
  · exact stkNat_has sb ib g l n w hn1 hn hl h
theorem stkSave_any (sb l : Nat) (st : Option (Nat × Nat)) (w : World) (h : StkAt w sb st l) :
    Calls Tryz.prog 233 #[.pointer (some ⟨sb, 0, none⟩)] w fun e w' => e = .returned (.int .i64 l) ∧ w = w' := by
  rcases st with _ | ⟨ib, g⟩
  · obtain ⟨rfl, hb⟩ := h
    have h0 := hb.cell 0
    exact save_none sb w (by simpa using h0)
  · obtain ⟨c, cur, e1, e2, e3, e4, e5, e6⟩ := h
    have h0 := e1.cell 0
    have h1 := e2.cell 0
    exact save_has sb ib _ l c w (by simpa using h0) (by simpa using h1)
theorem stkRestore_any (sb l m : Nat) (st : Option (Nat × Nat)) (u : FrameMode) (w : World) (h : StkAt w sb st l) (hm : st = none ∨ m ≤ l) :
    CallsD Tryz.prog 232 #[.pointer (some ⟨sb, 0, none⟩), .int .i64 m] u w fun e u' w' => u' = u ∧ (e = .returned (.tuple #[]) ∧ (∃ l', StkAt w' sb st l' ∧ (st = none ∨ l' = m)) ∧ Upd (fun k => ∃ ib g, st = some (ib, g) ∧ k = ib) w w') := by
  rcases st with _ | ⟨ib, g⟩
  · obtain ⟨rfl, hb⟩ := h
    have h0 := hb.cell 0
    refine (restore_none_d sb m u w (by simpa using h0)).mono ?_
    rintro e u' w' ⟨rfl, rfl, rfl⟩
    exact ⟨rfl, rfl, ⟨0, ⟨rfl, hb⟩, .inl rfl⟩, Upd.refl _ _⟩
  · obtain ⟨c, cur, e1, e2, e3, e4, e5, e6⟩ := h
    have hm : m ≤ l := by rcases hm with h | h; cases h; exact h
    have h0 := e1.cell 0
    refine (restore_has_d sb ib m _ l c u w (by simpa using h0) e2 (by omega) (by unfold maxLen at e6; omega)).mono ?_
    rintro e u' w' ⟨rfl, rfl, rfl⟩
    have hU := Upd.set1 w ib 0 (.slice (some ⟨g, 0, none⟩) m c)
    have hib : ¬ sb = ib := fun e => by
      subst e
      unfold BlkAt at e1 e2
      rw [e1] at e2
      injection e2 with e2
      injection e2 with _ h2 _
      exact absurd h2 (by decide)
    have hgi : ¬ g = ib := words_ne e3 e2 (by decide)
    refine ⟨rfl, rfl, ⟨m, ⟨c, cur, hU.blk e1 hib, by simpa using e2.set 0 (.slice (some ⟨g, 0, none⟩) m c), hU.blk e3 hgi, e4, by omega, e6⟩, .inr rfl⟩, hU.mono (fun k _ hk => ⟨ib, g, rfl, hk⟩)⟩
end Go.Proofs.YtgmienggfaahlaaGreatDoor
namespace Go.Bg
open Go.RowKit Dg
theorem w64_split {s t : Nat} (h : s + t = 64) : W64 = 2 ^ s * 2 ^ t := by rw [← Nat.pow_add, h]; rfl
theorem div_right (a b c : Nat) : a / b / c = a / c / b := by rw [Nat.div_div_eq_div_mul, Nat.div_div_eq_div_mul, Nat.mul_comm]
theorem shl_mod {s t : Nat} (h : s + t = 64) (x : Nat) : x * 2 ^ s % W64 = (x % 2 ^ t) * 2 ^ s := by
  rw [w64_split h, Nat.mul_comm x, Nat.mul_mod_mul_left, Nat.mul_comm]
theorem or_add {s b : Nat} (hb : b < 2 ^ s) (a : Nat) : (a * 2 ^ s) ||| b = a * 2 ^ s + b := by
  rw [← Nat.shiftLeft_eq, Nat.shiftLeft_add_eq_or_of_lt hb]
theorem half {s t : Nat} (h : s + t = 64) (m : Nat) : (m / 2 ^ t) % W64 = (((m / W64 % W64) * 2 ^ s) % W64) ||| ((m % W64) / 2 ^ t) := by
  have hW := w64_split h
  have ht : 0 < 2 ^ t := Nat.pow_pos (by decide)
  have hs : 0 < 2 ^ s := Nat.pow_pos (by decide)
  have h1 : m / 2 ^ t = (m / W64) * 2 ^ s + (m % W64) / 2 ^ t := by
    have e : m = 2 ^ t * ((m / W64) * 2 ^ s) + m % W64 := by
      have := Nat.div_add_mod m W64
      have h2 : W64 * (m / W64) = 2 ^ t * ((m / W64) * 2 ^ s) := by
        generalize m / W64 = q
        rw [hW, Nat.mul_comm (2 ^ s), Nat.mul_assoc, Nat.mul_comm (2 ^ s)]
      omega
    conv => lhs; rw [e]
    exact Nat.mul_add_div ht _ _
  have h2 : (m % W64) / 2 ^ t < 2 ^ s := by
    refine Nat.div_lt_of_lt_mul ?_
    rw [Nat.mul_comm, ← hW]
    exact Nat.mod_lt _ W64_pos
  rw [shl_mod h, or_add h2, h1]
  have h3 : (m / W64) * 2 ^ s % W64 = (m / W64 % W64 % 2 ^ t) * 2 ^ s := by
    rw [← shl_mod h, Nat.mod_mul_mod]
  have h4 : m / W64 % W64 % 2 ^ t < 2 ^ t := Nat.mod_lt _ ht
  have h5 : (m / W64 % W64 % 2 ^ t) * 2 ^ s + (m % W64) / 2 ^ t < W64 := by
    have : (m / W64 % W64 % 2 ^ t + 1) * 2 ^ s ≤ 2 ^ t * 2 ^ s := Nat.mul_le_mul_right _ h4
    rw [Nat.add_mul, Nat.one_mul] at this
    have e : W64 = 2 ^ t * 2 ^ s := by rw [hW, Nat.mul_comm]
    omega
  have h6 : (m % W64) / 2 ^ t < W64 := by omega
  rw [Nat.add_mod, h3, Nat.mod_eq_of_lt h6, Nat.mod_eq_of_lt h5]
theorem dg_shr {s t : Nat} (h : s + t = 64) (X i : Nat) : dg W64 (X / 2 ^ t) i = ((dg W64 X (i + 1) * 2 ^ s) % W64) ||| (dg W64 X i / 2 ^ t) := by
  have := half h (X / W64 ^ i)
  unfold dg
  rw [div_right, this, Nat.div_div_eq_div_mul, ← Nat.pow_succ]
theorem dg_shr_top {t n : Nat} {X : Nat} (hX : X < W64 ^ (n + 1)) : dg W64 (X / 2 ^ t) n = dg W64 X n / 2 ^ t := by
  have hp : 0 < W64 ^ n := Nat.pow_pos W64_pos
  have h1 : X / W64 ^ n < W64 := (Nat.div_lt_iff_lt_mul hp).2 (by rw [Nat.mul_comm, ← Nat.pow_succ]; exact hX)
  have h2 : X / W64 ^ n / 2 ^ t < W64 := Nat.lt_of_le_of_lt (Nat.div_le_self _ _) h1
  unfold dg
  rw [div_right, Nat.mod_eq_of_lt h1, Nat.mod_eq_of_lt h2]
theorem dg_shl {s t : Nat} (h : s + t = 64) (X i : Nat) : dg W64 (X * 2 ^ s) (i + 1) = ((dg W64 X (i + 1) * 2 ^ s) % W64) ||| (dg W64 X i / 2 ^ t) := by
  rw [← dg_shr h]
  unfold dg
  congr 1
  have e : W64 ^ (i + 1) = 2 ^ s * (2 ^ t * W64 ^ i) := by
    rw [Nat.pow_succ, Nat.mul_comm, w64_split h, Nat.mul_assoc]
  rw [e, Nat.mul_comm X, Nat.mul_div_mul_left _ _ (Nat.pow_pos (by decide)), Nat.div_div_eq_div_mul]
theorem dg_shl0 {s t : Nat} (h : s + t = 64) (X : Nat) : dg W64 (X * 2 ^ s) 0 = (dg W64 X 0 * 2 ^ s) % W64 := by
  unfold dg
  rw [Nat.pow_zero, Nat.div_one, Nat.div_one, Nat.mod_mul_mod]
theorem RowUp.down {T : TypeId} {w w' : World} {g o k m : Nat} {cur : Array Value} {h : Nat → Nat} (r : RowUp T w w' g (o + (k + 1)) m cur (fun i => h (k + 1 + i))) (hk : o + k < cur.size) {x : Nat} (hx : x = h k) :
    RowUp T w (w'.setCell ⟨g, o + k, none⟩ (.int .u64 (x : Nat))) g (o + k) (m + 1) cur (fun i => h (k + i)) := by
  obtain ⟨cur', h1, h2, h3, h4⟩ := r.blk
  refine ⟨r.upd.setCell rfl _, _, h1.set (o + k) _, by simpa using h2, fun i hi => ?_, fun j hj => ?_⟩
  · rw [Array.getElem?_setIfInBounds]
    by_cases e : i = 0
    · subst e
      rw [if_pos (by omega), if_pos (by omega), hx]
      rfl
    · rw [if_neg (by omega)]
      have := h3 (i - 1) (by omega)
      rw [show o + (k + 1) + (i - 1) = o + k + i from by omega, show k + 1 + (i - 1) = k + i from by omega] at this
      exact this
  · rw [Array.getElem?_setIfInBounds, if_neg (by omega)]
    exact h4 j (by omega)
theorem RowUp.readOut {T : TypeId} {w w' : World} {g o k b p : Nat} {cur : Array Value} {h : Nat → Nat} (r : RowUp T w w' g o k cur h) (hg : BlkAt w g cur T) {v : Value} (hv : w.cell? ⟨b, p, none⟩ = some v) (hne : b ≠ g ∨ p < o ∨ o + k ≤ p) :
    w'.cell? ⟨b, p, none⟩ = some v := by
  by_cases e : b = g
  · subst e
    obtain ⟨cur', h1, h2, h3, h4⟩ := r.blk
    rw [h1.cell, h4 _ (by omega), ← hg.cell]; exact hv
  · rw [r.upd.cell (p := ⟨b, p, none⟩) (block_lt hv) e]; exact hv
end Go.Bg
