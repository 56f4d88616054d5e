/-
  Contracts and lemmas: Law1 TolD BigK BigL BigM.
-/
import Derived.Test.YtececkbcinmmpaaGreatDoorK08
import Derived.Test.YtececkbcinmmpaaGreatDoorK04
import Derived.Laws.CopyOwn
import Derived.Lib.Builder
set_option linter.unusedSimpArgs false
set_option linter.unusedVariables false
set_option maxRecDepth 100000
set_option maxHeartbeats 8000000
namespace Go.Proofs.YtececkbcinmmpaaGreatDoor
open Go.RowKit Go.Bg Dg
def fitsB (v : Vl) : Bool := decide (v.text.size ≤ 2147483647) && decide (v.wn ≤ 2147483647) && decide (v.dn ≤ 2147483647) && decide (v.inn ≤ 2147483647) && decide (v.en ≤ 2147483647)
theorem fits2_any (b : Bool) (a : Option Addr) (n c : Nat) (w : World) :
    Calls Tryz.prog 43 #[.agg #[.bool b, .slice a n c]] w fun e w' => e = .returned (.bool (decide (n ≤ 2147483647))) ∧ Below w.heap.size w w' := by
  have HB := Lib.hid (fun cs => (Below.refl w.heap.size w).alloc (Nat.le_refl _) (.cells cs 24))
  by_cases h : n ≤ 2147483647
  · go_enter Tryz.func43, Tryz.ntmps43
    go_wp2
    go_ret
    exact ⟨ret_bool (by simp [h]), HB.out _⟩
  · go_enter Tryz.func43, Tryz.ntmps43
    go_wp2
    go_ret
    exact ⟨ret_bool (by simp; omega), HB.out _⟩
theorem fits1_any (v : Vl) (w : World) :
    Calls Tryz.prog 17 #[.agg #[.int .i64 v.kind, .bool v.truth, .string v.text, .bool v.neg, .slice v.wa v.wn v.wc, .slice v.da v.dn v.dc, .bool v.ineg, .slice v.ia v.inn v.ic, .slice v.ea v.en v.ec]] w fun e w' => e = .returned (.bool (fitsB v)) ∧ Below w.heap.size w w' := by
  have HB := Lib.hid (show ∀ cs, Below w.heap.size w (w.alloc (.cells cs 26)) from fun cs => (Below.refl _ _).alloc (Nat.le_refl _) _)
  go_enter Tryz.func17, Tryz.ntmps17
  go_wp2
  all_goals go_ret
  all_goals refine ⟨ret_bool ?_, ?_⟩
  all_goals first
    | exact HB.out _
    | exact Below.alloc' (HB.out _) _
    | exact Below.alloc' (Below.alloc' (HB.out _) _) _
    | (unfold fitsB; simp_all; done)
    | (unfold fitsB; simp_all; omega)
  go_goals
def wholeB (v : Vl) (k : Nat) : Bool := decide (v.wn ≤ k) && intB v
theorem lawWhole_any (v : Vl) (k : Nat) (w : World) (h : VlAt w v) (hk : k ≤ 1000) :
    Calls Tryz.prog 24 #[.agg #[.int .i64 v.kind, .bool v.truth, .string v.text, .bool v.neg, .slice v.wa v.wn v.wc, .slice v.da v.dn v.dc, .bool v.ineg, .slice v.ia v.inn v.ic, .slice v.ea v.en v.ec], .int .i64 k] w (Reads1 (wholeB v k) (Rt.whole v.neg (val W64 v.wf v.wn)) (4 * v.wn + 1) w) := by
  by_cases hn : v.wn ≤ k
  · obtain ⟨W0, hW0⟩ : ∃ W0, W0 = (w.alloc (.cells #[.int .i64 v.kind, .bool v.truth, .string v.text, .bool v.neg, .slice v.wa v.wn v.wc, .slice v.da v.dn v.dc, .bool v.ineg, .slice v.ia v.inn v.ic, .slice v.ea v.en v.ec] 26)).alloc (.cells #[.bool false, .slice none 0 0, .slice none 0 0] 31) := ⟨_, rfl⟩
    have I := integerW w v 26 31
    rw [← hW0] at I
    have HW := Lib.hid hW0
    have HI := Lib.hid (show wholeB v k = intB v from by unfold wholeB; simp [hn])
    have HV := Lib.hid (h.keep I.below)
    clear hW0 h
    go_enter Tryz.func24, Tryz.ntmps24
    go_upto_region 3 with fail
    rw [← HW.out]
    obtain ⟨c0, c1, c2, c3, c4, c5, c6, c7, c8⟩ := I.all
    go_wp2_with fail
    refine (integer_any v _ HV.out (by omega)).mono ?_
    rintro e w1 ⟨sV, aV, nV, cV, aE, nE, cE, rfl, hR, hB1⟩
    have RR := I.res.below I.res.lt hB1
    obtain ⟨⟨u0, r0⟩, ⟨u1, r1⟩, ⟨u2, r2⟩⟩ := (RR).cells; have f0 := (RR).frozen 0; have f1 := (RR).frozen 1; have f2 := (RR).frozen 2
    have hbf := Below.then I.below (Nat.le_refl _) hB1
    clear c0 c1 c2 c3 c4 c5 c6 c7 c8
    go_wp2
    exact bodyPost_ret (v := .tuple #[.agg #[.bool sV, .slice aV nV cV, .slice aE nE cE], .bool (intB v)]) (by simp [results, Tryz.results24, go_sem, r0, r1, r2]) rfl
      ⟨_, _, _, _, _, _, _, by rw [HI.out], fun hb => stored3 RR (hR (by rw [← HI.out]; exact hb)), ((hbf.setCell (Nat.le_add_right _ 1) _).setCell (Nat.le_add_right _ 1) _).setCell (Nat.le_add_right _ 1) _⟩
  · have HI := Lib.hid (show wholeB v k = false from by unfold wholeB; simp [hn])
    have hb := ((Below.refl w.heap.size w).alloc (Nat.le_refl _) (.cells #[.int .i64 v.kind, .bool v.truth, .string v.text, .bool v.neg, .slice v.wa v.wn v.wc, .slice v.da v.dn v.dc, .bool v.ineg, .slice v.ia v.inn v.ic, .slice v.ea v.en v.ec] 26)).alloc (by simp) (.cells #[.bool false, .slice none 0 0, .slice none 0 0] 31)
    have HB := Lib.hid hb
    clear hb
    go_enter Tryz.func24, Tryz.ntmps24
    go_wp2
    exact bodyPost_ret (v := .tuple #[.agg #[.bool false, .slice none 0 0, .slice none 0 0], .bool false]) (by simp [results, Tryz.results24, go_sem]) rfl
      ⟨_, _, _, _, _, _, _, by rw [HI.out], fun h => (by rw [HI.out] at h; cases h), HB.out⟩
end Go.Proofs.YtececkbcinmmpaaGreatDoor
namespace Go.Bg
open Go.RowKit Dg
def NoU (w : World) (s : Nat) : Prop := ∀ o x, w.cell? ⟨s, o, none⟩ ≠ some (.int .u64 x)
theorem noU_of_blk {w : World} {g : Nat} {cur : Array Value} {e : TypeId} (h : BlkAt w g cur e) (hn : ∀ (i : Nat) x, cur[i]? ≠ some (.int .u64 x)) : NoU w g := by
  intro o x hc
  rw [h.cell] at hc
  exact hn o x hc
theorem noU_vals (k : Int) : ∀ (i : Nat) x, (#[.int .i64 k, .bool false, .string ⟨#[]⟩, .bool false, .slice none 0 0, .slice none 0 0, .bool false, .slice none 0 0, .slice none 0 0] : Array Value)[i]? ≠ some (.int .u64 x) := by
  intro i x h
  match i, h with
  | 0, h => simp at h
  | 1, h => simp at h
  | 2, h => simp at h
  | 3, h => simp at h
  | 4, h => simp at h
  | 5, h => simp at h
  | 6, h => simp at h
  | 7, h => simp at h
  | 8, h => simp at h
  | i + 9, h => simp at h
theorem WordsAt.updU {w w' : World} {a : Option Addr} {n c : Nat} {f : Nat → Nat} {S : Nat → Prop} (h : WordsAt w a n c f) (hu : Upd S w w') (hS : ∀ k, S k → NoU w k) : WordsAt w' a n c f := by
  refine ⟨fun hn => ?_, h.lt, h.nc, h.cm, h.nil⟩
  obtain ⟨b, off, rfl, hc⟩ := h.cells hn
  refine ⟨b, off, rfl, fun i hi => ?_⟩
  have h1 := hc i hi
  rw [hu.cell (p := ⟨b, off + i, none⟩) (block_lt h1) (fun s => hS b s _ _ h1)]
  exact h1
theorem nilWords (w : World) : WordsAt w none 0 0 (fun _ => 0) := ⟨fun h => by omega, fun i h => by omega, Nat.le_refl _, by simp [maxLen], fun _ => rfl⟩
end Go.Bg
namespace Go.Proofs.YtececkbcinmmpaaGreatDoor
open Go.RowKit Go.Bg Dg
theorem methodKind64 (x : Value) (w : World) : (method 409 91 x "Kind").run Tryz.prog w = .ok (336, x) w := by kernel_rfl
theorem methodKindInt (x : Value) (w : World) : (method 409 102 x "Kind").run Tryz.prog w = .ok (342, x) w := by kernel_rfl
theorem kind64_any (x : Value) (w : World) : Calls Tryz.prog 336 #[x] w fun e w' => e = .returned (.int .i64 3) ∧ Below w.heap.size w w' := by
  go_enter Tryz.func336, Tryz.ntmps336
  go_wp2
  go_ret
  exact ⟨rfl, Below.refl _ _⟩
theorem kindInt_any (p : Value) (w : World) : Calls Tryz.prog 342 #[.agg #[p]] w fun e w' => e = .returned (.int .i64 3) ∧ Below w.heap.size w w' := by
  have HB := Lib.hid (fun o => (Below.refl w.heap.size w).alloc (Nat.le_refl _) o)
  go_enter Tryz.func342, Tryz.ntmps342
  go_wp2
  go_ret
  exact ⟨rfl, HB.out _⟩
theorem told_val {w : World} {a : Option Addr} {n c N : Nat} (h : PlainAt w a n c N) : val W64 (dg W64 N) n = N := by
  rw [val_dg, Nat.mod_eq_of_lt h.lt]
theorem told_intB {w : World} {z : Int} {a : Option Addr} {n c : Nat} (h : PlainAt w a n c z.natAbs) :
    intB ⟨3, false, ⟨#[]⟩, decide (z < 0), a, n, c, dg W64 z.natAbs, none, 0, 0, fun _ => 0, false, none, 0, 0, fun _ => 0, none, 0, 0, fun _ => 0⟩ = true := by
  have hv := told_val h
  have ht : n = 0 ∨ dg W64 z.natAbs (n - 1) ≠ 0 := by
    rcases h.top with h0 | h0
    · exact .inl h0
    · by_cases hn : n = 0
      · exact .inl hn
      · right
        have hlt := h.lt
        rw [show n = n - 1 + 1 from by omega, Nat.pow_succ] at hlt
        have hq : z.natAbs / W64 ^ (n - 1) < W64 := (Nat.div_lt_iff_lt_mul (Nat.pow_pos W64_pos)).2 (by rw [Nat.mul_comm]; exact hlt)
        have hp : 0 < z.natAbs / W64 ^ (n - 1) := Nat.div_pos h0 (Nat.pow_pos W64_pos)
        rw [dg, Nat.mod_eq_of_lt hq]
        omega
  unfold intB isNumB hasW Vl.restB
  simp only [hv]
  by_cases hz : z < 0
  · have : 0 < z.natAbs := by omega
    simp [hz, this, ht]
  · simp [hz, ht]
theorem toldInt_any (v : Value) (z : Int) (w : World) (h : CInt w v z) (L : Nat) (hL : L ≤ 100000) (hz : z.natAbs < W64 ^ L) :
    Calls Tryz.prog 47 #[v] w fun e w' => ∃ x : Vl, e = .returned (.agg #[.int .i64 x.kind, .bool x.truth, .string x.text, .bool x.neg, .slice x.wa x.wn x.wc, .slice x.da x.dn x.dc, .bool x.ineg, .slice x.ia x.inn x.ic, .slice x.ea x.en x.ec]) ∧ VlAt w' x ∧ intB x = true ∧ x.neg = decide (z < 0) ∧ val W64 x.wf x.wn = z.natAbs ∧ Below w.heap.size w w' := by
  have HH := Lib.hid h
  have HZ := Lib.hid hz
  clear hz
  rcases h with ⟨rfl, _⟩ | ⟨b, o, s, N, rfl, _, _⟩
  · have hm := methodKind64
    have hb0 : Below w.heap.size w (w.alloc (.cells #[.int .i64 0, .bool false, .string ⟨#[]⟩, .bool false, .slice none 0 0, .slice none 0 0, .bool false, .slice none 0 0, .slice none 0 0] 26)) := Below.alloc' (Below.refl _ _) _
    have hR0 := BlkAt.new w #[.int .i64 0, .bool false, .string ⟨#[]⟩, .bool false, .slice none 0 0, .slice none 0 0, .bool false, .slice none 0 0, .slice none 0 0] 26
    go_enter Tryz.func47, Tryz.ntmps47
    go_wp2_with fail
    refine (kind64_any _ _).mono ?_
    rintro e w1 ⟨rfl, hB1⟩
    have hR1 := (hR0.keep hB1).keep ((Below.refl _ _).alloc (Nat.le_refl _) (.cells #[.int .i64 3, .bool false, .string ⟨#[]⟩, .bool false, .slice none 0 0, .slice none 0 0, .bool false, .slice none 0 0, .slice none 0 0] 26))
    have hO1 := BlkAt.new w1 #[.int .i64 3, .bool false, .string ⟨#[]⟩, .bool false, .slice none 0 0, .slice none 0 0, .bool false, .slice none 0 0, .slice none 0 0] 26
    have hb1 := Below.alloc' (Below.then hb0 (Nat.le_refl _) hB1) (.cells #[.int .i64 3, .bool false, .string ⟨#[]⟩, .bool false, .slice none 0 0, .slice none 0 0, .bool false, .slice none 0 0, .slice none 0 0] 26)
    have hlt1 := (hR0.keep hB1).lt
    clear hR0 hb0 hB1
    go_wp2_with fail
    refine (kind64_any _ _).mono ?_
    rintro e w2 ⟨rfl, hB2⟩
    have hR2 := hR1.keep hB2
    have hO2 := hO1.keep hB2
    have hb2 := Below.then hb1 (Nat.le_refl _) hB2
    clear hR1 hO1 hb1 hB2
    go_wp2_with fail
    refine (partsInt_any _ z _ (HH.out.keep hb2) L hL HZ.out).mono ?_
    rintro e w3 ⟨a, n, c, au, nu, cu, rfl, hP, -, hB3⟩
    have hR3 := hR2.keep hB3
    have hO3 := hO2.keep hB3
    have hb3 := Below.then hb2 (Nat.le_refl _) hB3
    have hne : w.heap.size ≠ w1.heap.size := Nat.ne_of_lt hlt1
    clear hR2 hO2 hb2 hB3
    have oc0 := hO3.cell 0
    have oc1 := hO3.cell 1
    have oc2 := hO3.cell 2
    have oc3 := hO3.cell 3
    have oc4 := hO3.cell 4
    have oc5 := hO3.cell 5
    have oc6 := hO3.cell 6
    have oc7 := hO3.cell 7
    have oc8 := hO3.cell 8
    have of0 := hO3.frozen 0
    have of1 := hO3.frozen 1
    have of2 := hO3.frozen 2
    have of3 := hO3.frozen 3
    have of4 := hO3.frozen 4
    have of5 := hO3.frozen 5
    have of6 := hO3.frozen 6
    have of7 := hO3.frozen 7
    have of8 := hO3.frozen 8
    have rc0 := hR3.cell 0
    have rc1 := hR3.cell 1
    have rc2 := hR3.cell 2
    have rc3 := hR3.cell 3
    have rc4 := hR3.cell 4
    have rc5 := hR3.cell 5
    have rc6 := hR3.cell 6
    have rc7 := hR3.cell 7
    have rc8 := hR3.cell 8
    have rf0 := hR3.frozen 0
    have rf1 := hR3.frozen 1
    have rf2 := hR3.frozen 2
    have rf3 := hR3.frozen 3
    have rf4 := hR3.frozen 4
    have rf5 := hR3.frozen 5
    have rf6 := hR3.frozen 6
    have rf7 := hR3.frozen 7
    have rf8 := hR3.frozen 8
    simp only [List.getElem?_toArray, List.getElem?_cons_zero, List.getElem?_cons_succ] at oc0 oc1 oc2 oc3 oc4 oc5 oc6 oc7 oc8 rc0 rc1 rc2 rc3 rc4 rc5 rc6 rc7 rc8
    have HU := Lib.hid ((((((((((((Upd.refl (fun k => k = w1.heap.size ∨ k = w.heap.size) w3).setCell (p := ⟨w1.heap.size, 3, none⟩) (Or.inl rfl) (.bool (decide (z < 0)))).setCell (p := ⟨w1.heap.size, 4, none⟩) (Or.inl rfl) (.slice a n c)).setCell (p := ⟨w.heap.size, 0, none⟩) (Or.inr rfl) (.int .i64 3)).setCell (p := ⟨w.heap.size, 1, none⟩) (Or.inr rfl) (.bool false)).setCell (p := ⟨w.heap.size, 2, none⟩) (Or.inr rfl) (.string ⟨#[]⟩)).setCell (p := ⟨w.heap.size, 3, none⟩) (Or.inr rfl) (.bool (decide (z < 0)))).setCell (p := ⟨w.heap.size, 4, none⟩) (Or.inr rfl) (.slice a n c)).setCell (p := ⟨w.heap.size, 5, none⟩) (Or.inr rfl) (.slice none 0 0)).setCell (p := ⟨w.heap.size, 6, none⟩) (Or.inr rfl) (.bool false)).setCell (p := ⟨w.heap.size, 7, none⟩) (Or.inr rfl) (.slice none 0 0)).setCell (p := ⟨w.heap.size, 8, none⟩) (Or.inr rfl) (.slice none 0 0))
    have HB := Lib.hid ((((((((((((hb3).setCell (p := ⟨w1.heap.size, 3, none⟩) (Nat.le_of_lt hlt1) (.bool (decide (z < 0)))).setCell (p := ⟨w1.heap.size, 4, none⟩) (Nat.le_of_lt hlt1) (.slice a n c)).setCell (p := ⟨w.heap.size, 0, none⟩) (Nat.le_refl _) (.int .i64 3)).setCell (p := ⟨w.heap.size, 1, none⟩) (Nat.le_refl _) (.bool false)).setCell (p := ⟨w.heap.size, 2, none⟩) (Nat.le_refl _) (.string ⟨#[]⟩)).setCell (p := ⟨w.heap.size, 3, none⟩) (Nat.le_refl _) (.bool (decide (z < 0)))).setCell (p := ⟨w.heap.size, 4, none⟩) (Nat.le_refl _) (.slice a n c)).setCell (p := ⟨w.heap.size, 5, none⟩) (Nat.le_refl _) (.slice none 0 0)).setCell (p := ⟨w.heap.size, 6, none⟩) (Nat.le_refl _) (.bool false)).setCell (p := ⟨w.heap.size, 7, none⟩) (Nat.le_refl _) (.slice none 0 0)).setCell (p := ⟨w.heap.size, 8, none⟩) (Nat.le_refl _) (.slice none 0 0))
    have HNO := Lib.hid (noU_of_blk hO3 (noU_vals _))
    have HNR := Lib.hid (noU_of_blk hR3 (noU_vals _))
    have HP := Lib.hid hP
    clear hm hP hb3 hO3 hR3
    go_wp2
    refine bodyPost_ret (v := .agg #[.int .i64 3, .bool false, .string ⟨#[]⟩, .bool (decide (z < 0)), .slice a n c, .slice none 0 0, .bool false, .slice none 0 0, .slice none 0 0]) (by simp [results, Tryz.results47, go_sem, rc0, rc1, rc2, rc3, rc4, rc5, rc6, rc7, rc8]) rfl
      ⟨⟨3, false, ⟨#[]⟩, decide (z < 0), a, n, c, dg W64 z.natAbs, none, 0, 0, fun _ => 0, false, none, 0, 0, fun _ => 0, none, 0, 0, fun _ => 0⟩, rfl, ⟨HP.out.ws.updU HU.out ?_, nilWords _, nilWords _, nilWords _, Nat.zero_le _, by simp⟩, ?_, rfl, ?_, HB.out⟩
    · rintro k (rfl | rfl)
      · exact HNO.out
      · exact HNR.out
    · exact told_intB HP.out
    · exact told_val HP.out
  · have hm := methodKindInt
    have hb0 : Below w.heap.size w (w.alloc (.cells #[.int .i64 0, .bool false, .string ⟨#[]⟩, .bool false, .slice none 0 0, .slice none 0 0, .bool false, .slice none 0 0, .slice none 0 0] 26)) := Below.alloc' (Below.refl _ _) _
    have hR0 := BlkAt.new w #[.int .i64 0, .bool false, .string ⟨#[]⟩, .bool false, .slice none 0 0, .slice none 0 0, .bool false, .slice none 0 0, .slice none 0 0] 26
    go_enter Tryz.func47, Tryz.ntmps47
    go_wp2_with fail
    refine (kindInt_any _ _).mono ?_
    rintro e w1 ⟨rfl, hB1⟩
    have hR1 := (hR0.keep hB1).keep ((Below.refl _ _).alloc (Nat.le_refl _) (.cells #[.int .i64 3, .bool false, .string ⟨#[]⟩, .bool false, .slice none 0 0, .slice none 0 0, .bool false, .slice none 0 0, .slice none 0 0] 26))
    have hO1 := BlkAt.new w1 #[.int .i64 3, .bool false, .string ⟨#[]⟩, .bool false, .slice none 0 0, .slice none 0 0, .bool false, .slice none 0 0, .slice none 0 0] 26
    have hb1 := Below.alloc' (Below.then hb0 (Nat.le_refl _) hB1) (.cells #[.int .i64 3, .bool false, .string ⟨#[]⟩, .bool false, .slice none 0 0, .slice none 0 0, .bool false, .slice none 0 0, .slice none 0 0] 26)
    have hlt1 := (hR0.keep hB1).lt
    clear hR0 hb0 hB1
    go_wp2_with fail
    refine (kindInt_any _ _).mono ?_
    rintro e w2 ⟨rfl, hB2⟩
    have hR2 := hR1.keep hB2
    have hO2 := hO1.keep hB2
    have hb2 := Below.then hb1 (Nat.le_refl _) hB2
    clear hR1 hO1 hb1 hB2
    go_wp2_with fail
    refine (partsInt_any _ z _ (HH.out.keep hb2) L hL HZ.out).mono ?_
    rintro e w3 ⟨a, n, c, au, nu, cu, rfl, hP, -, hB3⟩
    have hR3 := hR2.keep hB3
    have hO3 := hO2.keep hB3
    have hb3 := Below.then hb2 (Nat.le_refl _) hB3
    have hne : w.heap.size ≠ w1.heap.size := Nat.ne_of_lt hlt1
    clear hR2 hO2 hb2 hB3
    have oc0 := hO3.cell 0
    have oc1 := hO3.cell 1
    have oc2 := hO3.cell 2
    have oc3 := hO3.cell 3
    have oc4 := hO3.cell 4
    have oc5 := hO3.cell 5
    have oc6 := hO3.cell 6
    have oc7 := hO3.cell 7
    have oc8 := hO3.cell 8
    have of0 := hO3.frozen 0
    have of1 := hO3.frozen 1
    have of2 := hO3.frozen 2
    have of3 := hO3.frozen 3
    have of4 := hO3.frozen 4
    have of5 := hO3.frozen 5
    have of6 := hO3.frozen 6
    have of7 := hO3.frozen 7
    have of8 := hO3.frozen 8
    have rc0 := hR3.cell 0
    have rc1 := hR3.cell 1
    have rc2 := hR3.cell 2
    have rc3 := hR3.cell 3
    have rc4 := hR3.cell 4
    have rc5 := hR3.cell 5
    have rc6 := hR3.cell 6
    have rc7 := hR3.cell 7
    have rc8 := hR3.cell 8
    have rf0 := hR3.frozen 0
    have rf1 := hR3.frozen 1
    have rf2 := hR3.frozen 2
    have rf3 := hR3.frozen 3
    have rf4 := hR3.frozen 4
    have rf5 := hR3.frozen 5
    have rf6 := hR3.frozen 6
    have rf7 := hR3.frozen 7
    have rf8 := hR3.frozen 8
    simp only [List.getElem?_toArray, List.getElem?_cons_zero, List.getElem?_cons_succ] at oc0 oc1 oc2 oc3 oc4 oc5 oc6 oc7 oc8 rc0 rc1 rc2 rc3 rc4 rc5 rc6 rc7 rc8
    have HU := Lib.hid ((((((((((((Upd.refl (fun k => k = w1.heap.size ∨ k = w.heap.size) w3).setCell (p := ⟨w1.heap.size, 3, none⟩) (Or.inl rfl) (.bool (decide (z < 0)))).setCell (p := ⟨w1.heap.size, 4, none⟩) (Or.inl rfl) (.slice a n c)).setCell (p := ⟨w.heap.size, 0, none⟩) (Or.inr rfl) (.int .i64 3)).setCell (p := ⟨w.heap.size, 1, none⟩) (Or.inr rfl) (.bool false)).setCell (p := ⟨w.heap.size, 2, none⟩) (Or.inr rfl) (.string ⟨#[]⟩)).setCell (p := ⟨w.heap.size, 3, none⟩) (Or.inr rfl) (.bool (decide (z < 0)))).setCell (p := ⟨w.heap.size, 4, none⟩) (Or.inr rfl) (.slice a n c)).setCell (p := ⟨w.heap.size, 5, none⟩) (Or.inr rfl) (.slice none 0 0)).setCell (p := ⟨w.heap.size, 6, none⟩) (Or.inr rfl) (.bool false)).setCell (p := ⟨w.heap.size, 7, none⟩) (Or.inr rfl) (.slice none 0 0)).setCell (p := ⟨w.heap.size, 8, none⟩) (Or.inr rfl) (.slice none 0 0))
    have HB := Lib.hid ((((((((((((hb3).setCell (p := ⟨w1.heap.size, 3, none⟩) (Nat.le_of_lt hlt1) (.bool (decide (z < 0)))).setCell (p := ⟨w1.heap.size, 4, none⟩) (Nat.le_of_lt hlt1) (.slice a n c)).setCell (p := ⟨w.heap.size, 0, none⟩) (Nat.le_refl _) (.int .i64 3)).setCell (p := ⟨w.heap.size, 1, none⟩) (Nat.le_refl _) (.bool false)).setCell (p := ⟨w.heap.size, 2, none⟩) (Nat.le_refl _) (.string ⟨#[]⟩)).setCell (p := ⟨w.heap.size, 3, none⟩) (Nat.le_refl _) (.bool (decide (z < 0)))).setCell (p := ⟨w.heap.size, 4, none⟩) (Nat.le_refl _) (.slice a n c)).setCell (p := ⟨w.heap.size, 5, none⟩) (Nat.le_refl _) (.slice none 0 0)).setCell (p := ⟨w.heap.size, 6, none⟩) (Nat.le_refl _) (.bool false)).setCell (p := ⟨w.heap.size, 7, none⟩) (Nat.le_refl _) (.slice none 0 0)).setCell (p := ⟨w.heap.size, 8, none⟩) (Nat.le_refl _) (.slice none 0 0))
    have HNO := Lib.hid (noU_of_blk hO3 (noU_vals _))
    have HNR := Lib.hid (noU_of_blk hR3 (noU_vals _))
    have HP := Lib.hid hP
    clear hm hP hb3 hO3 hR3
    go_wp2
    refine bodyPost_ret (v := .agg #[.int .i64 3, .bool false, .string ⟨#[]⟩, .bool (decide (z < 0)), .slice a n c, .slice none 0 0, .bool false, .slice none 0 0, .slice none 0 0]) (by simp [results, Tryz.results47, go_sem, rc0, rc1, rc2, rc3, rc4, rc5, rc6, rc7, rc8]) rfl
      ⟨⟨3, false, ⟨#[]⟩, decide (z < 0), a, n, c, dg W64 z.natAbs, none, 0, 0, fun _ => 0, false, none, 0, 0, fun _ => 0, none, 0, 0, fun _ => 0⟩, rfl, ⟨HP.out.ws.updU HU.out ?_, nilWords _, nilWords _, nilWords _, Nat.zero_le _, by simp⟩, ?_, rfl, ?_, HB.out⟩
    · rintro k (rfl | rfl)
      · exact HNO.out
      · exact HNR.out
    · exact told_intB HP.out
    · exact told_val HP.out
theorem cmpB_cmpZ (k : Nat) (x y : Int) : cmpB k (cmpZ x y) = if k = 0 then decide (x = y) else if k = 1 then decide (x ≠ y) else if k = 2 then decide (x < y) else if k = 3 then decide (x ≤ y) else if k = 4 then decide (y < x) else decide (y ≤ x) := by
  unfold cmpB cmpZ
  rcases Int.lt_trichotomy x y with h | h | h
  · have h1 : ¬ x = y := by omega
    have h2 : ¬ y < x := by omega
    have h3 : x ≤ y := by omega
    have h4 : ¬ y ≤ x := by omega
    simp [h, h1, h2, h3, h4]
  · subst h; simp
  · have h1 : ¬ x = y := by omega
    have h2 : ¬ x < y := by omega
    have h3 : y ≤ x := by omega
    have h4 : ¬ x ≤ y := by omega
    simp [h, h1, h2, h3, h4]
theorem field_intVal (p : Value) (w : World) : (Instr.field 102 (.agg #[p]) 0).run Tryz.prog w = .ok p w := by kernel_rfl
theorem compareInt_any (k : Nat) (hk : k < 6) (v1 v2 : Value) (z1 z2 : Int) (w : World) (h1 : CInt w v1 z1) (h2 : CInt w v2 z2) :
    Calls Tryz.prog 67 #[v1, .int .i64 (cmpTok k), v2] w fun e w' => e = .returned (.bool (cmpB k (cmpZ z1 z2))) ∧ Below w.heap.size w w' := by
  have H1 := Lib.hid h1
  have H2 := Lib.hid h2
  have HC := Lib.hid (cmpB_cmpZ k z1 z2)
  clear h1 h2
  go_enter Tryz.func67, Tryz.ntmps67
  go_wp2_with fail
  refine (matchInt_any v1 v2 z1 z2 _ H1.out H2.out).mono ?_
  rintro e w1 ⟨u1, u2, rfl, hS, hB⟩
  have HB := Lib.hid hB
  clear hB
  rcases hS with ⟨rfl, _, rfl, _⟩ | ⟨⟨b1, o1, s, N, rfl, hI, e1⟩, ⟨b2, o2, t, M, rfl, hJ, e2⟩⟩
  · obtain ⟨t1, t2, t3, _, _, _, _, _, t9⟩ := ta_int64Val
    rcases (by omega : k = 0 ∨ k = 1 ∨ k = 2 ∨ k = 3 ∨ k = 4 ∨ k = 5) with rfl | rfl | rfl | rfl | rfl | rfl
    all_goals
      simp only [cmpTok]
      go_wp2
      go_ret
      exact ⟨ret_bool (by rw [HC.out]; simp; try rfl), HB.out⟩
  · obtain ⟨t1, t2, t3, t4, _, _, _, _, t9⟩ := ta_intVal
    have HI := Lib.hid hI
    have HJ := Lib.hid hJ
    have HE := Lib.hid (show cmpZ (sg s N) (sg t M) = cmpZ z1 z2 from by rw [e1, e2])
    clear hI hJ e1 e2
    have hfld := field_intVal
    go_wp2_with fail
    go_quiet (first | (go_at_call 128; refine Calls.quiet_of (intCmp_any b1 o1 b2 o2 s t N M _ ((HI.out.keep (Below.alloc' (Below.refl _ _) _)).keep (below_of_drewN ⟨_, rfl⟩)) ((HJ.out.keep (Below.alloc' (Below.refl _ _) _)).keep (below_of_drewN ⟨_, rfl⟩)))) | (go_at_call 127; refine Calls.quiet_of_same ((cmpZero_any k hk _ _).mono (fun _ _ h => ⟨h.1, h.2.symm⟩))))
    go_wp2
    go_ret
    exact ⟨ret_bool (by rw [HE.out]), (Below.alloc' HB.out _).trans (below_of_drewN ⟨_, rfl⟩)⟩
end Go.Proofs.YtececkbcinmmpaaGreatDoor
namespace Go.Bg
open Go.RowKit Dg
theorem bigAt_new {T T2 : TypeId} {w : World} {s : Bool} {a : Option Addr} {n c N : Nat} (hN : BigN T w a n c N) (hT : T2 ≠ T) (hz : s = true → 0 < N) :
    BigAt T (w.alloc (.cells #[.bool s, .slice a n c] T2)) w.heap.size 0 s N := by
  have hb := BlkAt.new w #[.bool s, .slice a n c] T2
  exact ⟨⟨_, _, hb, hT⟩, ⟨a, n, c, hb.cell 0, hb.cell 1, hN.keep ((Below.refl _ _).alloc (Nat.le_refl _) _)⟩, hz⟩
theorem run_neq_ptr_other {P : Program} (w : World) {tp te : TypeId} {j : TypeInfo} {a b : Addr} {ca cb : Array Value} {ta tb : TypeId} (hp : P.underlying tp = some (.pointer te)) (hte : P.info? te = some j) (hsz : j.size ≠ 0)
    (hne : a ≠ b) (ha : w.heap[a.block]? = some (.cells ca ta (0, 0))) (hb : w.heap[b.block]? = some (.cells cb tb (0, 0))) :
    (binOp .neq tp (.pointer (some a)) (.pointer (some b))).run P w = .ok (.bool true) w := by
  have h : ∀ d : Nat, (Op.equalIn (d + 1) tp (.pointer (some a)) (.pointer (some b))).run P w = .ok false w := fun d => by
    simp [Op.equalIn, run_underlying hp, sizeOf, typeInfo, hte, hsz, run_sameAddr_other w hne ha hb]
  simp only [binOp]
  simp [Op.equal, Op.maxDepth, h 9999]
def wl (N n : Nat) : List Value := (List.range n).map (fun i => Value.int .u64 (dg W64 N i : Nat))
theorem wl_get {N n i : Nat} (h : i < n) : (wl N n)[i]? = some (.int .u64 (dg W64 N i : Nat)) := by simp [wl, h]
theorem wl_len (N n : Nat) : (wl N n).length = n := by simp [wl]
theorem bigN_spliced {T : TypeId} {w w' : World} {g c n N : Nat} {a : Option Addr} (hN : NumAt .u64 W64 w a n c N) {c' : Nat} (hc' : n ≤ c') (hm : c' ≤ maxLen) (cur : List Value) (hl : cur.length = c')
    (hg : w'.heap[g]? = some (.cells (splice cur 0 (wl N n)).toArray T (0, 0))) : BigN T w' (some ⟨g, 0, none⟩) n c' N := by
  have hb : BlkAt w' g (splice cur 0 (wl N n)).toArray T := hg
  have hs : (splice cur 0 (wl N n)).length = c' := by simp [splice, wl_len]; omega
  refine ⟨⟨hN.lt, hN.top, hc', hm, fun hn => ⟨g, 0, rfl, fun i hi => ?_⟩⟩, .inr ⟨g, _, rfl, hb, by simpa using hs⟩⟩
  rw [hb.cell]
  simp only [Nat.zero_add, List.getElem?_toArray, splice, List.take_zero, List.nil_append]
  rw [List.getElem?_append_left (by rw [wl_len]; exact hi)]
  exact wl_get hi
end Go.Bg
namespace Go.Proofs.YtececkbcinmmpaaGreatDoor
open Go.RowKit Go.Bg Dg
theorem infoWordSize : (Tryz.prog.info? 139).map (·.size) = some 1 := by kernel_rfl
theorem natSet_nil (a : Option Addr) (n c N : Nat) (w : World) (h : NumAt .u64 W64 w a n c N) (hn : n ≤ 1000000) :
    Calls Tryz.prog 152 #[.slice none 0 0, .slice a n c] w (GivesN 139 N w) := by
  have HH := Lib.hid h
  have hnc := h.nc
  have hcm := h.cm
  unfold maxLen at hcm
  by_cases h0 : n = 0
  · subst h0
    have HN := Lib.hid (show N = 0 from by have := h.lt; simpa using this)
    clear h
    go_enter Tryz.func152, Tryz.ntmps152
    go_wp2_with fail
    refine (make_nil 0 (by omega) _).mono ?_
    rintro e w1 (⟨_, rfl, rfl⟩ | ⟨c', h0, _⟩)
    case inr => omega
    go_wp2_with (with_reducible refine wpList_copy_nothing (o := ⟨some 11, _, _, _, _, _⟩) rfl (.tmp 9) (.tmp 10) 153 153 rfl 139 Tryz.underlying153 infoWordSize _ _ _ _ _ _ rfl rfl (by simp) ?_)
    go_wp2
    go_ret
    exact ⟨none, 0, 0, rfl, by rw [HN.out]; exact BigN.nil _ _, Below.refl _ _⟩
  · clear h
    go_enter Tryz.func152, Tryz.ntmps152
    go_wp2_with fail
    refine (make_nil n hn _).mono ?_
    rintro e w1 (⟨h, _⟩ | ⟨c', hc0, hc1, hc2, rfl, hw⟩)
    case inl => omega
    have hb : BlkAt w1 w.heap.size (Array.replicate c' (.int .u64 0)) 139 := by rw [hw]; exact BlkAt.new _ _ _
    have hB1 : Below w.heap.size w w1 := by rw [hw]; exact (Below.refl _ _).alloc (Nat.le_refl _) _
    have H1 := Lib.hid (HH.out.keep hB1)
    have hg : w1.heap[w.heap.size]? = some (.cells (List.replicate c' (Value.int .u64 0)).toArray 139 (0, 0)) := by
      have := hb; unfold BlkAt at this; simpa using this
    have HG := Lib.hid hg
    have HB := Lib.hid hB1
    have HC := Lib.hid (show ∃ ad, a = some ad ∧ ∀ j v, (wl N n)[j]? = some v → w1.cell? (ad.add j) = some v from by
      obtain ⟨b, off, rfl, hcell⟩ := H1.out.cells (by omega)
      refine ⟨_, rfl, fun j v hj => ?_⟩
      have hjn : j < n := by
        have := (List.getElem?_eq_some_iff.1 hj).1
        rwa [wl_len] at this
      rw [wl_get hjn] at hj
      rw [← hj, ← hcell j hjn]
      unfold Addr.add
      split
      · next h => subst h; rfl
      · rfl)
    clear hb hB1 hg hw
    have HM := Lib.hid (show (wl N n).length = Nat.min n n from by rw [wl_len]; exact (Nat.min_self n).symm)
    have HT := Lib.hid (show 0 + (wl N n).length ≤ (List.replicate c' (Value.int .u64 0)).length from by rw [wl_len]; simp; omega)
    have HO := Lib.hid (show ∀ v ∈ wl N n, v.oneCell' = true from by intro v hv; simp only [wl, List.mem_map] at hv; obtain ⟨_, _, rfl⟩ := hv; rfl)
    go_wp2_with ((with_reducible refine wpList_copy_splice (o := ⟨some 11, _, _, _, _, _⟩) rfl (.tmp 9) (.tmp 10) 153 153 rfl 139 Tryz.underlying153 infoWordSize _ _ _ _ _ _ rfl rfl w.heap.size 0 _ _ HG.out (wl N n) HM.out (fun _ => ⟨rfl, HC.out⟩) HT.out HO.out w.heap.size w HB.out (Nat.le_refl _) ?_); intro w2 hg2 hb2)
    go_wp2
    go_ret
    exact ⟨_, _, _, rfl, bigN_spliced H1.out hc1 (by unfold maxLen; omega) _ (by simp) hg2, hb2⟩
theorem intSet_new (b o b1 o1 : Nat) (s : Bool) (N : Nat) (w : World) (h : NewInt w b o) (h1 : BigAt 139 w b1 o1 s N) (hne : b ≠ b1 ∨ o ≠ o1) (L : Nat) (hL : L ≤ 1000000) (hN : N < W64 ^ L) :
    Calls Tryz.prog 182 #[.pointer (some ⟨b, o, none⟩), .pointer (some ⟨b1, o1, none⟩)] w (IntIs b o s N w) := by
  obtain ⟨j, hj, hj2⟩ := Option.map_eq_some_iff.1 infoBigIntSize
  obtain ⟨cur1, e1, k1, _⟩ := h.blk
  obtain ⟨cur2, e2, k2, _⟩ := h1.blk
  have hq := run_neq_ptr_other (P := Tryz.prog) (a := ⟨b, o, none⟩) (b := ⟨b1, o1, none⟩) w Tryz.underlying94 hj (by rw [hj2]; decide) (by intro h; injection h with h h' _; omega) k1 k2
  obtain ⟨a, n, c, p0, p1, hNN⟩ := h1.val
  have hn : n ≤ 1000000 := Nat.le_trans (len_le W64_gt hNN.num.top hN) hL
  have HZ := Lib.hid h1.zero
  have HH := Lib.hid h
  have HN := Lib.hid hNN
  have H1 := Lib.hid h1
  have q1 := h.c1
  clear h h1 hNN hN k1 k2 hj2
  have hd0 : Below w.heap.size w w.drew := (Below.refl _ _).drew
  go_enter Tryz.func182, Tryz.ntmps182
  go_upto_region 2 with fail
  go_region_with
    ((go_at_call 152; (with_reducible refine (natSet_nil a n c N _ ?_ hn).mono ?_); exact (HN.out.keep hd0).num; rintro e w1 ⟨a2, n2, c2, rfl, hN2, hB⟩; have hB1 := Below.then hd0 (Nat.le_refl _) hB; have HF := Lib.hid (HH.out.made hB1 hN2 HZ.out); have h' := HH.out.keep hB1; obtain ⟨u0, k0⟩ := h'.c0; have k1 := h'.c1; have f0 := h'.blk.frozen o; have f1 := h'.blk.frozen (o + 1); have p0' : w1.cell? ⟨b1, o1, none⟩ = some (.bool s) := cell_keep p0 hB1; have p0'' : ∀ v, (w1.setCell ⟨b, o + 1, none⟩ v).cell? ⟨b1, o1, none⟩ = some (.bool s) := (fun v => by
      rw [World.cell?_setCell_other _ _ _ _ (fun hh => ?_)]
      · exact p0'
      · injection hh with hb ho _
        subst hb
        subst ho
        rw [k1] at p0'
        cases p0'); have k0' : ∀ v, (w1.setCell ⟨b, o + 1, none⟩ v).cell? ⟨b, o, none⟩ = some u0 := (fun v => by rw [World.cell?_setCell_other _ _ _ _ (fun hh => by injection hh with _ hh _; omega)]; exact k0); clear h' p0'))
  all_goals
    clear p0 p1 q1
    go_wp2
    go_ret
    exact HF.out
end Go.Proofs.YtececkbcinmmpaaGreatDoor
