/-
  FnComplexReal walked. PRINTED BY wip/gen_lcreal.py.
-/
import Derived.Test.YtgmienggfaahlaaGreatDoorUR
import Derived.Test.YtgmienggfaahlaaGreatDoorK36
import Derived.Test.YtgmienggfaahlaaGreatDoorK34
import Derived.Test.YtgmienggfaahlaaGreatDoorUN
import Derived.Test.YtgmienggfaahlaaGreatDoorK33
import Derived.Test.YtgmienggfaahlaaGreatDoorK18
import Derived.Deep.CutRange
set_option linter.unusedSimpArgs false
set_option linter.unusedVariables false
namespace Go.Proofs.YtgmienggfaahlaaGreatDoor
open Go.RowKit Go.Bg Dg

/-- what ToFloat answers of r + q i -/
def TF (r q : Rt) (L : Nat) (y : Vl) : Prop := (q.num = 0 → IsQ r L y) ∧ (0 < q.num → IsU y)
/-- what ToInt answers of r + q i -/
def TI (r q : Rt) (L : Nat) (y : Vl) : Prop := (q.num = 0 → r.den = 1 → IsZ (sg r.neg r.num) L y) ∧ (q.num = 0 → r.den ≠ 1 → IsU y) ∧ (0 < q.num → IsU y)

theorem implToFloatR_any (x : Vl) (r q : Rt) (L : Nat) (w : World) (hK : Thr w) (hT : ThrD w) (h : VlAt w x) (hm : MadeC x r q) (hp : PLt r q L) (hL : L ≤ 63) :
    Calls Tryz.prog 20 #[.agg #[.int .i64 x.kind, .bool x.truth, .string x.text, .bool x.neg, .slice x.wa x.wn x.wc, .slice x.da x.dn x.dc, .bool x.ineg, .slice x.ia x.inn x.ic, .slice x.ea x.en x.ec]] w (GivesV (TF r q L) w) := by
  by_cases hz : q.num = 0
  · exact (implToFloatC_any x r q L w hK hT h hm hp hL hz).mono fun e w' ⟨y, he, hy, hP, hB⟩ => ⟨y, he, hy, ⟨fun _ => hP, fun h => absurd hz (by omega)⟩, hB⟩
  · exact (implToFloatCN_any x r q L w hK hT h hm hp hL (by omega)).mono fun e w' ⟨y, he, hy, hP, hB⟩ => ⟨y, he, hy, ⟨fun h => absurd h hz, fun _ => hP⟩, hB⟩
theorem implToIntR_any (x : Vl) (r q : Rt) (L : Nat) (w : World) (hK : Thr w) (hT : ThrD w) (h : VlAt w x) (hm : MadeC x r q) (hp : PLt r q L) (hL : L ≤ 63) :
    Calls Tryz.prog 21 #[.agg #[.int .i64 x.kind, .bool x.truth, .string x.text, .bool x.neg, .slice x.wa x.wn x.wc, .slice x.da x.dn x.dc, .bool x.ineg, .slice x.ia x.inn x.ic, .slice x.ea x.en x.ec]] w (GivesV (TI r q L) w) := by
  by_cases hz : q.num = 0
  · by_cases hd : r.den = 1
    · exact (implToIntC_any x r q L w hK hT h hm hp hL hz hd).mono fun e w' ⟨y, he, hy, hP, hB⟩ => ⟨y, he, hy, ⟨fun _ _ => hP, fun _ h => absurd hd h, fun h => absurd hz (by omega)⟩, hB⟩
    · exact (implToIntCQ_any x r q L w hK hT h hm hp hL hz hd).mono fun e w' ⟨y, he, hy, hP, hB⟩ => ⟨y, he, hy, ⟨fun _ h => absurd h hd, fun _ _ => hP, fun h => absurd hz (by omega)⟩, hB⟩
  · exact (implToIntCN_any x r q L w hK hT h hm hp hL (by omega)).mono fun e w' ⟨y, he, hy, hP, hB⟩ => ⟨y, he, hy, ⟨fun h => absurd h hz, fun h => absurd h hz, fun _ => hP⟩, hB⟩
theorem numV_zr {z : Int} {L : Nat} {y : Vl} (h : IsZ z L y) (hL : L ≤ 63) : NumV y (rz z) :=
  ⟨.inl ⟨isZ_kind h, by rw [isZ_sg h]⟩, Nat.le_trans h.2.2.2 hL, (by
    have h1 := h.1
    unfold intB at h1
    simp only [Bool.and_eq_true, decide_eq_true_eq] at h1
    omega), rok_rz z⟩
theorem whole_absr (z : Int) : Rt.whole (decide (z < 0)) z.natAbs = rz z := by
  unfold Rt.whole rz
  by_cases h : z < 0
  · have : 0 < z.natAbs := by omega
    simp [h, this]
  · simp [h]
theorem rt_whole1r {r : Rt} (h : ROk r) (hd : r.den = 1) : r = rz (sg r.neg r.num) := by
  rw [← whole_rz]
  obtain ⟨s, n, d⟩ := r
  obtain rfl : d = 1 := hd
  have hs := h.sign
  unfold Rt.whole
  cases s
  · rfl
  · have : 0 < n := hs rfl
    simp [this]
theorem isZ_samer {z : Int} {L : Nat} {y : Vl} {r : Rt} (h : IsZ z L y) (hr : r = rz z) : (intB y && sameB (Rt.whole y.neg (val W64 y.wf y.wn)) r) = true := by
  obtain ⟨h1, h2, h3, _⟩ := h
  rw [h1, h2, h3, whole_absr, hr, sameB_refl]; rfl
theorem plt_one : PLt (rz 1) (rz 0) 1 := ⟨by omega, by omega, by decide, by decide, by decide, by decide, rok_rz 1, rok_rz 0⟩
theorem signOf_posr {r : Rt} (h : r.signOf ≠ 0) : 0 < r.num := by
  apply Nat.pos_of_ne_zero
  intro e
  apply h
  unfold Rt.signOf
  rw [if_pos e]
theorem signOf_oner {r : Rt} (h : r.signOf ≠ 0) : r.signOf = 1 ∨ r.signOf = -1 := by
  have := signOf_posr h
  unfold Rt.signOf
  rw [if_neg (by omega)]
  split
  · exact .inr rfl
  · exact .inl rfl
theorem signOf_zeror {r : Rt} (h : r.signOf = 0) : r.num = 0 := by
  unfold Rt.signOf at h
  split at h
  · assumption
  · split at h <;> cases h

set_option maxRecDepth 100000 in
set_option maxHeartbeats 8000000 in
theorem lawFnComplexReal_any (x : Vl) (w : World) (hT : Thr w) (hDD : ThrD w) (h1 : VlAt w x) :
    Calls Tryz.prog 5 #[.agg #[.int .i64 x.kind, .bool x.truth, .string x.text, .bool x.neg, .slice x.wa x.wn x.wc, .slice x.da x.dn x.dc, .bool x.ineg, .slice x.ia x.inn x.ic, .slice x.ea x.en x.ec]] w fun e w' => e = .returned (.bool true) ∧ Below w.heap.size w w' := by
  have HT := Lib.hid hT
  have HDD := Lib.hid hDD
  clear hT hDD
  obtain ⟨W0, hW0⟩ : ∃ W0, W0 = w.alloc (.cells #[.int .i64 x.kind, .bool x.truth, .string x.text, .bool x.neg, .slice x.wa x.wn x.wc, .slice x.da x.dn x.dc, .bool x.ineg, .slice x.ia x.inn x.ic, .slice x.ea x.en x.ec] 26) := ⟨_, rfl⟩
  have HW := Lib.hid hW0
  have hb0 : Below w.heap.size w W0 := by rw [hW0]; exact Below.alloc' (Below.refl _ _) _
  have X : Box9 W0 w.heap.size x := by rw [hW0]; exact Box9.new w x _ rfl
  have HX := Lib.hid (h1.keep hb0)
  clear hW0 h1
  cases hf : fitsB x
  · have HF := Lib.hid hf
    clear hf
    go_enter Tryz.func5, Tryz.ntmps5
    go_upto_region 1 with fail
    rw [← HW.out]
    obtain ⟨xc0, xc1, xc2, xc3, xc4, xc5, xc6, xc7, xc8⟩ := (X).all
    go_wp2_with fail
    refine (fits1_any x _).mono ?_
    rintro e w1 ⟨rfl, hB1⟩
    rw [HF.out]
    go_wp2
    go_ret
    exact ⟨rfl, Below.then hb0 (Nat.le_refl _) hB1⟩
  have HF := Lib.hid hf
  clear hf
  go_enter Tryz.func5, Tryz.ntmps5
  go_upto_region 1 with fail
  rw [← HW.out]
  obtain ⟨xc0, xc1, xc2, xc3, xc4, xc5, xc6, xc7, xc8⟩ := (X).all
  go_wp2_with fail
  refine (fits1_any x _).mono ?_
  rintro e w1 ⟨rfl, hB1⟩
  rw [HF.out]
  clear xc0 xc1 xc2 xc3 xc4 xc5 xc6 xc7 xc8
  have hb1 := Below.then hb0 (Nat.le_refl _) hB1
  have X1 := X.keep hB1
  have HX1 := Lib.hid (HX.out.keep hB1)
  clear X HX hB1 hb0 HW
  go_upto_region 3 with fail
  obtain ⟨xc0, xc1, xc2, xc3, xc4, xc5, xc6, xc7, xc8⟩ := (X1).all
  go_wp2_with fail
  refine (lawPair_any x 8 _ HX1.out (by omega)).mono ?_
  rintro e w2 ⟨sA, aA, nA, cA, aB, nB, cB, sC, aC, nC, cC, aD, nD, cD, rfl, hR, hB2⟩
  clear xc0 xc1 xc2 xc3 xc4 xc5 xc6 xc7 xc8
  go_upto_region 4 with fail
  obtain ⟨W3, hW3⟩ : ∃ W3, W3 = (w2.alloc (.cells #[.bool sA, .slice aA nA cA, .slice aB nB cB] 31)).alloc (.cells #[.bool sC, .slice aC nC cC, .slice aD nD cD] 31) := ⟨_, rfl⟩
  rw [← hW3]
  have hk3 : Below w2.heap.size w2 W3 := by rw [hW3]; exact Below.alloc' (Below.alloc' (Below.refl _ _) _) _
  have hB3 : Below w1.heap.size w1 W3 := Below.then hB2 (Nat.le_refl _) hk3
  have A3 : RtBlk W3 w2.heap.size sA aA nA cA aB nB cB := by rw [hW3]; exact (RtBlk.new _ _ rfl _ _ _ _ _ _ _).keep ((Below.refl _ _).alloc (Nat.le_refl _) _)
  have C3 : RtBlk W3 (w2.heap.size + 1) sC aC nC cC aD nD cD := by rw [hW3]; exact RtBlk.new _ _ (by simp) _ _ _ _ _ _ _
  have R3 := Lib.hid (fun hb => show RtAt W3 sA aA nA cA aB nB cB (vrt x) (4 * 8) ∧ RtAt W3 sC aC nC cC aD nD cD (virt x) (4 * 8) from ⟨(hR hb).1.keep hk3, (hR hb).2.keep hk3⟩)
  have hb3 := Below.then hb1 (Nat.le_refl _) hB3
  have X3 := X1.keep hB3
  have HX3 := Lib.hid (HX1.out.keep hB3)
  have HB3 := Lib.hid hb3
  clear hW3 hR hB2 hB3 hk3 X1 HX1 hb1 hb3
  cases hb : lpairB x 8
  · clear R3
    clear X3 A3 C3
    go_wp2
    go_ret
    exact ⟨rfl, HB3.out⟩
  have MX := Lib.hid (madeC_pair hb (by omega) (by omega))
  have PX := Lib.hid (plt_pair HX3.out hb (by omega) (by omega))
  obtain ⟨rA, rC⟩ := R3.out hb
  have RA3 := Lib.hid rA
  have RC3 := Lib.hid rC
  have HT3 := Lib.hid (HT.out.keep HB3.out)
  have HD3 := Lib.hid (HDD.out.keep HB3.out)
  clear rA rC hb R3 HT HDD
  go_upto_region 6 with fail
  have hd0 : Below W3.heap.size W3 W3.drew := (Below.refl _ _).drew
  have hd1 : Below W3.heap.size W3 ((W3.alloc (.cells #[.int .i64 0, .bool false, .string ⟨#[]⟩, .bool false, .slice none 0 0, .slice none 0 0, .bool false, .slice none 0 0, .slice none 0 0] 26)).drew) := (Below.alloc' (Below.refl _ _) _).drew
  have hd2 : Below W3.heap.size W3 (((W3.alloc (.cells #[.int .i64 0, .bool false, .string ⟨#[]⟩, .bool false, .slice none 0 0, .slice none 0 0, .bool false, .slice none 0 0, .slice none 0 0] 26)).alloc (.cells #[.int .i64 0, .bool false, .string ⟨#[]⟩, .bool false, .slice none 0 0, .slice none 0 0, .bool false, .slice none 0 0, .slice none 0 0] 26)).drew) := (Below.alloc' (Below.alloc' (Below.refl _ _) _) _).drew
  have HZ1 := Lib.hid (show BlkAt ((W3.alloc (.cells #[.int .i64 0, .bool false, .string ⟨#[]⟩, .bool false, .slice none 0 0, .slice none 0 0, .bool false, .slice none 0 0, .slice none 0 0] 26)).drew) W3.heap.size #[.int .i64 0, .bool false, .string ⟨#[]⟩, .bool false, .slice none 0 0, .slice none 0 0, .bool false, .slice none 0 0, .slice none 0 0] 26 from BlkAt.keep (BlkAt.new W3 #[.int .i64 0, .bool false, .string ⟨#[]⟩, .bool false, .slice none 0 0, .slice none 0 0, .bool false, .slice none 0 0, .slice none 0 0] 26) (Below.refl _ _).drew)
  have HZ2a := Lib.hid (show BlkAt (((W3.alloc (.cells #[.int .i64 0, .bool false, .string ⟨#[]⟩, .bool false, .slice none 0 0, .slice none 0 0, .bool false, .slice none 0 0, .slice none 0 0] 26)).alloc (.cells #[.int .i64 0, .bool false, .string ⟨#[]⟩, .bool false, .slice none 0 0, .slice none 0 0, .bool false, .slice none 0 0, .slice none 0 0] 26)).drew) W3.heap.size #[.int .i64 0, .bool false, .string ⟨#[]⟩, .bool false, .slice none 0 0, .slice none 0 0, .bool false, .slice none 0 0, .slice none 0 0] 26 from BlkAt.keep (BlkAt.new W3 #[.int .i64 0, .bool false, .string ⟨#[]⟩, .bool false, .slice none 0 0, .slice none 0 0, .bool false, .slice none 0 0, .slice none 0 0] 26) (Below.alloc' (Below.refl _ _) _).drew)
  have H4 := Lib.hid (show ∀ W : World, BlkAt ((W.alloc (.cells #[.int .i64 0, .bool false, .string ⟨#[]⟩, .bool false, .slice none 0 0, .slice none 0 0, .bool false, .slice none 0 0, .slice none 0 0] 26)).alloc (.cells #[.int .i64 0, .bool false, .string ⟨#[]⟩, .bool false, .slice none 0 0, .slice none 0 0, .bool false, .slice none 0 0, .slice none 0 0] 26)) (W.heap.size + 1) #[.int .i64 0, .bool false, .string ⟨#[]⟩, .bool false, .slice none 0 0, .slice none 0 0, .bool false, .slice none 0 0, .slice none 0 0] 26 from fun W => by simpa using BlkAt.new (W.alloc (.cells #[.int .i64 0, .bool false, .string ⟨#[]⟩, .bool false, .slice none 0 0, .slice none 0 0, .bool false, .slice none 0 0, .slice none 0 0] 26)) #[.int .i64 0, .bool false, .string ⟨#[]⟩, .bool false, .slice none 0 0, .slice none 0 0, .bool false, .slice none 0 0, .slice none 0 0] 26)
  have HZ2b := Lib.hid (show BlkAt (((W3.alloc (.cells #[.int .i64 0, .bool false, .string ⟨#[]⟩, .bool false, .slice none 0 0, .slice none 0 0, .bool false, .slice none 0 0, .slice none 0 0] 26)).alloc (.cells #[.int .i64 0, .bool false, .string ⟨#[]⟩, .bool false, .slice none 0 0, .slice none 0 0, .bool false, .slice none 0 0, .slice none 0 0] 26)).drew) (W3.heap.size + 1) #[.int .i64 0, .bool false, .string ⟨#[]⟩, .bool false, .slice none 0 0, .slice none 0 0, .bool false, .slice none 0 0, .slice none 0 0] 26 from BlkAt.keep (H4.out W3) (Below.refl _ _).drew)
  go_cut [6, 7] from 20 to 23 (fun s8 s9 wx => ∃ gq gr q r, s8 = .pointer (some ⟨gq, 0, none⟩) ∧ s9 = .pointer (some ⟨gr, 0, none⟩) ∧ Boxed2 W3 wx gq gr q r ∧ TF (vrt x) (virt x) 8 q ∧ TI (vrt x) (virt x) 8 r)
  case first =>
    go_region_held3 (fun w' => w'.cell? ⟨w.heap.size, 0, none⟩ = some (.int .i64 x.kind) ∧ w'.cell? ⟨w.heap.size, 1, none⟩ = some (.bool x.truth) ∧ w'.cell? ⟨w.heap.size, 2, none⟩ = some (.string x.text) ∧ w'.cell? ⟨w.heap.size, 3, none⟩ = some (.bool x.neg) ∧ w'.cell? ⟨w.heap.size, 4, none⟩ = some (.slice x.wa x.wn x.wc) ∧ w'.cell? ⟨w.heap.size, 5, none⟩ = some (.slice x.da x.dn x.dc) ∧ w'.cell? ⟨w.heap.size, 6, none⟩ = some (.bool x.ineg) ∧ w'.cell? ⟨w.heap.size, 7, none⟩ = some (.slice x.ia x.inn x.ic) ∧ w'.cell? ⟨w.heap.size, 8, none⟩ = some (.slice x.ea x.en x.ec))
      (with_reducible refine (X3.keep ?_).all <;> (with_reducible first | assumption | exact Below.alloc' (by assumption) _ | exact Below.alloc' (Below.alloc' (by assumption) _) _ | exact Below.refl _ _ | (refine below_set9 ?_ ?_ _ _ _ _ _ _ _ _ _ <;> first | assumption | exact Below.alloc' (by assumption) _ | exact Below.alloc' (Below.alloc' (by assumption) _) _ | exact Nat.le_refl _ | exact Nat.le_succ _ | exact hbQ.size | exact Nat.le_trans hbQ.size (Nat.le_succ _) | exact hbR.size | exact Nat.le_trans hbR.size (Nat.le_succ _) | (refine below_set9 ?_ ?_ _ _ _ _ _ _ _ _ _ <;> first | assumption | exact Below.alloc' (by assumption) _ | exact Below.alloc' (Below.alloc' (by assumption) _) _ | exact Nat.le_refl _ | exact Nat.le_succ _ | exact hbQ.size | exact Nat.le_trans hbQ.size (Nat.le_succ _) | exact hbR.size | exact Nat.le_trans hbR.size (Nat.le_succ _)))))
      (first | (go_at_call 20; (with_reducible refine (implToFloatR_any x (vrt x) (virt x) 8 _ ?_ ?_ ?_ MX.out PX.out (by omega)).mono ?_); exact HT3.out.keep (by first | assumption | exact Below.alloc' (by assumption) _ | exact Below.alloc' (Below.alloc' (by assumption) _) _); exact HD3.out.keep (by first | assumption | exact Below.alloc' (by assumption) _ | exact Below.alloc' (Below.alloc' (by assumption) _) _); exact HX3.out.keep (by first | assumption | exact Below.alloc' (by assumption) _ | exact Below.alloc' (Below.alloc' (by assumption) _) _); rintro e wQ ⟨q, rfl, hq, hQ, hBQ⟩; have hbQ := Below.then (show Below W3.heap.size W3 _ from by first | assumption | exact Below.alloc' (by assumption) _ | exact Below.alloc' (Below.alloc' (by assumption) _) _) (Nat.le_refl _) hBQ; (try (with_reducible have A1 := HZ1.out.keep hBQ)); (try (with_reducible have A1 := HZ2a.out.keep hBQ)); (try (with_reducible have A2 := HZ2b.out.keep hBQ))) | (go_at_call 21; (with_reducible refine (implToIntR_any x (vrt x) (virt x) 8 _ ?_ ?_ ?_ MX.out PX.out (by omega)).mono ?_); exact HT3.out.keep (by first | assumption | exact Below.alloc' (by assumption) _ | exact Below.alloc' (Below.alloc' (by assumption) _) _); exact HD3.out.keep (by first | assumption | exact Below.alloc' (by assumption) _ | exact Below.alloc' (Below.alloc' (by assumption) _) _); exact HX3.out.keep (by first | assumption | exact Below.alloc' (by assumption) _ | exact Below.alloc' (Below.alloc' (by assumption) _) _); rintro e wR ⟨r, rfl, hr, hR, hBR⟩; have hbR := Below.then (show Below W3.heap.size W3 _ from by first | assumption | exact Below.alloc' (by assumption) _ | exact Below.alloc' (Below.alloc' (by assumption) _) _) (Nat.le_refl _) hBR; have hq' := VlAt.keep (show VlAt _ q from by first | exact hq | exact hq.keep (Below.alloc' (Below.refl _ _) _) | exact hq.keep (Below.alloc' (Below.alloc' (Below.refl _ _) _) _)) hBR; (try (have B1 := BlkAt.keep (show BlkAt _ W3.heap.size #[.int .i64 0, .bool false, .string ⟨#[]⟩, .bool false, .slice none 0 0, .slice none 0 0, .bool false, .slice none 0 0, .slice none 0 0] 26 from by with_reducible first | exact A1 | exact A1.keep (Below.alloc' (Below.refl _ _) _) | exact A1.keep (Below.alloc' (Below.alloc' (Below.refl _ _) _) _)) hBR)); (try (have B2 := BlkAt.keep (show BlkAt _ (W3.heap.size + 1) #[.int .i64 0, .bool false, .string ⟨#[]⟩, .bool false, .slice none 0 0, .slice none 0 0, .bool false, .slice none 0 0, .slice none 0 0] 26 from by with_reducible first | exact A2 | exact A2.keep (Below.alloc' (Below.refl _ _) _) | exact A2.keep (Below.alloc' (Below.alloc' (Below.refl _ _) _) _)) hBR)); (try (with_reducible have B3 := BlkAt.keep (BlkAt.new wQ #[.int .i64 0, .bool false, .string ⟨#[]⟩, .bool false, .slice none 0 0, .slice none 0 0, .bool false, .slice none 0 0, .slice none 0 0] 26) hBR)); (try (with_reducible have B3 := BlkAt.keep ((BlkAt.new wQ #[.int .i64 0, .bool false, .string ⟨#[]⟩, .bool false, .slice none 0 0, .slice none 0 0, .bool false, .slice none 0 0, .slice none 0 0] 26).keep (Below.alloc' (Below.refl _ _) (.cells #[.int .i64 0, .bool false, .string ⟨#[]⟩, .bool false, .slice none 0 0, .slice none 0 0, .bool false, .slice none 0 0, .slice none 0 0] 26))) hBR)); (try (with_reducible have B4 := BlkAt.keep (H4.out wQ) hBR)); (try (have p1c0 := (B1).cell 0; have p1c1 := (B1).cell 1; have p1c2 := (B1).cell 2; have p1c3 := (B1).cell 3; have p1c4 := (B1).cell 4; have p1c5 := (B1).cell 5; have p1c6 := (B1).cell 6; have p1c7 := (B1).cell 7; have p1c8 := (B1).cell 8; simp only [List.getElem?_toArray, List.getElem?_cons_zero, List.getElem?_cons_succ] at p1c0 p1c1 p1c2 p1c3 p1c4 p1c5 p1c6 p1c7 p1c8; have p1f0 := (B1).frozen 0; have p1f1 := (B1).frozen 1; have p1f2 := (B1).frozen 2; have p1f3 := (B1).frozen 3; have p1f4 := (B1).frozen 4; have p1f5 := (B1).frozen 5; have p1f6 := (B1).frozen 6; have p1f7 := (B1).frozen 7; have p1f8 := (B1).frozen 8)); (try (have C1 := B1.keep (Below.alloc' (Below.refl _ _) (.cells #[.int .i64 0, .bool false, .string ⟨#[]⟩, .bool false, .slice none 0 0, .slice none 0 0, .bool false, .slice none 0 0, .slice none 0 0] 26)); have c1c0 := (C1).cell 0; have c1c1 := (C1).cell 1; have c1c2 := (C1).cell 2; have c1c3 := (C1).cell 3; have c1c4 := (C1).cell 4; have c1c5 := (C1).cell 5; have c1c6 := (C1).cell 6; have c1c7 := (C1).cell 7; have c1c8 := (C1).cell 8; simp only [List.getElem?_toArray, List.getElem?_cons_zero, List.getElem?_cons_succ] at c1c0 c1c1 c1c2 c1c3 c1c4 c1c5 c1c6 c1c7 c1c8; have c1f0 := (C1).frozen 0; have c1f1 := (C1).frozen 1; have c1f2 := (C1).frozen 2; have c1f3 := (C1).frozen 3; have c1f4 := (C1).frozen 4; have c1f5 := (C1).frozen 5; have c1f6 := (C1).frozen 6; have c1f7 := (C1).frozen 7; have c1f8 := (C1).frozen 8)); (try (have D1 := B1.keep (Below.alloc' (Below.refl _ _) (.cells #[.int .i64 q.kind, .bool q.truth, .string q.text, .bool q.neg, .slice q.wa q.wn q.wc, .slice q.da q.dn q.dc, .bool q.ineg, .slice q.ia q.inn q.ic, .slice q.ea q.en q.ec] 26)); have d1c0 := (D1).cell 0; have d1c1 := (D1).cell 1; have d1c2 := (D1).cell 2; have d1c3 := (D1).cell 3; have d1c4 := (D1).cell 4; have d1c5 := (D1).cell 5; have d1c6 := (D1).cell 6; have d1c7 := (D1).cell 7; have d1c8 := (D1).cell 8; simp only [List.getElem?_toArray, List.getElem?_cons_zero, List.getElem?_cons_succ] at d1c0 d1c1 d1c2 d1c3 d1c4 d1c5 d1c6 d1c7 d1c8; have d1f0 := (D1).frozen 0; have d1f1 := (D1).frozen 1; have d1f2 := (D1).frozen 2; have d1f3 := (D1).frozen 3; have d1f4 := (D1).frozen 4; have d1f5 := (D1).frozen 5; have d1f6 := (D1).frozen 6; have d1f7 := (D1).frozen 7; have d1f8 := (D1).frozen 8)); (try (have E1 := B1.keep (Below.alloc' (Below.refl _ _) (.cells #[.int .i64 r.kind, .bool r.truth, .string r.text, .bool r.neg, .slice r.wa r.wn r.wc, .slice r.da r.dn r.dc, .bool r.ineg, .slice r.ia r.inn r.ic, .slice r.ea r.en r.ec] 26)); have e1c0 := (E1).cell 0; have e1c1 := (E1).cell 1; have e1c2 := (E1).cell 2; have e1c3 := (E1).cell 3; have e1c4 := (E1).cell 4; have e1c5 := (E1).cell 5; have e1c6 := (E1).cell 6; have e1c7 := (E1).cell 7; have e1c8 := (E1).cell 8; simp only [List.getElem?_toArray, List.getElem?_cons_zero, List.getElem?_cons_succ] at e1c0 e1c1 e1c2 e1c3 e1c4 e1c5 e1c6 e1c7 e1c8; have e1f0 := (E1).frozen 0; have e1f1 := (E1).frozen 1; have e1f2 := (E1).frozen 2; have e1f3 := (E1).frozen 3; have e1f4 := (E1).frozen 4; have e1f5 := (E1).frozen 5; have e1f6 := (E1).frozen 6; have e1f7 := (E1).frozen 7; have e1f8 := (E1).frozen 8)); (try (have p2c0 := (B2).cell 0; have p2c1 := (B2).cell 1; have p2c2 := (B2).cell 2; have p2c3 := (B2).cell 3; have p2c4 := (B2).cell 4; have p2c5 := (B2).cell 5; have p2c6 := (B2).cell 6; have p2c7 := (B2).cell 7; have p2c8 := (B2).cell 8; simp only [List.getElem?_toArray, List.getElem?_cons_zero, List.getElem?_cons_succ] at p2c0 p2c1 p2c2 p2c3 p2c4 p2c5 p2c6 p2c7 p2c8; have p2f0 := (B2).frozen 0; have p2f1 := (B2).frozen 1; have p2f2 := (B2).frozen 2; have p2f3 := (B2).frozen 3; have p2f4 := (B2).frozen 4; have p2f5 := (B2).frozen 5; have p2f6 := (B2).frozen 6; have p2f7 := (B2).frozen 7; have p2f8 := (B2).frozen 8)); (try (have C2 := B2.keep (Below.alloc' (Below.refl _ _) (.cells #[.int .i64 0, .bool false, .string ⟨#[]⟩, .bool false, .slice none 0 0, .slice none 0 0, .bool false, .slice none 0 0, .slice none 0 0] 26)); have c2c0 := (C2).cell 0; have c2c1 := (C2).cell 1; have c2c2 := (C2).cell 2; have c2c3 := (C2).cell 3; have c2c4 := (C2).cell 4; have c2c5 := (C2).cell 5; have c2c6 := (C2).cell 6; have c2c7 := (C2).cell 7; have c2c8 := (C2).cell 8; simp only [List.getElem?_toArray, List.getElem?_cons_zero, List.getElem?_cons_succ] at c2c0 c2c1 c2c2 c2c3 c2c4 c2c5 c2c6 c2c7 c2c8; have c2f0 := (C2).frozen 0; have c2f1 := (C2).frozen 1; have c2f2 := (C2).frozen 2; have c2f3 := (C2).frozen 3; have c2f4 := (C2).frozen 4; have c2f5 := (C2).frozen 5; have c2f6 := (C2).frozen 6; have c2f7 := (C2).frozen 7; have c2f8 := (C2).frozen 8)); (try (have D2 := B2.keep (Below.alloc' (Below.refl _ _) (.cells #[.int .i64 q.kind, .bool q.truth, .string q.text, .bool q.neg, .slice q.wa q.wn q.wc, .slice q.da q.dn q.dc, .bool q.ineg, .slice q.ia q.inn q.ic, .slice q.ea q.en q.ec] 26)); have d2c0 := (D2).cell 0; have d2c1 := (D2).cell 1; have d2c2 := (D2).cell 2; have d2c3 := (D2).cell 3; have d2c4 := (D2).cell 4; have d2c5 := (D2).cell 5; have d2c6 := (D2).cell 6; have d2c7 := (D2).cell 7; have d2c8 := (D2).cell 8; simp only [List.getElem?_toArray, List.getElem?_cons_zero, List.getElem?_cons_succ] at d2c0 d2c1 d2c2 d2c3 d2c4 d2c5 d2c6 d2c7 d2c8; have d2f0 := (D2).frozen 0; have d2f1 := (D2).frozen 1; have d2f2 := (D2).frozen 2; have d2f3 := (D2).frozen 3; have d2f4 := (D2).frozen 4; have d2f5 := (D2).frozen 5; have d2f6 := (D2).frozen 6; have d2f7 := (D2).frozen 7; have d2f8 := (D2).frozen 8)); (try (have E2 := B2.keep (Below.alloc' (Below.refl _ _) (.cells #[.int .i64 r.kind, .bool r.truth, .string r.text, .bool r.neg, .slice r.wa r.wn r.wc, .slice r.da r.dn r.dc, .bool r.ineg, .slice r.ia r.inn r.ic, .slice r.ea r.en r.ec] 26)); have e2c0 := (E2).cell 0; have e2c1 := (E2).cell 1; have e2c2 := (E2).cell 2; have e2c3 := (E2).cell 3; have e2c4 := (E2).cell 4; have e2c5 := (E2).cell 5; have e2c6 := (E2).cell 6; have e2c7 := (E2).cell 7; have e2c8 := (E2).cell 8; simp only [List.getElem?_toArray, List.getElem?_cons_zero, List.getElem?_cons_succ] at e2c0 e2c1 e2c2 e2c3 e2c4 e2c5 e2c6 e2c7 e2c8; have e2f0 := (E2).frozen 0; have e2f1 := (E2).frozen 1; have e2f2 := (E2).frozen 2; have e2f3 := (E2).frozen 3; have e2f4 := (E2).frozen 4; have e2f5 := (E2).frozen 5; have e2f6 := (E2).frozen 6; have e2f7 := (E2).frozen 7; have e2f8 := (E2).frozen 8)); (try (have p3c0 := (B3).cell 0; have p3c1 := (B3).cell 1; have p3c2 := (B3).cell 2; have p3c3 := (B3).cell 3; have p3c4 := (B3).cell 4; have p3c5 := (B3).cell 5; have p3c6 := (B3).cell 6; have p3c7 := (B3).cell 7; have p3c8 := (B3).cell 8; simp only [List.getElem?_toArray, List.getElem?_cons_zero, List.getElem?_cons_succ] at p3c0 p3c1 p3c2 p3c3 p3c4 p3c5 p3c6 p3c7 p3c8; have p3f0 := (B3).frozen 0; have p3f1 := (B3).frozen 1; have p3f2 := (B3).frozen 2; have p3f3 := (B3).frozen 3; have p3f4 := (B3).frozen 4; have p3f5 := (B3).frozen 5; have p3f6 := (B3).frozen 6; have p3f7 := (B3).frozen 7; have p3f8 := (B3).frozen 8)); (try (have C3 := B3.keep (Below.alloc' (Below.refl _ _) (.cells #[.int .i64 0, .bool false, .string ⟨#[]⟩, .bool false, .slice none 0 0, .slice none 0 0, .bool false, .slice none 0 0, .slice none 0 0] 26)); have c3c0 := (C3).cell 0; have c3c1 := (C3).cell 1; have c3c2 := (C3).cell 2; have c3c3 := (C3).cell 3; have c3c4 := (C3).cell 4; have c3c5 := (C3).cell 5; have c3c6 := (C3).cell 6; have c3c7 := (C3).cell 7; have c3c8 := (C3).cell 8; simp only [List.getElem?_toArray, List.getElem?_cons_zero, List.getElem?_cons_succ] at c3c0 c3c1 c3c2 c3c3 c3c4 c3c5 c3c6 c3c7 c3c8; have c3f0 := (C3).frozen 0; have c3f1 := (C3).frozen 1; have c3f2 := (C3).frozen 2; have c3f3 := (C3).frozen 3; have c3f4 := (C3).frozen 4; have c3f5 := (C3).frozen 5; have c3f6 := (C3).frozen 6; have c3f7 := (C3).frozen 7; have c3f8 := (C3).frozen 8)); (try (have D3 := B3.keep (Below.alloc' (Below.refl _ _) (.cells #[.int .i64 q.kind, .bool q.truth, .string q.text, .bool q.neg, .slice q.wa q.wn q.wc, .slice q.da q.dn q.dc, .bool q.ineg, .slice q.ia q.inn q.ic, .slice q.ea q.en q.ec] 26)); have d3c0 := (D3).cell 0; have d3c1 := (D3).cell 1; have d3c2 := (D3).cell 2; have d3c3 := (D3).cell 3; have d3c4 := (D3).cell 4; have d3c5 := (D3).cell 5; have d3c6 := (D3).cell 6; have d3c7 := (D3).cell 7; have d3c8 := (D3).cell 8; simp only [List.getElem?_toArray, List.getElem?_cons_zero, List.getElem?_cons_succ] at d3c0 d3c1 d3c2 d3c3 d3c4 d3c5 d3c6 d3c7 d3c8; have d3f0 := (D3).frozen 0; have d3f1 := (D3).frozen 1; have d3f2 := (D3).frozen 2; have d3f3 := (D3).frozen 3; have d3f4 := (D3).frozen 4; have d3f5 := (D3).frozen 5; have d3f6 := (D3).frozen 6; have d3f7 := (D3).frozen 7; have d3f8 := (D3).frozen 8)); (try (have E3 := B3.keep (Below.alloc' (Below.refl _ _) (.cells #[.int .i64 r.kind, .bool r.truth, .string r.text, .bool r.neg, .slice r.wa r.wn r.wc, .slice r.da r.dn r.dc, .bool r.ineg, .slice r.ia r.inn r.ic, .slice r.ea r.en r.ec] 26)); have e3c0 := (E3).cell 0; have e3c1 := (E3).cell 1; have e3c2 := (E3).cell 2; have e3c3 := (E3).cell 3; have e3c4 := (E3).cell 4; have e3c5 := (E3).cell 5; have e3c6 := (E3).cell 6; have e3c7 := (E3).cell 7; have e3c8 := (E3).cell 8; simp only [List.getElem?_toArray, List.getElem?_cons_zero, List.getElem?_cons_succ] at e3c0 e3c1 e3c2 e3c3 e3c4 e3c5 e3c6 e3c7 e3c8; have e3f0 := (E3).frozen 0; have e3f1 := (E3).frozen 1; have e3f2 := (E3).frozen 2; have e3f3 := (E3).frozen 3; have e3f4 := (E3).frozen 4; have e3f5 := (E3).frozen 5; have e3f6 := (E3).frozen 6; have e3f7 := (E3).frozen 7; have e3f8 := (E3).frozen 8)); (try (have p4c0 := (B4).cell 0; have p4c1 := (B4).cell 1; have p4c2 := (B4).cell 2; have p4c3 := (B4).cell 3; have p4c4 := (B4).cell 4; have p4c5 := (B4).cell 5; have p4c6 := (B4).cell 6; have p4c7 := (B4).cell 7; have p4c8 := (B4).cell 8; simp only [List.getElem?_toArray, List.getElem?_cons_zero, List.getElem?_cons_succ] at p4c0 p4c1 p4c2 p4c3 p4c4 p4c5 p4c6 p4c7 p4c8; have p4f0 := (B4).frozen 0; have p4f1 := (B4).frozen 1; have p4f2 := (B4).frozen 2; have p4f3 := (B4).frozen 3; have p4f4 := (B4).frozen 4; have p4f5 := (B4).frozen 5; have p4f6 := (B4).frozen 6; have p4f7 := (B4).frozen 7; have p4f8 := (B4).frozen 8)); (try (have C4 := B4.keep (Below.alloc' (Below.refl _ _) (.cells #[.int .i64 0, .bool false, .string ⟨#[]⟩, .bool false, .slice none 0 0, .slice none 0 0, .bool false, .slice none 0 0, .slice none 0 0] 26)); have c4c0 := (C4).cell 0; have c4c1 := (C4).cell 1; have c4c2 := (C4).cell 2; have c4c3 := (C4).cell 3; have c4c4 := (C4).cell 4; have c4c5 := (C4).cell 5; have c4c6 := (C4).cell 6; have c4c7 := (C4).cell 7; have c4c8 := (C4).cell 8; simp only [List.getElem?_toArray, List.getElem?_cons_zero, List.getElem?_cons_succ] at c4c0 c4c1 c4c2 c4c3 c4c4 c4c5 c4c6 c4c7 c4c8; have c4f0 := (C4).frozen 0; have c4f1 := (C4).frozen 1; have c4f2 := (C4).frozen 2; have c4f3 := (C4).frozen 3; have c4f4 := (C4).frozen 4; have c4f5 := (C4).frozen 5; have c4f6 := (C4).frozen 6; have c4f7 := (C4).frozen 7; have c4f8 := (C4).frozen 8)); (try (have D4 := B4.keep (Below.alloc' (Below.refl _ _) (.cells #[.int .i64 q.kind, .bool q.truth, .string q.text, .bool q.neg, .slice q.wa q.wn q.wc, .slice q.da q.dn q.dc, .bool q.ineg, .slice q.ia q.inn q.ic, .slice q.ea q.en q.ec] 26)); have d4c0 := (D4).cell 0; have d4c1 := (D4).cell 1; have d4c2 := (D4).cell 2; have d4c3 := (D4).cell 3; have d4c4 := (D4).cell 4; have d4c5 := (D4).cell 5; have d4c6 := (D4).cell 6; have d4c7 := (D4).cell 7; have d4c8 := (D4).cell 8; simp only [List.getElem?_toArray, List.getElem?_cons_zero, List.getElem?_cons_succ] at d4c0 d4c1 d4c2 d4c3 d4c4 d4c5 d4c6 d4c7 d4c8; have d4f0 := (D4).frozen 0; have d4f1 := (D4).frozen 1; have d4f2 := (D4).frozen 2; have d4f3 := (D4).frozen 3; have d4f4 := (D4).frozen 4; have d4f5 := (D4).frozen 5; have d4f6 := (D4).frozen 6; have d4f7 := (D4).frozen 7; have d4f8 := (D4).frozen 8)); (try (have E4 := B4.keep (Below.alloc' (Below.refl _ _) (.cells #[.int .i64 r.kind, .bool r.truth, .string r.text, .bool r.neg, .slice r.wa r.wn r.wc, .slice r.da r.dn r.dc, .bool r.ineg, .slice r.ia r.inn r.ic, .slice r.ea r.en r.ec] 26)); have e4c0 := (E4).cell 0; have e4c1 := (E4).cell 1; have e4c2 := (E4).cell 2; have e4c3 := (E4).cell 3; have e4c4 := (E4).cell 4; have e4c5 := (E4).cell 5; have e4c6 := (E4).cell 6; have e4c7 := (E4).cell 7; have e4c8 := (E4).cell 8; simp only [List.getElem?_toArray, List.getElem?_cons_zero, List.getElem?_cons_succ] at e4c0 e4c1 e4c2 e4c3 e4c4 e4c5 e4c6 e4c7 e4c8; have e4f0 := (E4).frozen 0; have e4f1 := (E4).frozen 1; have e4f2 := (E4).frozen 2; have e4f3 := (E4).frozen 3; have e4f4 := (E4).frozen 4; have e4f5 := (E4).frozen 5; have e4f6 := (E4).frozen 6; have e4f7 := (E4).frozen 7; have e4f8 := (E4).frozen 8)); (try (have n0a : ¬ W3.heap.size = wQ.heap.size := Nat.ne_of_lt A1.lt; have n0b : ¬ wQ.heap.size = W3.heap.size := fun h => Nat.ne_of_lt A1.lt h.symm)); (try (have n1a : ¬ W3.heap.size = wR.heap.size := Nat.ne_of_lt B1.lt; have n1b : ¬ wR.heap.size = W3.heap.size := fun h => Nat.ne_of_lt B1.lt h.symm)); (try (have n2a : ¬ wQ.heap.size = wR.heap.size := Nat.ne_of_lt B3.lt; have n2b : ¬ wR.heap.size = wQ.heap.size := fun h => Nat.ne_of_lt B3.lt h.symm))))
    · have hq2 := hq'
      have HBX : Boxed2 W3 ((wR.alloc (.cells #[.int .i64 q.kind, .bool q.truth, .string q.text, .bool q.neg, .slice q.wa q.wn q.wc, .slice q.da q.dn q.dc, .bool q.ineg, .slice q.ia q.inn q.ic, .slice q.ea q.en q.ec] 26)).alloc (.cells #[.int .i64 r.kind, .bool r.truth, .string r.text, .bool r.neg, .slice r.wa r.wn r.wc, .slice r.da r.dn r.dc, .bool r.ineg, .slice r.ia r.inn r.ic, .slice r.ea r.en r.ec] 26)) (wR.heap.size) (wR.heap.size + 1) q r := ⟨Below.alloc' (Below.alloc' hbR _) _, (hq2.keep (Below.alloc' (Below.refl _ _) _)).keep (Below.alloc' (Below.refl _ _) _), (hr.keep (Below.alloc' (Below.refl _ _) _)).keep (Below.alloc' (Below.refl _ _) _), (Box9.new wR q _ rfl).alloc _, Box9.new _ r _ (by simp)⟩
      go_wp2_with fail
      go_meet
      with_reducible exact ⟨_, _, q, r, rfl, rfl, HBX, hQ, hR⟩
    · have hq2 := hq'
      have HBX : Boxed2 W3 ((wR.alloc (.cells #[.int .i64 r.kind, .bool r.truth, .string r.text, .bool r.neg, .slice r.wa r.wn r.wc, .slice r.da r.dn r.dc, .bool r.ineg, .slice r.ia r.inn r.ic, .slice r.ea r.en r.ec] 26)).alloc (.cells #[.int .i64 q.kind, .bool q.truth, .string q.text, .bool q.neg, .slice q.wa q.wn q.wc, .slice q.da q.dn q.dc, .bool q.ineg, .slice q.ia q.inn q.ic, .slice q.ea q.en q.ec] 26)) (wR.heap.size + 1) (wR.heap.size) q r := ⟨Below.alloc' (Below.alloc' hbR _) _, (hq2.keep (Below.alloc' (Below.refl _ _) _)).keep (Below.alloc' (Below.refl _ _) _), (hr.keep (Below.alloc' (Below.refl _ _) _)).keep (Below.alloc' (Below.refl _ _) _), Box9.new _ q _ (by simp), (Box9.new wR r _ rfl).alloc _⟩
      go_wp2_with fail
      go_meet
      with_reducible exact ⟨_, _, q, r, rfl, rfl, HBX, hQ, hR⟩
    · have hq2 := hq'
      have HBX : Boxed2 W3 (((((((((((((((((((wR.alloc (.cells #[.int .i64 0, .bool false, .string ⟨#[]⟩, .bool false, .slice none 0 0, .slice none 0 0, .bool false, .slice none 0 0, .slice none 0 0] 26)).setCell ⟨wQ.heap.size, 0, none⟩ (.int .i64 q.kind)).setCell ⟨wQ.heap.size, 1, none⟩ (.bool q.truth)).setCell ⟨wQ.heap.size, 2, none⟩ (.string q.text)).setCell ⟨wQ.heap.size, 3, none⟩ (.bool q.neg)).setCell ⟨wQ.heap.size, 4, none⟩ (.slice q.wa q.wn q.wc)).setCell ⟨wQ.heap.size, 5, none⟩ (.slice q.da q.dn q.dc)).setCell ⟨wQ.heap.size, 6, none⟩ (.bool q.ineg)).setCell ⟨wQ.heap.size, 7, none⟩ (.slice q.ia q.inn q.ic)).setCell ⟨wQ.heap.size, 8, none⟩ (.slice q.ea q.en q.ec)).setCell ⟨wR.heap.size, 0, none⟩ (.int .i64 r.kind)).setCell ⟨wR.heap.size, 1, none⟩ (.bool r.truth)).setCell ⟨wR.heap.size, 2, none⟩ (.string r.text)).setCell ⟨wR.heap.size, 3, none⟩ (.bool r.neg)).setCell ⟨wR.heap.size, 4, none⟩ (.slice r.wa r.wn r.wc)).setCell ⟨wR.heap.size, 5, none⟩ (.slice r.da r.dn r.dc)).setCell ⟨wR.heap.size, 6, none⟩ (.bool r.ineg)).setCell ⟨wR.heap.size, 7, none⟩ (.slice r.ia r.inn r.ic)).setCell ⟨wR.heap.size, 8, none⟩ (.slice r.ea r.en r.ec)) (wQ.heap.size) (wR.heap.size) q r := boxed2_qr (Below.alloc' hbR _) (hq2.keep (Below.alloc' (Below.refl _ _) _)) (hr.keep (Below.alloc' (Below.refl _ _) _)) C3 (BlkAt.new wR #[.int .i64 0, .bool false, .string ⟨#[]⟩, .bool false, .slice none 0 0, .slice none 0 0, .bool false, .slice none 0 0, .slice none 0 0] 26) (hbQ.size) hbR.size (Nat.ne_of_lt B3.lt)
      go_wp2_with fail
      go_meet
      with_reducible exact ⟨_, _, q, r, rfl, rfl, HBX, hQ, hR⟩
    · have hq2 := hq'
      have HBX : Boxed2 W3 ((((((((((((((((((wR.setCell ⟨wQ.heap.size, 0, none⟩ (.int .i64 q.kind)).setCell ⟨wQ.heap.size, 1, none⟩ (.bool q.truth)).setCell ⟨wQ.heap.size, 2, none⟩ (.string q.text)).setCell ⟨wQ.heap.size, 3, none⟩ (.bool q.neg)).setCell ⟨wQ.heap.size, 4, none⟩ (.slice q.wa q.wn q.wc)).setCell ⟨wQ.heap.size, 5, none⟩ (.slice q.da q.dn q.dc)).setCell ⟨wQ.heap.size, 6, none⟩ (.bool q.ineg)).setCell ⟨wQ.heap.size, 7, none⟩ (.slice q.ia q.inn q.ic)).setCell ⟨wQ.heap.size, 8, none⟩ (.slice q.ea q.en q.ec)).setCell ⟨wQ.heap.size + 1, 0, none⟩ (.int .i64 r.kind)).setCell ⟨wQ.heap.size + 1, 1, none⟩ (.bool r.truth)).setCell ⟨wQ.heap.size + 1, 2, none⟩ (.string r.text)).setCell ⟨wQ.heap.size + 1, 3, none⟩ (.bool r.neg)).setCell ⟨wQ.heap.size + 1, 4, none⟩ (.slice r.wa r.wn r.wc)).setCell ⟨wQ.heap.size + 1, 5, none⟩ (.slice r.da r.dn r.dc)).setCell ⟨wQ.heap.size + 1, 6, none⟩ (.bool r.ineg)).setCell ⟨wQ.heap.size + 1, 7, none⟩ (.slice r.ia r.inn r.ic)).setCell ⟨wQ.heap.size + 1, 8, none⟩ (.slice r.ea r.en r.ec)) (wQ.heap.size) (wQ.heap.size + 1) q r := boxed2_qr hbR hq2 hr B3 B4 (hbQ.size) (Nat.le_trans hbQ.size (Nat.le_succ _)) (by omega)
      go_wp2_with fail
      go_meet
      with_reducible exact ⟨_, _, q, r, rfl, rfl, HBX, hQ, hR⟩
    · have hq2 := hq'
      have HBX : Boxed2 W3 ((((((((((wR.alloc (.cells #[.int .i64 q.kind, .bool q.truth, .string q.text, .bool q.neg, .slice q.wa q.wn q.wc, .slice q.da q.dn q.dc, .bool q.ineg, .slice q.ia q.inn q.ic, .slice q.ea q.en q.ec] 26)).setCell ⟨wQ.heap.size, 0, none⟩ (.int .i64 r.kind)).setCell ⟨wQ.heap.size, 1, none⟩ (.bool r.truth)).setCell ⟨wQ.heap.size, 2, none⟩ (.string r.text)).setCell ⟨wQ.heap.size, 3, none⟩ (.bool r.neg)).setCell ⟨wQ.heap.size, 4, none⟩ (.slice r.wa r.wn r.wc)).setCell ⟨wQ.heap.size, 5, none⟩ (.slice r.da r.dn r.dc)).setCell ⟨wQ.heap.size, 6, none⟩ (.bool r.ineg)).setCell ⟨wQ.heap.size, 7, none⟩ (.slice r.ia r.inn r.ic)).setCell ⟨wQ.heap.size, 8, none⟩ (.slice r.ea r.en r.ec)) (wR.heap.size) (wQ.heap.size) q r := boxed2_r (Below.alloc' hbR _) (hq2.keep (Below.alloc' (Below.refl _ _) _)) (hr.keep (Below.alloc' (Below.refl _ _) _)) (Box9.new wR q _ rfl) (BlkAt.keep B3 (Below.alloc' (Below.refl _ _) _)) (hbQ.size) (Ne.symm (Nat.ne_of_lt B3.lt))
      go_wp2_with fail
      go_meet
      with_reducible exact ⟨_, _, q, r, rfl, rfl, HBX, hQ, hR⟩
    · have hq2 := hq'
      have HBX : Boxed2 W3 ((((((((((((((((((wR.setCell ⟨wQ.heap.size + 1, 0, none⟩ (.int .i64 q.kind)).setCell ⟨wQ.heap.size + 1, 1, none⟩ (.bool q.truth)).setCell ⟨wQ.heap.size + 1, 2, none⟩ (.string q.text)).setCell ⟨wQ.heap.size + 1, 3, none⟩ (.bool q.neg)).setCell ⟨wQ.heap.size + 1, 4, none⟩ (.slice q.wa q.wn q.wc)).setCell ⟨wQ.heap.size + 1, 5, none⟩ (.slice q.da q.dn q.dc)).setCell ⟨wQ.heap.size + 1, 6, none⟩ (.bool q.ineg)).setCell ⟨wQ.heap.size + 1, 7, none⟩ (.slice q.ia q.inn q.ic)).setCell ⟨wQ.heap.size + 1, 8, none⟩ (.slice q.ea q.en q.ec)).setCell ⟨wQ.heap.size, 0, none⟩ (.int .i64 r.kind)).setCell ⟨wQ.heap.size, 1, none⟩ (.bool r.truth)).setCell ⟨wQ.heap.size, 2, none⟩ (.string r.text)).setCell ⟨wQ.heap.size, 3, none⟩ (.bool r.neg)).setCell ⟨wQ.heap.size, 4, none⟩ (.slice r.wa r.wn r.wc)).setCell ⟨wQ.heap.size, 5, none⟩ (.slice r.da r.dn r.dc)).setCell ⟨wQ.heap.size, 6, none⟩ (.bool r.ineg)).setCell ⟨wQ.heap.size, 7, none⟩ (.slice r.ia r.inn r.ic)).setCell ⟨wQ.heap.size, 8, none⟩ (.slice r.ea r.en r.ec)) (wQ.heap.size + 1) (wQ.heap.size) q r := boxed2_qr hbR hq2 hr B4 B3 (Nat.le_trans hbQ.size (Nat.le_succ _)) (hbQ.size) (by omega)
      go_wp2_with fail
      go_meet
      with_reducible exact ⟨_, _, q, r, rfl, rfl, HBX, hQ, hR⟩
    · have hq2 := hq'
      have HBX : Boxed2 W3 (((((((((((((((((((wR.alloc (.cells #[.int .i64 0, .bool false, .string ⟨#[]⟩, .bool false, .slice none 0 0, .slice none 0 0, .bool false, .slice none 0 0, .slice none 0 0] 26)).setCell ⟨W3.heap.size, 0, none⟩ (.int .i64 q.kind)).setCell ⟨W3.heap.size, 1, none⟩ (.bool q.truth)).setCell ⟨W3.heap.size, 2, none⟩ (.string q.text)).setCell ⟨W3.heap.size, 3, none⟩ (.bool q.neg)).setCell ⟨W3.heap.size, 4, none⟩ (.slice q.wa q.wn q.wc)).setCell ⟨W3.heap.size, 5, none⟩ (.slice q.da q.dn q.dc)).setCell ⟨W3.heap.size, 6, none⟩ (.bool q.ineg)).setCell ⟨W3.heap.size, 7, none⟩ (.slice q.ia q.inn q.ic)).setCell ⟨W3.heap.size, 8, none⟩ (.slice q.ea q.en q.ec)).setCell ⟨wR.heap.size, 0, none⟩ (.int .i64 r.kind)).setCell ⟨wR.heap.size, 1, none⟩ (.bool r.truth)).setCell ⟨wR.heap.size, 2, none⟩ (.string r.text)).setCell ⟨wR.heap.size, 3, none⟩ (.bool r.neg)).setCell ⟨wR.heap.size, 4, none⟩ (.slice r.wa r.wn r.wc)).setCell ⟨wR.heap.size, 5, none⟩ (.slice r.da r.dn r.dc)).setCell ⟨wR.heap.size, 6, none⟩ (.bool r.ineg)).setCell ⟨wR.heap.size, 7, none⟩ (.slice r.ia r.inn r.ic)).setCell ⟨wR.heap.size, 8, none⟩ (.slice r.ea r.en r.ec)) (W3.heap.size) (wR.heap.size) q r := boxed2_qr (Below.alloc' hbR _) (hq2.keep (Below.alloc' (Below.refl _ _) _)) (hr.keep (Below.alloc' (Below.refl _ _) _)) C1 (BlkAt.new wR #[.int .i64 0, .bool false, .string ⟨#[]⟩, .bool false, .slice none 0 0, .slice none 0 0, .bool false, .slice none 0 0, .slice none 0 0] 26) (Nat.le_refl _) hbR.size (Nat.ne_of_lt B1.lt)
      go_wp2_with fail
      go_meet
      with_reducible exact ⟨_, _, q, r, rfl, rfl, HBX, hQ, hR⟩
    · have hq2 := hq'
      have HBX : Boxed2 W3 ((((((((((((((((((wR.setCell ⟨W3.heap.size, 0, none⟩ (.int .i64 q.kind)).setCell ⟨W3.heap.size, 1, none⟩ (.bool q.truth)).setCell ⟨W3.heap.size, 2, none⟩ (.string q.text)).setCell ⟨W3.heap.size, 3, none⟩ (.bool q.neg)).setCell ⟨W3.heap.size, 4, none⟩ (.slice q.wa q.wn q.wc)).setCell ⟨W3.heap.size, 5, none⟩ (.slice q.da q.dn q.dc)).setCell ⟨W3.heap.size, 6, none⟩ (.bool q.ineg)).setCell ⟨W3.heap.size, 7, none⟩ (.slice q.ia q.inn q.ic)).setCell ⟨W3.heap.size, 8, none⟩ (.slice q.ea q.en q.ec)).setCell ⟨wQ.heap.size, 0, none⟩ (.int .i64 r.kind)).setCell ⟨wQ.heap.size, 1, none⟩ (.bool r.truth)).setCell ⟨wQ.heap.size, 2, none⟩ (.string r.text)).setCell ⟨wQ.heap.size, 3, none⟩ (.bool r.neg)).setCell ⟨wQ.heap.size, 4, none⟩ (.slice r.wa r.wn r.wc)).setCell ⟨wQ.heap.size, 5, none⟩ (.slice r.da r.dn r.dc)).setCell ⟨wQ.heap.size, 6, none⟩ (.bool r.ineg)).setCell ⟨wQ.heap.size, 7, none⟩ (.slice r.ia r.inn r.ic)).setCell ⟨wQ.heap.size, 8, none⟩ (.slice r.ea r.en r.ec)) (W3.heap.size) (wQ.heap.size) q r := boxed2_qr hbR hq2 hr B1 B3 (Nat.le_refl _) (hbQ.size) (Nat.ne_of_lt A1.lt)
      go_wp2_with fail
      go_meet
      with_reducible exact ⟨_, _, q, r, rfl, rfl, HBX, hQ, hR⟩
    · have hq2 := hq'
      have HBX : Boxed2 W3 ((((((((((((((((((wR.setCell ⟨W3.heap.size, 0, none⟩ (.int .i64 q.kind)).setCell ⟨W3.heap.size, 1, none⟩ (.bool q.truth)).setCell ⟨W3.heap.size, 2, none⟩ (.string q.text)).setCell ⟨W3.heap.size, 3, none⟩ (.bool q.neg)).setCell ⟨W3.heap.size, 4, none⟩ (.slice q.wa q.wn q.wc)).setCell ⟨W3.heap.size, 5, none⟩ (.slice q.da q.dn q.dc)).setCell ⟨W3.heap.size, 6, none⟩ (.bool q.ineg)).setCell ⟨W3.heap.size, 7, none⟩ (.slice q.ia q.inn q.ic)).setCell ⟨W3.heap.size, 8, none⟩ (.slice q.ea q.en q.ec)).setCell ⟨W3.heap.size + 1, 0, none⟩ (.int .i64 r.kind)).setCell ⟨W3.heap.size + 1, 1, none⟩ (.bool r.truth)).setCell ⟨W3.heap.size + 1, 2, none⟩ (.string r.text)).setCell ⟨W3.heap.size + 1, 3, none⟩ (.bool r.neg)).setCell ⟨W3.heap.size + 1, 4, none⟩ (.slice r.wa r.wn r.wc)).setCell ⟨W3.heap.size + 1, 5, none⟩ (.slice r.da r.dn r.dc)).setCell ⟨W3.heap.size + 1, 6, none⟩ (.bool r.ineg)).setCell ⟨W3.heap.size + 1, 7, none⟩ (.slice r.ia r.inn r.ic)).setCell ⟨W3.heap.size + 1, 8, none⟩ (.slice r.ea r.en r.ec)) (W3.heap.size) (W3.heap.size + 1) q r := boxed2_qr hbR hq2 hr B1 B2 (Nat.le_refl _) (Nat.le_succ _) (by omega)
      go_wp2_with fail
      go_meet
      with_reducible exact ⟨_, _, q, r, rfl, rfl, HBX, hQ, hR⟩
    · have hq2 := hq'
      have HBX : Boxed2 W3 ((((((((((wR.alloc (.cells #[.int .i64 q.kind, .bool q.truth, .string q.text, .bool q.neg, .slice q.wa q.wn q.wc, .slice q.da q.dn q.dc, .bool q.ineg, .slice q.ia q.inn q.ic, .slice q.ea q.en q.ec] 26)).setCell ⟨W3.heap.size, 0, none⟩ (.int .i64 r.kind)).setCell ⟨W3.heap.size, 1, none⟩ (.bool r.truth)).setCell ⟨W3.heap.size, 2, none⟩ (.string r.text)).setCell ⟨W3.heap.size, 3, none⟩ (.bool r.neg)).setCell ⟨W3.heap.size, 4, none⟩ (.slice r.wa r.wn r.wc)).setCell ⟨W3.heap.size, 5, none⟩ (.slice r.da r.dn r.dc)).setCell ⟨W3.heap.size, 6, none⟩ (.bool r.ineg)).setCell ⟨W3.heap.size, 7, none⟩ (.slice r.ia r.inn r.ic)).setCell ⟨W3.heap.size, 8, none⟩ (.slice r.ea r.en r.ec)) (wR.heap.size) (W3.heap.size) q r := boxed2_r (Below.alloc' hbR _) (hq2.keep (Below.alloc' (Below.refl _ _) _)) (hr.keep (Below.alloc' (Below.refl _ _) _)) (Box9.new wR q _ rfl) (BlkAt.keep B1 (Below.alloc' (Below.refl _ _) _)) (Nat.le_refl _) (Ne.symm (Nat.ne_of_lt B1.lt))
      go_wp2_with fail
      go_meet
      with_reducible exact ⟨_, _, q, r, rfl, rfl, HBX, hQ, hR⟩
    · have hq2 := hq'
      have HBX : Boxed2 W3 ((((((((((((((((((wR.setCell ⟨wQ.heap.size, 0, none⟩ (.int .i64 q.kind)).setCell ⟨wQ.heap.size, 1, none⟩ (.bool q.truth)).setCell ⟨wQ.heap.size, 2, none⟩ (.string q.text)).setCell ⟨wQ.heap.size, 3, none⟩ (.bool q.neg)).setCell ⟨wQ.heap.size, 4, none⟩ (.slice q.wa q.wn q.wc)).setCell ⟨wQ.heap.size, 5, none⟩ (.slice q.da q.dn q.dc)).setCell ⟨wQ.heap.size, 6, none⟩ (.bool q.ineg)).setCell ⟨wQ.heap.size, 7, none⟩ (.slice q.ia q.inn q.ic)).setCell ⟨wQ.heap.size, 8, none⟩ (.slice q.ea q.en q.ec)).setCell ⟨W3.heap.size, 0, none⟩ (.int .i64 r.kind)).setCell ⟨W3.heap.size, 1, none⟩ (.bool r.truth)).setCell ⟨W3.heap.size, 2, none⟩ (.string r.text)).setCell ⟨W3.heap.size, 3, none⟩ (.bool r.neg)).setCell ⟨W3.heap.size, 4, none⟩ (.slice r.wa r.wn r.wc)).setCell ⟨W3.heap.size, 5, none⟩ (.slice r.da r.dn r.dc)).setCell ⟨W3.heap.size, 6, none⟩ (.bool r.ineg)).setCell ⟨W3.heap.size, 7, none⟩ (.slice r.ia r.inn r.ic)).setCell ⟨W3.heap.size, 8, none⟩ (.slice r.ea r.en r.ec)) (wQ.heap.size) (W3.heap.size) q r := boxed2_qr hbR hq2 hr B3 B1 (hbQ.size) (Nat.le_refl _) (Ne.symm (Nat.ne_of_lt A1.lt))
      go_wp2_with fail
      go_meet
      with_reducible exact ⟨_, _, q, r, rfl, rfl, HBX, hQ, hR⟩
    · have hq2 := hq'
      have HBX : Boxed2 W3 ((((((((((((((((((wR.setCell ⟨W3.heap.size + 1, 0, none⟩ (.int .i64 q.kind)).setCell ⟨W3.heap.size + 1, 1, none⟩ (.bool q.truth)).setCell ⟨W3.heap.size + 1, 2, none⟩ (.string q.text)).setCell ⟨W3.heap.size + 1, 3, none⟩ (.bool q.neg)).setCell ⟨W3.heap.size + 1, 4, none⟩ (.slice q.wa q.wn q.wc)).setCell ⟨W3.heap.size + 1, 5, none⟩ (.slice q.da q.dn q.dc)).setCell ⟨W3.heap.size + 1, 6, none⟩ (.bool q.ineg)).setCell ⟨W3.heap.size + 1, 7, none⟩ (.slice q.ia q.inn q.ic)).setCell ⟨W3.heap.size + 1, 8, none⟩ (.slice q.ea q.en q.ec)).setCell ⟨W3.heap.size, 0, none⟩ (.int .i64 r.kind)).setCell ⟨W3.heap.size, 1, none⟩ (.bool r.truth)).setCell ⟨W3.heap.size, 2, none⟩ (.string r.text)).setCell ⟨W3.heap.size, 3, none⟩ (.bool r.neg)).setCell ⟨W3.heap.size, 4, none⟩ (.slice r.wa r.wn r.wc)).setCell ⟨W3.heap.size, 5, none⟩ (.slice r.da r.dn r.dc)).setCell ⟨W3.heap.size, 6, none⟩ (.bool r.ineg)).setCell ⟨W3.heap.size, 7, none⟩ (.slice r.ia r.inn r.ic)).setCell ⟨W3.heap.size, 8, none⟩ (.slice r.ea r.en r.ec)) (W3.heap.size + 1) (W3.heap.size) q r := boxed2_qr hbR hq2 hr B2 B1 (Nat.le_succ _) (Nat.le_refl _) (by omega)
      go_wp2_with fail
      go_meet
      with_reducible exact ⟨_, _, q, r, rfl, rfl, HBX, hQ, hR⟩
  case rest =>
    obtain ⟨gq, gr, q, r, rfl, rfl, HBX, hQ, hR⟩ := hcut
    obtain ⟨W4, hW4⟩ : ∃ W4, W4 = wc := ⟨_, rfl⟩
    subst hW4
    have hb4 := HBX.below
    have Q4 := HBX.boxq
    have P4 := HBX.boxr
    have HQ4 := Lib.hid HBX.valq
    have HP4 := Lib.hid HBX.valr
    have hA4 := A3.keep hb4
    have hC4 := C3.keep hb4
    have RA4 := Lib.hid (RA3.out.keep hb4)
    have RC4 := Lib.hid (RC3.out.keep hb4)
    have HT4 := Lib.hid (HT3.out.keep hb4)
    have HD4 := Lib.hid (HD3.out.keep hb4)
    have HB4 := Lib.hid (Below.then HB3.out (Nat.le_refl _) hb4)
    have TQ := Lib.hid hQ
    have TP := Lib.hid hR
    clear HBX hb4 X3 A3 C3 RA3 RC3 HX3 HT3 HD3 HB3 HZ1 HZ2a HZ2b H4 hd0 hd1 hd2 hQ hR
    obtain ⟨W5, hW5⟩ : ∃ W5, W5 = W4.alloc (.cells #[.int .u8 1] 5) := ⟨_, rfl⟩
    have hk5 : W5.cell? ⟨W4.heap.size, 0, none⟩ = some (.int .u8 1) := by rw [hW5]; exact alloc_new _ _ _ rfl rfl
    have hb5 : Below W4.heap.size W4 W5 := by rw [hW5]; exact Below.alloc' (Below.refl _ _) _
    have HF := Lib.hid (fromByte_any W4.heap.size 1 W5 (by omega) (by omega) hk5)
    have HW5 := Lib.hid hW5
    have HB5 := Lib.hid hb5
    clear hW5 hk5 hb5
    go_wp2_with fail
    rw [← HW5.out]
    refine HF.out.mono ?_
    rintro e w6 ⟨o, rfl, ho, hO, hB6⟩
    have HB6 := Lib.hid (Below.then HB5.out (Nat.le_refl _) hB6)
    have NO := Lib.hid (numV_zr hO (by omega))
    clear hB6 hO
    go_wp2_with fail
    refine (implToComplex_any o (rz 1) _ ho NO.out).mono ?_
    rintro e w7 ⟨p, rfl, hp, hP, hB7⟩
    have HB7 := Lib.hid (Below.then HB6.out (Nat.le_refl _) hB7)
    have MP := Lib.hid (madeC_of hP.1 hP.2.1 hP.2.2.1 hP.2.2.2.1 hP.2.2.2.2.1 hP.2.2.2.2.2.1 hP.2.2.2.2.2.2 plt_one (by omega))
    clear hB7 hP ho
    go_wp2_with fail
    refine (implToIntC_any p (rz 1) (rz 0) 1 _ (HT4.out.keep HB7.out) (HD4.out.keep HB7.out) hp MP.out plt_one (by omega) rfl rfl).mono ?_
    rintro e w8 ⟨z, rfl, hz, hZ, hB8⟩
    have ZK := Lib.hid (isZ_kind hZ)
    have hb8 := Below.then HB7.out (Nat.le_refl _) hB8
    go_upto_region 8 with fail
    obtain ⟨W9, hW9⟩ : ∃ W9, W9 = w8.alloc (.cells #[.int .i64 z.kind, .bool z.truth, .string z.text, .bool z.neg, .slice z.wa z.wn z.wc, .slice z.da z.dn z.dc, .bool z.ineg, .slice z.ia z.inn z.ic, .slice z.ea z.en z.ec] 26) := ⟨_, rfl⟩
    rw [← hW9]
    have hb9 : Below W4.heap.size W4 W9 := by rw [hW9]; exact Below.alloc' hb8 _
    have Z9 : Box9 W9 w8.heap.size z := by rw [hW9]; exact Box9.new w8 z _ rfl
    have Q9 := Q4.keep hb9
    have P9 := P4.keep hb9
    have A9 := hA4.keep hb9
    have C9 := hC4.keep hb9
    have HQ9 := Lib.hid (HQ4.out.keep hb9)
    have HP9 := Lib.hid (HP4.out.keep hb9)
    have RA9 := Lib.hid (RA4.out.keep hb9)
    have RC9 := Lib.hid (RC4.out.keep hb9)
    have HB9 := Lib.hid (Below.then HB4.out (Nat.le_refl _) hb9)
    clear hW9 hb9 hb8 hB8 hz hZ Q4 P4 hA4 hC4 HQ4 HP4 RA4 RC4 HT4 HD4 HB4 HB5 HB6 HB7 HW5 HF NO MP hp
    obtain ⟨u, hu⟩ : ∃ u, u = (virt x).signOf := ⟨_, rfl⟩
    have HU := Lib.hid hu
    clear hu
    obtain ⟨c0, c1, c2⟩ := C9.all
    go_wp2_with fail
    refine (signOf_any sC aC nC cC aD nD cD 32 (virt x) _ RC9.out (by omega)).mono ?_
    rintro e w10 ⟨rfl, hB10⟩
    rw [← HU.out]
    have Z10 := Z9.keep hB10
    have Q10 := Q9.keep hB10
    have P10 := P9.keep hB10
    have A10 := A9.keep hB10
    have HQ10 := Lib.hid (HQ9.out.keep hB10)
    have HP10 := Lib.hid (HP9.out.keep hB10)
    have RA10 := Lib.hid (RA9.out.keep hB10)
    have HB10 := Lib.hid (Below.then HB9.out (Nat.le_refl _) hB10)
    clear c0 c1 c2 hB10 Z9 Q9 P9 A9 C9 HQ9 HP9 RA9 RC9 HB9
    by_cases h0 : u = 0
    · have HZ := Lib.hid (signOf_zeror (r := virt x) (by rw [← HU.out]; exact h0))
      subst h0
      by_cases hd : (vrt x).den = 1
      · have HD := Lib.hid hd
        have hdd : decide ((vrt x).den = 1) = true := decide_eq_true hd
        clear hd
        have HIQ := Lib.hid (TQ.out.1 HZ.out)
        have HIZ := Lib.hid (TP.out.1 HZ.out HD.out)
        obtain ⟨a0, a1, a2⟩ := A10.all
        go_wp2_with fail
        refine (isWhole_any sA aA nA cA aB nB cB 32 (vrt x) _ RA10.out (by omega)).mono ?_
        rintro e w11 ⟨rfl, hB11⟩
        rw [hdd]
        clear a0 a1 a2
        have A11 := A10.keep hB11
        have Q11 := Q10.keep hB11
        have P11 := P10.keep hB11
        obtain ⟨a0, a1, a2⟩ := A11.all
        obtain ⟨qc0, qc1, qc2, qc3, qc4, qc5, qc6, qc7, qc8⟩ := (Q11).all
        go_wp2_with fail
        refine (isFloat_any q sA aA nA cA aB nB cB (vrt x) 32 _ (HQ10.out.keep hB11) (RA10.out.keep hB11) (by omega) (Nat.le_trans HIQ.out.2.2.1 (by omega)) (Nat.le_trans HIQ.out.2.2.2 (by omega))).mono ?_
        rintro e w12 ⟨rfl, hB12⟩
        rw [isQ_same HIQ.out]
        have hb12 := Below.then hB11 (Nat.le_refl _) hB12
        have HB12 := Lib.hid (Below.then HB10.out (Nat.le_refl _) hb12)
        clear a0 a1 a2 qc0 qc1 qc2 qc3 qc4 qc5 qc6 qc7 qc8
        have A12 := A11.keep hB12
        have P12 := P11.keep hB12
        obtain ⟨a0, a1, a2⟩ := A12.all
        obtain ⟨rc0, rc1, rc2, rc3, rc4, rc5, rc6, rc7, rc8⟩ := (P12).all
        go_wp2_with fail
        refine (isInt_any r sA aA nA cA aB nB cB (vrt x) 32 _ (HP10.out.keep hb12) (RA10.out.keep hb12) (by omega) (Nat.le_trans HIZ.out.2.2.2 (by omega))).mono ?_
        rintro e w13 ⟨rfl, hB13⟩
        rw [isZ_samer HIZ.out (rt_whole1r PX.out.ok1 HD.out)]
        have HB13 := Lib.hid (Below.then HB12.out (Nat.le_refl _) hB13)
        clear a0 a1 a2 rc0 rc1 rc2 rc3 rc4 rc5 rc6 rc7 rc8 hB13 hB12 hb12 hB11
        go_wp2
        go_ret
        exact ⟨rfl, HB13.out⟩
      · have HD := Lib.hid hd
        have hdd : decide ((vrt x).den = 1) = false := decide_eq_false hd
        clear hd
        have HIQ := Lib.hid (TQ.out.1 HZ.out)
        have HIU := Lib.hid (TP.out.2.1 HZ.out HD.out)
        obtain ⟨a0, a1, a2⟩ := A10.all
        go_wp2_with fail
        refine (isWhole_any sA aA nA cA aB nB cB 32 (vrt x) _ RA10.out (by omega)).mono ?_
        rintro e w11 ⟨rfl, hB11⟩
        rw [hdd]
        clear a0 a1 a2
        have A11 := A10.keep hB11
        have Q11 := Q10.keep hB11
        have P11 := P10.keep hB11
        obtain ⟨a0, a1, a2⟩ := A11.all
        obtain ⟨qc0, qc1, qc2, qc3, qc4, qc5, qc6, qc7, qc8⟩ := (Q11).all
        go_wp2_with fail
        refine (isFloat_any q sA aA nA cA aB nB cB (vrt x) 32 _ (HQ10.out.keep hB11) (RA10.out.keep hB11) (by omega) (Nat.le_trans HIQ.out.2.2.1 (by omega)) (Nat.le_trans HIQ.out.2.2.2 (by omega))).mono ?_
        rintro e w12 ⟨rfl, hB12⟩
        rw [isQ_same HIQ.out]
        have HB12 := Lib.hid (Below.then HB10.out (Nat.le_refl _) (Below.then hB11 (Nat.le_refl _) hB12))
        have rk := (P11.keep hB12).c0
        rw [show r.kind = 0 from HIU.out] at rk
        clear a0 a1 a2 qc0 qc1 qc2 qc3 qc4 qc5 qc6 qc7 qc8 hB11 hB12 A10 A11 Q10 Q11 P10 P11 Z10
        go_wp2
        go_ret
        exact ⟨rfl, HB12.out⟩
    · have HN := Lib.hid (signOf_posr (r := virt x) (by rw [← HU.out]; exact h0))
      have hone : u = 1 ∨ u = -1 := by rw [HU.out]; exact signOf_oner (by rw [← HU.out]; exact h0)
      have qk := Q10.c0
      rw [show q.kind = 0 from TQ.out.2 HN.out] at qk
      have rk := P10.c0
      rw [show r.kind = 0 from TP.out.2.2 HN.out] at rk
      have zk := Z10.c0
      rw [ZK.out] at zk
      clear h0 HU Q10 P10 Z10 A10
      rcases hone with rfl | rfl
      all_goals
        go_wp2
        go_ret
        exact ⟨rfl, HB10.out⟩
end Go.Proofs.YtgmienggfaahlaaGreatDoor
