/-
  The unknown value told.
  A fraction that is whole: Rat.IsInt, constant.ToInt; impl.ToInt.
  impl.ToInt; the reference's IsWhole.
-/
import Derived.Test.YtgcpjlniamebgaaGreatDoorBuL
import Derived.Test.YtgcpjlniamebgaaGreatDoorBuM
import Derived.Test.YtgcpjlniamebgaaGreatDoorBuG
import Derived.Test.YtgcpjlniamebgaaGreatDoorBuN
import Derived.Test.YtgcpjlniamebgaaGreatDoorSpF
set_option linter.unusedSimpArgs false
set_option linter.unusedVariables false
namespace Go.Proofs.YtgcpjlniamebgaaGreatDoor
open Go.RowKit Go.Bg Dg

/-- the value is the unknown one, told -/
def IsU (x : Vl) : Prop := x.kind = 0

theorem methodKindUnk (x : Value) (w : World) : (method 420 95 x "Kind").run Tryz.prog w = .ok (344, x) w := by kernel_rfl

set_option maxRecDepth 100000 in
theorem kindUnk_any (w : World) : Calls Tryz.prog 344 #[.agg #[]] w fun e w' => e = .returned (.int .i64 0) ∧ Below w.heap.size w w' := by
  have HB := Lib.hid (fun o => (Below.refl w.heap.size w).alloc (Nat.le_refl _) o)
  go_enter Tryz.func344, Tryz.ntmps344
  go_wp2
  go_ret
  first
    | exact ⟨rfl, HB.out _⟩
    | exact ⟨rfl, Below.refl _ _⟩

set_option maxRecDepth 100000 in
set_option maxHeartbeats 1000000 in
theorem toldUnk_any (w : World) : Calls Tryz.prog 42 #[.iface 95 (.agg #[])] w (GivesV IsU w) := by
  have hm := methodKindUnk
  have hb0 : Below w.heap.size w (w.alloc (.cells #[.int .i64 0, .bool false, .string ⟨#[]⟩, .bool false, .slice none 0 0, .slice none 0 0, .bool false, .slice none 0 0, .slice none 0 0] 26)) := Below.alloc' (Below.refl _ _) _
  have hR0 := BlkAt.new w #[.int .i64 0, .bool false, .string ⟨#[]⟩, .bool false, .slice none 0 0, .slice none 0 0, .bool false, .slice none 0 0, .slice none 0 0] 26
  go_enter Tryz.func42, Tryz.ntmps42
  go_wp2_with fail
  refine (kindUnk_any _).mono ?_
  rintro e w1 ⟨rfl, hB1⟩
  have hR1 := (hR0.keep hB1).keep ((Below.refl _ _).alloc (Nat.le_refl _) (.cells #[.int .i64 0, .bool false, .string ⟨#[]⟩, .bool false, .slice none 0 0, .slice none 0 0, .bool false, .slice none 0 0, .slice none 0 0] 26))
  have hO1 := BlkAt.new w1 #[.int .i64 0, .bool false, .string ⟨#[]⟩, .bool false, .slice none 0 0, .slice none 0 0, .bool false, .slice none 0 0, .slice none 0 0] 26
  have hb1 := Below.alloc' (Below.then hb0 (Nat.le_refl _) hB1) (.cells #[.int .i64 0, .bool false, .string ⟨#[]⟩, .bool false, .slice none 0 0, .slice none 0 0, .bool false, .slice none 0 0, .slice none 0 0] 26)
  have hlt1 := (hR0.keep hB1).lt
  clear hR0 hb0 hB1
  go_wp2_with fail
  refine (kindUnk_any _).mono ?_
  rintro e w2 ⟨rfl, hB2⟩
  have hR2 := hR1.keep hB2
  have hO2 := hO1.keep hB2
  have HB2 := Lib.hid (Below.then hb1 (Nat.le_refl _) hB2)
  have hne : w.heap.size ≠ w1.heap.size := Nat.ne_of_lt hlt1
  clear hR1 hO1 hb1 hB2
  have oc0 := (hO2).cell 0; have oc1 := (hO2).cell 1; have oc2 := (hO2).cell 2; have oc3 := (hO2).cell 3; have oc4 := (hO2).cell 4; have oc5 := (hO2).cell 5; have oc6 := (hO2).cell 6; have oc7 := (hO2).cell 7; have oc8 := (hO2).cell 8; simp only [List.getElem?_toArray, List.getElem?_cons_zero, List.getElem?_cons_succ] at oc0 oc1 oc2 oc3 oc4 oc5 oc6 oc7 oc8
  have of0 := (hO2).frozen 0; have of1 := (hO2).frozen 1; have of2 := (hO2).frozen 2; have of3 := (hO2).frozen 3; have of4 := (hO2).frozen 4; have of5 := (hO2).frozen 5; have of6 := (hO2).frozen 6; have of7 := (hO2).frozen 7; have of8 := (hO2).frozen 8
  have rc0 := (hR2).cell 0; have rc1 := (hR2).cell 1; have rc2 := (hR2).cell 2; have rc3 := (hR2).cell 3; have rc4 := (hR2).cell 4; have rc5 := (hR2).cell 5; have rc6 := (hR2).cell 6; have rc7 := (hR2).cell 7; have rc8 := (hR2).cell 8; simp only [List.getElem?_toArray, List.getElem?_cons_zero, List.getElem?_cons_succ] at rc0 rc1 rc2 rc3 rc4 rc5 rc6 rc7 rc8
  have rf0 := (hR2).frozen 0; have rf1 := (hR2).frozen 1; have rf2 := (hR2).frozen 2; have rf3 := (hR2).frozen 3; have rf4 := (hR2).frozen 4; have rf5 := (hR2).frozen 5; have rf6 := (hR2).frozen 6; have rf7 := (hR2).frozen 7; have rf8 := (hR2).frozen 8
  clear hm hO2 hR2
  go_wp2
  refine bodyPost_ret (v := .agg #[.int .i64 0, .bool false, .string ⟨#[]⟩, .bool false, .slice none 0 0, .slice none 0 0, .bool false, .slice none 0 0, .slice none 0 0]) (by simp [results, Tryz.results42, go_sem, rc0, rc1, rc2, rc3, rc4, rc5, rc6, rc7, rc8]) rfl ⟨⟨0, false, ⟨#[]⟩, false, none, 0, 0, fun _ => 0, none, 0, 0, fun _ => 0, false, none, 0, 0, fun _ => 0, none, 0, 0, fun _ => 0⟩, rfl, ⟨nilWords _, nilWords _, nilWords _, nilWords _, Nat.zero_le _, by simp⟩, rfl, ?_⟩
  iterate 9 refine Below.setCell ?_ (by exact Nat.le_refl _) _
  exact HB2.out
end Go.Proofs.YtgcpjlniamebgaaGreatDoor

set_option linter.unusedSimpArgs false
set_option linter.unusedVariables false
namespace Go.Proofs.YtgcpjlniamebgaaGreatDoor
open Go.RowKit Go.Bg Dg

set_option maxRecDepth 100000 in
set_option maxHeartbeats 1000000 in
theorem natOne_any (w : World) : Calls Tryz.prog 172 #[] w fun e w' => e = .returned (.slice (some ⟨w.heap.size, 0, none⟩) 1 1) ∧ w' = w.alloc (.cells #[.int .u64 1] 144) := by
  go_enter Tryz.func172, Tryz.ntmps172
  go_wp2
  go_ret
  exact ⟨rfl, rfl⟩

theorem natOne_is (w : World) : BigN 144 (w.alloc (.cells #[.int .u64 1] 144)) (some ⟨w.heap.size, 0, none⟩) 1 1 1 := by
  have h := BlkAt.new w #[.int .u64 1] 144
  refine ⟨⟨by rw [Nat.pow_one]; exact W64_gt, .inr (by simp), Nat.le_refl _, by simp [maxLen], fun _ => ⟨w.heap.size, 0, rfl, fun i hi => ?_⟩⟩, .inr ⟨_, _, rfl, h, rfl⟩⟩
  obtain rfl : i = 0 := by omega
  have e : dg W64 1 0 = 1 := by unfold dg; rw [Nat.pow_zero, Nat.div_one, Nat.mod_eq_of_lt W64_gt]
  show (w.alloc (.cells #[.int .u64 1] 144)).cell? ⟨w.heap.size, 0, none⟩ = some (.int .u64 ((dg W64 1 0 : Nat) : Int))
  rw [h.cell, e]
  rfl

set_option maxRecDepth 100000 in
set_option maxHeartbeats 1000000 in
theorem ratIsInt_any (b : Nat) (s : Bool) (N D : Nat) (w : World) (h : RatAt 144 w b s N D) :
    Calls Tryz.prog 134 #[.pointer (some ⟨b, 0, none⟩)] w fun e w' => e = .returned (.bool (decide (D = 1))) ∧ Below w.heap.size w w' := by
  obtain ⟨a, n, c, h0, h1, hN⟩ := h.d.val
  have hp := natAt_pos_len hN.num
  have hpos := h.pos
  have hn : 0 < n := by simpa [hpos] using hp
  have hz : ((n : Int) == 0) = false := by simp; omega
  have hcm := hN.num.cm
  have hnc := hN.num.nc
  have HN := Lib.hid hN
  have HD := Lib.hid (show decide (cmpI D 1 = 0) = decide (D = 1) from by
    unfold cmpI
    by_cases h1 : D < 1
    · omega
    · by_cases h2 : D = 1
      · subst h2; rfl
      · have : ¬ D < 1 := h1
        simp [h2]; omega)
  clear hp h hN hpos hn
  go_enter Tryz.func134, Tryz.ntmps134
  have h13 : w.cell? ⟨b, 3, none⟩ = some (.slice a n c) := h1
  have HH := Lib.hid h13
  clear h1 h0
  go_wp2_with fail
  have hd0 : Below w.heap.size w w.drew := (Below.refl _ _).drew
  go_region_held3 (fun w' => w'.cell? ⟨b, 3, none⟩ = some (.slice a n c))
    (first | with_reducible exact h13 | exact cell_keep h13 (by assumption))
    (first | (go_at_call 172; (with_reducible refine (natOne_any _).mono ?_); rintro e w1 ⟨rfl, hw1⟩; have hb1 : Below w.heap.size w w1 := (by rw [hw1]; exact Below.alloc' hd0 _); have hone : BigN 144 w1 (some ⟨w.heap.size, 0, none⟩) 1 1 1 := (by rw [hw1]; exact natOne_is w.drew); clear hw1) | (go_at_call 163; (with_reducible refine (natCmp_any _ _ _ _ _ _ D 1 _ ?_ ?_).mono ?_); exact HN.out.num.keep hb1; exact hone.num; rintro e w2 ⟨rfl, hd⟩; have hb2 : Below w.heap.size w w2 := Below.then hb1 (Nat.le_refl _) (below_of_drewN hd); clear hd))
  go_wp2
  go_ret
  exact ⟨ret_bool (by rw [← HD.out]; first | rfl | (simp; done) | (simp; rfl)), hb2⟩

set_option maxRecDepth 100000 in
set_option maxHeartbeats 1000000 in
theorem toIntInt_any (v : Value) (z : Int) (w : World) (h : CInt w v z) :
    Calls Tryz.prog 62 #[v] w fun e w' => e = .returned v ∧ w = w' := by
  rcases h with ⟨rfl, _⟩ | ⟨b, o, s, N, rfl, _, _⟩
  · obtain ⟨t1, t2, t3, t4, t5, t6, t7, t8, t9⟩ := ta_int64Val
    go_enter Tryz.func62, Tryz.ntmps62
    go_wp2
    go_ret
    exact ⟨rfl, rfl⟩
  · obtain ⟨t1, t2, t3, t4, t5, t6, t7, t8, t9⟩ := ta_intVal
    go_enter Tryz.func62, Tryz.ntmps62
    go_wp2
    go_ret
    exact ⟨rfl, rfl⟩

set_option maxRecDepth 100000 in
set_option maxHeartbeats 1000000 in
theorem toIntRat_any (v : Value) (r : Rt) (w : World) (h : CRat w v r) :
    Calls Tryz.prog 62 #[v] w fun e w' => ∃ u, e = .returned u ∧ (r.den = 1 → CInt w' u (sg r.neg r.num)) ∧ (r.den ≠ 1 → u = .iface 95 (.agg #[])) ∧ Below w.heap.size w w' := by
  obtain ⟨b, s, N, D, rfl, hR, rfl⟩ := h
  obtain ⟨t1, t2, t3, t4, t5, t6, t7, t8, t9⟩ := ta_ratVal
  obtain ⟨W0, hW0⟩ : ∃ W0, W0 = w.alloc (.cells #[.pointer (some ⟨b, 0, none⟩)] 112) := ⟨_, rfl⟩
  have HW := Lib.hid hW0
  have hb0 : Below w.heap.size w W0 := by rw [hW0]; exact Below.alloc' (Below.refl _ _) _
  have hblk : BlkAt W0 w.heap.size #[.pointer (some ⟨b, 0, none⟩)] 112 := by rw [hW0]; exact BlkAt.new _ _ _
  have c0 := hblk.cell 0
  simp only [List.getElem?_toArray, List.getElem?_cons_zero] at c0
  have HR := Lib.hid (hR.keep hb0)
  clear hW0 hR hblk
  by_cases hD : D = 1
  · have h1 : decide (D = 1) = true := decide_eq_true hD
    have HD := Lib.hid hD
    clear hD
    go_enter Tryz.func62, Tryz.ntmps62
    go_wp2_with fail
    rw [← HW.out]
    refine (ratIsInt_any b s N D _ HR.out).mono ?_
    rintro e w1 ⟨rfl, hB1⟩
    rw [h1]
    have hb1 := Below.then hb0 (Nat.le_refl _) hB1
    replace c0 := cell_keep c0 hB1
    have HR1 := Lib.hid (HR.out.keep hB1)
    clear hB1 hb0
    go_wp2_with fail
    refine (ratNum_any b _).mono ?_
    rintro e w2 ⟨rfl, rfl⟩
    go_wp2_with fail
    refine (makeInt_any b 0 s N _ HR1.out.a).mono ?_
    rintro e w2 ⟨u, rfl, hu, rfl⟩
    go_wp2
    go_ret
    exact ⟨_, rfl, fun _ => hu, fun h => absurd HD.out h, hb1⟩
  · have h1 : decide (D = 1) = false := decide_eq_false hD
    have HD := Lib.hid hD
    clear hD
    go_enter Tryz.func62, Tryz.ntmps62
    go_wp2_with fail
    rw [← HW.out]
    refine (ratIsInt_any b s N D _ HR.out).mono ?_
    rintro e w1 ⟨rfl, hB1⟩
    rw [h1]
    have hb1 := Below.then hb0 (Nat.le_refl _) hB1
    clear hB1 hb0
    go_wp2
    go_ret
    exact ⟨_, rfl, fun h => absurd h HD.out, fun _ => rfl, hb1⟩
end Go.Proofs.YtgcpjlniamebgaaGreatDoor

set_option linter.unusedSimpArgs false
set_option linter.unusedVariables false
namespace Go.Proofs.YtgcpjlniamebgaaGreatDoor
open Go.RowKit Go.Bg Dg

theorem rt_whole1 {r : Rt} (h : ROk r) (hd : r.den = 1) : r = rz (sg r.neg r.num) := by
  rw [← whole_rz]
  obtain ⟨s, n, d⟩ := r
  obtain rfl : d = 1 := hd
  have hs := h.sign
  unfold Rt.whole
  cases s
  · rfl
  · have : 0 < n := hs rfl
    simp [this]

theorem constToInt_any (u : Value) (r : Rt) (w : World) (h : CNum w u r) :
    Calls Tryz.prog 62 #[u] w fun e w' => ∃ v, e = .returned v ∧ (r.den = 1 → CInt w' v (sg r.neg r.num)) ∧ (r.den ≠ 1 → v = .iface 95 (.agg #[])) ∧ Below w.heap.size w w' := by
  rcases h with ⟨z, h, rfl⟩ | h
  · refine (toIntInt_any u z w h).mono ?_
    rintro e w1 ⟨rfl, rfl⟩
    exact ⟨u, rfl, fun _ => by show CInt w u (sg (decide (z < 0)) z.natAbs); rw [sg_natAbs]; exact h, fun hh => absurd rfl hh, Below.refl _ _⟩
  · exact toIntRat_any u r w h

set_option maxRecDepth 100000 in
set_option maxHeartbeats 2000000 in
theorem implToIntZ_any (x : Vl) (r : Rt) (w : World) (h : VlAt w x) (hm : NumV x r) (hd : r.den = 1) :
    Calls Tryz.prog 25 #[.agg #[.int .i64 x.kind, .bool x.truth, .string x.text, .bool x.neg, .slice x.wa x.wn x.wc, .slice x.da x.dn x.dc, .bool x.ineg, .slice x.ia x.inn x.ic, .slice x.ea x.en x.ec]] w (GivesV (IsZ (sg r.neg r.num) 63) w) := by
  obtain ⟨W0, hW0⟩ : ∃ W0, W0 = (w.alloc (.cells #[.int .i64 x.kind, .bool x.truth, .string x.text, .bool x.neg, .slice x.wa x.wn x.wc, .slice x.da x.dn x.dc, .bool x.ineg, .slice x.ia x.inn x.ic, .slice x.ea x.en x.ec] 26)).alloc (.cells #[.int .i64 0, .bool false, .string ⟨#[]⟩, .bool false, .slice none 0 0, .slice none 0 0, .bool false, .slice none 0 0, .slice none 0 0] 26) := ⟨_, rfl⟩
  have HW := Lib.hid hW0
  have hb0 : Below w.heap.size w W0 := by rw [hW0]; exact Below.alloc' (Below.alloc' (Below.refl _ _) _) _
  have X : Box9 W0 w.heap.size x := by rw [hW0]; exact (Box9.new w x _ rfl).alloc _
  have hR : BlkAt W0 (w.heap.size + 1) #[.int .i64 0, .bool false, .string ⟨#[]⟩, .bool false, .slice none 0 0, .slice none 0 0, .bool false, .slice none 0 0, .slice none 0 0] 26 := by
    rw [hW0]
    have := BlkAt.new (w.alloc (.cells #[.int .i64 x.kind, .bool x.truth, .string x.text, .bool x.neg, .slice x.wa x.wn x.wc, .slice x.da x.dn x.dc, .bool x.ineg, .slice x.ia x.inn x.ic, .slice x.ea x.en x.ec] 26)) #[.int .i64 0, .bool false, .string ⟨#[]⟩, .bool false, .slice none 0 0, .slice none 0 0, .bool false, .slice none 0 0, .slice none 0 0] 26
    simpa using this
  have HX := Lib.hid (h.keep hb0)
  have HL := Lib.hid (show (sg r.neg r.num).natAbs < W64 ^ 63 from by rw [sg_nat]; exact (hm.lt h).1)
  have HM := Lib.hid hm
  have HD := Lib.hid hd
  clear hW0 h hm hd
  go_enter Tryz.func25, Tryz.ntmps25
  go_upto_region 1 with fail
  rw [← HW.out]
  obtain ⟨xc0, xc1, xc2, xc3, xc4, xc5, xc6, xc7, xc8⟩ := (X).all
  go_wp2_with fail
  refine (madeNum_any x r _ HX.out HM.out).mono ?_
  rintro e w1 ⟨u, rfl, hu, hB1⟩
  have hb1 := Below.then hb0 (Nat.le_refl _) hB1
  have hR1 := hR.keep hB1
  clear xc0 xc1 xc2 xc3 xc4 xc5 xc6 xc7 xc8 hB1 hR hb0
  go_wp2_with fail
  refine (constToInt_any u r _ hu).mono ?_
  rintro e w2 ⟨u2, rfl, hu2, -, hB2⟩
  have hb2 := Below.then hb1 (Nat.le_refl _) hB2
  have hR2 := hR1.keep hB2
  clear hR1 hb1
  go_wp2_with fail
  refine (toldZ_any u2 _ _ (hu2 HD.out) 63 (by omega) HL.out).mono ?_
  rintro e w4 ⟨y, rfl, hy, hP, hB4⟩
  have hb4 := Below.then hb2 (Nat.le_refl _) hB4
  have hR4 := hR2.keep hB4
  have HE := Lib.hid (givesV_end hR4 (Nat.le_add_right _ 1) hb4 hy hP)
  have rc0 := (hR4).cell 0; have rc1 := (hR4).cell 1; have rc2 := (hR4).cell 2; have rc3 := (hR4).cell 3; have rc4 := (hR4).cell 4; have rc5 := (hR4).cell 5; have rc6 := (hR4).cell 6; have rc7 := (hR4).cell 7; have rc8 := (hR4).cell 8; simp only [List.getElem?_toArray, List.getElem?_cons_zero, List.getElem?_cons_succ] at rc0 rc1 rc2 rc3 rc4 rc5 rc6 rc7 rc8
  have rf0 := (hR4).frozen 0; have rf1 := (hR4).frozen 1; have rf2 := (hR4).frozen 2; have rf3 := (hR4).frozen 3; have rf4 := (hR4).frozen 4; have rf5 := (hR4).frozen 5; have rf6 := (hR4).frozen 6; have rf7 := (hR4).frozen 7; have rf8 := (hR4).frozen 8
  clear hR2 hR4 hb2 hb4 hB4 hy hP hu2
  go_wp2
  exact bodyPost_ret (v := .agg #[.int .i64 y.kind, .bool y.truth, .string y.text, .bool y.neg, .slice y.wa y.wn y.wc, .slice y.da y.dn y.dc, .bool y.ineg, .slice y.ia y.inn y.ic, .slice y.ea y.en y.ec]) (by simp [results, Tryz.results25, go_sem, rc0, rc1, rc2, rc3, rc4, rc5, rc6, rc7, rc8]) rfl HE.out

set_option maxRecDepth 100000 in
set_option maxHeartbeats 2000000 in
theorem implToIntN_any (x : Vl) (r : Rt) (w : World) (h : VlAt w x) (hm : NumV x r) (hd : r.den ≠ 1) :
    Calls Tryz.prog 25 #[.agg #[.int .i64 x.kind, .bool x.truth, .string x.text, .bool x.neg, .slice x.wa x.wn x.wc, .slice x.da x.dn x.dc, .bool x.ineg, .slice x.ia x.inn x.ic, .slice x.ea x.en x.ec]] w (GivesV IsU w) := by
  obtain ⟨W0, hW0⟩ : ∃ W0, W0 = (w.alloc (.cells #[.int .i64 x.kind, .bool x.truth, .string x.text, .bool x.neg, .slice x.wa x.wn x.wc, .slice x.da x.dn x.dc, .bool x.ineg, .slice x.ia x.inn x.ic, .slice x.ea x.en x.ec] 26)).alloc (.cells #[.int .i64 0, .bool false, .string ⟨#[]⟩, .bool false, .slice none 0 0, .slice none 0 0, .bool false, .slice none 0 0, .slice none 0 0] 26) := ⟨_, rfl⟩
  have HW := Lib.hid hW0
  have hb0 : Below w.heap.size w W0 := by rw [hW0]; exact Below.alloc' (Below.alloc' (Below.refl _ _) _) _
  have X : Box9 W0 w.heap.size x := by rw [hW0]; exact (Box9.new w x _ rfl).alloc _
  have hR : BlkAt W0 (w.heap.size + 1) #[.int .i64 0, .bool false, .string ⟨#[]⟩, .bool false, .slice none 0 0, .slice none 0 0, .bool false, .slice none 0 0, .slice none 0 0] 26 := by
    rw [hW0]
    have := BlkAt.new (w.alloc (.cells #[.int .i64 x.kind, .bool x.truth, .string x.text, .bool x.neg, .slice x.wa x.wn x.wc, .slice x.da x.dn x.dc, .bool x.ineg, .slice x.ia x.inn x.ic, .slice x.ea x.en x.ec] 26)) #[.int .i64 0, .bool false, .string ⟨#[]⟩, .bool false, .slice none 0 0, .slice none 0 0, .bool false, .slice none 0 0, .slice none 0 0] 26
    simpa using this
  have HX := Lib.hid (h.keep hb0)
  have HM := Lib.hid hm
  have HD := Lib.hid hd
  clear hW0 h hm hd
  go_enter Tryz.func25, Tryz.ntmps25
  go_upto_region 1 with fail
  rw [← HW.out]
  obtain ⟨xc0, xc1, xc2, xc3, xc4, xc5, xc6, xc7, xc8⟩ := (X).all
  go_wp2_with fail
  refine (madeNum_any x r _ HX.out HM.out).mono ?_
  rintro e w1 ⟨u, rfl, hu, hB1⟩
  have hb1 := Below.then hb0 (Nat.le_refl _) hB1
  have hR1 := hR.keep hB1
  clear xc0 xc1 xc2 xc3 xc4 xc5 xc6 xc7 xc8 hB1 hR hb0
  go_wp2_with fail
  refine (constToInt_any u r _ hu).mono ?_
  rintro e w2 ⟨u2, rfl, -, hu2, hB2⟩
  obtain rfl := hu2 HD.out
  have hb2 := Below.then hb1 (Nat.le_refl _) hB2
  have hR2 := hR1.keep hB2
  clear hR1 hb1
  go_wp2_with fail
  refine (toldUnk_any _).mono ?_
  rintro e w4 ⟨y, rfl, hy, hP, hB4⟩
  have hb4 := Below.then hb2 (Nat.le_refl _) hB4
  have hR4 := hR2.keep hB4
  have HE := Lib.hid (givesV_end hR4 (Nat.le_add_right _ 1) hb4 hy hP)
  have rc0 := (hR4).cell 0; have rc1 := (hR4).cell 1; have rc2 := (hR4).cell 2; have rc3 := (hR4).cell 3; have rc4 := (hR4).cell 4; have rc5 := (hR4).cell 5; have rc6 := (hR4).cell 6; have rc7 := (hR4).cell 7; have rc8 := (hR4).cell 8; simp only [List.getElem?_toArray, List.getElem?_cons_zero, List.getElem?_cons_succ] at rc0 rc1 rc2 rc3 rc4 rc5 rc6 rc7 rc8
  have rf0 := (hR4).frozen 0; have rf1 := (hR4).frozen 1; have rf2 := (hR4).frozen 2; have rf3 := (hR4).frozen 3; have rf4 := (hR4).frozen 4; have rf5 := (hR4).frozen 5; have rf6 := (hR4).frozen 6; have rf7 := (hR4).frozen 7; have rf8 := (hR4).frozen 8
  clear hR2 hR4 hb2 hb4 hB4 hy hP hu2
  go_wp2
  exact bodyPost_ret (v := .agg #[.int .i64 y.kind, .bool y.truth, .string y.text, .bool y.neg, .slice y.wa y.wn y.wc, .slice y.da y.dn y.dc, .bool y.ineg, .slice y.ia y.inn y.ic, .slice y.ea y.en y.ec]) (by simp [results, Tryz.results25, go_sem, rc0, rc1, rc2, rc3, rc4, rc5, rc6, rc7, rc8]) rfl HE.out

set_option maxRecDepth 100000 in
set_option maxHeartbeats 2000000 in
theorem isWhole_any (s : Bool) (a : Option Addr) (n c : Nat) (a' : Option Addr) (n' c' L : Nat) (q : Rt) (w : World) (h : RtAt w s a n c a' n' c' q L) (hL : L ≤ 100000) :
    Calls Tryz.prog 27 #[.agg #[.bool s, .slice a n c, .slice a' n' c']] w fun e w' => e = .returned (.bool (decide (q.den = 1))) ∧ Below w.heap.size w w' := by
  obtain ⟨W0, hW0⟩ : ∃ W0, W0 = w.alloc (.cells #[.bool s, .slice a n c, .slice a' n' c'] 31) := ⟨_, rfl⟩
  have HW := Lib.hid hW0
  have hb0 : Below w.heap.size w W0 := by rw [hW0]; exact Below.alloc' (Below.refl _ _) _
  have X : RtBlk W0 w.heap.size s a n c a' n' c' := by rw [hW0]; exact RtBlk.new _ _ rfl _ _ _ _ _ _ _
  have hd := h.d_le
  have HH := Lib.hid (h.keep hb0)
  have HD := Lib.hid (show decide (cmpI q.den 1 = 0) = decide (q.den = 1) from by
    unfold cmpI
    by_cases h1 : q.den < 1
    · have : ¬ q.den = 1 := by omega
      simp [h1, this]
    · by_cases h2 : q.den = 1
      · rw [h2]; rfl
      · have : 1 < q.den := by omega
        simp [h2, h1, this])
  clear hW0 h
  go_enter Tryz.func27, Tryz.ntmps27
  go_upto_region 1 with fail
  rw [← HW.out]
  have hd0 : Below W0.heap.size W0 W0.drew := (Below.refl _ _).drew
  go_region_held3 (fun w' => w'.cell? ⟨w.heap.size, 2, none⟩ = some (.slice a' n' c'))
    (first | with_reducible exact X.c2 | exact cell_keep X.c2 (by assumption))
    (first | (go_at_call 56; (with_reducible refine (small_one _).mono ?_); rintro e w1 ⟨aO, nO, cO, rfl, hO, hB1⟩; have hb1 := Below.then hd0 (Nat.le_refl _) hB1; have hnO := hO.len16 (m := 1) (by decide)) | (go_at_call 49; (with_reducible refine (cmp_any a' aO n' nO c' cO q.den 1 _ ?_ ?_ ?_ ?_).mono ?_); exact (HH.out.keep hb1).den; exact hO; omega; omega; rintro e w2 ⟨rfl, hd⟩; have hb2 : Below W0.heap.size W0 w2 := Below.then hb1 (Nat.le_refl _) (below_of_drewN hd); clear hd))
  go_wp2
  go_ret
  exact ⟨ret_bool (by rw [← HD.out]; first | rfl | (simp; done) | (simp; rfl)), Below.then hb0 (Nat.le_refl _) hb2⟩
end Go.Proofs.YtgcpjlniamebgaaGreatDoor
