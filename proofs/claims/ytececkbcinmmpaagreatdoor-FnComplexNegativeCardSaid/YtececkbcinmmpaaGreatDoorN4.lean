/-
  Contracts and lemmas: CpxU.
-/
import Derived.Test.YtececkbcinmmpaaGreatDoorN2
import Derived.Test.YtececkbcinmmpaaGreatDoorK12
set_option linter.unusedSimpArgs false
set_option linter.unusedVariables false
set_option maxRecDepth 100000
set_option maxHeartbeats 8000000
namespace Go.Proofs.YtececkbcinmmpaaGreatDoor
open Go.RowKit Go.Bg Dg
theorem unaryAddC_any (v1 v2 : Value) (p : Int) (w : World) :
    Calls Tryz.prog 65 #[.int .i64 12, .iface 115 (.agg #[v1, v2]), .int .u64 p] w fun e w' => e = .returned (.iface 115 (.agg #[v1, v2])) ∧ w = w' := by
  obtain ⟨t1, t2, t3, t4, t5, t6, t7, t8, t9⟩ := ta_complexVal
  go_enter Tryz.func65, Tryz.ntmps65
  go_wp2
  try refine wp_scope_straight ?_
  try go_wp2
  try rw [Exit.noGoto_ret]
  go_ret
  exact ⟨rfl, rfl⟩
theorem unarySubC_any (b1 b2 : Nat) (r q : Rt) (L : Nat) (p : Int) (w : World) (h1 : RatAt 139 w b1 r.neg r.num r.den) (h2 : RatAt 139 w b2 q.neg q.num q.den) (hl : PLt r q L) :
    Calls Tryz.prog 65 #[.int .i64 13, .iface 115 (.agg #[.iface 106 (.agg #[.pointer (some ⟨b1, 0, none⟩)]), .iface 106 (.agg #[.pointer (some ⟨b2, 0, none⟩)])]), .int .u64 p] w fun e w' => ∃ u, e = .returned u ∧ CCpx w' u r.negated q.negated ∧ Below w.heap.size w w' := by
  obtain ⟨W0, hW0⟩ : ∃ W0, W0 = w.alloc (.cells #[.iface 106 (.agg #[.pointer (some ⟨b1, 0, none⟩)]), .iface 106 (.agg #[.pointer (some ⟨b2, 0, none⟩)])] 115) := ⟨_, rfl⟩
  have HW := Lib.hid hW0
  have hb0 : Below w.heap.size w W0 := by rw [hW0]; exact Below.alloc' (Below.refl _ _) _
  have hx : W0.cell? ⟨w.heap.size, 0, none⟩ = some (.iface 106 (.agg #[.pointer (some ⟨b1, 0, none⟩)])) := by rw [hW0]; exact alloc_new _ _ _ rfl rfl
  have hx2 : W0.cell? ⟨w.heap.size, 1, none⟩ = some (.iface 106 (.agg #[.pointer (some ⟨b2, 0, none⟩)])) := by rw [hW0]; exact alloc_new _ _ _ rfl rfl
  have H1 := Lib.hid (crat_of (h1.keep hb0))
  have H2 := Lib.hid (crat_of (h2.keep hb0))
  have HL := Lib.hid hl
  clear hW0 h1 h2 hl
  obtain ⟨t1, t2, t3, t4, t5, t6, t7, t8, t9⟩ := ta_complexVal
  go_enter Tryz.func65, Tryz.ntmps65
  go_wp2
  refine wp_scope_straight ?_
  go_wp2_with fail
  rw [← HW.out]
  refine (unarySubRat_any _ r 0 _ H1.out L HL.out.l2 HL.out.n1 HL.out.d1).mono ?_
  rintro e w1 ⟨u1, rfl, hu1, hB1⟩
  have hb1 := Below.then hb0 (Nat.le_refl _) hB1
  have hx2' := cell_keep hx2 hB1
  have HU1 := Lib.hid hu1
  have H2' := Lib.hid (H2.out.keep hB1)
  clear hx hx2 hu1 hb0
  go_wp2_with fail
  refine (unarySubRat_any _ q 0 _ H2'.out L HL.out.l2 HL.out.n2 HL.out.d2).mono ?_
  rintro e w2 ⟨u2, rfl, hu2, hB2⟩
  have hb2 := Below.then hb1 (Nat.le_refl _) hB2
  have HU1' := Lib.hid (HU1.out.keep hB2)
  have HU2 := Lib.hid hu2
  clear hx2' hu2 hb1
  go_wp2_with fail
  refine (makeComplex_any _ _ _ (CNum.nform (.inr HU1'.out)) (CNum.nform (.inr HU2.out))).mono ?_
  rintro e w3 ⟨rfl, hB3⟩
  have hb3 := Below.then hb2 (Nat.le_refl _) hB3
  go_wp2
  try rw [Exit.noGoto_ret]
  go_ret
  exact ⟨_, rfl, ⟨_, _, rfl, .inr (HU1'.out.keep hB3), .inr (HU2.out.keep hB3)⟩, hb3⟩
theorem implUnAddC_any (x : Vl) (r q : Rt) (L : Nat) (p : Int) (w : World) (hK : Thr w) (hT : ThrD w) (h : VlAt w x) (hm : MadeC x r q) (hl : PLt r q L) :
    Calls Tryz.prog 40 #[.int .i64 0, .agg #[.int .i64 x.kind, .bool x.truth, .string x.text, .bool x.neg, .slice x.wa x.wn x.wc, .slice x.da x.dn x.dc, .bool x.ineg, .slice x.ia x.inn x.ic, .slice x.ea x.en x.ec], .int .u64 p] w (GivesV (IsC r q L) w) := by
  obtain ⟨W0, hW0⟩ : ∃ W0, W0 = (w.alloc (.cells #[.int .i64 x.kind, .bool x.truth, .string x.text, .bool x.neg, .slice x.wa x.wn x.wc, .slice x.da x.dn x.dc, .bool x.ineg, .slice x.ia x.inn x.ic, .slice x.ea x.en x.ec] 26)).alloc (.cells #[.int .i64 0, .bool false, .string ⟨#[]⟩, .bool false, .slice none 0 0, .slice none 0 0, .bool false, .slice none 0 0, .slice none 0 0] 26) := ⟨_, rfl⟩
  have HW := Lib.hid hW0
  have hb0 : Below w.heap.size w W0 := by rw [hW0]; exact Below.alloc' (Below.alloc' (Below.refl _ _) _) _
  have X : Box9 W0 w.heap.size x := by rw [hW0]; exact (Box9.new w x _ rfl).alloc _
  have hR : BlkAt W0 (w.heap.size + 1) #[.int .i64 0, .bool false, .string ⟨#[]⟩, .bool false, .slice none 0 0, .slice none 0 0, .bool false, .slice none 0 0, .slice none 0 0] 26 := by
    rw [hW0]
    have := BlkAt.new (w.alloc (.cells #[.int .i64 x.kind, .bool x.truth, .string x.text, .bool x.neg, .slice x.wa x.wn x.wc, .slice x.da x.dn x.dc, .bool x.ineg, .slice x.ia x.inn x.ic, .slice x.ea x.en x.ec] 26)) #[.int .i64 0, .bool false, .string ⟨#[]⟩, .bool false, .slice none 0 0, .slice none 0 0, .bool false, .slice none 0 0, .slice none 0 0] 26
    simpa using this
  have HX := Lib.hid (h.keep hb0)
  have HK := Lib.hid (hK.keep hb0)
  have HT := Lib.hid (hT.keep hb0)
  have HL := Lib.hid hl
  have HM := Lib.hid hm
  clear hW0 h hm hl hK hT
  go_enter Tryz.func40, Tryz.ntmps40
  go_upto_region 1 with fail
  rw [← HW.out]
  go_wp2_with fail
  refine (sign_any 0 (by omega) _).mono ?_
  rintro e w1 ⟨rfl, hB1⟩
  have hb1 := Below.then hb0 (Nat.le_refl _) hB1
  have hR1 := hR.keep hB1
  have X1 := X.keep hB1
  have HX1 := Lib.hid (HX.out.keep hB1)
  have HK1 := Lib.hid (HK.out.keep hB1)
  have HT1 := Lib.hid (HT.out.keep hB1)
  clear X hR hB1 hb0
  obtain ⟨xc0, xc1, xc2, xc3, xc4, xc5, xc6, xc7, xc8⟩ := (X1).all
  go_wp2_with fail
  refine (HM.out _ HK1.out HT1.out HX1.out).mono ?_
  rintro e w2 ⟨u, rfl, ⟨b1, b2, rfl, hu1, hu2, -, -⟩, hB2⟩
  have hb2 := Below.then hb1 (Nat.le_refl _) hB2
  have hR2 := hR1.keep hB2
  have H1 := Lib.hid hu1
  have H2 := Lib.hid hu2
  clear xc0 xc1 xc2 xc3 xc4 xc5 xc6 xc7 xc8 hB2 hR1 hb1 hu1 hu2
  go_wp2_with fail
  refine (unaryAddC_any _ _ p _).mono ?_
  rintro e w3 ⟨rfl, rfl⟩
  have hb3 := hb2
  have hR3 := hR2
  clear hR2 hb2
  go_wp2_with fail
  refine (toldCpx_any _ (r) (q) _ (ccpx_of H1.out H2.out) HL.out.ok1 HL.out.ok2 L HL.out.l1 (by have := HL.out.l2; omega) HL.out.n1 HL.out.d1 HL.out.n2 HL.out.d2).mono ?_
  rintro e w4 ⟨y, rfl, hy, hP, hB4⟩
  have hb4 := Below.then hb3 (Nat.le_refl _) hB4
  have hR4 := hR3.keep hB4
  have HE := Lib.hid (givesV_end hR4 (Nat.le_add_right _ 1) hb4 hy hP)
  have rc0 := (hR4).cell 0; have rc1 := (hR4).cell 1; have rc2 := (hR4).cell 2; have rc3 := (hR4).cell 3; have rc4 := (hR4).cell 4; have rc5 := (hR4).cell 5; have rc6 := (hR4).cell 6; have rc7 := (hR4).cell 7; have rc8 := (hR4).cell 8; simp only [List.getElem?_toArray, List.getElem?_cons_zero, List.getElem?_cons_succ] at rc0 rc1 rc2 rc3 rc4 rc5 rc6 rc7 rc8
  have rf0 := (hR4).frozen 0; have rf1 := (hR4).frozen 1; have rf2 := (hR4).frozen 2; have rf3 := (hR4).frozen 3; have rf4 := (hR4).frozen 4; have rf5 := (hR4).frozen 5; have rf6 := (hR4).frozen 6; have rf7 := (hR4).frozen 7; have rf8 := (hR4).frozen 8
  clear hR3 hR4 hb3 hb4 hB4 hy hP
  go_wp2
  exact bodyPost_ret (v := .agg #[.int .i64 y.kind, .bool y.truth, .string y.text, .bool y.neg, .slice y.wa y.wn y.wc, .slice y.da y.dn y.dc, .bool y.ineg, .slice y.ia y.inn y.ic, .slice y.ea y.en y.ec]) (by simp [results, Tryz.results40, go_sem, rc0, rc1, rc2, rc3, rc4, rc5, rc6, rc7, rc8]) rfl HE.out
theorem implUnSubC_any (x : Vl) (r q : Rt) (L : Nat) (p : Int) (w : World) (hK : Thr w) (hT : ThrD w) (h : VlAt w x) (hm : MadeC x r q) (hl : PLt r q L) :
    Calls Tryz.prog 40 #[.int .i64 1, .agg #[.int .i64 x.kind, .bool x.truth, .string x.text, .bool x.neg, .slice x.wa x.wn x.wc, .slice x.da x.dn x.dc, .bool x.ineg, .slice x.ia x.inn x.ic, .slice x.ea x.en x.ec], .int .u64 p] w (GivesV (IsC r.negated q.negated L) w) := by
  obtain ⟨W0, hW0⟩ : ∃ W0, W0 = (w.alloc (.cells #[.int .i64 x.kind, .bool x.truth, .string x.text, .bool x.neg, .slice x.wa x.wn x.wc, .slice x.da x.dn x.dc, .bool x.ineg, .slice x.ia x.inn x.ic, .slice x.ea x.en x.ec] 26)).alloc (.cells #[.int .i64 0, .bool false, .string ⟨#[]⟩, .bool false, .slice none 0 0, .slice none 0 0, .bool false, .slice none 0 0, .slice none 0 0] 26) := ⟨_, rfl⟩
  have HW := Lib.hid hW0
  have hb0 : Below w.heap.size w W0 := by rw [hW0]; exact Below.alloc' (Below.alloc' (Below.refl _ _) _) _
  have X : Box9 W0 w.heap.size x := by rw [hW0]; exact (Box9.new w x _ rfl).alloc _
  have hR : BlkAt W0 (w.heap.size + 1) #[.int .i64 0, .bool false, .string ⟨#[]⟩, .bool false, .slice none 0 0, .slice none 0 0, .bool false, .slice none 0 0, .slice none 0 0] 26 := by
    rw [hW0]
    have := BlkAt.new (w.alloc (.cells #[.int .i64 x.kind, .bool x.truth, .string x.text, .bool x.neg, .slice x.wa x.wn x.wc, .slice x.da x.dn x.dc, .bool x.ineg, .slice x.ia x.inn x.ic, .slice x.ea x.en x.ec] 26)) #[.int .i64 0, .bool false, .string ⟨#[]⟩, .bool false, .slice none 0 0, .slice none 0 0, .bool false, .slice none 0 0, .slice none 0 0] 26
    simpa using this
  have HX := Lib.hid (h.keep hb0)
  have HK := Lib.hid (hK.keep hb0)
  have HT := Lib.hid (hT.keep hb0)
  have HL := Lib.hid hl
  have HM := Lib.hid hm
  clear hW0 h hm hl hK hT
  go_enter Tryz.func40, Tryz.ntmps40
  go_upto_region 1 with fail
  rw [← HW.out]
  go_wp2_with fail
  refine (sign_any 1 (by omega) _).mono ?_
  rintro e w1 ⟨rfl, hB1⟩
  have hb1 := Below.then hb0 (Nat.le_refl _) hB1
  have hR1 := hR.keep hB1
  have X1 := X.keep hB1
  have HX1 := Lib.hid (HX.out.keep hB1)
  have HK1 := Lib.hid (HK.out.keep hB1)
  have HT1 := Lib.hid (HT.out.keep hB1)
  clear X hR hB1 hb0
  obtain ⟨xc0, xc1, xc2, xc3, xc4, xc5, xc6, xc7, xc8⟩ := (X1).all
  go_wp2_with fail
  refine (HM.out _ HK1.out HT1.out HX1.out).mono ?_
  rintro e w2 ⟨u, rfl, ⟨b1, b2, rfl, hu1, hu2, -, -⟩, hB2⟩
  have hb2 := Below.then hb1 (Nat.le_refl _) hB2
  have hR2 := hR1.keep hB2
  have H1 := Lib.hid hu1
  have H2 := Lib.hid hu2
  clear xc0 xc1 xc2 xc3 xc4 xc5 xc6 xc7 xc8 hB2 hR1 hb1 hu1 hu2
  go_wp2_with fail
  refine (unarySubC_any b1 b2 r q L p _ H1.out H2.out HL.out).mono ?_
  rintro e w3 ⟨u2, rfl, hu2, hB3⟩
  have hb3 := Below.then hb2 (Nat.le_refl _) hB3
  have hR3 := hR2.keep hB3
  clear hB3
  clear hR2 hb2
  go_wp2_with fail
  refine (toldCpx_any u2 r.negated q.negated _ hu2 (rok_negated HL.out.ok1) (rok_negated HL.out.ok2) L HL.out.l1 (by have := HL.out.l2; omega) HL.out.n1 HL.out.d1 HL.out.n2 HL.out.d2).mono ?_
  rintro e w4 ⟨y, rfl, hy, hP, hB4⟩
  have hb4 := Below.then hb3 (Nat.le_refl _) hB4
  have hR4 := hR3.keep hB4
  have HE := Lib.hid (givesV_end hR4 (Nat.le_add_right _ 1) hb4 hy hP)
  have rc0 := (hR4).cell 0; have rc1 := (hR4).cell 1; have rc2 := (hR4).cell 2; have rc3 := (hR4).cell 3; have rc4 := (hR4).cell 4; have rc5 := (hR4).cell 5; have rc6 := (hR4).cell 6; have rc7 := (hR4).cell 7; have rc8 := (hR4).cell 8; simp only [List.getElem?_toArray, List.getElem?_cons_zero, List.getElem?_cons_succ] at rc0 rc1 rc2 rc3 rc4 rc5 rc6 rc7 rc8
  have rf0 := (hR4).frozen 0; have rf1 := (hR4).frozen 1; have rf2 := (hR4).frozen 2; have rf3 := (hR4).frozen 3; have rf4 := (hR4).frozen 4; have rf5 := (hR4).frozen 5; have rf6 := (hR4).frozen 6; have rf7 := (hR4).frozen 7; have rf8 := (hR4).frozen 8
  clear hR3 hR4 hb3 hb4 hB4 hy hP
  go_wp2
  exact bodyPost_ret (v := .agg #[.int .i64 y.kind, .bool y.truth, .string y.text, .bool y.neg, .slice y.wa y.wn y.wc, .slice y.da y.dn y.dc, .bool y.ineg, .slice y.ia y.inn y.ic, .slice y.ea y.en y.ec]) (by simp [results, Tryz.results40, go_sem, rc0, rc1, rc2, rc3, rc4, rc5, rc6, rc7, rc8]) rfl HE.out
end Go.Proofs.YtececkbcinmmpaaGreatDoor
