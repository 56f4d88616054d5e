/-
  Contracts and lemmas: CpxM CpxI.
-/
import Derived.Test.YtececkbcinmmpaaGreatDoorN1
import Derived.Test.YtececkbcinmmpaaGreatDoorK37
import Derived.Test.YtececkbcinmmpaaGreatDoorK38
import Derived.Test.YtececkbcinmmpaaGreatDoorN0
import Derived.Test.YtececkbcinmmpaaGreatDoorKM
import Derived.Test.YtececkbcinmmpaaGreatDoorK12
set_option linter.unusedSimpArgs false
set_option linter.unusedVariables false
set_option maxRecDepth 100000
set_option maxHeartbeats 8000000
namespace Go.Proofs.YtececkbcinmmpaaGreatDoor
open Go.RowKit Go.Bg Dg
def mirt (v : Vl) : Rt := ⟨v.ineg && decide (0 < val W64 v.jf v.inn), val W64 v.jf v.inn, val W64 v.ef v.en⟩
abbrev MadeC (x : Vl) (r q : Rt) : Prop := MadeLo x (fun lo w v => CPair lo w v r q)
theorem ratAt_eq {w : World} {b : Nat} {p r : Rt} (h : RatAt 139 w b p.neg p.num p.den) (e : p = r) : RatAt 139 w b r.neg r.num r.den := e ▸ h
theorem madeC_any (v : Vl) (r q : Rt) (L : Nat) (w : World) (hK : Thr w) (hT : ThrD w) (h : VlAt w v) (hk : v.kind = 5) (hn : v.wn ≤ 63) (hd : v.dn ≤ 63) (hi : v.inn ≤ 63) (he : v.en ≤ 63) (e1 : mrt v = r) (e2 : mirt v = q) (hl : PLt r q L) (hL : L ≤ 37) :
    Calls Tryz.prog 49 #[.agg #[.int .i64 v.kind, .bool v.truth, .string v.text, .bool v.neg, .slice v.wa v.wn v.wc, .slice v.da v.dn v.dc, .bool v.ineg, .slice v.ia v.inn v.ic, .slice v.ea v.en v.ec]] w fun e w' => ∃ u, e = .returned u ∧ CPair w.heap.size w' u r q ∧ Below w.heap.size w w' := by
  obtain ⟨W0, hW0⟩ : ∃ W0, W0 = w.alloc (.cells #[.int .i64 v.kind, .bool v.truth, .string v.text, .bool v.neg, .slice v.wa v.wn v.wc, .slice v.da v.dn v.dc, .bool v.ineg, .slice v.ia v.inn v.ic, .slice v.ea v.en v.ec] 26) := ⟨_, rfl⟩
  have HW := Lib.hid hW0
  have hb0 : Below w.heap.size w W0 := by rw [hW0]; exact Below.alloc' (Below.refl _ _) _
  have X : Box9 W0 w.heap.size v := by rw [hW0]; exact Box9.new w v _ rfl
  have HX := Lib.hid (h.keep hb0)
  have HK := Lib.hid (hK.keep hb0)
  have HT := Lib.hid (hT.keep hb0)
  have HL := Lib.hid hl
  have N1 := Lib.hid (show val W64 v.wf v.wn < W64 ^ 63 from Nat.lt_of_lt_of_le (val_lt h.ws.lt) (Nat.pow_le_pow_right W64_pos hn))
  have D1 := Lib.hid (show val W64 v.df v.dn < W64 ^ 63 from Nat.lt_of_lt_of_le (val_lt h.ds.lt) (Nat.pow_le_pow_right W64_pos hd))
  have N2 := Lib.hid (show val W64 v.jf v.inn < W64 ^ 63 from Nat.lt_of_lt_of_le (val_lt h.is.lt) (Nat.pow_le_pow_right W64_pos hi))
  have D2 := Lib.hid (show val W64 v.ef v.en < W64 ^ 63 from Nat.lt_of_lt_of_le (val_lt h.es.lt) (Nat.pow_le_pow_right W64_pos he))
  have P1 := Lib.hid (show 0 < val W64 v.df v.dn from by have := hl.ok1.den; rw [← e1] at this; exact this)
  have P2 := Lib.hid (show 0 < val W64 v.ef v.en from by have := hl.ok2.den; rw [← e2] at this; exact this)
  have E1 := Lib.hid e1
  have E2 := Lib.hid e2
  have XH := Lib.hid X
  clear hW0 h hK hT hl e1 e2
  obtain ⟨xc0, xc1, xc2, xc3, xc4, xc5, xc6, xc7, xc8⟩ := (X).all
  rw [hk] at xc0
  clear hk
  go_enter Tryz.func49, Tryz.ntmps49
  go_upto_region 1 with fail
  rw [← HW.out]
  go_upto_region 11 with fail
  clear xc0 xc1 xc2 xc3 xc4 xc5 xc6 xc7 xc8 X
  have hd0 : Below W0.heap.size W0 W0.drew := (Below.refl _ _).drew
  go_region_held3 (fun w' => w'.cell? ⟨w.heap.size, 0, none⟩ = some (.int .i64 v.kind) ∧ w'.cell? ⟨w.heap.size, 1, none⟩ = some (.bool v.truth) ∧ w'.cell? ⟨w.heap.size, 2, none⟩ = some (.string v.text) ∧ w'.cell? ⟨w.heap.size, 3, none⟩ = some (.bool v.neg) ∧ w'.cell? ⟨w.heap.size, 4, none⟩ = some (.slice v.wa v.wn v.wc) ∧ w'.cell? ⟨w.heap.size, 5, none⟩ = some (.slice v.da v.dn v.dc) ∧ w'.cell? ⟨w.heap.size, 6, none⟩ = some (.bool v.ineg) ∧ w'.cell? ⟨w.heap.size, 7, none⟩ = some (.slice v.ia v.inn v.ic) ∧ w'.cell? ⟨w.heap.size, 8, none⟩ = some (.slice v.ea v.en v.ec))
    (first | with_reducible exact XH.out.all | with_reducible exact (XH.out.keep (by assumption)).all)
    (first | (go_at_call 111; (with_reducible refine (implOverF_any v.neg v.wa v.wn v.wc v.wf v.da v.dn v.dc v.df _ ?_ ?_ ?_ ?_ P1.out).mono ?_); exact (HX.out.keep (by assumption)).ws; exact (HX.out.keep (by assumption)).ds; omega; omega; rintro e w1 ⟨b1, rfl, hR1, hg1, hB1⟩; have hb1 := Below.then hd0 (Nat.le_refl _) hB1) | (go_at_call 109; (with_reducible refine (makeOfRatF_any b1 (v.neg && decide (0 < val W64 v.wf v.wn)) (val W64 v.wf v.wn) (val W64 v.df v.dn) 63 _ ?_ N1.out D1.out ?_).mono ?_); exact hR1; omega; rintro e w2 ⟨rfl, rfl⟩) | (go_at_call 111; (with_reducible refine (implOverF_any v.ineg v.ia v.inn v.ic v.jf v.ea v.en v.ec v.ef _ ?_ ?_ ?_ ?_ P2.out).mono ?_); exact (HX.out.keep (by assumption)).is; exact (HX.out.keep (by assumption)).es; omega; omega; rintro e w3 ⟨b2, rfl, hR2, hg2, hB3⟩; have hb3 := Below.then hb1 (Nat.le_refl _) hB3) | (go_at_call 109; (with_reducible refine (makeOfRatF_any b2 (v.ineg && decide (0 < val W64 v.jf v.inn)) (val W64 v.jf v.inn) (val W64 v.ef v.en) 63 _ ?_ N2.out D2.out ?_).mono ?_); exact hR2; omega; rintro e w4 ⟨rfl, rfl⟩) | (go_at_call 59; (with_reducible refine (makeImagR_any b2 _).mono ?_); rintro e w5 ⟨rfl, hB5⟩; have hb5 := Below.then hb3 (Nat.le_refl _) hB5) | (go_at_call 48; (with_reducible refine (binMadeC_any b1 b2 r q L hL _ ?_ ?_ ?_ ?_ HL.out).mono ?_); exact HK.out.keep hb5; exact HT.out.keep hb5; exact ratAt_eq (p := mrt v) ((hR1.keep hB3).keep hB5) E1.out; exact ratAt_eq (p := mirt v) (hR2.keep hB5) E2.out; rintro e w6 ⟨u, rfl, hu, hB6⟩; have hb6 := Below.then hb5 (Nat.le_refl _) hB6))
  have HU := Lib.hid (hu.le (Nat.le_trans hb0.size hb5.size))
  have hbf6 := Below.then hb0 (Nat.le_refl _) hb6
  clear hu
  go_wp2
  go_ret
  exact ⟨_, rfl, HU.out, hbf6⟩
theorem pairB_parts {x : Vl} (h : pairB x = true) : x.kind = 5 ∧ fracB x.neg x.wf x.wn x.df x.dn = true ∧ fracB x.ineg x.jf x.inn x.ef x.en = true := by
  unfold pairB at h
  simp only [Bool.and_eq_true, decide_eq_true_eq] at h
  exact ⟨h.1.1.1.1, h.1.2, h.2⟩
theorem madeC_of {x : Vl} {r q : Rt} {L : Nat} (h : pairB x = true) (e1 : vrt x = r) (e2 : virt x = q) (hn : x.wn ≤ 63) (hd : x.dn ≤ 63) (hi : x.inn ≤ 63) (he : x.en ≤ 63) (hl : PLt r q L) (hL : L ≤ 37) : MadeC x r q := fun w hK hT hV => by
  obtain ⟨h1, h2, h3⟩ := pairB_parts h
  obtain ⟨-, h6⟩ := fracB_parts h2
  obtain ⟨-, h7⟩ := fracB_parts h3
  have m1 : mrt x = vrt x := by
    unfold vrt mrt frt
    rw [← h6]
  have m2 : mirt x = virt x := by
    unfold virt mirt frt
    rw [← h7]
  exact madeC_any x r q L w hK hT hV h1 hn hd hi he (m1.trans e1) (m2.trans e2) hl hL
theorem madeC_isC {y : Vl} {r q : Rt} {L : Nat} (h : IsC r q 63 y) (hl : PLt r q L) (hL : L ≤ 37) : MadeC y r q := madeC_of h.1 h.2.1 h.2.2.1 h.2.2.2.1 h.2.2.2.2.1 h.2.2.2.2.2.1 h.2.2.2.2.2.2 hl hL
theorem plt_pair {w : World} {x : Vl} {k : Nat} (h : VlAt w x) (hb : lpairB x k = true) (h1 : 1 ≤ k) (hk : k ≤ 37) : PLt (vrt x) (virt x) k := by
  unfold lpairB at hb
  simp only [Bool.and_eq_true, decide_eq_true_eq] at hb
  obtain ⟨⟨⟨⟨a1, a2⟩, a3⟩, a4⟩, a5⟩ := hb
  obtain ⟨-, h2, h3⟩ := pairB_parts a5
  exact ⟨h1, by omega, Nat.lt_of_lt_of_le (val_lt h.ws.lt) (Nat.pow_le_pow_right W64_pos a1), Nat.lt_of_lt_of_le (val_lt h.ds.lt) (Nat.pow_le_pow_right W64_pos a2), Nat.lt_of_lt_of_le (val_lt h.is.lt) (Nat.pow_le_pow_right W64_pos a3), Nat.lt_of_lt_of_le (val_lt h.es.lt) (Nat.pow_le_pow_right W64_pos a4), (fracB_parts h2).1, (fracB_parts h3).1⟩
theorem madeC_pair {x : Vl} {k : Nat} (hb : lpairB x k = true) (h1 : 1 ≤ k) (hk : k ≤ 37) : MadeC x (vrt x) (virt x) := fun w hK hT hV => by
  have hp := plt_pair hV hb h1 hk
  have hb' := hb
  unfold lpairB at hb'
  simp only [Bool.and_eq_true, decide_eq_true_eq] at hb'
  obtain ⟨⟨⟨⟨a1, a2⟩, a3⟩, a4⟩, a5⟩ := hb'
  exact madeC_of a5 rfl rfl (by omega) (by omega) (by omega) (by omega) hp hk w hK hT hV
theorem isQ_lrat {r : Rt} {L : Nat} {y : Vl} (h : IsQ r L y) : lratB y L = true := by
  obtain ⟨h1, -, h3, h4⟩ := h
  unfold lratB
  simp [h1, h3, h4]
theorem isQ_num {r : Rt} {L : Nat} {y : Vl} (h : IsQ r L y) (hL : L ≤ 63) : NumV y r := by
  have := numV_rat (isQ_lrat h) hL
  rw [h.2.1] at this
  exact this
theorem madeS_isQ {r : Rt} {L : Nat} {y : Vl} (h : IsQ r L y) (hL : L ≤ 63) : MadeLo y (fun lo w v => RSing lo w v r) := fun w _ _ hV => by
  have := madeNew_rat (isQ_lrat h) hL w hV
  rw [h.2.1] at this
  exact this.mono fun e w' ⟨b, he, hR, hle, hB⟩ => ⟨_, he, ⟨b, rfl, hR, hle⟩, hB⟩
theorem plt_zero {r : Rt} {L : Nat} (h1 : 1 ≤ L) (h2 : L ≤ 63) (hn : r.num < W64 ^ L) (hd : r.den < W64 ^ L) (hr : ROk r) : PLt (rz 0) r L :=
  ⟨h1, h2, Nat.pow_pos W64_pos, Nat.one_lt_pow (by omega) W64_gt, hn, hd, rok_rz 0, hr⟩
theorem ccpx_of {w : World} {b1 b2 : Nat} {r q : Rt} (h1 : RatAt 139 w b1 r.neg r.num r.den) (h2 : RatAt 139 w b2 q.neg q.num q.den) : CCpx w (.iface 115 (.agg #[.iface 106 (.agg #[.pointer (some ⟨b1, 0, none⟩)]), .iface 106 (.agg #[.pointer (some ⟨b2, 0, none⟩)])])) r q := ⟨_, _, rfl, .inr (crat_of h1), .inr (crat_of h2)⟩
theorem implRealC_any (x : Vl) (r q : Rt) (L : Nat) (w : World) (hK : Thr w) (hT : ThrD w) (h : VlAt w x) (hm : MadeC x r q) (hl : PLt r q L) :
    Calls Tryz.prog 33 #[.agg #[.int .i64 x.kind, .bool x.truth, .string x.text, .bool x.neg, .slice x.wa x.wn x.wc, .slice x.da x.dn x.dc, .bool x.ineg, .slice x.ia x.inn x.ic, .slice x.ea x.en x.ec]] w (GivesV (IsQ r L) w) := by
  obtain ⟨W0, hW0⟩ : ∃ W0, W0 = (w.alloc (.cells #[.int .i64 x.kind, .bool x.truth, .string x.text, .bool x.neg, .slice x.wa x.wn x.wc, .slice x.da x.dn x.dc, .bool x.ineg, .slice x.ia x.inn x.ic, .slice x.ea x.en x.ec] 26)).alloc (.cells #[.int .i64 0, .bool false, .string ⟨#[]⟩, .bool false, .slice none 0 0, .slice none 0 0, .bool false, .slice none 0 0, .slice none 0 0] 26) := ⟨_, rfl⟩
  have HW := Lib.hid hW0
  have hb0 : Below w.heap.size w W0 := by rw [hW0]; exact Below.alloc' (Below.alloc' (Below.refl _ _) _) _
  have X : Box9 W0 w.heap.size x := by rw [hW0]; exact (Box9.new w x _ rfl).alloc _
  have hR : BlkAt W0 (w.heap.size + 1) #[.int .i64 0, .bool false, .string ⟨#[]⟩, .bool false, .slice none 0 0, .slice none 0 0, .bool false, .slice none 0 0, .slice none 0 0] 26 := by
    rw [hW0]
    have := BlkAt.new (w.alloc (.cells #[.int .i64 x.kind, .bool x.truth, .string x.text, .bool x.neg, .slice x.wa x.wn x.wc, .slice x.da x.dn x.dc, .bool x.ineg, .slice x.ia x.inn x.ic, .slice x.ea x.en x.ec] 26)) #[.int .i64 0, .bool false, .string ⟨#[]⟩, .bool false, .slice none 0 0, .slice none 0 0, .bool false, .slice none 0 0, .slice none 0 0] 26
    simpa using this
  have HX := Lib.hid (h.keep hb0)
  have HK := Lib.hid (hK.keep hb0)
  have HT := Lib.hid (hT.keep hb0)
  have HL := Lib.hid hl
  have HM := Lib.hid hm
  clear hW0 h hm hl hK hT
  go_enter Tryz.func33, Tryz.ntmps33
  go_upto_region 1 with fail
  rw [← HW.out]
  obtain ⟨xc0, xc1, xc2, xc3, xc4, xc5, xc6, xc7, xc8⟩ := (X).all
  go_wp2_with fail
  refine (HM.out _ HK.out HT.out HX.out).mono ?_
  rintro e w1 ⟨u, rfl, ⟨b1, b2, rfl, hu1, hu2, -, -⟩, hB1⟩
  have hb1 := Below.then hb0 (Nat.le_refl _) hB1
  have hR1 := hR.keep hB1
  have H1 := Lib.hid hu1
  have H2 := Lib.hid hu2
  clear xc0 xc1 xc2 xc3 xc4 xc5 xc6 xc7 xc8 hB1 hR hb0 hu1 hu2
  go_wp2_with fail
  refine (realCpx_any 106 106 (.agg #[.pointer (some ⟨b1, 0, none⟩)]) (.agg #[.pointer (some ⟨b2, 0, none⟩)]) _).mono ?_
  rintro e w2 ⟨rfl, hB2⟩
  have hb2 := Below.then hb1 (Nat.le_refl _) hB2
  have hR2 := hR1.keep hB2
  clear hR1 hb1
  go_wp2_with fail
  refine (toldRat_any _ r _ (crat_of (H1.out.keep hB2)) HL.out.ok1 L (by have := HL.out.l2; omega) HL.out.n1 HL.out.d1).mono ?_
  rintro e w4 ⟨y, rfl, hy, hP, hB4⟩
  have hb4 := Below.then hb2 (Nat.le_refl _) hB4
  have hR4 := hR2.keep hB4
  have HE := Lib.hid (givesV_end hR4 (Nat.le_add_right _ 1) hb4 hy hP)
  have rc0 := (hR4).cell 0; have rc1 := (hR4).cell 1; have rc2 := (hR4).cell 2; have rc3 := (hR4).cell 3; have rc4 := (hR4).cell 4; have rc5 := (hR4).cell 5; have rc6 := (hR4).cell 6; have rc7 := (hR4).cell 7; have rc8 := (hR4).cell 8; simp only [List.getElem?_toArray, List.getElem?_cons_zero, List.getElem?_cons_succ] at rc0 rc1 rc2 rc3 rc4 rc5 rc6 rc7 rc8
  have rf0 := (hR4).frozen 0; have rf1 := (hR4).frozen 1; have rf2 := (hR4).frozen 2; have rf3 := (hR4).frozen 3; have rf4 := (hR4).frozen 4; have rf5 := (hR4).frozen 5; have rf6 := (hR4).frozen 6; have rf7 := (hR4).frozen 7; have rf8 := (hR4).frozen 8
  clear hR2 hR4 hb2 hb4 hB4 hy hP
  go_wp2
  exact bodyPost_ret (v := .agg #[.int .i64 y.kind, .bool y.truth, .string y.text, .bool y.neg, .slice y.wa y.wn y.wc, .slice y.da y.dn y.dc, .bool y.ineg, .slice y.ia y.inn y.ic, .slice y.ea y.en y.ec]) (by simp [results, Tryz.results33, go_sem, rc0, rc1, rc2, rc3, rc4, rc5, rc6, rc7, rc8]) rfl HE.out
theorem implImagC_any (x : Vl) (r q : Rt) (L : Nat) (w : World) (hK : Thr w) (hT : ThrD w) (h : VlAt w x) (hm : MadeC x r q) (hl : PLt r q L) :
    Calls Tryz.prog 34 #[.agg #[.int .i64 x.kind, .bool x.truth, .string x.text, .bool x.neg, .slice x.wa x.wn x.wc, .slice x.da x.dn x.dc, .bool x.ineg, .slice x.ia x.inn x.ic, .slice x.ea x.en x.ec]] w (GivesV (IsQ q L) w) := by
  obtain ⟨W0, hW0⟩ : ∃ W0, W0 = (w.alloc (.cells #[.int .i64 x.kind, .bool x.truth, .string x.text, .bool x.neg, .slice x.wa x.wn x.wc, .slice x.da x.dn x.dc, .bool x.ineg, .slice x.ia x.inn x.ic, .slice x.ea x.en x.ec] 26)).alloc (.cells #[.int .i64 0, .bool false, .string ⟨#[]⟩, .bool false, .slice none 0 0, .slice none 0 0, .bool false, .slice none 0 0, .slice none 0 0] 26) := ⟨_, rfl⟩
  have HW := Lib.hid hW0
  have hb0 : Below w.heap.size w W0 := by rw [hW0]; exact Below.alloc' (Below.alloc' (Below.refl _ _) _) _
  have X : Box9 W0 w.heap.size x := by rw [hW0]; exact (Box9.new w x _ rfl).alloc _
  have hR : BlkAt W0 (w.heap.size + 1) #[.int .i64 0, .bool false, .string ⟨#[]⟩, .bool false, .slice none 0 0, .slice none 0 0, .bool false, .slice none 0 0, .slice none 0 0] 26 := by
    rw [hW0]
    have := BlkAt.new (w.alloc (.cells #[.int .i64 x.kind, .bool x.truth, .string x.text, .bool x.neg, .slice x.wa x.wn x.wc, .slice x.da x.dn x.dc, .bool x.ineg, .slice x.ia x.inn x.ic, .slice x.ea x.en x.ec] 26)) #[.int .i64 0, .bool false, .string ⟨#[]⟩, .bool false, .slice none 0 0, .slice none 0 0, .bool false, .slice none 0 0, .slice none 0 0] 26
    simpa using this
  have HX := Lib.hid (h.keep hb0)
  have HK := Lib.hid (hK.keep hb0)
  have HT := Lib.hid (hT.keep hb0)
  have HL := Lib.hid hl
  have HM := Lib.hid hm
  clear hW0 h hm hl hK hT
  go_enter Tryz.func34, Tryz.ntmps34
  go_upto_region 1 with fail
  rw [← HW.out]
  obtain ⟨xc0, xc1, xc2, xc3, xc4, xc5, xc6, xc7, xc8⟩ := (X).all
  go_wp2_with fail
  refine (HM.out _ HK.out HT.out HX.out).mono ?_
  rintro e w1 ⟨u, rfl, ⟨b1, b2, rfl, hu1, hu2, -, -⟩, hB1⟩
  have hb1 := Below.then hb0 (Nat.le_refl _) hB1
  have hR1 := hR.keep hB1
  have H1 := Lib.hid hu1
  have H2 := Lib.hid hu2
  clear xc0 xc1 xc2 xc3 xc4 xc5 xc6 xc7 xc8 hB1 hR hb0 hu1 hu2
  go_wp2_with fail
  refine (imagCpx_any 106 106 (.agg #[.pointer (some ⟨b1, 0, none⟩)]) (.agg #[.pointer (some ⟨b2, 0, none⟩)]) _).mono ?_
  rintro e w2 ⟨rfl, hB2⟩
  have hb2 := Below.then hb1 (Nat.le_refl _) hB2
  have hR2 := hR1.keep hB2
  clear hR1 hb1
  go_wp2_with fail
  refine (toldRat_any _ q _ (crat_of (H2.out.keep hB2)) HL.out.ok2 L (by have := HL.out.l2; omega) HL.out.n2 HL.out.d2).mono ?_
  rintro e w4 ⟨y, rfl, hy, hP, hB4⟩
  have hb4 := Below.then hb2 (Nat.le_refl _) hB4
  have hR4 := hR2.keep hB4
  have HE := Lib.hid (givesV_end hR4 (Nat.le_add_right _ 1) hb4 hy hP)
  have rc0 := (hR4).cell 0; have rc1 := (hR4).cell 1; have rc2 := (hR4).cell 2; have rc3 := (hR4).cell 3; have rc4 := (hR4).cell 4; have rc5 := (hR4).cell 5; have rc6 := (hR4).cell 6; have rc7 := (hR4).cell 7; have rc8 := (hR4).cell 8; simp only [List.getElem?_toArray, List.getElem?_cons_zero, List.getElem?_cons_succ] at rc0 rc1 rc2 rc3 rc4 rc5 rc6 rc7 rc8
  have rf0 := (hR4).frozen 0; have rf1 := (hR4).frozen 1; have rf2 := (hR4).frozen 2; have rf3 := (hR4).frozen 3; have rf4 := (hR4).frozen 4; have rf5 := (hR4).frozen 5; have rf6 := (hR4).frozen 6; have rf7 := (hR4).frozen 7; have rf8 := (hR4).frozen 8
  clear hR2 hR4 hb2 hb4 hB4 hy hP
  go_wp2
  exact bodyPost_ret (v := .agg #[.int .i64 y.kind, .bool y.truth, .string y.text, .bool y.neg, .slice y.wa y.wn y.wc, .slice y.da y.dn y.dc, .bool y.ineg, .slice y.ia y.inn y.ic, .slice y.ea y.en y.ec]) (by simp [results, Tryz.results34, go_sem, rc0, rc1, rc2, rc3, rc4, rc5, rc6, rc7, rc8]) rfl HE.out
theorem implSame_any (x : Vl) (P : World → Value → Prop) (Q : Vl → Prop) (w : World) (h : VlAt w x)
    (k1 : ∀ w', Below w.heap.size w w' → VlAt w' x → Calls Tryz.prog 49 #[.agg #[.int .i64 x.kind, .bool x.truth, .string x.text, .bool x.neg, .slice x.wa x.wn x.wc, .slice x.da x.dn x.dc, .bool x.ineg, .slice x.ia x.inn x.ic, .slice x.ea x.en x.ec]] w' fun e w'' => ∃ u, e = .returned u ∧ P w'' u ∧ Below w'.heap.size w' w'')
    (k2 : ∀ w' v, P w' v → Calls Tryz.prog 47 #[v] w' (GivesV Q w')) :
    Calls Tryz.prog 30 #[.agg #[.int .i64 x.kind, .bool x.truth, .string x.text, .bool x.neg, .slice x.wa x.wn x.wc, .slice x.da x.dn x.dc, .bool x.ineg, .slice x.ia x.inn x.ic, .slice x.ea x.en x.ec]] w (GivesV Q w) := by
  obtain ⟨W0, hW0⟩ : ∃ W0, W0 = (w.alloc (.cells #[.int .i64 x.kind, .bool x.truth, .string x.text, .bool x.neg, .slice x.wa x.wn x.wc, .slice x.da x.dn x.dc, .bool x.ineg, .slice x.ia x.inn x.ic, .slice x.ea x.en x.ec] 26)).alloc (.cells #[.int .i64 0, .bool false, .string ⟨#[]⟩, .bool false, .slice none 0 0, .slice none 0 0, .bool false, .slice none 0 0, .slice none 0 0] 26) := ⟨_, rfl⟩
  have HW := Lib.hid hW0
  have hb0 : Below w.heap.size w W0 := by rw [hW0]; exact Below.alloc' (Below.alloc' (Below.refl _ _) _) _
  have X : Box9 W0 w.heap.size x := by rw [hW0]; exact (Box9.new w x _ rfl).alloc _
  have hR : BlkAt W0 (w.heap.size + 1) #[.int .i64 0, .bool false, .string ⟨#[]⟩, .bool false, .slice none 0 0, .slice none 0 0, .bool false, .slice none 0 0, .slice none 0 0] 26 := by
    rw [hW0]
    have := BlkAt.new (w.alloc (.cells #[.int .i64 x.kind, .bool x.truth, .string x.text, .bool x.neg, .slice x.wa x.wn x.wc, .slice x.da x.dn x.dc, .bool x.ineg, .slice x.ia x.inn x.ic, .slice x.ea x.en x.ec] 26)) #[.int .i64 0, .bool false, .string ⟨#[]⟩, .bool false, .slice none 0 0, .slice none 0 0, .bool false, .slice none 0 0, .slice none 0 0] 26
    simpa using this
  have HX := Lib.hid (h.keep hb0)
  have HM := Lib.hid (k1 W0 hb0)
  have HL := Lib.hid k2
  clear hW0 h k1 k2
  go_enter Tryz.func30, Tryz.ntmps30
  go_upto_region 1 with fail
  rw [← HW.out]
  obtain ⟨xc0, xc1, xc2, xc3, xc4, xc5, xc6, xc7, xc8⟩ := (X).all
  go_wp2_with fail
  refine (HM.out HX.out).mono ?_
  rintro e w1 ⟨u, rfl, hu, hB1⟩
  have hb2 := Below.then hb0 (Nat.le_refl _) hB1
  have hR2 := hR.keep hB1
  clear xc0 xc1 xc2 xc3 xc4 xc5 xc6 xc7 xc8 hB1 hR hb0
  go_wp2_with fail
  refine (HL.out _ u hu).mono ?_
  rintro e w4 ⟨y, rfl, hy, hP, hB4⟩
  have hb4 := Below.then hb2 (Nat.le_refl _) hB4
  have hR4 := hR2.keep hB4
  have HE := Lib.hid (givesV_end hR4 (Nat.le_add_right _ 1) hb4 hy hP)
  have rc0 := (hR4).cell 0; have rc1 := (hR4).cell 1; have rc2 := (hR4).cell 2; have rc3 := (hR4).cell 3; have rc4 := (hR4).cell 4; have rc5 := (hR4).cell 5; have rc6 := (hR4).cell 6; have rc7 := (hR4).cell 7; have rc8 := (hR4).cell 8; simp only [List.getElem?_toArray, List.getElem?_cons_zero, List.getElem?_cons_succ] at rc0 rc1 rc2 rc3 rc4 rc5 rc6 rc7 rc8
  have rf0 := (hR4).frozen 0; have rf1 := (hR4).frozen 1; have rf2 := (hR4).frozen 2; have rf3 := (hR4).frozen 3; have rf4 := (hR4).frozen 4; have rf5 := (hR4).frozen 5; have rf6 := (hR4).frozen 6; have rf7 := (hR4).frozen 7; have rf8 := (hR4).frozen 8
  clear hR2 hR4 hb2 hb4 hB4 hy hP
  go_wp2
  exact bodyPost_ret (v := .agg #[.int .i64 y.kind, .bool y.truth, .string y.text, .bool y.neg, .slice y.wa y.wn y.wc, .slice y.da y.dn y.dc, .bool y.ineg, .slice y.ia y.inn y.ic, .slice y.ea y.en y.ec]) (by simp [results, Tryz.results30, go_sem, rc0, rc1, rc2, rc3, rc4, rc5, rc6, rc7, rc8]) rfl HE.out
end Go.Proofs.YtececkbcinmmpaaGreatDoor
