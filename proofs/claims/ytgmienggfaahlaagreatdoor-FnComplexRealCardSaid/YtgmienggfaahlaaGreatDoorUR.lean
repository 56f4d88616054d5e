/-
  Contracts and lemmas: CpxS ToiB CpxR.
-/
import Derived.Test.YtgmienggfaahlaaGreatDoorK35
import Derived.Test.YtgmienggfaahlaaGreatDoorK20
import Derived.Test.YtgmienggfaahlaaGreatDoorK34
import Derived.Test.YtgmienggfaahlaaGreatDoorK18
import Derived.Test.YtgmienggfaahlaaGreatDoorK19
import Derived.Test.YtgmienggfaahlaaGreatDoorK31
set_option linter.unusedSimpArgs false
set_option linter.unusedVariables false
set_option maxRecDepth 100000
set_option maxHeartbeats 8000000
namespace Go.Proofs.YtgmienggfaahlaaGreatDoor
open Go.RowKit Go.Bg Dg
theorem ratSign_any (b : Nat) (r : Rt) (w : World) (h : RatAt 155 w b r.neg r.num r.den) :
    Calls Tryz.prog 179 #[.pointer (some ⟨b, 0, none⟩)] w fun e w' => e = .returned (.int .i64 r.signOf) ∧ w = w' := by
  have HA := Lib.hid h.a
  clear h
  go_enter Tryz.func179, Tryz.ntmps179
  go_wp2_with fail
  refine (intSign_any b 0 r.neg r.num _ HA.out).mono ?_
  rintro e w1 ⟨rfl, rfl⟩
  rw [show (if r.num = 0 then (0 : Int) else if r.neg then -1 else 1) = r.signOf from rfl]
  go_wp2
  go_ret
  exact ⟨rfl, rfl⟩
theorem signRat_any (b : Nat) (r : Rt) (w : World) (h : RatAt 155 w b r.neg r.num r.den) :
    Calls Tryz.prog 108 #[.iface 102 (.agg #[.pointer (some ⟨b, 0, none⟩)])] w fun e w' => e = .returned (.int .i64 r.signOf) ∧ Below w.heap.size w w' := by
  obtain ⟨W0, hW0⟩ : ∃ W0, W0 = w.alloc (.cells #[.pointer (some ⟨b, 0, none⟩)] 102) := ⟨_, rfl⟩
  have HW := Lib.hid hW0
  have hb0 : Below w.heap.size w W0 := by rw [hW0]; exact Below.alloc' (Below.refl _ _) _
  have hx : W0.cell? ⟨w.heap.size, 0, none⟩ = some (.pointer (some ⟨b, 0, none⟩)) := by rw [hW0]; exact alloc_new _ _ _ rfl rfl
  have HH := Lib.hid (h.keep hb0)
  clear hW0 h
  obtain ⟨t1, t2, t3, t4, t5, t6, t7, t8, t9⟩ := ta_ratVal
  go_enter Tryz.func108, Tryz.ntmps108
  go_wp2_with fail
  rw [← HW.out]
  refine (ratSign_any b r _ HH.out).mono ?_
  rintro e w1 ⟨rfl, rfl⟩
  go_wp2
  go_ret
  exact ⟨rfl, hb0⟩
theorem isWhole_any (s : Bool) (a : Option Addr) (n c : Nat) (a' : Option Addr) (n' c' L : Nat) (q : Rt) (w : World) (h : RtAt w s a n c a' n' c' q L) (hL : L ≤ 100000) :
    Calls Tryz.prog 24 #[.agg #[.bool s, .slice a n c, .slice a' n' c']] w fun e w' => e = .returned (.bool (decide (q.den = 1))) ∧ Below w.heap.size w w' := by
  obtain ⟨W0, hW0⟩ : ∃ W0, W0 = w.alloc (.cells #[.bool s, .slice a n c, .slice a' n' c'] 31) := ⟨_, rfl⟩
  have HW := Lib.hid hW0
  have hb0 : Below w.heap.size w W0 := by rw [hW0]; exact Below.alloc' (Below.refl _ _) _
  have X : RtBlk W0 w.heap.size s a n c a' n' c' := by rw [hW0]; exact RtBlk.new _ _ rfl _ _ _ _ _ _ _
  have hd := h.d_le
  have HH := Lib.hid (h.keep hb0)
  have HD := Lib.hid (show decide (cmpI q.den 1 = 0) = decide (q.den = 1) from by
    unfold cmpI
    by_cases h1 : q.den < 1
    · have : ¬ q.den = 1 := by omega
      simp [h1, this]
    · by_cases h2 : q.den = 1
      · rw [h2]; rfl
      · have : 1 < q.den := by omega
        simp [h2, h1, this])
  clear hW0 h
  go_enter Tryz.func24, Tryz.ntmps24
  go_upto_region 1 with fail
  rw [← HW.out]
  have hd0 : Below W0.heap.size W0 W0.drew := (Below.refl _ _).drew
  go_region_held3 (fun w' => w'.cell? ⟨w.heap.size, 2, none⟩ = some (.slice a' n' c'))
    (first | with_reducible exact X.c2 | exact cell_keep X.c2 (by assumption))
    (first | (go_at_call 46; (with_reducible refine (small_one _).mono ?_); rintro e w1 ⟨aO, nO, cO, rfl, hO, hB1⟩; have hb1 := Below.then hd0 (Nat.le_refl _) hB1; have hnO := hO.len16 (m := 1) (by decide)) | (go_at_call 31; (with_reducible refine (cmp_any a' aO n' nO c' cO q.den 1 _ ?_ ?_ ?_ ?_).mono ?_); exact (HH.out.keep hb1).den; exact hO; omega; omega; rintro e w2 ⟨rfl, hd⟩; have hb2 : Below W0.heap.size W0 w2 := Below.then hb1 (Nat.le_refl _) (below_of_drewN hd); clear hd))
  go_wp2
  go_ret
  exact ⟨ret_bool (by rw [← HD.out]; first | rfl | (simp; done) | (simp; rfl)), Below.then hb0 (Nat.le_refl _) hb2⟩
theorem toFloatC_any (b1 b2 : Nat) (r q : Rt) (L : Nat) (w : World) (h1 : RatAt 155 w b1 r.neg r.num r.den) (h2 : RatAt 155 w b2 q.neg q.num q.den) (hL : L ≤ 63) (hr : r.num < W64 ^ L) (hz : q.num = 0) :
    Calls Tryz.prog 42 #[.iface 111 (.agg #[.iface 102 (.agg #[.pointer (some ⟨b1, 0, none⟩)]), .iface 102 (.agg #[.pointer (some ⟨b2, 0, none⟩)])])] w fun e w' => ∃ u, e = .returned u ∧ CRat w' u r ∧ Below w.heap.size w w' := by
  obtain ⟨W0, hW0⟩ : ∃ W0, W0 = w.alloc (.cells #[.iface 102 (.agg #[.pointer (some ⟨b1, 0, none⟩)]), .iface 102 (.agg #[.pointer (some ⟨b2, 0, none⟩)])] 111) := ⟨_, rfl⟩
  have HW := Lib.hid hW0
  have hb0 : Below w.heap.size w W0 := by rw [hW0]; exact Below.alloc' (Below.refl _ _) _
  have c0 : W0.cell? ⟨w.heap.size, 0, none⟩ = some (.iface 102 (.agg #[.pointer (some ⟨b1, 0, none⟩)])) := by rw [hW0]; exact alloc_new _ _ _ rfl rfl
  have c1 : W0.cell? ⟨w.heap.size, 1, none⟩ = some (.iface 102 (.agg #[.pointer (some ⟨b2, 0, none⟩)])) := by rw [hW0]; exact alloc_new _ _ _ rfl rfl
  have H1 := Lib.hid (h1.keep hb0)
  have H2 := Lib.hid (h2.keep hb0)
  have HS := Lib.hid (show q.signOf = 0 from by unfold Rt.signOf; rw [if_pos hz])
  clear hW0 h1 h2 hz
  obtain ⟨t1, t2, t3, t4, t5, t6, t7, t8, t9⟩ := ta_complexVal
  go_enter Tryz.func42, Tryz.ntmps42
  go_wp2_with fail
  rw [← HW.out]
  refine (signRat_any b2 q _ H2.out).mono ?_
  rintro e w1 ⟨rfl, hB1⟩
  have hb1 := Below.then hb0 (Nat.le_refl _) hB1
  have d0 := cell_keep c0 hB1
  have H11 := Lib.hid (H1.out.keep hB1)
  clear c0 c1 hB1 hb0
  rw [HS.out]
  go_wp2_with fail
  refine (toFloat_any (.iface 102 (.agg #[.pointer (some ⟨b1, 0, none⟩)])) r _ (.inr (crat_of H11.out)) L hL hr).mono ?_
  rintro e w2 ⟨u, rfl, hu, hB2⟩
  have hb2 := Below.then hb1 (Nat.le_refl _) hB2
  go_wp2
  go_ret
  exact ⟨_, rfl, hu, hb2⟩
theorem toFloatCN_any (b1 b2 : Nat) (r q : Rt) (w : World) (h1 : RatAt 155 w b1 r.neg r.num r.den) (h2 : RatAt 155 w b2 q.neg q.num q.den) (hz : 0 < q.num) :
    Calls Tryz.prog 42 #[.iface 111 (.agg #[.iface 102 (.agg #[.pointer (some ⟨b1, 0, none⟩)]), .iface 102 (.agg #[.pointer (some ⟨b2, 0, none⟩)])])] w fun e w' => e = .returned (.iface 85 (.agg #[])) ∧ Below w.heap.size w w' := by
  obtain ⟨W0, hW0⟩ : ∃ W0, W0 = w.alloc (.cells #[.iface 102 (.agg #[.pointer (some ⟨b1, 0, none⟩)]), .iface 102 (.agg #[.pointer (some ⟨b2, 0, none⟩)])] 111) := ⟨_, rfl⟩
  have HW := Lib.hid hW0
  have hb0 : Below w.heap.size w W0 := by rw [hW0]; exact Below.alloc' (Below.refl _ _) _
  have c0 : W0.cell? ⟨w.heap.size, 0, none⟩ = some (.iface 102 (.agg #[.pointer (some ⟨b1, 0, none⟩)])) := by rw [hW0]; exact alloc_new _ _ _ rfl rfl
  have c1 : W0.cell? ⟨w.heap.size, 1, none⟩ = some (.iface 102 (.agg #[.pointer (some ⟨b2, 0, none⟩)])) := by rw [hW0]; exact alloc_new _ _ _ rfl rfl
  have H1 := Lib.hid (h1.keep hb0)
  have H2 := Lib.hid (h2.keep hb0)
  have hs : q.signOf = 1 ∨ q.signOf = -1 := signOf_one (by unfold Rt.signOf; rw [if_neg (by omega)]; split <;> decide)
  obtain ⟨v, hv⟩ : ∃ v, v = q.signOf := ⟨_, rfl⟩
  rw [← hv] at hs
  have HS := Lib.hid hv
  clear hW0 h1 h2 hz hv
  obtain ⟨t1, t2, t3, t4, t5, t6, t7, t8, t9⟩ := ta_complexVal
  go_enter Tryz.func42, Tryz.ntmps42
  go_wp2_with fail
  rw [← HW.out]
  refine (signRat_any b2 q _ H2.out).mono ?_
  rintro e w1 ⟨rfl, hB1⟩
  have hb1 := Below.then hb0 (Nat.le_refl _) hB1
  have d0 := cell_keep c0 hB1
  have H11 := Lib.hid (H1.out.keep hB1)
  clear c0 c1 hB1 hb0
  rw [← HS.out]
  rcases hs with rfl | rfl
  all_goals
    go_wp2
    go_ret
    exact ⟨rfl, hb1⟩
theorem toIntC_any (b1 b2 : Nat) (r q : Rt) (L : Nat) (w : World) (h1 : RatAt 155 w b1 r.neg r.num r.den) (h2 : RatAt 155 w b2 q.neg q.num q.den) (hL : L ≤ 63) (hr : r.num < W64 ^ L) (hz : q.num = 0) :
    Calls Tryz.prog 43 #[.iface 111 (.agg #[.iface 102 (.agg #[.pointer (some ⟨b1, 0, none⟩)]), .iface 102 (.agg #[.pointer (some ⟨b2, 0, none⟩)])])] w fun e w' => ∃ u, e = .returned u ∧ (r.den = 1 → CInt w' u (sg r.neg r.num)) ∧ (r.den ≠ 1 → u = .iface 85 (.agg #[])) ∧ Below w.heap.size w w' := by
  obtain ⟨W0, hW0⟩ : ∃ W0, W0 = w.alloc (.cells #[.iface 102 (.agg #[.pointer (some ⟨b1, 0, none⟩)]), .iface 102 (.agg #[.pointer (some ⟨b2, 0, none⟩)])] 111) := ⟨_, rfl⟩
  have HW := Lib.hid hW0
  have hb0 : Below w.heap.size w W0 := by rw [hW0]; exact Below.alloc' (Below.refl _ _) _
  have c0 : W0.cell? ⟨w.heap.size, 0, none⟩ = some (.iface 102 (.agg #[.pointer (some ⟨b1, 0, none⟩)])) := by rw [hW0]; exact alloc_new _ _ _ rfl rfl
  have c1 : W0.cell? ⟨w.heap.size, 1, none⟩ = some (.iface 102 (.agg #[.pointer (some ⟨b2, 0, none⟩)])) := by rw [hW0]; exact alloc_new _ _ _ rfl rfl
  have H1 := Lib.hid (h1.keep hb0)
  have H2 := Lib.hid (h2.keep hb0)
  have HR := Lib.hid hr
  have HZ := Lib.hid hz
  clear hW0 h1 h2 hz hr
  obtain ⟨t1, t2, t3, t4, t5, t6, t7, t8, t9⟩ := ta_complexVal
  go_enter Tryz.func43, Tryz.ntmps43
  go_wp2_with fail
  rw [← HW.out]
  refine (toFloatC_any b1 b2 r q L _ H1.out H2.out hL HR.out HZ.out).mono ?_
  rintro e w1 ⟨u, rfl, hu, hB1⟩
  have hb1 := Below.then hb0 (Nat.le_refl _) hB1
  have HU := Lib.hid hu
  obtain ⟨b, s, N, D, rfl, hR, hrr⟩ := hu
  have m1 := methodKindRat
  clear hR hrr c0 c1 hB1
  go_wp2_with fail
  refine (kindRat_any (.pointer (some ⟨b, 0, none⟩)) _).mono ?_
  rintro e w2 ⟨rfl, hB2⟩
  have hb2 := Below.then hb1 (Nat.le_refl _) hB2
  have HU3 := Lib.hid (HU.out.keep hB2)
  clear hB2
  go_wp2_with fail
  refine (toIntRat_any _ r _ HU3.out).mono ?_
  rintro e w3 ⟨u, rfl, hu1, hu2, hB3⟩
  have hb3 := Below.then hb2 (Nat.le_refl _) hB3
  have HU1 := Lib.hid hu1
  have HU2 := Lib.hid hu2
  clear hu1 hu2
  go_wp2
  go_ret
  exact ⟨_, rfl, HU1.out, HU2.out, hb3⟩
theorem toIntCN_any (b1 b2 : Nat) (r q : Rt) (w : World) (h1 : RatAt 155 w b1 r.neg r.num r.den) (h2 : RatAt 155 w b2 q.neg q.num q.den) (hz : 0 < q.num) :
    Calls Tryz.prog 43 #[.iface 111 (.agg #[.iface 102 (.agg #[.pointer (some ⟨b1, 0, none⟩)]), .iface 102 (.agg #[.pointer (some ⟨b2, 0, none⟩)])])] w fun e w' => e = .returned (.iface 85 (.agg #[])) ∧ Below w.heap.size w w' := by
  obtain ⟨W0, hW0⟩ : ∃ W0, W0 = w.alloc (.cells #[.iface 102 (.agg #[.pointer (some ⟨b1, 0, none⟩)]), .iface 102 (.agg #[.pointer (some ⟨b2, 0, none⟩)])] 111) := ⟨_, rfl⟩
  have HW := Lib.hid hW0
  have hb0 : Below w.heap.size w W0 := by rw [hW0]; exact Below.alloc' (Below.refl _ _) _
  have c0 : W0.cell? ⟨w.heap.size, 0, none⟩ = some (.iface 102 (.agg #[.pointer (some ⟨b1, 0, none⟩)])) := by rw [hW0]; exact alloc_new _ _ _ rfl rfl
  have c1 : W0.cell? ⟨w.heap.size, 1, none⟩ = some (.iface 102 (.agg #[.pointer (some ⟨b2, 0, none⟩)])) := by rw [hW0]; exact alloc_new _ _ _ rfl rfl
  have H1 := Lib.hid (h1.keep hb0)
  have H2 := Lib.hid (h2.keep hb0)
  have HZ := Lib.hid hz
  clear hW0 h1 h2 hz
  obtain ⟨t1, t2, t3, t4, t5, t6, t7, t8, t9⟩ := ta_complexVal
  go_enter Tryz.func43, Tryz.ntmps43
  go_wp2_with fail
  rw [← HW.out]
  refine (toFloatCN_any b1 b2 r q _ H1.out H2.out HZ.out).mono ?_
  rintro e w1 ⟨rfl, hB1⟩
  have hb1 := Below.then hb0 (Nat.le_refl _) hB1
  have m1 := methodKindUnk
  clear c0 c1 hB1
  go_wp2_with fail
  refine (kindUnk_any _).mono ?_
  rintro e w2 ⟨rfl, hB2⟩
  have hb2 := Below.then hb1 (Nat.le_refl _) hB2
  clear hB2
  go_wp2
  go_ret
  exact ⟨rfl, hb2⟩
theorem implToFloatC_any (x : Vl) (r q : Rt) (L : Nat) (w : World) (hK : Thr w) (hT : ThrD w) (h : VlAt w x) (hm : MadeC x r q) (hp : PLt r q L) (hL : L ≤ 63) (hz : q.num = 0) :
    Calls Tryz.prog 20 #[.agg #[.int .i64 x.kind, .bool x.truth, .string x.text, .bool x.neg, .slice x.wa x.wn x.wc, .slice x.da x.dn x.dc, .bool x.ineg, .slice x.ia x.inn x.ic, .slice x.ea x.en x.ec]] w (GivesV (IsQ r L) w) := by
  obtain ⟨W0, hW0⟩ : ∃ W0, W0 = (w.alloc (.cells #[.int .i64 x.kind, .bool x.truth, .string x.text, .bool x.neg, .slice x.wa x.wn x.wc, .slice x.da x.dn x.dc, .bool x.ineg, .slice x.ia x.inn x.ic, .slice x.ea x.en x.ec] 26)).alloc (.cells #[.int .i64 0, .bool false, .string ⟨#[]⟩, .bool false, .slice none 0 0, .slice none 0 0, .bool false, .slice none 0 0, .slice none 0 0] 26) := ⟨_, rfl⟩
  have HW := Lib.hid hW0
  have hb0 : Below w.heap.size w W0 := by rw [hW0]; exact Below.alloc' (Below.alloc' (Below.refl _ _) _) _
  have X : Box9 W0 w.heap.size x := by rw [hW0]; exact (Box9.new w x _ rfl).alloc _
  have hR : BlkAt W0 (w.heap.size + 1) #[.int .i64 0, .bool false, .string ⟨#[]⟩, .bool false, .slice none 0 0, .slice none 0 0, .bool false, .slice none 0 0, .slice none 0 0] 26 := by
    rw [hW0]
    have := BlkAt.new (w.alloc (.cells #[.int .i64 x.kind, .bool x.truth, .string x.text, .bool x.neg, .slice x.wa x.wn x.wc, .slice x.da x.dn x.dc, .bool x.ineg, .slice x.ia x.inn x.ic, .slice x.ea x.en x.ec] 26)) #[.int .i64 0, .bool false, .string ⟨#[]⟩, .bool false, .slice none 0 0, .slice none 0 0, .bool false, .slice none 0 0, .slice none 0 0] 26
    simpa using this
  have HX := Lib.hid (h.keep hb0)
  have HK := Lib.hid (hK.keep hb0)
  have HT := Lib.hid (hT.keep hb0)
  have HM := Lib.hid hm
  have HP := Lib.hid hp
  have HZ := Lib.hid hz
  clear hW0 h hm hK hT hp hz
  go_enter Tryz.func20, Tryz.ntmps20
  go_upto_region 1 with fail
  rw [← HW.out]
  obtain ⟨xc0, xc1, xc2, xc3, xc4, xc5, xc6, xc7, xc8⟩ := (X).all
  go_wp2_with fail
  refine (HM.out _ HK.out HT.out HX.out).mono ?_
  rintro e w1 ⟨u, rfl, ⟨b1, b2, rfl, hu1, hu2, -, -⟩, hB1⟩
  have hb1 := Below.then hb0 (Nat.le_refl _) hB1
  have hR1 := hR.keep hB1
  have H1 := Lib.hid hu1
  have H2 := Lib.hid hu2
  clear xc0 xc1 xc2 xc3 xc4 xc5 xc6 xc7 xc8 hB1 hR hb0 hu1 hu2
  go_wp2_with fail
  refine (toFloatC_any b1 b2 r q L _ H1.out H2.out hL HP.out.n1 HZ.out).mono ?_
  rintro e w2 ⟨u2, rfl, hu2, hB2⟩
  have hb2 := Below.then hb1 (Nat.le_refl _) hB2
  have hR2 := hR1.keep hB2
  clear hR1 hb1
  go_wp2_with fail
  refine (toldRat_any u2 r _ hu2 HP.out.ok1 L (by omega) HP.out.n1 HP.out.d1).mono ?_
  rintro e w4 ⟨y, rfl, hy, hP, hB4⟩
  have hb4 := Below.then hb2 (Nat.le_refl _) hB4
  have hR4 := hR2.keep hB4
  have HE := Lib.hid (givesV_end hR4 (Nat.le_add_right _ 1) hb4 hy hP)
  have rc0 := (hR4).cell 0; have rc1 := (hR4).cell 1; have rc2 := (hR4).cell 2; have rc3 := (hR4).cell 3; have rc4 := (hR4).cell 4; have rc5 := (hR4).cell 5; have rc6 := (hR4).cell 6; have rc7 := (hR4).cell 7; have rc8 := (hR4).cell 8; simp only [List.getElem?_toArray, List.getElem?_cons_zero, List.getElem?_cons_succ] at rc0 rc1 rc2 rc3 rc4 rc5 rc6 rc7 rc8
  have rf0 := (hR4).frozen 0; have rf1 := (hR4).frozen 1; have rf2 := (hR4).frozen 2; have rf3 := (hR4).frozen 3; have rf4 := (hR4).frozen 4; have rf5 := (hR4).frozen 5; have rf6 := (hR4).frozen 6; have rf7 := (hR4).frozen 7; have rf8 := (hR4).frozen 8
  clear hR2 hR4 hb2 hb4 hB4 hy hP
  go_wp2
  exact bodyPost_ret (v := .agg #[.int .i64 y.kind, .bool y.truth, .string y.text, .bool y.neg, .slice y.wa y.wn y.wc, .slice y.da y.dn y.dc, .bool y.ineg, .slice y.ia y.inn y.ic, .slice y.ea y.en y.ec]) (by simp [results, Tryz.results20, go_sem, rc0, rc1, rc2, rc3, rc4, rc5, rc6, rc7, rc8]) rfl HE.out
theorem implToFloatCN_any (x : Vl) (r q : Rt) (L : Nat) (w : World) (hK : Thr w) (hT : ThrD w) (h : VlAt w x) (hm : MadeC x r q) (hp : PLt r q L) (hL : L ≤ 63) (hz : 0 < q.num) :
    Calls Tryz.prog 20 #[.agg #[.int .i64 x.kind, .bool x.truth, .string x.text, .bool x.neg, .slice x.wa x.wn x.wc, .slice x.da x.dn x.dc, .bool x.ineg, .slice x.ia x.inn x.ic, .slice x.ea x.en x.ec]] w (GivesV (IsU) w) := by
  obtain ⟨W0, hW0⟩ : ∃ W0, W0 = (w.alloc (.cells #[.int .i64 x.kind, .bool x.truth, .string x.text, .bool x.neg, .slice x.wa x.wn x.wc, .slice x.da x.dn x.dc, .bool x.ineg, .slice x.ia x.inn x.ic, .slice x.ea x.en x.ec] 26)).alloc (.cells #[.int .i64 0, .bool false, .string ⟨#[]⟩, .bool false, .slice none 0 0, .slice none 0 0, .bool false, .slice none 0 0, .slice none 0 0] 26) := ⟨_, rfl⟩
  have HW := Lib.hid hW0
  have hb0 : Below w.heap.size w W0 := by rw [hW0]; exact Below.alloc' (Below.alloc' (Below.refl _ _) _) _
  have X : Box9 W0 w.heap.size x := by rw [hW0]; exact (Box9.new w x _ rfl).alloc _
  have hR : BlkAt W0 (w.heap.size + 1) #[.int .i64 0, .bool false, .string ⟨#[]⟩, .bool false, .slice none 0 0, .slice none 0 0, .bool false, .slice none 0 0, .slice none 0 0] 26 := by
    rw [hW0]
    have := BlkAt.new (w.alloc (.cells #[.int .i64 x.kind, .bool x.truth, .string x.text, .bool x.neg, .slice x.wa x.wn x.wc, .slice x.da x.dn x.dc, .bool x.ineg, .slice x.ia x.inn x.ic, .slice x.ea x.en x.ec] 26)) #[.int .i64 0, .bool false, .string ⟨#[]⟩, .bool false, .slice none 0 0, .slice none 0 0, .bool false, .slice none 0 0, .slice none 0 0] 26
    simpa using this
  have HX := Lib.hid (h.keep hb0)
  have HK := Lib.hid (hK.keep hb0)
  have HT := Lib.hid (hT.keep hb0)
  have HM := Lib.hid hm
  have HP := Lib.hid hp
  have HZ := Lib.hid hz
  clear hW0 h hm hK hT hp hz
  go_enter Tryz.func20, Tryz.ntmps20
  go_upto_region 1 with fail
  rw [← HW.out]
  obtain ⟨xc0, xc1, xc2, xc3, xc4, xc5, xc6, xc7, xc8⟩ := (X).all
  go_wp2_with fail
  refine (HM.out _ HK.out HT.out HX.out).mono ?_
  rintro e w1 ⟨u, rfl, ⟨b1, b2, rfl, hu1, hu2, -, -⟩, hB1⟩
  have hb1 := Below.then hb0 (Nat.le_refl _) hB1
  have hR1 := hR.keep hB1
  have H1 := Lib.hid hu1
  have H2 := Lib.hid hu2
  clear xc0 xc1 xc2 xc3 xc4 xc5 xc6 xc7 xc8 hB1 hR hb0 hu1 hu2
  go_wp2_with fail
  refine (toFloatCN_any b1 b2 r q _ H1.out H2.out HZ.out).mono ?_
  rintro e w2 ⟨rfl, hB2⟩
  have hb2 := Below.then hb1 (Nat.le_refl _) hB2
  have hR2 := hR1.keep hB2
  clear hR1 hb1
  go_wp2_with fail
  refine (toldUnk_any _).mono ?_
  rintro e w4 ⟨y, rfl, hy, hP, hB4⟩
  have hb4 := Below.then hb2 (Nat.le_refl _) hB4
  have hR4 := hR2.keep hB4
  have HE := Lib.hid (givesV_end hR4 (Nat.le_add_right _ 1) hb4 hy hP)
  have rc0 := (hR4).cell 0; have rc1 := (hR4).cell 1; have rc2 := (hR4).cell 2; have rc3 := (hR4).cell 3; have rc4 := (hR4).cell 4; have rc5 := (hR4).cell 5; have rc6 := (hR4).cell 6; have rc7 := (hR4).cell 7; have rc8 := (hR4).cell 8; simp only [List.getElem?_toArray, List.getElem?_cons_zero, List.getElem?_cons_succ] at rc0 rc1 rc2 rc3 rc4 rc5 rc6 rc7 rc8
  have rf0 := (hR4).frozen 0; have rf1 := (hR4).frozen 1; have rf2 := (hR4).frozen 2; have rf3 := (hR4).frozen 3; have rf4 := (hR4).frozen 4; have rf5 := (hR4).frozen 5; have rf6 := (hR4).frozen 6; have rf7 := (hR4).frozen 7; have rf8 := (hR4).frozen 8
  clear hR2 hR4 hb2 hb4 hB4 hy hP
  go_wp2
  exact bodyPost_ret (v := .agg #[.int .i64 y.kind, .bool y.truth, .string y.text, .bool y.neg, .slice y.wa y.wn y.wc, .slice y.da y.dn y.dc, .bool y.ineg, .slice y.ia y.inn y.ic, .slice y.ea y.en y.ec]) (by simp [results, Tryz.results20, go_sem, rc0, rc1, rc2, rc3, rc4, rc5, rc6, rc7, rc8]) rfl HE.out
theorem implToIntC_any (x : Vl) (r q : Rt) (L : Nat) (w : World) (hK : Thr w) (hT : ThrD w) (h : VlAt w x) (hm : MadeC x r q) (hp : PLt r q L) (hL : L ≤ 63) (hz : q.num = 0) (hd : r.den = 1) :
    Calls Tryz.prog 21 #[.agg #[.int .i64 x.kind, .bool x.truth, .string x.text, .bool x.neg, .slice x.wa x.wn x.wc, .slice x.da x.dn x.dc, .bool x.ineg, .slice x.ia x.inn x.ic, .slice x.ea x.en x.ec]] w (GivesV (IsZ (sg r.neg r.num) L) w) := by
  obtain ⟨W0, hW0⟩ : ∃ W0, W0 = (w.alloc (.cells #[.int .i64 x.kind, .bool x.truth, .string x.text, .bool x.neg, .slice x.wa x.wn x.wc, .slice x.da x.dn x.dc, .bool x.ineg, .slice x.ia x.inn x.ic, .slice x.ea x.en x.ec] 26)).alloc (.cells #[.int .i64 0, .bool false, .string ⟨#[]⟩, .bool false, .slice none 0 0, .slice none 0 0, .bool false, .slice none 0 0, .slice none 0 0] 26) := ⟨_, rfl⟩
  have HW := Lib.hid hW0
  have hb0 : Below w.heap.size w W0 := by rw [hW0]; exact Below.alloc' (Below.alloc' (Below.refl _ _) _) _
  have X : Box9 W0 w.heap.size x := by rw [hW0]; exact (Box9.new w x _ rfl).alloc _
  have hR : BlkAt W0 (w.heap.size + 1) #[.int .i64 0, .bool false, .string ⟨#[]⟩, .bool false, .slice none 0 0, .slice none 0 0, .bool false, .slice none 0 0, .slice none 0 0] 26 := by
    rw [hW0]
    have := BlkAt.new (w.alloc (.cells #[.int .i64 x.kind, .bool x.truth, .string x.text, .bool x.neg, .slice x.wa x.wn x.wc, .slice x.da x.dn x.dc, .bool x.ineg, .slice x.ia x.inn x.ic, .slice x.ea x.en x.ec] 26)) #[.int .i64 0, .bool false, .string ⟨#[]⟩, .bool false, .slice none 0 0, .slice none 0 0, .bool false, .slice none 0 0, .slice none 0 0] 26
    simpa using this
  have HX := Lib.hid (h.keep hb0)
  have HK := Lib.hid (hK.keep hb0)
  have HT := Lib.hid (hT.keep hb0)
  have HM := Lib.hid hm
  have HP := Lib.hid hp
  have HZ := Lib.hid hz
  have HD := Lib.hid hd
  clear hd
  clear hW0 h hm hK hT hp hz
  go_enter Tryz.func21, Tryz.ntmps21
  go_upto_region 1 with fail
  rw [← HW.out]
  obtain ⟨xc0, xc1, xc2, xc3, xc4, xc5, xc6, xc7, xc8⟩ := (X).all
  go_wp2_with fail
  refine (HM.out _ HK.out HT.out HX.out).mono ?_
  rintro e w1 ⟨u, rfl, ⟨b1, b2, rfl, hu1, hu2, -, -⟩, hB1⟩
  have hb1 := Below.then hb0 (Nat.le_refl _) hB1
  have hR1 := hR.keep hB1
  have H1 := Lib.hid hu1
  have H2 := Lib.hid hu2
  clear xc0 xc1 xc2 xc3 xc4 xc5 xc6 xc7 xc8 hB1 hR hb0 hu1 hu2
  go_wp2_with fail
  refine (toIntC_any b1 b2 r q L _ H1.out H2.out hL HP.out.n1 HZ.out).mono ?_
  rintro e w2 ⟨u2, rfl, hu2, -, hB2⟩
  have hb2 := Below.then hb1 (Nat.le_refl _) hB2
  have hR2 := hR1.keep hB2
  clear hR1 hb1
  go_wp2_with fail
  refine (toldZ_any u2 _ _ (hu2 HD.out) L (by omega) (by rw [sg_nat]; exact HP.out.n1)).mono ?_
  rintro e w4 ⟨y, rfl, hy, hP, hB4⟩
  have hb4 := Below.then hb2 (Nat.le_refl _) hB4
  have hR4 := hR2.keep hB4
  have HE := Lib.hid (givesV_end hR4 (Nat.le_add_right _ 1) hb4 hy hP)
  have rc0 := (hR4).cell 0; have rc1 := (hR4).cell 1; have rc2 := (hR4).cell 2; have rc3 := (hR4).cell 3; have rc4 := (hR4).cell 4; have rc5 := (hR4).cell 5; have rc6 := (hR4).cell 6; have rc7 := (hR4).cell 7; have rc8 := (hR4).cell 8; simp only [List.getElem?_toArray, List.getElem?_cons_zero, List.getElem?_cons_succ] at rc0 rc1 rc2 rc3 rc4 rc5 rc6 rc7 rc8
  have rf0 := (hR4).frozen 0; have rf1 := (hR4).frozen 1; have rf2 := (hR4).frozen 2; have rf3 := (hR4).frozen 3; have rf4 := (hR4).frozen 4; have rf5 := (hR4).frozen 5; have rf6 := (hR4).frozen 6; have rf7 := (hR4).frozen 7; have rf8 := (hR4).frozen 8
  clear hR2 hR4 hb2 hb4 hB4 hy hP
  go_wp2
  exact bodyPost_ret (v := .agg #[.int .i64 y.kind, .bool y.truth, .string y.text, .bool y.neg, .slice y.wa y.wn y.wc, .slice y.da y.dn y.dc, .bool y.ineg, .slice y.ia y.inn y.ic, .slice y.ea y.en y.ec]) (by simp [results, Tryz.results21, go_sem, rc0, rc1, rc2, rc3, rc4, rc5, rc6, rc7, rc8]) rfl HE.out
theorem implToIntCQ_any (x : Vl) (r q : Rt) (L : Nat) (w : World) (hK : Thr w) (hT : ThrD w) (h : VlAt w x) (hm : MadeC x r q) (hp : PLt r q L) (hL : L ≤ 63) (hz : q.num = 0) (hd : r.den ≠ 1) :
    Calls Tryz.prog 21 #[.agg #[.int .i64 x.kind, .bool x.truth, .string x.text, .bool x.neg, .slice x.wa x.wn x.wc, .slice x.da x.dn x.dc, .bool x.ineg, .slice x.ia x.inn x.ic, .slice x.ea x.en x.ec]] w (GivesV (IsU) w) := by
  obtain ⟨W0, hW0⟩ : ∃ W0, W0 = (w.alloc (.cells #[.int .i64 x.kind, .bool x.truth, .string x.text, .bool x.neg, .slice x.wa x.wn x.wc, .slice x.da x.dn x.dc, .bool x.ineg, .slice x.ia x.inn x.ic, .slice x.ea x.en x.ec] 26)).alloc (.cells #[.int .i64 0, .bool false, .string ⟨#[]⟩, .bool false, .slice none 0 0, .slice none 0 0, .bool false, .slice none 0 0, .slice none 0 0] 26) := ⟨_, rfl⟩
  have HW := Lib.hid hW0
  have hb0 : Below w.heap.size w W0 := by rw [hW0]; exact Below.alloc' (Below.alloc' (Below.refl _ _) _) _
  have X : Box9 W0 w.heap.size x := by rw [hW0]; exact (Box9.new w x _ rfl).alloc _
  have hR : BlkAt W0 (w.heap.size + 1) #[.int .i64 0, .bool false, .string ⟨#[]⟩, .bool false, .slice none 0 0, .slice none 0 0, .bool false, .slice none 0 0, .slice none 0 0] 26 := by
    rw [hW0]
    have := BlkAt.new (w.alloc (.cells #[.int .i64 x.kind, .bool x.truth, .string x.text, .bool x.neg, .slice x.wa x.wn x.wc, .slice x.da x.dn x.dc, .bool x.ineg, .slice x.ia x.inn x.ic, .slice x.ea x.en x.ec] 26)) #[.int .i64 0, .bool false, .string ⟨#[]⟩, .bool false, .slice none 0 0, .slice none 0 0, .bool false, .slice none 0 0, .slice none 0 0] 26
    simpa using this
  have HX := Lib.hid (h.keep hb0)
  have HK := Lib.hid (hK.keep hb0)
  have HT := Lib.hid (hT.keep hb0)
  have HM := Lib.hid hm
  have HP := Lib.hid hp
  have HZ := Lib.hid hz
  have HD := Lib.hid hd
  clear hd
  clear hW0 h hm hK hT hp hz
  go_enter Tryz.func21, Tryz.ntmps21
  go_upto_region 1 with fail
  rw [← HW.out]
  obtain ⟨xc0, xc1, xc2, xc3, xc4, xc5, xc6, xc7, xc8⟩ := (X).all
  go_wp2_with fail
  refine (HM.out _ HK.out HT.out HX.out).mono ?_
  rintro e w1 ⟨u, rfl, ⟨b1, b2, rfl, hu1, hu2, -, -⟩, hB1⟩
  have hb1 := Below.then hb0 (Nat.le_refl _) hB1
  have hR1 := hR.keep hB1
  have H1 := Lib.hid hu1
  have H2 := Lib.hid hu2
  clear xc0 xc1 xc2 xc3 xc4 xc5 xc6 xc7 xc8 hB1 hR hb0 hu1 hu2
  go_wp2_with fail
  refine (toIntC_any b1 b2 r q L _ H1.out H2.out hL HP.out.n1 HZ.out).mono ?_
  rintro e w2 ⟨u2, rfl, -, hu2, hB2⟩
  have hb2 := Below.then hb1 (Nat.le_refl _) hB2
  have hR2 := hR1.keep hB2
  clear hR1 hb1
  obtain rfl := hu2 HD.out
  go_wp2_with fail
  refine (toldUnk_any _).mono ?_
  rintro e w4 ⟨y, rfl, hy, hP, hB4⟩
  have hb4 := Below.then hb2 (Nat.le_refl _) hB4
  have hR4 := hR2.keep hB4
  have HE := Lib.hid (givesV_end hR4 (Nat.le_add_right _ 1) hb4 hy hP)
  have rc0 := (hR4).cell 0; have rc1 := (hR4).cell 1; have rc2 := (hR4).cell 2; have rc3 := (hR4).cell 3; have rc4 := (hR4).cell 4; have rc5 := (hR4).cell 5; have rc6 := (hR4).cell 6; have rc7 := (hR4).cell 7; have rc8 := (hR4).cell 8; simp only [List.getElem?_toArray, List.getElem?_cons_zero, List.getElem?_cons_succ] at rc0 rc1 rc2 rc3 rc4 rc5 rc6 rc7 rc8
  have rf0 := (hR4).frozen 0; have rf1 := (hR4).frozen 1; have rf2 := (hR4).frozen 2; have rf3 := (hR4).frozen 3; have rf4 := (hR4).frozen 4; have rf5 := (hR4).frozen 5; have rf6 := (hR4).frozen 6; have rf7 := (hR4).frozen 7; have rf8 := (hR4).frozen 8
  clear hR2 hR4 hb2 hb4 hB4 hy hP
  go_wp2
  exact bodyPost_ret (v := .agg #[.int .i64 y.kind, .bool y.truth, .string y.text, .bool y.neg, .slice y.wa y.wn y.wc, .slice y.da y.dn y.dc, .bool y.ineg, .slice y.ia y.inn y.ic, .slice y.ea y.en y.ec]) (by simp [results, Tryz.results21, go_sem, rc0, rc1, rc2, rc3, rc4, rc5, rc6, rc7, rc8]) rfl HE.out
theorem implToIntCN_any (x : Vl) (r q : Rt) (L : Nat) (w : World) (hK : Thr w) (hT : ThrD w) (h : VlAt w x) (hm : MadeC x r q) (hp : PLt r q L) (hL : L ≤ 63) (hz : 0 < q.num) :
    Calls Tryz.prog 21 #[.agg #[.int .i64 x.kind, .bool x.truth, .string x.text, .bool x.neg, .slice x.wa x.wn x.wc, .slice x.da x.dn x.dc, .bool x.ineg, .slice x.ia x.inn x.ic, .slice x.ea x.en x.ec]] w (GivesV (IsU) w) := by
  obtain ⟨W0, hW0⟩ : ∃ W0, W0 = (w.alloc (.cells #[.int .i64 x.kind, .bool x.truth, .string x.text, .bool x.neg, .slice x.wa x.wn x.wc, .slice x.da x.dn x.dc, .bool x.ineg, .slice x.ia x.inn x.ic, .slice x.ea x.en x.ec] 26)).alloc (.cells #[.int .i64 0, .bool false, .string ⟨#[]⟩, .bool false, .slice none 0 0, .slice none 0 0, .bool false, .slice none 0 0, .slice none 0 0] 26) := ⟨_, rfl⟩
  have HW := Lib.hid hW0
  have hb0 : Below w.heap.size w W0 := by rw [hW0]; exact Below.alloc' (Below.alloc' (Below.refl _ _) _) _
  have X : Box9 W0 w.heap.size x := by rw [hW0]; exact (Box9.new w x _ rfl).alloc _
  have hR : BlkAt W0 (w.heap.size + 1) #[.int .i64 0, .bool false, .string ⟨#[]⟩, .bool false, .slice none 0 0, .slice none 0 0, .bool false, .slice none 0 0, .slice none 0 0] 26 := by
    rw [hW0]
    have := BlkAt.new (w.alloc (.cells #[.int .i64 x.kind, .bool x.truth, .string x.text, .bool x.neg, .slice x.wa x.wn x.wc, .slice x.da x.dn x.dc, .bool x.ineg, .slice x.ia x.inn x.ic, .slice x.ea x.en x.ec] 26)) #[.int .i64 0, .bool false, .string ⟨#[]⟩, .bool false, .slice none 0 0, .slice none 0 0, .bool false, .slice none 0 0, .slice none 0 0] 26
    simpa using this
  have HX := Lib.hid (h.keep hb0)
  have HK := Lib.hid (hK.keep hb0)
  have HT := Lib.hid (hT.keep hb0)
  have HM := Lib.hid hm
  have HP := Lib.hid hp
  have HZ := Lib.hid hz
  clear hW0 h hm hK hT hp hz
  go_enter Tryz.func21, Tryz.ntmps21
  go_upto_region 1 with fail
  rw [← HW.out]
  obtain ⟨xc0, xc1, xc2, xc3, xc4, xc5, xc6, xc7, xc8⟩ := (X).all
  go_wp2_with fail
  refine (HM.out _ HK.out HT.out HX.out).mono ?_
  rintro e w1 ⟨u, rfl, ⟨b1, b2, rfl, hu1, hu2, -, -⟩, hB1⟩
  have hb1 := Below.then hb0 (Nat.le_refl _) hB1
  have hR1 := hR.keep hB1
  have H1 := Lib.hid hu1
  have H2 := Lib.hid hu2
  clear xc0 xc1 xc2 xc3 xc4 xc5 xc6 xc7 xc8 hB1 hR hb0 hu1 hu2
  go_wp2_with fail
  refine (toIntCN_any b1 b2 r q _ H1.out H2.out HZ.out).mono ?_
  rintro e w2 ⟨rfl, hB2⟩
  have hb2 := Below.then hb1 (Nat.le_refl _) hB2
  have hR2 := hR1.keep hB2
  clear hR1 hb1
  go_wp2_with fail
  refine (toldUnk_any _).mono ?_
  rintro e w4 ⟨y, rfl, hy, hP, hB4⟩
  have hb4 := Below.then hb2 (Nat.le_refl _) hB4
  have hR4 := hR2.keep hB4
  have HE := Lib.hid (givesV_end hR4 (Nat.le_add_right _ 1) hb4 hy hP)
  have rc0 := (hR4).cell 0; have rc1 := (hR4).cell 1; have rc2 := (hR4).cell 2; have rc3 := (hR4).cell 3; have rc4 := (hR4).cell 4; have rc5 := (hR4).cell 5; have rc6 := (hR4).cell 6; have rc7 := (hR4).cell 7; have rc8 := (hR4).cell 8; simp only [List.getElem?_toArray, List.getElem?_cons_zero, List.getElem?_cons_succ] at rc0 rc1 rc2 rc3 rc4 rc5 rc6 rc7 rc8
  have rf0 := (hR4).frozen 0; have rf1 := (hR4).frozen 1; have rf2 := (hR4).frozen 2; have rf3 := (hR4).frozen 3; have rf4 := (hR4).frozen 4; have rf5 := (hR4).frozen 5; have rf6 := (hR4).frozen 6; have rf7 := (hR4).frozen 7; have rf8 := (hR4).frozen 8
  clear hR2 hR4 hb2 hb4 hB4 hy hP
  go_wp2
  exact bodyPost_ret (v := .agg #[.int .i64 y.kind, .bool y.truth, .string y.text, .bool y.neg, .slice y.wa y.wn y.wc, .slice y.da y.dn y.dc, .bool y.ineg, .slice y.ia y.inn y.ic, .slice y.ea y.en y.ec]) (by simp [results, Tryz.results21, go_sem, rc0, rc1, rc2, rc3, rc4, rc5, rc6, rc7, rc8]) rfl HE.out
end Go.Proofs.YtgmienggfaahlaaGreatDoor
