/-
  constant.UnaryOp of an integer: all its bits turned.
  impl.Unary of an integer, from what constant.UnaryOp gives.
-/
import Derived.Test.YtdkipndepkblhaaGreatDoorBuJJ
import Derived.Test.YtdkipndepkblhaaGreatDoorBuL
set_option linter.unusedSimpArgs false
set_option linter.unusedVariables false
namespace Go.Proofs.YtdkipndepkblhaaGreatDoor
open Go.RowKit Go.Bg Dg

theorem intNot_any (d p b o : Nat) (s : Bool) (N : Nat) (w : World) (h : NewInt w d p) (h1 : BigAt 151 w b o s N) (hne : b ≠ d) (L : Nat) (hL : L ≤ 300000) (hN : N < W64 ^ L) :
    Calls Tryz.prog 106 #[.pointer (some ⟨d, p, none⟩), .pointer (some ⟨b, o, none⟩)] w (IntIs d p (decide (-sg s N - 1 < 0)) (-sg s N - 1).natAbs w) := by
  cases s
  · exact (intNot_pos d p b o N w h h1 hne L hL hN).mono fun e w' h => intIs_z h (by simp [sg]; omega)
  · have hz := h1.zero rfl
    exact (intNot_neg d p b o N w h h1 hne L hL hN).mono fun e w' h => intIs_z h (by simp [sg]; omega)

set_option maxRecDepth 100000 in
set_option maxHeartbeats 2000000 in
theorem unaryNot64_any (z : Int) (w : World) (hf : fit64 z = true) :
    Calls Tryz.prog 45 #[.int .i64 19, .iface 82 (.int .i64 z), .int .u64 0] w fun e w' => ∃ u, e = .returned u ∧ CInt w' u (-z - 1) ∧ Below w.heap.size w w' := by
  have HF := Lib.hid (fit64_bd hf)
  clear hf
  obtain ⟨t1, t2, t3, t4, t5, t6, t7, t8, t9⟩ := ta_int64Val
  go_enter Tryz.func45, Tryz.ntmps45
  go_wp2
  refine wp_scope_straight ?_
  go_wp2_with fail
  refine (newInt_any _).mono ?_
  rintro e w1 ⟨rfl, hw1⟩
  have hn1 : NewInt w1 w.heap.size 0 := by rw [hw1]; exact newInt_is w
  have hB1 : Below w.heap.size w w1 := by rw [hw1]; exact Below.alloc' (Below.refl _ _) _
  have HS1 := Lib.hid (show w1.heap.size = w.heap.size + 1 from by rw [hw1]; simp)
  clear hw1
  go_wp2_with fail
  refine (newIntOf_any z HF.out _).mono ?_
  rintro e w2 ⟨b, rfl, hb2, hI, hB2⟩
  have hn2 := hn1.keep hB2
  have hbf := Below.then hB1 (by have := HS1.out; omega) hB2
  have HS2 := Lib.hid hB2.size
  clear hn1 hB1 hB2
  go_wp2_with fail
  refine (intNot_any w.heap.size 0 b 0 (decide (z < 0)) z.natAbs _ hn2 hI (by have := HS1.out; omega) 1 (by omega) (by rw [Nat.pow_one]; unfold W64; have := HF.out; omega)).mono ?_
  rintro e w3 ⟨rfl, hJ, hU⟩
  rw [sg_natAbs] at hJ
  have hbg := hU.upd.below hbf (by have := HS1.out; have := HS2.out; omega) (fun k _ e => by subst e; exact Nat.le_refl _)
  go_wp2_with fail
  refine (makeInt_any w.heap.size 0 _ _ _ hJ).mono ?_
  rintro e w4 ⟨u, rfl, hu, rfl⟩
  rw [sg_natAbs] at hu
  go_wp2
  try rw [Exit.noGoto_ret]
  go_ret
  exact ⟨_, rfl, hu, hbg⟩

set_option maxRecDepth 100000 in
set_option maxHeartbeats 2000000 in
theorem unaryNotBig_any (b o : Nat) (s : Bool) (N : Nat) (w : World) (h : BigAt 151 w b o s N) (L : Nat) (hL : L ≤ 100000) (hN : N < W64 ^ L) :
    Calls Tryz.prog 45 #[.int .i64 19, .iface 93 (.agg #[.pointer (some ⟨b, o, none⟩)]), .int .u64 0] w fun e w' => ∃ u, e = .returned u ∧ CInt w' u (-sg s N - 1) ∧ Below w.heap.size w w' := by
  have hlt := h.blk.lt
  obtain ⟨t1, t2, t3, t4, t5, t6, t7, t8, t9⟩ := ta_intVal
  go_enter Tryz.func45, Tryz.ntmps45
  go_wp2
  refine wp_scope_straight ?_
  go_wp2_with fail
  refine (newInt_any _).mono ?_
  rintro e w1 ⟨rfl, hw1⟩
  have hn1 : NewInt w1 w.heap.size 0 := by rw [hw1]; exact newInt_is w
  have hB1 : Below w.heap.size w w1 := by rw [hw1]; exact Below.alloc' (Below.refl _ _) _
  have HS1 := Lib.hid (show w1.heap.size = w.heap.size + 1 from by rw [hw1]; simp)
  clear hw1
  have h' := h.keep hB1
  obtain ⟨W0, hW0⟩ : ∃ W0, W0 = w1.alloc (.cells #[.pointer (some ⟨b, o, none⟩)] 93) := ⟨_, rfl⟩
  have HW := Lib.hid hW0
  have hb0 : Below w1.heap.size w1 W0 := by rw [hW0]; exact Below.alloc' (Below.refl _ _) _
  have hx : W0.cell? ⟨w1.heap.size, 0, none⟩ = some (.pointer (some ⟨b, o, none⟩)) := by rw [hW0]; exact alloc_new _ _ _ rfl rfl
  have HH := Lib.hid (h'.keep hb0)
  have HN := Lib.hid hN
  have hn0 := hn1.keep hb0
  have hbf := Below.then hB1 (by have := HS1.out; omega) hb0
  have HS2 := Lib.hid hb0.size
  clear hW0 h h' hN hn1 hB1 hb0
  go_wp2_with fail
  rw [← HW.out]
  go_wp2_with fail
  refine (intNot_any w.heap.size 0 b o s N _ hn0 HH.out (by omega) L (by omega) HN.out).mono ?_
  rintro e w3 ⟨rfl, hJ, hU⟩
  have hbg := hU.upd.below hbf (by have := HS1.out; have := HS2.out; omega) (fun k _ e => by subst e; exact Nat.le_refl _)
  go_wp2_with fail
  refine (makeInt_any w.heap.size 0 _ _ _ hJ).mono ?_
  rintro e w4 ⟨u, rfl, hu, rfl⟩
  rw [sg_natAbs] at hu
  go_wp2
  try rw [Exit.noGoto_ret]
  go_ret
  exact ⟨_, rfl, hu, hbg⟩

theorem unaryNotInt_any (v : Value) (z : Int) (w : World) (h : CInt w v z) (L : Nat) (hL : L ≤ 100000) (hz : z.natAbs < W64 ^ L) :
    Calls Tryz.prog 45 #[.int .i64 19, v, .int .u64 0] w fun e w' => ∃ u, e = .returned u ∧ CInt w' u (-z - 1) ∧ Below w.heap.size w w' := by
  rcases h with ⟨rfl, hf⟩ | ⟨b, o, s, N, rfl, hI, rfl⟩
  · exact unaryNot64_any z w hf
  · rw [sg_nat] at hz
    exact unaryNotBig_any b o s N w hI L hL hz
end Go.Proofs.YtdkipndepkblhaaGreatDoor

set_option linter.unusedSimpArgs false
set_option linter.unusedVariables false
namespace Go.Proofs.YtdkipndepkblhaaGreatDoor
open Go.RowKit Go.Bg Dg

set_option maxRecDepth 100000 in
set_option maxHeartbeats 2000000 in
theorem implUnaryZ_any (k : Nat) (hk : k < 3) (tok : Int) (htok : tok = if k = 0 then 12 else if k = 1 then 13 else 19) (x : Vl) (p : Int) (z : Int) (L : Nat) (w : World) (h : VlAt w x) (hk3 : x.kind = 3) (hn : x.wn ≤ 100000) (hL : L ≤ 100000) (hz : z.natAbs < W64 ^ L)
    (H : ∀ (v : Value) (w' : World), Below w.heap.size w w' → CInt w' v (sg x.neg (val W64 x.wf x.wn)) →
      Calls Tryz.prog 45 #[.int .i64 tok, v, .int .u64 p] w' fun e w'' => ∃ u, e = .returned u ∧ CInt w'' u z ∧ Below w'.heap.size w' w'') :
    Calls Tryz.prog 19 #[.int .i64 k, .agg #[.int .i64 x.kind, .bool x.truth, .string x.text, .bool x.neg, .slice x.wa x.wn x.wc, .slice x.da x.dn x.dc, .bool x.ineg, .slice x.ia x.inn x.ic, .slice x.ea x.en x.ec], .int .u64 p] w (GivesV (IsZ z L) w) := by
  obtain ⟨W0, hW0⟩ : ∃ W0, W0 = (w.alloc (.cells #[.int .i64 x.kind, .bool x.truth, .string x.text, .bool x.neg, .slice x.wa x.wn x.wc, .slice x.da x.dn x.dc, .bool x.ineg, .slice x.ia x.inn x.ic, .slice x.ea x.en x.ec] 26)).alloc (.cells #[.int .i64 0, .bool false, .string ⟨#[]⟩, .bool false, .slice none 0 0, .slice none 0 0, .bool false, .slice none 0 0, .slice none 0 0] 26) := ⟨_, rfl⟩
  have HW := Lib.hid hW0
  have hb0 : Below w.heap.size w W0 := by rw [hW0]; exact Below.alloc' (Below.alloc' (Below.refl _ _) _) _
  have X : Box9 W0 w.heap.size x := by rw [hW0]; exact (Box9.new w x _ rfl).alloc _
  have hR : BlkAt W0 (w.heap.size + 1) #[.int .i64 0, .bool false, .string ⟨#[]⟩, .bool false, .slice none 0 0, .slice none 0 0, .bool false, .slice none 0 0, .slice none 0 0] 26 := by
    rw [hW0]
    have := BlkAt.new (w.alloc (.cells #[.int .i64 x.kind, .bool x.truth, .string x.text, .bool x.neg, .slice x.wa x.wn x.wc, .slice x.da x.dn x.dc, .bool x.ineg, .slice x.ia x.inn x.ic, .slice x.ea x.en x.ec] 26)) #[.int .i64 0, .bool false, .string ⟨#[]⟩, .bool false, .slice none 0 0, .slice none 0 0, .bool false, .slice none 0 0, .slice none 0 0] 26
    simpa using this
  have HX := Lib.hid (h.keep hb0)
  have HK := Lib.hid hk3
  have HH := Lib.hid H
  have HZ := Lib.hid hz
  have HS := Lib.hid (sign_any k hk)
  rw [← htok] at HS
  clear hW0 h hk3 H hz htok
  go_enter Tryz.func19, Tryz.ntmps19
  go_upto_region 1 with fail
  rw [← HW.out]
  go_wp2_with fail
  refine (HS.out _).mono ?_
  rintro e w1 ⟨rfl, hB1⟩
  have hb1 := Below.then hb0 (Nat.le_refl _) hB1
  have hR1 := hR.keep hB1
  have X1 := X.keep hB1
  have HX1 := Lib.hid (HX.out.keep hB1)
  clear X hR hB1 hb0
  obtain ⟨xc0, xc1, xc2, xc3, xc4, xc5, xc6, xc7, xc8⟩ := (X1).all
  go_wp2_with fail
  refine (madeInt_any x _ HX1.out HK.out (by omega)).mono ?_
  rintro e w2 ⟨u, rfl, hu, hB2⟩
  have hb2 := Below.then hb1 (Nat.le_refl _) hB2
  have hR2 := hR1.keep hB2
  clear xc0 xc1 xc2 xc3 xc4 xc5 xc6 xc7 xc8 hB2 hR1 hb1
  go_wp2_with fail
  refine (HH.out u _ hb2 hu).mono ?_
  rintro e w3 ⟨u2, rfl, hu2, hB3⟩
  have hb3 := Below.then hb2 (Nat.le_refl _) hB3
  have hR3 := hR2.keep hB3
  clear hB3 hR2 hb2
  go_wp2_with fail
  refine (toldZ_any u2 z _ hu2 L hL HZ.out).mono ?_
  rintro e w4 ⟨y, rfl, hy, hP, hB4⟩
  have hb4 := Below.then hb3 (Nat.le_refl _) hB4
  have hR4 := hR3.keep hB4
  have HE := Lib.hid (givesV_end hR4 (Nat.le_add_right _ 1) hb4 hy hP)
  have rc0 := (hR4).cell 0; have rc1 := (hR4).cell 1; have rc2 := (hR4).cell 2; have rc3 := (hR4).cell 3; have rc4 := (hR4).cell 4; have rc5 := (hR4).cell 5; have rc6 := (hR4).cell 6; have rc7 := (hR4).cell 7; have rc8 := (hR4).cell 8; simp only [List.getElem?_toArray, List.getElem?_cons_zero, List.getElem?_cons_succ] at rc0 rc1 rc2 rc3 rc4 rc5 rc6 rc7 rc8
  have rf0 := (hR4).frozen 0; have rf1 := (hR4).frozen 1; have rf2 := (hR4).frozen 2; have rf3 := (hR4).frozen 3; have rf4 := (hR4).frozen 4; have rf5 := (hR4).frozen 5; have rf6 := (hR4).frozen 6; have rf7 := (hR4).frozen 7; have rf8 := (hR4).frozen 8
  clear hR3 hR4 hb3 hb4 hB4 hy hP
  go_wp2
  exact bodyPost_ret (v := .agg #[.int .i64 y.kind, .bool y.truth, .string y.text, .bool y.neg, .slice y.wa y.wn y.wc, .slice y.da y.dn y.dc, .bool y.ineg, .slice y.ia y.inn y.ic, .slice y.ea y.en y.ec]) (by simp [results, Tryz.results19, go_sem, rc0, rc1, rc2, rc3, rc4, rc5, rc6, rc7, rc8]) rfl HE.out
end Go.Proofs.YtdkipndepkblhaaGreatDoor
