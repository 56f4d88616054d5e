/-
  constant.BinaryOp of integers: And (printed by gen_bin.py).
  constant.BinaryOp of integers: Or (printed by gen_bin.py).
  constant.BinaryOp of integers: Xor (printed by gen_bin.py).
  constant.BinaryOp of integers: Ann (printed by gen_bin.py).
-/
import Derived.Test.YtdkipndepkblhaaGreatDoorIntB
import Derived.Test.YtdkipndepkblhaaGreatDoorBuR
import Derived.Test.YtdkipndepkblhaaGreatDoorBuG
import Derived.Test.YtdkipndepkblhaaGreatDoorBuL
import Derived.WalkMore
set_option linter.unusedSimpArgs false
set_option linter.unusedVariables false
namespace Go.Proofs.YtdkipndepkblhaaGreatDoor
open Go.RowKit Go.Bg Dg

set_option maxRecDepth 100000 in
set_option maxHeartbeats 4000000 in
theorem binAnd_any (v1 v2 : Value) (z1 z2 : Int) (w : World) (h1 : CInt w v1 z1) (h2 : CInt w v2 z2) (L : Nat) (hL : L ≤ 100000) (l1 : z1.natAbs < W64 ^ L) (l2 : z2.natAbs < W64 ^ L) :
    Calls Tryz.prog 38 #[v1, .int .i64 17, v2] w fun e w' => ∃ u, e = .returned u ∧ CInt w' u (jz andT z1 z2) ∧ Below w.heap.size w w' := by
  have H1 := Lib.hid h1
  have H2 := Lib.hid h2
  have L1 := Lib.hid l1
  have L2 := Lib.hid l2
  clear h1 h2 l1 l2
  go_enter Tryz.func38, Tryz.ntmps38
  go_wp2
  refine wp_scope_straight ?_
  go_wp2_with fail
  refine (matchInt_any v1 v2 z1 z2 _ H1.out H2.out).mono ?_
  rintro e W ⟨u1, u2, rfl, hS, hB⟩
  have HB := Lib.hid hB
  clear hB
  rcases hS with ⟨rfl, f1, rfl, f2⟩ | ⟨⟨b1, o1, s, N, rfl, hI, e1⟩, ⟨b2, o2, t, M, rfl, hJ, e2⟩⟩
  · obtain ⟨t1, t2, t3, t4, t5, t6, t7, t8, t9⟩ := ta_int64Val
    have HG := Lib.hid (jz_fit (T := andT) f1 f2)
    have hbt := bits_and_i64 f1 f2
    clear f1 f2
    go_wp2
    try rw [hbt]
    try rw [Exit.noGoto_ret]
    go_ret
    refine ⟨_, rfl, .inl ⟨?_, HG.out⟩, HB.out⟩
    first | rfl | (rw [hbt]; rfl)
  · obtain ⟨t1, t2, t3, t4, t5, t6, t7, t8, t9⟩ := ta_intVal
    have hfld := field_intVal
    have LN := Lib.hid (show N < W64 ^ L from by have := L1.out; rw [← e1, sg_nat] at this; exact this)
    have LM := Lib.hid (show M < W64 ^ L from by have := L2.out; rw [← e2, sg_nat] at this; exact this)
    have HI := Lib.hid hI
    have HJ := Lib.hid hJ
    have E1 := Lib.hid e1
    have E2 := Lib.hid e2
    clear hI hJ e1 e2 L1 L2
    obtain ⟨W0, hW0⟩ : ∃ W0, W0 = W.alloc (.cells #[.pointer (some ⟨b1, o1, none⟩)] 93) := ⟨_, rfl⟩
    have HW := Lib.hid hW0
    have hb0 : Below W.heap.size W W0 := by rw [hW0]; exact Below.alloc' (Below.refl _ _) _
    have hx : W0.cell? ⟨W.heap.size, 0, none⟩ = some (.pointer (some ⟨b1, o1, none⟩)) := by rw [hW0]; exact alloc_new _ _ _ rfl rfl
    have HI0 := Lib.hid (HI.out.keep hb0)
    have HJ0 := Lib.hid (HJ.out.keep hb0)
    clear hW0 HI HJ
    go_upto_region 49 with fail
    rw [← HW.out]
    go_wp2_with fail
    refine (newInt_any _).mono ?_
    rintro e w1 ⟨rfl, hw1⟩
    have hn1 : NewInt w1 W0.heap.size 0 := by rw [hw1]; exact newInt_is W0
    have hB1 : Below W0.heap.size W0 w1 := by rw [hw1]; exact Below.alloc' (Below.refl _ _) _
    have HS1 := Lib.hid (show w1.heap.size = W0.heap.size + 1 from by rw [hw1]; simp)
    clear hw1
    go_wp2_with fail
    refine (intAnd_new W0.heap.size 0 b1 o1 b2 o2 s t N M _ hn1 (HI0.out.keep hB1) (HJ0.out.keep hB1) L (by omega) LN.out LM.out).mono ?_
    rintro e w4 ⟨rfl, hK, hU⟩
    rw [E1.out, E2.out] at hK
    have hbg := hU.upd.below hB1 (by have := HS1.out; omega) (fun k _ e => by subst e; exact Nat.le_refl _)
    go_wp2_with fail
    refine (makeInt_any W0.heap.size 0 _ _ _ hK).mono ?_
    rintro e w5 ⟨u, rfl, hu, rfl⟩
    rw [sg_natAbs] at hu
    go_wp2
    try rw [Exit.noGoto_ret]
    go_ret
    exact ⟨_, rfl, hu, Below.then HB.out (Nat.le_refl _) (Below.then hb0 (Nat.le_refl _) hbg)⟩
end Go.Proofs.YtdkipndepkblhaaGreatDoor

set_option linter.unusedSimpArgs false
set_option linter.unusedVariables false
namespace Go.Proofs.YtdkipndepkblhaaGreatDoor
open Go.RowKit Go.Bg Dg

set_option maxRecDepth 100000 in
set_option maxHeartbeats 4000000 in
theorem binOr_any (v1 v2 : Value) (z1 z2 : Int) (w : World) (h1 : CInt w v1 z1) (h2 : CInt w v2 z2) (L : Nat) (hL : L ≤ 100000) (l1 : z1.natAbs < W64 ^ L) (l2 : z2.natAbs < W64 ^ L) :
    Calls Tryz.prog 38 #[v1, .int .i64 18, v2] w fun e w' => ∃ u, e = .returned u ∧ CInt w' u (jz orT z1 z2) ∧ Below w.heap.size w w' := by
  have H1 := Lib.hid h1
  have H2 := Lib.hid h2
  have L1 := Lib.hid l1
  have L2 := Lib.hid l2
  clear h1 h2 l1 l2
  go_enter Tryz.func38, Tryz.ntmps38
  go_wp2
  refine wp_scope_straight ?_
  go_wp2_with fail
  refine (matchInt_any v1 v2 z1 z2 _ H1.out H2.out).mono ?_
  rintro e W ⟨u1, u2, rfl, hS, hB⟩
  have HB := Lib.hid hB
  clear hB
  rcases hS with ⟨rfl, f1, rfl, f2⟩ | ⟨⟨b1, o1, s, N, rfl, hI, e1⟩, ⟨b2, o2, t, M, rfl, hJ, e2⟩⟩
  · obtain ⟨t1, t2, t3, t4, t5, t6, t7, t8, t9⟩ := ta_int64Val
    have HG := Lib.hid (jz_fit (T := orT) f1 f2)
    have hbt := bits_or_i64 f1 f2
    clear f1 f2
    go_wp2
    try rw [hbt]
    try rw [Exit.noGoto_ret]
    go_ret
    refine ⟨_, rfl, .inl ⟨?_, HG.out⟩, HB.out⟩
    first | rfl | (rw [hbt]; rfl)
  · obtain ⟨t1, t2, t3, t4, t5, t6, t7, t8, t9⟩ := ta_intVal
    have hfld := field_intVal
    have LN := Lib.hid (show N < W64 ^ L from by have := L1.out; rw [← e1, sg_nat] at this; exact this)
    have LM := Lib.hid (show M < W64 ^ L from by have := L2.out; rw [← e2, sg_nat] at this; exact this)
    have HI := Lib.hid hI
    have HJ := Lib.hid hJ
    have E1 := Lib.hid e1
    have E2 := Lib.hid e2
    clear hI hJ e1 e2 L1 L2
    obtain ⟨W0, hW0⟩ : ∃ W0, W0 = W.alloc (.cells #[.pointer (some ⟨b1, o1, none⟩)] 93) := ⟨_, rfl⟩
    have HW := Lib.hid hW0
    have hb0 : Below W.heap.size W W0 := by rw [hW0]; exact Below.alloc' (Below.refl _ _) _
    have hx : W0.cell? ⟨W.heap.size, 0, none⟩ = some (.pointer (some ⟨b1, o1, none⟩)) := by rw [hW0]; exact alloc_new _ _ _ rfl rfl
    have HI0 := Lib.hid (HI.out.keep hb0)
    have HJ0 := Lib.hid (HJ.out.keep hb0)
    clear hW0 HI HJ
    go_upto_region 49 with fail
    rw [← HW.out]
    go_wp2_with fail
    refine (newInt_any _).mono ?_
    rintro e w1 ⟨rfl, hw1⟩
    have hn1 : NewInt w1 W0.heap.size 0 := by rw [hw1]; exact newInt_is W0
    have hB1 : Below W0.heap.size W0 w1 := by rw [hw1]; exact Below.alloc' (Below.refl _ _) _
    have HS1 := Lib.hid (show w1.heap.size = W0.heap.size + 1 from by rw [hw1]; simp)
    clear hw1
    go_wp2_with fail
    refine (intOr_new W0.heap.size 0 b1 o1 b2 o2 s t N M _ hn1 (HI0.out.keep hB1) (HJ0.out.keep hB1) L (by omega) LN.out LM.out).mono ?_
    rintro e w4 ⟨rfl, hK, hU⟩
    rw [E1.out, E2.out] at hK
    have hbg := hU.upd.below hB1 (by have := HS1.out; omega) (fun k _ e => by subst e; exact Nat.le_refl _)
    go_wp2_with fail
    refine (makeInt_any W0.heap.size 0 _ _ _ hK).mono ?_
    rintro e w5 ⟨u, rfl, hu, rfl⟩
    rw [sg_natAbs] at hu
    go_wp2
    try rw [Exit.noGoto_ret]
    go_ret
    exact ⟨_, rfl, hu, Below.then HB.out (Nat.le_refl _) (Below.then hb0 (Nat.le_refl _) hbg)⟩
end Go.Proofs.YtdkipndepkblhaaGreatDoor

set_option linter.unusedSimpArgs false
set_option linter.unusedVariables false
namespace Go.Proofs.YtdkipndepkblhaaGreatDoor
open Go.RowKit Go.Bg Dg

set_option maxRecDepth 100000 in
set_option maxHeartbeats 4000000 in
theorem binXor_any (v1 v2 : Value) (z1 z2 : Int) (w : World) (h1 : CInt w v1 z1) (h2 : CInt w v2 z2) (L : Nat) (hL : L ≤ 100000) (l1 : z1.natAbs < W64 ^ L) (l2 : z2.natAbs < W64 ^ L) :
    Calls Tryz.prog 38 #[v1, .int .i64 19, v2] w fun e w' => ∃ u, e = .returned u ∧ CInt w' u (jz xorT z1 z2) ∧ Below w.heap.size w w' := by
  have H1 := Lib.hid h1
  have H2 := Lib.hid h2
  have L1 := Lib.hid l1
  have L2 := Lib.hid l2
  clear h1 h2 l1 l2
  go_enter Tryz.func38, Tryz.ntmps38
  go_wp2
  refine wp_scope_straight ?_
  go_wp2_with fail
  refine (matchInt_any v1 v2 z1 z2 _ H1.out H2.out).mono ?_
  rintro e W ⟨u1, u2, rfl, hS, hB⟩
  have HB := Lib.hid hB
  clear hB
  rcases hS with ⟨rfl, f1, rfl, f2⟩ | ⟨⟨b1, o1, s, N, rfl, hI, e1⟩, ⟨b2, o2, t, M, rfl, hJ, e2⟩⟩
  · obtain ⟨t1, t2, t3, t4, t5, t6, t7, t8, t9⟩ := ta_int64Val
    have HG := Lib.hid (jz_fit (T := xorT) f1 f2)
    have hbt := bits_xor_i64 f1 f2
    clear f1 f2
    go_wp2
    try rw [hbt]
    try rw [Exit.noGoto_ret]
    go_ret
    refine ⟨_, rfl, .inl ⟨?_, HG.out⟩, HB.out⟩
    first | rfl | (rw [hbt]; rfl)
  · obtain ⟨t1, t2, t3, t4, t5, t6, t7, t8, t9⟩ := ta_intVal
    have hfld := field_intVal
    have LN := Lib.hid (show N < W64 ^ L from by have := L1.out; rw [← e1, sg_nat] at this; exact this)
    have LM := Lib.hid (show M < W64 ^ L from by have := L2.out; rw [← e2, sg_nat] at this; exact this)
    have HI := Lib.hid hI
    have HJ := Lib.hid hJ
    have E1 := Lib.hid e1
    have E2 := Lib.hid e2
    clear hI hJ e1 e2 L1 L2
    obtain ⟨W0, hW0⟩ : ∃ W0, W0 = W.alloc (.cells #[.pointer (some ⟨b1, o1, none⟩)] 93) := ⟨_, rfl⟩
    have HW := Lib.hid hW0
    have hb0 : Below W.heap.size W W0 := by rw [hW0]; exact Below.alloc' (Below.refl _ _) _
    have hx : W0.cell? ⟨W.heap.size, 0, none⟩ = some (.pointer (some ⟨b1, o1, none⟩)) := by rw [hW0]; exact alloc_new _ _ _ rfl rfl
    have HI0 := Lib.hid (HI.out.keep hb0)
    have HJ0 := Lib.hid (HJ.out.keep hb0)
    clear hW0 HI HJ
    go_upto_region 49 with fail
    rw [← HW.out]
    go_wp2_with fail
    refine (newInt_any _).mono ?_
    rintro e w1 ⟨rfl, hw1⟩
    have hn1 : NewInt w1 W0.heap.size 0 := by rw [hw1]; exact newInt_is W0
    have hB1 : Below W0.heap.size W0 w1 := by rw [hw1]; exact Below.alloc' (Below.refl _ _) _
    have HS1 := Lib.hid (show w1.heap.size = W0.heap.size + 1 from by rw [hw1]; simp)
    clear hw1
    go_wp2_with fail
    refine (intXor_new W0.heap.size 0 b1 o1 b2 o2 s t N M _ hn1 (HI0.out.keep hB1) (HJ0.out.keep hB1) L (by omega) LN.out LM.out).mono ?_
    rintro e w4 ⟨rfl, hK, hU⟩
    rw [E1.out, E2.out] at hK
    have hbg := hU.upd.below hB1 (by have := HS1.out; omega) (fun k _ e => by subst e; exact Nat.le_refl _)
    go_wp2_with fail
    refine (makeInt_any W0.heap.size 0 _ _ _ hK).mono ?_
    rintro e w5 ⟨u, rfl, hu, rfl⟩
    rw [sg_natAbs] at hu
    go_wp2
    try rw [Exit.noGoto_ret]
    go_ret
    exact ⟨_, rfl, hu, Below.then HB.out (Nat.le_refl _) (Below.then hb0 (Nat.le_refl _) hbg)⟩
end Go.Proofs.YtdkipndepkblhaaGreatDoor

set_option linter.unusedSimpArgs false
set_option linter.unusedVariables false
namespace Go.Proofs.YtdkipndepkblhaaGreatDoor
open Go.RowKit Go.Bg Dg

set_option maxRecDepth 100000 in
set_option maxHeartbeats 4000000 in
theorem binAnn_any (v1 v2 : Value) (z1 z2 : Int) (w : World) (h1 : CInt w v1 z1) (h2 : CInt w v2 z2) (L : Nat) (hL : L ≤ 100000) (l1 : z1.natAbs < W64 ^ L) (l2 : z2.natAbs < W64 ^ L) :
    Calls Tryz.prog 38 #[v1, .int .i64 22, v2] w fun e w' => ∃ u, e = .returned u ∧ CInt w' u (jz andnT z1 z2) ∧ Below w.heap.size w w' := by
  have H1 := Lib.hid h1
  have H2 := Lib.hid h2
  have L1 := Lib.hid l1
  have L2 := Lib.hid l2
  clear h1 h2 l1 l2
  go_enter Tryz.func38, Tryz.ntmps38
  go_wp2
  refine wp_scope_straight ?_
  go_wp2_with fail
  refine (matchInt_any v1 v2 z1 z2 _ H1.out H2.out).mono ?_
  rintro e W ⟨u1, u2, rfl, hS, hB⟩
  have HB := Lib.hid hB
  clear hB
  rcases hS with ⟨rfl, f1, rfl, f2⟩ | ⟨⟨b1, o1, s, N, rfl, hI, e1⟩, ⟨b2, o2, t, M, rfl, hJ, e2⟩⟩
  · obtain ⟨t1, t2, t3, t4, t5, t6, t7, t8, t9⟩ := ta_int64Val
    have HG := Lib.hid (jz_fit (T := andnT) f1 f2)
    have hbt := bits_andn_i64 f1 f2
    clear f1 f2
    go_wp2
    try rw [hbt]
    try rw [Exit.noGoto_ret]
    go_ret
    refine ⟨_, rfl, .inl ⟨?_, HG.out⟩, HB.out⟩
    first | rfl | (rw [hbt]; rfl)
  · obtain ⟨t1, t2, t3, t4, t5, t6, t7, t8, t9⟩ := ta_intVal
    have hfld := field_intVal
    have LN := Lib.hid (show N < W64 ^ L from by have := L1.out; rw [← e1, sg_nat] at this; exact this)
    have LM := Lib.hid (show M < W64 ^ L from by have := L2.out; rw [← e2, sg_nat] at this; exact this)
    have HI := Lib.hid hI
    have HJ := Lib.hid hJ
    have E1 := Lib.hid e1
    have E2 := Lib.hid e2
    clear hI hJ e1 e2 L1 L2
    obtain ⟨W0, hW0⟩ : ∃ W0, W0 = W.alloc (.cells #[.pointer (some ⟨b1, o1, none⟩)] 93) := ⟨_, rfl⟩
    have HW := Lib.hid hW0
    have hb0 : Below W.heap.size W W0 := by rw [hW0]; exact Below.alloc' (Below.refl _ _) _
    have hx : W0.cell? ⟨W.heap.size, 0, none⟩ = some (.pointer (some ⟨b1, o1, none⟩)) := by rw [hW0]; exact alloc_new _ _ _ rfl rfl
    have HI0 := Lib.hid (HI.out.keep hb0)
    have HJ0 := Lib.hid (HJ.out.keep hb0)
    clear hW0 HI HJ
    go_upto_region 49 with fail
    rw [← HW.out]
    go_wp2_with fail
    refine (newInt_any _).mono ?_
    rintro e w1 ⟨rfl, hw1⟩
    have hn1 : NewInt w1 W0.heap.size 0 := by rw [hw1]; exact newInt_is W0
    have hB1 : Below W0.heap.size W0 w1 := by rw [hw1]; exact Below.alloc' (Below.refl _ _) _
    have HS1 := Lib.hid (show w1.heap.size = W0.heap.size + 1 from by rw [hw1]; simp)
    clear hw1
    go_wp2_with fail
    refine (intAndNot_new W0.heap.size 0 b1 o1 b2 o2 s t N M _ hn1 (HI0.out.keep hB1) (HJ0.out.keep hB1) L (by omega) LN.out LM.out).mono ?_
    rintro e w4 ⟨rfl, hK, hU⟩
    rw [E1.out, E2.out] at hK
    have hbg := hU.upd.below hB1 (by have := HS1.out; omega) (fun k _ e => by subst e; exact Nat.le_refl _)
    go_wp2_with fail
    refine (makeInt_any W0.heap.size 0 _ _ _ hK).mono ?_
    rintro e w5 ⟨u, rfl, hu, rfl⟩
    rw [sg_natAbs] at hu
    go_wp2
    try rw [Exit.noGoto_ret]
    go_ret
    exact ⟨_, rfl, hu, Below.then HB.out (Nat.le_refl _) (Below.then hb0 (Nat.le_refl _) hbg)⟩
end Go.Proofs.YtdkipndepkblhaaGreatDoor
