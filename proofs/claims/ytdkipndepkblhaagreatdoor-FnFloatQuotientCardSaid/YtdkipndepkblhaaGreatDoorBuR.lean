/-
  small enough to be added, multiplied (printed by gen_bin.py).
  constant.BinaryOp of integers: Add (printed by gen_bin.py).
  constant.BinaryOp of integers: Sub (printed by gen_bin.py).
-/
import Derived.Test.YtdkipndepkblhaaGreatDoorBuG
import Derived.Test.YtdkipndepkblhaaGreatDoorBuF
import Derived.Test.YtdkipndepkblhaaGreatDoorBuP
import Derived.Test.YtdkipndepkblhaaGreatDoorBuL
import Derived.WalkMore
import Derived.Test.YtdkipndepkblhaaGreatDoorBuQ
set_option linter.unusedSimpArgs false
set_option linter.unusedVariables false
namespace Go.Proofs.YtdkipndepkblhaaGreatDoor
open Go.RowKit Go.Bg Dg

def b63 (z : Int) : Bool := decide (-4611686018427387904 ≤ z ∧ z ≤ 4611686018427387903)

set_option maxRecDepth 100000 in
theorem is63_any (z : Int) (w : World) : Calls Tryz.prog 60 #[.int .i64 z] w fun e w' => e = .returned (.bool (b63 z)) ∧ w = w' := by
  cases h : decide ((-4611686018427387904 : Int) ≤ z)
  · have hb : b63 z = false := by unfold b63; simp at h ⊢; omega
    go_enter Tryz.func60, Tryz.ntmps60
    go_wp2
    go_ret
    exact ⟨ret_bool (by rw [hb]), rfl⟩
  · cases h' : decide (z ≤ 4611686018427387903)
    · have hb : b63 z = false := by unfold b63; simp at h h' ⊢; omega
      go_enter Tryz.func60, Tryz.ntmps60
      go_wp2
      go_ret
      exact ⟨ret_bool (by rw [hb]), rfl⟩
    · have hb : b63 z = true := by unfold b63; simp at h h' ⊢; omega
      go_enter Tryz.func60, Tryz.ntmps60
      go_wp2
      go_ret
      exact ⟨ret_bool (by rw [hb]), rfl⟩

def b32 (z : Int) : Bool := decide (-2147483648 ≤ z ∧ z ≤ 2147483647)

set_option maxRecDepth 100000 in
theorem is32_any (z : Int) (w : World) : Calls Tryz.prog 66 #[.int .i64 z] w fun e w' => e = .returned (.bool (b32 z)) ∧ w = w' := by
  cases h : decide ((-2147483648 : Int) ≤ z)
  · have hb : b32 z = false := by unfold b32; simp at h ⊢; omega
    go_enter Tryz.func66, Tryz.ntmps66
    go_wp2
    go_ret
    exact ⟨ret_bool (by rw [hb]), rfl⟩
  · cases h' : decide (z ≤ 2147483647)
    · have hb : b32 z = false := by unfold b32; simp at h h' ⊢; omega
      go_enter Tryz.func66, Tryz.ntmps66
      go_wp2
      go_ret
      exact ⟨ret_bool (by rw [hb]), rfl⟩
    · have hb : b32 z = true := by unfold b32; simp at h h' ⊢; omega
      go_enter Tryz.func66, Tryz.ntmps66
      go_wp2
      go_ret
      exact ⟨ret_bool (by rw [hb]), rfl⟩
end Go.Proofs.YtdkipndepkblhaaGreatDoor

set_option linter.unusedSimpArgs false
set_option linter.unusedVariables false
namespace Go.Proofs.YtdkipndepkblhaaGreatDoor
open Go.RowKit Go.Bg Dg

set_option maxRecDepth 100000 in
set_option maxHeartbeats 4000000 in
theorem binAdd_any (v1 v2 : Value) (z1 z2 : Int) (w : World) (h1 : CInt w v1 z1) (h2 : CInt w v2 z2) (L : Nat) (hL : L ≤ 100000) (l1 : z1.natAbs < W64 ^ L) (l2 : z2.natAbs < W64 ^ L) :
    Calls Tryz.prog 38 #[v1, .int .i64 12, v2] w fun e w' => ∃ u, e = .returned u ∧ CInt w' u (z1 + z2) ∧ Below w.heap.size w w' := by
  have H1 := Lib.hid h1
  have H2 := Lib.hid h2
  have L1 := Lib.hid l1
  have L2 := Lib.hid l2
  clear h1 h2 l1 l2
  go_enter Tryz.func38, Tryz.ntmps38
  go_wp2
  refine wp_scope_straight ?_
  go_wp2_with fail
  refine (matchInt_any v1 v2 z1 z2 _ H1.out H2.out).mono ?_
  rintro e W ⟨u1, u2, rfl, hS, hB⟩
  have HB := Lib.hid hB
  clear hB
  rcases hS with ⟨rfl, f1, rfl, f2⟩ | ⟨⟨b1, o1, s, N, rfl, hI, e1⟩, ⟨b2, o2, t, M, rfl, hJ, e2⟩⟩
  · obtain ⟨t1, t2, t3, t4, t5, t6, t7, t8, t9⟩ := ta_int64Val
    have HF1 := Lib.hid (fit64_bd f1)
    have HF2 := Lib.hid (fit64_bd f2)
    clear f1 f2
    cases g1 : b63 z1
    · go_wp2_with fail
      refine (is63_any z1 _).mono ?_
      rintro e w0 ⟨rfl, rfl⟩
      rw [g1]
      clear g1
      go_wp2_with fail
      refine (newInt_any _).mono ?_
      rintro e w1 ⟨rfl, hw1⟩
      have hn1 : NewInt w1 W.heap.size 0 := by rw [hw1]; exact newInt_is W
      have hB1 : Below W.heap.size W w1 := by rw [hw1]; exact Below.alloc' (Below.refl _ _) _
      have HS1 := Lib.hid (show w1.heap.size = W.heap.size + 1 from by rw [hw1]; simp)
      clear hw1
      go_wp2_with fail
      refine (newIntOf_any z1 HF1.out _).mono ?_
      rintro e w2 ⟨b2, rfl, -, hI, hB2⟩
      have hn2 := hn1.keep hB2
      have hb2 := Below.then hB1 (by have := HS1.out; omega) hB2
      have HS2 := Lib.hid hB2.size
      clear hn1 hB1 hB2
      go_wp2_with fail
      refine (newIntOf_any z2 HF2.out _).mono ?_
      rintro e w3 ⟨b3, rfl, -, hJ, hB3⟩
      have hn3 := hn2.keep hB3
      have hI3 := hI.keep hB3
      have hb3 := Below.then hb2 (by have := HS1.out; have := HS2.out; omega) hB3
      have HS3 := Lib.hid hB3.size
      clear hn2 hI hb2 hB3
      go_wp2_with fail
      refine (intAdd_new W.heap.size 0 b2 0 b3 0 (decide (z1 < 0)) (decide (z2 < 0)) z1.natAbs z2.natAbs _ hn3 hI3 hJ 1 (by omega) (by rw [Nat.pow_one]; unfold W64; have := HF1.out; omega) (by rw [Nat.pow_one]; unfold W64; have := HF2.out; omega)).mono ?_
      rintro e w4 ⟨rfl, hK, hU⟩
      rw [sg_natAbs, sg_natAbs] at hK
      have hbg := hU.upd.below hb3 (by have := HS1.out; have := HS2.out; have := HS3.out; omega) (fun k _ e => by subst e; exact Nat.le_refl _)
      go_wp2_with fail
      refine (makeInt_any W.heap.size 0 _ _ _ hK).mono ?_
      rintro e w5 ⟨u, rfl, hu, rfl⟩
      rw [sg_natAbs] at hu
      go_wp2
      try rw [Exit.noGoto_ret]
      go_ret
      exact ⟨_, rfl, hu, Below.then HB.out (Nat.le_refl _) hbg⟩
    · cases g2 : b63 z2
      · go_wp2_with fail
        refine (is63_any z1 _).mono ?_
        rintro e w0 ⟨rfl, rfl⟩
        rw [g1]
        go_wp2_with fail
        refine (is63_any z2 _).mono ?_
        rintro e w0 ⟨rfl, rfl⟩
        rw [g2]
        clear g1 g2
        go_wp2_with fail
        refine (newInt_any _).mono ?_
        rintro e w1 ⟨rfl, hw1⟩
        have hn1 : NewInt w1 W.heap.size 0 := by rw [hw1]; exact newInt_is W
        have hB1 : Below W.heap.size W w1 := by rw [hw1]; exact Below.alloc' (Below.refl _ _) _
        have HS1 := Lib.hid (show w1.heap.size = W.heap.size + 1 from by rw [hw1]; simp)
        clear hw1
        go_wp2_with fail
        refine (newIntOf_any z1 HF1.out _).mono ?_
        rintro e w2 ⟨b2, rfl, -, hI, hB2⟩
        have hn2 := hn1.keep hB2
        have hb2 := Below.then hB1 (by have := HS1.out; omega) hB2
        have HS2 := Lib.hid hB2.size
        clear hn1 hB1 hB2
        go_wp2_with fail
        refine (newIntOf_any z2 HF2.out _).mono ?_
        rintro e w3 ⟨b3, rfl, -, hJ, hB3⟩
        have hn3 := hn2.keep hB3
        have hI3 := hI.keep hB3
        have hb3 := Below.then hb2 (by have := HS1.out; have := HS2.out; omega) hB3
        have HS3 := Lib.hid hB3.size
        clear hn2 hI hb2 hB3
        go_wp2_with fail
        refine (intAdd_new W.heap.size 0 b2 0 b3 0 (decide (z1 < 0)) (decide (z2 < 0)) z1.natAbs z2.natAbs _ hn3 hI3 hJ 1 (by omega) (by rw [Nat.pow_one]; unfold W64; have := HF1.out; omega) (by rw [Nat.pow_one]; unfold W64; have := HF2.out; omega)).mono ?_
        rintro e w4 ⟨rfl, hK, hU⟩
        rw [sg_natAbs, sg_natAbs] at hK
        have hbg := hU.upd.below hb3 (by have := HS1.out; have := HS2.out; have := HS3.out; omega) (fun k _ e => by subst e; exact Nat.le_refl _)
        go_wp2_with fail
        refine (makeInt_any W.heap.size 0 _ _ _ hK).mono ?_
        rintro e w5 ⟨u, rfl, hu, rfl⟩
        rw [sg_natAbs] at hu
        go_wp2
        try rw [Exit.noGoto_ret]
        go_ret
        exact ⟨_, rfl, hu, Below.then HB.out (Nat.le_refl _) hbg⟩
      · have HG := Lib.hid (show fit64 (z1 + z2) = true from by unfold b63 at g1 g2; unfold fit64; simp at g1 g2 ⊢; omega)
        have HE := Lib.hid (show wrap64 (z1 + z2) = z1 + z2 from by have := fit64_bd HG.out; unfold wrap64; omega)
        go_wp2_with fail
        refine (is63_any z1 _).mono ?_
        rintro e w0 ⟨rfl, rfl⟩
        rw [g1]
        go_wp2_with fail
        refine (is63_any z2 _).mono ?_
        rintro e w0 ⟨rfl, rfl⟩
        rw [g2]
        clear g1 g2
        go_wp2
        try rw [Exit.noGoto_ret]
        go_ret
        refine ⟨_, rfl, .inl ⟨?_, HG.out⟩, HB.out⟩
        first | (rw [HE.out]; rfl) | rfl
  · obtain ⟨t1, t2, t3, t4, t5, t6, t7, t8, t9⟩ := ta_intVal
    have hfld := field_intVal
    have LN := Lib.hid (show N < W64 ^ L from by have := L1.out; rw [← e1, sg_nat] at this; exact this)
    have LM := Lib.hid (show M < W64 ^ L from by have := L2.out; rw [← e2, sg_nat] at this; exact this)
    have HI := Lib.hid hI
    have HJ := Lib.hid hJ
    have E1 := Lib.hid e1
    have E2 := Lib.hid e2
    clear hI hJ e1 e2 L1 L2
    obtain ⟨W0, hW0⟩ : ∃ W0, W0 = W.alloc (.cells #[.pointer (some ⟨b1, o1, none⟩)] 93) := ⟨_, rfl⟩
    have HW := Lib.hid hW0
    have hb0 : Below W.heap.size W W0 := by rw [hW0]; exact Below.alloc' (Below.refl _ _) _
    have hx : W0.cell? ⟨W.heap.size, 0, none⟩ = some (.pointer (some ⟨b1, o1, none⟩)) := by rw [hW0]; exact alloc_new _ _ _ rfl rfl
    have HI0 := Lib.hid (HI.out.keep hb0)
    have HJ0 := Lib.hid (HJ.out.keep hb0)
    clear hW0 HI HJ
    go_upto_region 49 with fail
    rw [← HW.out]
    go_wp2_with fail
    refine (newInt_any _).mono ?_
    rintro e w1 ⟨rfl, hw1⟩
    have hn1 : NewInt w1 W0.heap.size 0 := by rw [hw1]; exact newInt_is W0
    have hB1 : Below W0.heap.size W0 w1 := by rw [hw1]; exact Below.alloc' (Below.refl _ _) _
    have HS1 := Lib.hid (show w1.heap.size = W0.heap.size + 1 from by rw [hw1]; simp)
    clear hw1
    go_wp2_with fail
    refine (intAdd_new W0.heap.size 0 b1 o1 b2 o2 s t N M _ hn1 (HI0.out.keep hB1) (HJ0.out.keep hB1) L (by omega) LN.out LM.out).mono ?_
    rintro e w4 ⟨rfl, hK, hU⟩
    rw [E1.out, E2.out] at hK
    have hbg := hU.upd.below hB1 (by have := HS1.out; omega) (fun k _ e => by subst e; exact Nat.le_refl _)
    go_wp2_with fail
    refine (makeInt_any W0.heap.size 0 _ _ _ hK).mono ?_
    rintro e w5 ⟨u, rfl, hu, rfl⟩
    rw [sg_natAbs] at hu
    go_wp2
    try rw [Exit.noGoto_ret]
    go_ret
    exact ⟨_, rfl, hu, Below.then HB.out (Nat.le_refl _) (Below.then hb0 (Nat.le_refl _) hbg)⟩
end Go.Proofs.YtdkipndepkblhaaGreatDoor

set_option linter.unusedSimpArgs false
set_option linter.unusedVariables false
namespace Go.Proofs.YtdkipndepkblhaaGreatDoor
open Go.RowKit Go.Bg Dg

set_option maxRecDepth 100000 in
set_option maxHeartbeats 4000000 in
theorem binSub_any (v1 v2 : Value) (z1 z2 : Int) (w : World) (h1 : CInt w v1 z1) (h2 : CInt w v2 z2) (L : Nat) (hL : L ≤ 100000) (l1 : z1.natAbs < W64 ^ L) (l2 : z2.natAbs < W64 ^ L) :
    Calls Tryz.prog 38 #[v1, .int .i64 13, v2] w fun e w' => ∃ u, e = .returned u ∧ CInt w' u (z1 - z2) ∧ Below w.heap.size w w' := by
  have H1 := Lib.hid h1
  have H2 := Lib.hid h2
  have L1 := Lib.hid l1
  have L2 := Lib.hid l2
  clear h1 h2 l1 l2
  go_enter Tryz.func38, Tryz.ntmps38
  go_wp2
  refine wp_scope_straight ?_
  go_wp2_with fail
  refine (matchInt_any v1 v2 z1 z2 _ H1.out H2.out).mono ?_
  rintro e W ⟨u1, u2, rfl, hS, hB⟩
  have HB := Lib.hid hB
  clear hB
  rcases hS with ⟨rfl, f1, rfl, f2⟩ | ⟨⟨b1, o1, s, N, rfl, hI, e1⟩, ⟨b2, o2, t, M, rfl, hJ, e2⟩⟩
  · obtain ⟨t1, t2, t3, t4, t5, t6, t7, t8, t9⟩ := ta_int64Val
    have HF1 := Lib.hid (fit64_bd f1)
    have HF2 := Lib.hid (fit64_bd f2)
    clear f1 f2
    cases g1 : b63 z1
    · go_wp2_with fail
      refine (is63_any z1 _).mono ?_
      rintro e w0 ⟨rfl, rfl⟩
      rw [g1]
      clear g1
      go_wp2_with fail
      refine (newInt_any _).mono ?_
      rintro e w1 ⟨rfl, hw1⟩
      have hn1 : NewInt w1 W.heap.size 0 := by rw [hw1]; exact newInt_is W
      have hB1 : Below W.heap.size W w1 := by rw [hw1]; exact Below.alloc' (Below.refl _ _) _
      have HS1 := Lib.hid (show w1.heap.size = W.heap.size + 1 from by rw [hw1]; simp)
      clear hw1
      go_wp2_with fail
      refine (newIntOf_any z1 HF1.out _).mono ?_
      rintro e w2 ⟨b2, rfl, -, hI, hB2⟩
      have hn2 := hn1.keep hB2
      have hb2 := Below.then hB1 (by have := HS1.out; omega) hB2
      have HS2 := Lib.hid hB2.size
      clear hn1 hB1 hB2
      go_wp2_with fail
      refine (newIntOf_any z2 HF2.out _).mono ?_
      rintro e w3 ⟨b3, rfl, -, hJ, hB3⟩
      have hn3 := hn2.keep hB3
      have hI3 := hI.keep hB3
      have hb3 := Below.then hb2 (by have := HS1.out; have := HS2.out; omega) hB3
      have HS3 := Lib.hid hB3.size
      clear hn2 hI hb2 hB3
      go_wp2_with fail
      refine (intSub_new W.heap.size 0 b2 0 b3 0 (decide (z1 < 0)) (decide (z2 < 0)) z1.natAbs z2.natAbs _ hn3 hI3 hJ 1 (by omega) (by rw [Nat.pow_one]; unfold W64; have := HF1.out; omega) (by rw [Nat.pow_one]; unfold W64; have := HF2.out; omega)).mono ?_
      rintro e w4 ⟨rfl, hK, hU⟩
      rw [sg_natAbs, sg_natAbs] at hK
      have hbg := hU.upd.below hb3 (by have := HS1.out; have := HS2.out; have := HS3.out; omega) (fun k _ e => by subst e; exact Nat.le_refl _)
      go_wp2_with fail
      refine (makeInt_any W.heap.size 0 _ _ _ hK).mono ?_
      rintro e w5 ⟨u, rfl, hu, rfl⟩
      rw [sg_natAbs] at hu
      go_wp2
      try rw [Exit.noGoto_ret]
      go_ret
      exact ⟨_, rfl, hu, Below.then HB.out (Nat.le_refl _) hbg⟩
    · cases g2 : b63 z2
      · go_wp2_with fail
        refine (is63_any z1 _).mono ?_
        rintro e w0 ⟨rfl, rfl⟩
        rw [g1]
        go_wp2_with fail
        refine (is63_any z2 _).mono ?_
        rintro e w0 ⟨rfl, rfl⟩
        rw [g2]
        clear g1 g2
        go_wp2_with fail
        refine (newInt_any _).mono ?_
        rintro e w1 ⟨rfl, hw1⟩
        have hn1 : NewInt w1 W.heap.size 0 := by rw [hw1]; exact newInt_is W
        have hB1 : Below W.heap.size W w1 := by rw [hw1]; exact Below.alloc' (Below.refl _ _) _
        have HS1 := Lib.hid (show w1.heap.size = W.heap.size + 1 from by rw [hw1]; simp)
        clear hw1
        go_wp2_with fail
        refine (newIntOf_any z1 HF1.out _).mono ?_
        rintro e w2 ⟨b2, rfl, -, hI, hB2⟩
        have hn2 := hn1.keep hB2
        have hb2 := Below.then hB1 (by have := HS1.out; omega) hB2
        have HS2 := Lib.hid hB2.size
        clear hn1 hB1 hB2
        go_wp2_with fail
        refine (newIntOf_any z2 HF2.out _).mono ?_
        rintro e w3 ⟨b3, rfl, -, hJ, hB3⟩
        have hn3 := hn2.keep hB3
        have hI3 := hI.keep hB3
        have hb3 := Below.then hb2 (by have := HS1.out; have := HS2.out; omega) hB3
        have HS3 := Lib.hid hB3.size
        clear hn2 hI hb2 hB3
        go_wp2_with fail
        refine (intSub_new W.heap.size 0 b2 0 b3 0 (decide (z1 < 0)) (decide (z2 < 0)) z1.natAbs z2.natAbs _ hn3 hI3 hJ 1 (by omega) (by rw [Nat.pow_one]; unfold W64; have := HF1.out; omega) (by rw [Nat.pow_one]; unfold W64; have := HF2.out; omega)).mono ?_
        rintro e w4 ⟨rfl, hK, hU⟩
        rw [sg_natAbs, sg_natAbs] at hK
        have hbg := hU.upd.below hb3 (by have := HS1.out; have := HS2.out; have := HS3.out; omega) (fun k _ e => by subst e; exact Nat.le_refl _)
        go_wp2_with fail
        refine (makeInt_any W.heap.size 0 _ _ _ hK).mono ?_
        rintro e w5 ⟨u, rfl, hu, rfl⟩
        rw [sg_natAbs] at hu
        go_wp2
        try rw [Exit.noGoto_ret]
        go_ret
        exact ⟨_, rfl, hu, Below.then HB.out (Nat.le_refl _) hbg⟩
      · have HG := Lib.hid (show fit64 (z1 - z2) = true from by unfold b63 at g1 g2; unfold fit64; simp at g1 g2 ⊢; omega)
        have HE := Lib.hid (show wrap64 (z1 - z2) = z1 - z2 from by have := fit64_bd HG.out; unfold wrap64; omega)
        go_wp2_with fail
        refine (is63_any z1 _).mono ?_
        rintro e w0 ⟨rfl, rfl⟩
        rw [g1]
        go_wp2_with fail
        refine (is63_any z2 _).mono ?_
        rintro e w0 ⟨rfl, rfl⟩
        rw [g2]
        clear g1 g2
        go_wp2
        try rw [Exit.noGoto_ret]
        go_ret
        refine ⟨_, rfl, .inl ⟨?_, HG.out⟩, HB.out⟩
        first | (rw [HE.out]; rfl) | rfl
  · obtain ⟨t1, t2, t3, t4, t5, t6, t7, t8, t9⟩ := ta_intVal
    have hfld := field_intVal
    have LN := Lib.hid (show N < W64 ^ L from by have := L1.out; rw [← e1, sg_nat] at this; exact this)
    have LM := Lib.hid (show M < W64 ^ L from by have := L2.out; rw [← e2, sg_nat] at this; exact this)
    have HI := Lib.hid hI
    have HJ := Lib.hid hJ
    have E1 := Lib.hid e1
    have E2 := Lib.hid e2
    clear hI hJ e1 e2 L1 L2
    obtain ⟨W0, hW0⟩ : ∃ W0, W0 = W.alloc (.cells #[.pointer (some ⟨b1, o1, none⟩)] 93) := ⟨_, rfl⟩
    have HW := Lib.hid hW0
    have hb0 : Below W.heap.size W W0 := by rw [hW0]; exact Below.alloc' (Below.refl _ _) _
    have hx : W0.cell? ⟨W.heap.size, 0, none⟩ = some (.pointer (some ⟨b1, o1, none⟩)) := by rw [hW0]; exact alloc_new _ _ _ rfl rfl
    have HI0 := Lib.hid (HI.out.keep hb0)
    have HJ0 := Lib.hid (HJ.out.keep hb0)
    clear hW0 HI HJ
    go_upto_region 49 with fail
    rw [← HW.out]
    go_wp2_with fail
    refine (newInt_any _).mono ?_
    rintro e w1 ⟨rfl, hw1⟩
    have hn1 : NewInt w1 W0.heap.size 0 := by rw [hw1]; exact newInt_is W0
    have hB1 : Below W0.heap.size W0 w1 := by rw [hw1]; exact Below.alloc' (Below.refl _ _) _
    have HS1 := Lib.hid (show w1.heap.size = W0.heap.size + 1 from by rw [hw1]; simp)
    clear hw1
    go_wp2_with fail
    refine (intSub_new W0.heap.size 0 b1 o1 b2 o2 s t N M _ hn1 (HI0.out.keep hB1) (HJ0.out.keep hB1) L (by omega) LN.out LM.out).mono ?_
    rintro e w4 ⟨rfl, hK, hU⟩
    rw [E1.out, E2.out] at hK
    have hbg := hU.upd.below hB1 (by have := HS1.out; omega) (fun k _ e => by subst e; exact Nat.le_refl _)
    go_wp2_with fail
    refine (makeInt_any W0.heap.size 0 _ _ _ hK).mono ?_
    rintro e w5 ⟨u, rfl, hu, rfl⟩
    rw [sg_natAbs] at hu
    go_wp2
    try rw [Exit.noGoto_ret]
    go_ret
    exact ⟨_, rfl, hu, Below.then HB.out (Nat.le_refl _) (Below.then hb0 (Nat.le_refl _) hbg)⟩
end Go.Proofs.YtdkipndepkblhaaGreatDoor
