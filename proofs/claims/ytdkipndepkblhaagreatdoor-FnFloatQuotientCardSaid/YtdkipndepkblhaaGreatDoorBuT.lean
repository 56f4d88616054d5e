/-
  match of two integers whose numbers lie apart: they lie apart behind it.
  A made integer lies in a block of its own.
-/
import Derived.Test.YtdkipndepkblhaaGreatDoorBuG
import Derived.Test.YtdkipndepkblhaaGreatDoorBuF
set_option linter.unusedSimpArgs false
set_option linter.unusedVariables false
namespace Go.Proofs.YtdkipndepkblhaaGreatDoor
open Go.RowKit Go.Bg Dg

set_option maxRecDepth 100000 in
set_option maxHeartbeats 1000000 in
theorem i64toiF_any (x : Int) (hx : -9223372036854775808 ≤ x ∧ x < 9223372036854775808) (w : World) :
    Calls Tryz.prog 176 #[.int .i64 x] w fun e w' => ∃ b, e = .returned (.agg #[.pointer (some ⟨b, 0, none⟩)]) ∧ w.heap.size ≤ b ∧ BigAt 151 w' b 0 (decide (x < 0)) x.natAbs ∧ Below w.heap.size w w' := by
  have HX := Lib.hid hx
  clear hx
  go_enter Tryz.func176, Tryz.ntmps176
  go_wp2_with fail
  refine (newInt_any _).mono ?_
  rintro e w1 ⟨rfl, hw1⟩
  have hs1 : w1.heap.size = w.heap.size + 1 + 1 := by rw [hw1]; simp
  have hb1 : Below w.heap.size w w1 := by rw [hw1]; exact Below.alloc' (Below.alloc' (Below.refl _ _) _) _
  have hn1 : NewInt w1 (w.heap.size + 1) 0 := by rw [hw1]; simpa using newInt_is (w.alloc (.cells #[.pointer none] 93))
  have hl : BlkAt w1 w.heap.size #[.pointer none] 93 := by rw [hw1]; exact (BlkAt.new _ _ _).keep ((Below.refl _ _).alloc (Nat.le_refl _) _)
  have HW1 := Lib.hid hw1
  clear hw1
  go_wp2_with fail
  refine (setInt64_any (w.heap.size + 1) 0 x HX.out _ hn1).mono ?_
  rintro e w2 ⟨rfl, hI, hU⟩
  have hl2 := hU.upd.blk hl (Nat.ne_of_lt (Nat.lt_succ_self _))
  have HI := Lib.hid (hI.upd (Upd.set1 w2 w.heap.size 0 (.pointer (some ⟨w.heap.size + 1, 0, none⟩))) (Nat.ne_of_gt (Nat.lt_succ_self _)) (fun k _ e => by subst e; exact ⟨_, _, hl2, by decide⟩))
  have HB := Lib.hid ((hU.upd.below hb1 (by omega) (fun k _ e => by subst e; exact Nat.le_add_right _ 1)).setCell (p := ⟨w.heap.size, 0, none⟩) (Nat.le_refl _) (.pointer (some ⟨w.heap.size + 1, 0, none⟩)))
  have c0 := hl2.cell 0
  have f0 := hl2.frozen 0
  simp only [List.getElem?_toArray, List.getElem?_cons_zero] at c0
  clear hl hl2 hI hU hn1 hb1
  go_wp2
  exact bodyPost_ret (v := .agg #[.pointer (some ⟨w.heap.size + 1, 0, none⟩)]) (by simp [results, Tryz.results176, go_sem, c0]) rfl ⟨_, rfl, Nat.le_add_right _ 1, HI.out, HB.out⟩

/-- two great integers in blocks of their own -/
def CApart (w : World) (u1 : Value) (z1 : Int) (u2 : Value) (z2 : Int) : Prop :=
  ∃ b1 o1 s1 N1 b2 o2 s2 N2, u1 = .iface 93 (.agg #[.pointer (some ⟨b1, o1, none⟩)]) ∧ u2 = .iface 93 (.agg #[.pointer (some ⟨b2, o2, none⟩)]) ∧ BigAt 151 w b1 o1 s1 N1 ∧ BigAt 151 w b2 o2 s2 N2 ∧ sg s1 N1 = z1 ∧ sg s2 N2 = z2 ∧ b1 ≠ b2

def CSameF (w : World) (u1 : Value) (z1 : Int) (u2 : Value) (z2 : Int) : Prop :=
  (u1 = .iface 82 (.int .i64 z1) ∧ fit64 z1 = true ∧ u2 = .iface 82 (.int .i64 z2) ∧ fit64 z2 = true) ∨ CApart w u1 z1 u2 z2

/-- two values of the package do not share a number -/
def Aprt (v1 v2 : Value) : Prop := ∀ b1 o1 b2 o2, v1 = .iface 93 (.agg #[.pointer (some ⟨b1, o1, none⟩)]) → v2 = .iface 93 (.agg #[.pointer (some ⟨b2, o2, none⟩)]) → b1 ≠ b2

set_option maxRecDepth 100000 in
set_option maxHeartbeats 1000000 in
theorem match0F_any (x : Int) (hx : fit64 x = true) (b o : Nat) (s : Bool) (N : Nat) (w : World) (hI : BigAt 151 w b o s N) :
    Calls Tryz.prog 121 #[.iface 82 (.int .i64 x), .iface 93 (.agg #[.pointer (some ⟨b, o, none⟩)])] w fun e w' => ∃ b', e = .returned (.tuple #[.iface 93 (.agg #[.pointer (some ⟨b', 0, none⟩)]), .iface 93 (.agg #[.pointer (some ⟨b, o, none⟩)])]) ∧ w.heap.size ≤ b' ∧ BigAt 151 w' b' 0 (decide (x < 0)) x.natAbs ∧ BigAt 151 w' b o s N ∧ Below w.heap.size w w' := by
  have HI := Lib.hid hI
  have HX := Lib.hid (fit64_bd hx)
  obtain ⟨_, _, _, t4, _, _, _, _, _⟩ := ta_intVal
  obtain ⟨_, _, u3, _, _, _, _, _, _⟩ := ta_int64Val
  clear hI hx
  go_enter Tryz.func121, Tryz.ntmps121
  go_wp2_with fail
  refine (i64toiF_any x HX.out _).mono ?_
  rintro e w1 ⟨b', rfl, hs, hJ, hB⟩
  have HS := Lib.hid hs
  clear hs
  go_wp2
  exact bodyPost_ret (v := .tuple #[.iface 93 (.agg #[.pointer (some ⟨b', 0, none⟩)]), .iface 93 (.agg #[.pointer (some ⟨b, o, none⟩)])]) (by simp [results, Tryz.results121, go_sem]) rfl
    ⟨_, rfl, HS.out, hJ, HI.out.keep hB, hB⟩

set_option maxRecDepth 100000 in
set_option maxHeartbeats 1000000 in
theorem matchF_any (v1 v2 : Value) (z1 z2 : Int) (w : World) (h1 : CInt w v1 z1) (h2 : CInt w v2 z2) (hap : Aprt v1 v2) :
    Calls Tryz.prog 59 #[v1, v2] w fun e w' => ∃ u1 u2, e = .returned (.tuple #[u1, u2]) ∧ CSameF w' u1 z1 u2 z2 ∧ Below w.heap.size w w' := by
  have H1 := Lib.hid h1
  have H2 := Lib.hid h2
  have HA := Lib.hid hap
  clear hap
  rcases h1 with ⟨rfl, f1⟩ | ⟨b1, o1, s1, N1, rfl, k1, e1⟩ <;> rcases h2 with ⟨rfl, f2⟩ | ⟨b2, o2, s2, N2, rfl, k2, e2⟩
  · have F1 := Lib.hid f1
    have F2 := Lib.hid f2
    clear f1 f2
    go_enter Tryz.func59, Tryz.ntmps59
    go_wp2_with fail
    refine (ordInt_any _ z1 _ H1.out).mono ?_
    rintro e w1 ⟨rfl, rfl⟩
    go_wp2_with fail
    refine (ordInt_any _ z2 _ H2.out).mono ?_
    rintro e w1 ⟨rfl, rfl⟩
    simp only [ordOf, if_true]
    go_wp2
    exact bodyPost_ret (v := .tuple #[.iface 82 (.int .i64 z1), .iface 82 (.int .i64 z2)]) (by simp [results, Tryz.results59, go_sem]) rfl
      ⟨_, _, rfl, .inl ⟨rfl, F1.out, rfl, F2.out⟩, Below.refl _ _⟩
  · have F1 := Lib.hid f1
    have K2 := Lib.hid k2
    clear f1 k2
    go_enter Tryz.func59, Tryz.ntmps59
    go_wp2_with fail
    refine (ordInt_any _ z1 _ H1.out).mono ?_
    rintro e w1 ⟨rfl, rfl⟩
    go_wp2_with fail
    refine (ordInt_any _ z2 _ H2.out).mono ?_
    rintro e w1 ⟨rfl, rfl⟩
    simp only [ordOf, if_true, if_neg (show ¬ (93 = 82) from by decide)]
    go_wp2_with fail
    refine (match0F_any z1 F1.out b2 o2 s2 N2 _ K2.out).mono ?_
    rintro e w1 ⟨b', rfl, hs, hu, hv, hB⟩
    have HS := Lib.hid (Nat.ne_of_gt (Nat.lt_of_lt_of_le K2.out.blk.lt hs))
    clear hs
    go_wp2
    exact bodyPost_ret (v := .tuple #[.iface 93 (.agg #[.pointer (some ⟨b', 0, none⟩)]), .iface 93 (.agg #[.pointer (some ⟨b2, o2, none⟩)])]) (by simp [results, Tryz.results59, go_sem]) rfl
      ⟨_, _, rfl, .inr ⟨_, _, _, _, _, _, _, _, rfl, rfl, hu, hv, sg_natAbs z1, e2, HS.out⟩, hB⟩
  · have F2 := Lib.hid f2
    have K1 := Lib.hid k1
    clear f2 k1
    go_enter Tryz.func59, Tryz.ntmps59
    go_wp2_with fail
    refine (ordInt_any _ z1 _ H1.out).mono ?_
    rintro e w1 ⟨rfl, rfl⟩
    go_wp2_with fail
    refine (ordInt_any _ z2 _ H2.out).mono ?_
    rintro e w1 ⟨rfl, rfl⟩
    simp only [ordOf, if_true, if_neg (show ¬ (93 = 82) from by decide)]
    go_wp2_with fail
    refine (match0F_any z2 F2.out b1 o1 s1 N1 _ K1.out).mono ?_
    rintro e w1 ⟨b', rfl, hs, hu, hv, hB⟩
    have HS := Lib.hid (Nat.ne_of_lt (Nat.lt_of_lt_of_le K1.out.blk.lt hs))
    clear hs
    go_wp2
    exact bodyPost_ret (v := .tuple #[.iface 93 (.agg #[.pointer (some ⟨b1, o1, none⟩)]), .iface 93 (.agg #[.pointer (some ⟨b', 0, none⟩)])]) (by simp [results, Tryz.results59, go_sem]) rfl
      ⟨_, _, rfl, .inr ⟨_, _, _, _, _, _, _, _, rfl, rfl, hv, hu, e1, sg_natAbs z2, HS.out⟩, hB⟩
  · have K1 := Lib.hid k1
    have K2 := Lib.hid k2
    have HS := Lib.hid (HA.out b1 o1 b2 o2 rfl rfl)
    clear k1 k2
    go_enter Tryz.func59, Tryz.ntmps59
    go_wp2_with fail
    refine (ordInt_any _ z1 _ H1.out).mono ?_
    rintro e w1 ⟨rfl, rfl⟩
    go_wp2_with fail
    refine (ordInt_any _ z2 _ H2.out).mono ?_
    rintro e w1 ⟨rfl, rfl⟩
    simp only [ordOf, if_neg (show ¬ (93 = 82) from by decide)]
    go_wp2
    exact bodyPost_ret (v := .tuple #[.iface 93 (.agg #[.pointer (some ⟨b1, o1, none⟩)]), .iface 93 (.agg #[.pointer (some ⟨b2, o2, none⟩)])]) (by simp [results, Tryz.results59, go_sem]) rfl
      ⟨_, _, rfl, .inr ⟨_, _, _, _, _, _, _, _, rfl, rfl, K1.out, K2.out, e1, e2, HS.out⟩, Below.refl _ _⟩
end Go.Proofs.YtdkipndepkblhaaGreatDoor

set_option linter.unusedSimpArgs false
set_option linter.unusedVariables false
namespace Go.Proofs.YtdkipndepkblhaaGreatDoor
open Go.RowKit Go.Bg Dg

/-- a value that holds a number, if any, in the block b -/
def At (v : Value) (b : Nat) : Prop := ∀ b' o', v = .iface 93 (.agg #[.pointer (some ⟨b', o', none⟩)]) → b' = b

theorem at_big (b o : Nat) : At (.iface 93 (.agg #[.pointer (some ⟨b, o, none⟩)])) b := by
  intro b' o' h
  injection h with _ h
  injection h with h
  injection h with h
  injection h with h _
  injection h with h
  injection h with h
  injection h with h _ _
  exact h.symm

theorem at_small (x : Value) (b : Nat) : At (.iface 82 x) b := by
  intro b' o' h
  injection h with h _
  exact absurd h (by decide)

theorem CInt.block {w : World} {v : Value} {z : Int} (h : CInt w v z) : ∀ b o, v = .iface 93 (.agg #[.pointer (some ⟨b, o, none⟩)]) → b < w.heap.size := by
  intro b o e
  rcases h with ⟨rfl, _⟩ | ⟨b1, o1, s, N, rfl, hI, _⟩
  · injection e with h _
    exact absurd h (by decide)
  · have := at_big b1 o1 b o e
    subst this
    exact hI.blk.lt

theorem aprt_of {w1 : World} {v1 v2 : Value} {z : Int} {b : Nat} (h : CInt w1 v1 z) (hb : w1.heap.size ≤ b) (ha : At v2 b) : Aprt v1 v2 := by
  intro b1 o1 b2 o2 e1 e2
  have h1 := h.block b1 o1 e1
  have h2 := ha b2 o2 e2
  omega

set_option maxRecDepth 100000 in
set_option maxHeartbeats 1000000 in
theorem makeIntF_any (b o : Nat) (s : Bool) (N : Nat) (w : World) (h : BigAt 151 w b o s N) :
    Calls Tryz.prog 61 #[.pointer (some ⟨b, o, none⟩)] w fun e w' => ∃ v, e = .returned v ∧ CInt w' v (sg s N) ∧ At v b ∧ w = w' := by
  have HH := Lib.hid h
  clear h
  cases hf : fit64 (sg s N)
  · have HF := Lib.hid hf
    clear hf
    go_enter Tryz.func61, Tryz.ntmps61
    go_wp2_with fail
    refine (isInt64_any b o s N _ HH.out).mono ?_
    rintro e w1 ⟨rfl, rfl⟩
    rw [HF.out]
    go_wp2
    go_ret
    exact ⟨_, rfl, .inr ⟨b, o, s, N, rfl, HH.out, rfl⟩, at_big _ _, rfl⟩
  · have HF := Lib.hid hf
    clear hf
    go_enter Tryz.func61, Tryz.ntmps61
    go_wp2_with fail
    refine (isInt64_any b o s N _ HH.out).mono ?_
    rintro e w1 ⟨rfl, rfl⟩
    rw [HF.out]
    go_wp2_with fail
    refine (int64_any b o s N _ HH.out HF.out).mono ?_
    rintro e w1 ⟨rfl, rfl⟩
    go_wp2
    go_ret
    exact ⟨_, rfl, .inl ⟨rfl, HF.out⟩, at_small _ _, rfl⟩

set_option maxRecDepth 100000 in
set_option maxHeartbeats 1000000 in
theorem makeOfIntF_any (b o : Nat) (s : Bool) (N : Nat) (w : World) (h : BigAt 151 w b o s N) :
    Calls Tryz.prog 95 #[.iface 85 (.pointer (some ⟨b, o, none⟩))] w fun e w' => ∃ v, e = .returned v ∧ CInt w' v (sg s N) ∧ At v b ∧ w = w' := by
  have HH := Lib.hid h
  clear h
  obtain ⟨t1, t2, t3, t4, t5, t6⟩ := ta_any_pInt
  go_enter Tryz.func95, Tryz.ntmps95
  go_wp2_with fail
  refine (makeIntF_any b o s N _ HH.out).mono ?_
  rintro e w1 ⟨v, rfl, hv, ha, rfl⟩
  have HV := Lib.hid hv
  have HA := Lib.hid ha
  clear hv ha
  go_wp2
  go_ret
  exact ⟨_, rfl, HV.out, HA.out, rfl⟩
set_option maxRecDepth 100000 in
set_option maxHeartbeats 1000000 in
theorem madeIntF_any (v : Vl) (w : World) (h : VlAt w v) (hk : v.kind = 3) (hn : v.wn ≤ 1000000) :
    Calls Tryz.prog 39 #[.agg #[.int .i64 v.kind, .bool v.truth, .string v.text, .bool v.neg, .slice v.wa v.wn v.wc, .slice v.da v.dn v.dc, .bool v.ineg, .slice v.ia v.inn v.ic, .slice v.ea v.en v.ec]] w fun e w' => ∃ u, e = .returned u ∧ CInt w' u (sg v.neg (val W64 v.wf v.wn)) ∧ (∃ b, w.heap.size ≤ b ∧ At u b) ∧ Below w.heap.size w w' := by
  obtain ⟨W0, hW0⟩ : ∃ W0, W0 = w.alloc (.cells #[.int .i64 v.kind, .bool v.truth, .string v.text, .bool v.neg, .slice v.wa v.wn v.wc, .slice v.da v.dn v.dc, .bool v.ineg, .slice v.ia v.inn v.ic, .slice v.ea v.en v.ec] 26) := ⟨_, rfl⟩
  have HW := Lib.hid hW0
  have hb0 : Below w.heap.size w W0 := by rw [hW0]; exact Below.alloc' (Below.refl _ _) _
  have X : Box9 W0 w.heap.size v := by rw [hW0]; exact Box9.new w v _ rfl
  have HX := Lib.hid (h.keep hb0)
  clear hW0 h
  obtain ⟨xc0, xc1, xc2, xc3, xc4, xc5, xc6, xc7, xc8⟩ := (X).all
  rw [hk] at xc0
  clear hk
  go_enter Tryz.func39, Tryz.ntmps39
  go_upto_region 1 with fail
  rw [← HW.out]
  go_wp2_with fail
  refine (of_any' v.neg v.wa v.wn v.wc v.wf _ HX.out.ws hn).mono ?_
  rintro e w1 ⟨b, rfl, hb, hI, hB1⟩
  go_wp2_with fail
  refine (makeOfIntF_any b 0 _ _ _ hI).mono ?_
  rintro e w2 ⟨u, rfl, hu, ha, rfl⟩
  have HA := Lib.hid ha
  have HS := Lib.hid (Nat.le_trans hb0.size hb)
  clear ha
  rw [sg_and] at hu
  have hbf := Below.then hb0 (Nat.le_refl _) hB1
  go_wp2
  go_ret
  exact ⟨_, rfl, hu, ⟨b, HS.out, HA.out⟩, hbf⟩

end Go.Proofs.YtdkipndepkblhaaGreatDoor
