/-
  impl.operator; impl.Binary of two integers, from what constant.BinaryOp gives.
  impl.Binary of two integers: the sum, the difference.
-/
import Derived.Test.YtdkipndepkblhaaGreatDoorBuL
import Derived.Test.YtdkipndepkblhaaGreatDoorBuT
import Derived.Test.YtdkipndepkblhaaGreatDoorBuR
set_option linter.unusedSimpArgs false
set_option linter.unusedVariables false
namespace Go.Bg
open Go.RowKit Dg
theorem Box9.set9 {w : World} {b g : Nat} {x : Vl} (h : Box9 w b x) (hg : b ≠ g) (v0 v1 v2 v3 v4 v5 v6 v7 v8 : Value) :
    Box9 (((((((((w.setCell ⟨g, 0, none⟩ v0).setCell ⟨g, 1, none⟩ v1).setCell ⟨g, 2, none⟩ v2).setCell ⟨g, 3, none⟩ v3).setCell ⟨g, 4, none⟩ v4).setCell ⟨g, 5, none⟩ v5).setCell ⟨g, 6, none⟩ v6).setCell ⟨g, 7, none⟩ v7).setCell ⟨g, 8, none⟩ v8) b x := by
  have e : ∀ (i j : Nat) (v : Value) (w : World), (w.setCell ⟨g, i, none⟩ v).cell? ⟨b, j, none⟩ = w.cell? ⟨b, j, none⟩ := fun i j v w => World.cell?_setCell_other _ _ _ _ (fun hh => hg (by injection hh with hh; exact hh.symm))
  refine ⟨?_, ?_, ?_, ?_, ?_, ?_, ?_, ?_, ?_⟩ <;> (simp only [e])
  · exact h.c0
  · exact h.c1
  · exact h.c2
  · exact h.c3
  · exact h.c4
  · exact h.c5
  · exact h.c6
  · exact h.c7
  · exact h.c8
end Go.Bg
namespace Go.Proofs.YtdkipndepkblhaaGreatDoor
open Go.RowKit Go.Bg Dg

/-- the token of an operator of two numbers -/
def opTok (k : Nat) : Int := if k = 0 then 12 else if k = 1 then 13 else if k = 2 then 14 else if k = 3 then 15 else if k = 4 then 26 else if k = 5 then 16 else if k = 6 then 17 else if k = 7 then 18 else if k = 8 then 19 else 22

set_option maxRecDepth 100000 in
set_option maxHeartbeats 1000000 in
theorem operator_any (k : Nat) (hk : k < 10) (w : World) :
    Calls Tryz.prog 36 #[.int .i64 k] w fun e w' => e = .returned (.tuple #[.int .i64 (opTok k), .bool true]) ∧ Below w.heap.size w w' := by
  have HB := Lib.hid (fun (o : Obj) => (Below.alloc' (Below.refl w.heap.size w) o))
  obtain ⟨T, hT⟩ : ∃ T, T = opTok k := ⟨_, rfl⟩
  rcases (by omega : k = 0 ∨ k = 1 ∨ k = 2 ∨ k = 3 ∨ k = 4 ∨ k = 5 ∨ k = 6 ∨ k = 7 ∨ k = 8 ∨ k = 9) with rfl | rfl | rfl | rfl | rfl | rfl | rfl | rfl | rfl | rfl
  all_goals
    go_enter Tryz.func36, Tryz.ntmps36
    go_wp2
    refine bodyPost_ret (v := .tuple #[.int .i64 T, .bool true]) (by rw [hT]; simp [results, Tryz.results36, go_sem, opTok]) rfl ⟨by rw [hT], HB.out _⟩

set_option maxRecDepth 100000 in
set_option maxHeartbeats 2000000 in
theorem implBinary_any (k : Nat) (hk : k < 10) (x y : Vl) (z : Int) (L : Nat) (w : World) (h1 : VlAt w x) (h2 : VlAt w y) (k1 : x.kind = 3) (k2 : y.kind = 3) (n1 : x.wn ≤ 100000) (n2 : y.wn ≤ 100000) (hL : L ≤ 100000) (hz : z.natAbs < W64 ^ L)
    (H : ∀ (v1 v2 : Value) (w' : World), Below w.heap.size w w' → CInt w' v1 (sg x.neg (val W64 x.wf x.wn)) → CInt w' v2 (sg y.neg (val W64 y.wf y.wn)) → Aprt v1 v2 →
      Calls Tryz.prog 38 #[v1, .int .i64 (opTok k), v2] w' fun e w'' => ∃ u, e = .returned u ∧ CInt w'' u z ∧ Below w'.heap.size w' w'') :
    Calls Tryz.prog 15 #[.int .i64 k, .agg #[.int .i64 x.kind, .bool x.truth, .string x.text, .bool x.neg, .slice x.wa x.wn x.wc, .slice x.da x.dn x.dc, .bool x.ineg, .slice x.ia x.inn x.ic, .slice x.ea x.en x.ec], .agg #[.int .i64 y.kind, .bool y.truth, .string y.text, .bool y.neg, .slice y.wa y.wn y.wc, .slice y.da y.dn y.dc, .bool y.ineg, .slice y.ia y.inn y.ic, .slice y.ea y.en y.ec]] w (GivesV (IsZ z L) w) := by
  obtain ⟨W0, hW0⟩ : ∃ W0, W0 = ((w.alloc (.cells #[.int .i64 x.kind, .bool x.truth, .string x.text, .bool x.neg, .slice x.wa x.wn x.wc, .slice x.da x.dn x.dc, .bool x.ineg, .slice x.ia x.inn x.ic, .slice x.ea x.en x.ec] 26)).alloc (.cells #[.int .i64 y.kind, .bool y.truth, .string y.text, .bool y.neg, .slice y.wa y.wn y.wc, .slice y.da y.dn y.dc, .bool y.ineg, .slice y.ia y.inn y.ic, .slice y.ea y.en y.ec] 26)).alloc (.cells #[.int .i64 0, .bool false, .string ⟨#[]⟩, .bool false, .slice none 0 0, .slice none 0 0, .bool false, .slice none 0 0, .slice none 0 0] 26) := ⟨_, rfl⟩
  have HW := Lib.hid hW0
  have hb0 : Below w.heap.size w W0 := by rw [hW0]; exact Below.alloc' (Below.alloc' (Below.alloc' (Below.refl _ _) _) _) _
  have X : Box9 W0 w.heap.size x := by rw [hW0]; exact ((Box9.new w x _ rfl).alloc _).alloc _
  have Y : Box9 W0 (w.heap.size + 1) y := by rw [hW0]; exact (Box9.new _ y _ (by simp)).alloc _
  have hR : BlkAt W0 (w.heap.size + 1 + 1) #[.int .i64 0, .bool false, .string ⟨#[]⟩, .bool false, .slice none 0 0, .slice none 0 0, .bool false, .slice none 0 0, .slice none 0 0] 26 := by
    rw [hW0]
    have := BlkAt.new ((w.alloc (.cells #[.int .i64 x.kind, .bool x.truth, .string x.text, .bool x.neg, .slice x.wa x.wn x.wc, .slice x.da x.dn x.dc, .bool x.ineg, .slice x.ia x.inn x.ic, .slice x.ea x.en x.ec] 26)).alloc (.cells #[.int .i64 y.kind, .bool y.truth, .string y.text, .bool y.neg, .slice y.wa y.wn y.wc, .slice y.da y.dn y.dc, .bool y.ineg, .slice y.ia y.inn y.ic, .slice y.ea y.en y.ec] 26)) #[.int .i64 0, .bool false, .string ⟨#[]⟩, .bool false, .slice none 0 0, .slice none 0 0, .bool false, .slice none 0 0, .slice none 0 0] 26
    simpa using this
  have HX := Lib.hid (h1.keep hb0)
  have HY := Lib.hid (h2.keep hb0)
  have K1 := Lib.hid k1
  have K2 := Lib.hid k2
  have HZ := Lib.hid hz
  have HH := Lib.hid H
  clear hW0 h1 h2 k1 k2 hz H
  go_enter Tryz.func15, Tryz.ntmps15
  go_upto_region 1 with fail
  rw [← HW.out]
  go_wp2_with fail
  refine (operator_any k hk _).mono ?_
  rintro e w1 ⟨rfl, hB1⟩
  have hb1 := Below.then hb0 (Nat.le_refl _) hB1
  have hR1 := hR.keep hB1
  have X1 := X.keep hB1
  have Y1 := Y.keep hB1
  have HX1 := Lib.hid (HX.out.keep hB1)
  have HY1 := Lib.hid (HY.out.keep hB1)
  go_wp2_with fail
  have hd0 : Below w1.heap.size w1 w1.drew := (Below.refl _ _).drew
  go_region_held3 (fun w' => (w'.cell? ⟨w.heap.size, 0, none⟩ = some (.int .i64 x.kind) ∧ w'.cell? ⟨w.heap.size, 1, none⟩ = some (.bool x.truth) ∧ w'.cell? ⟨w.heap.size, 2, none⟩ = some (.string x.text) ∧ w'.cell? ⟨w.heap.size, 3, none⟩ = some (.bool x.neg) ∧ w'.cell? ⟨w.heap.size, 4, none⟩ = some (.slice x.wa x.wn x.wc) ∧ w'.cell? ⟨w.heap.size, 5, none⟩ = some (.slice x.da x.dn x.dc) ∧ w'.cell? ⟨w.heap.size, 6, none⟩ = some (.bool x.ineg) ∧ w'.cell? ⟨w.heap.size, 7, none⟩ = some (.slice x.ia x.inn x.ic) ∧ w'.cell? ⟨w.heap.size, 8, none⟩ = some (.slice x.ea x.en x.ec)) ∧ (w'.cell? ⟨(w.heap.size + 1), 0, none⟩ = some (.int .i64 y.kind) ∧ w'.cell? ⟨(w.heap.size + 1), 1, none⟩ = some (.bool y.truth) ∧ w'.cell? ⟨(w.heap.size + 1), 2, none⟩ = some (.string y.text) ∧ w'.cell? ⟨(w.heap.size + 1), 3, none⟩ = some (.bool y.neg) ∧ w'.cell? ⟨(w.heap.size + 1), 4, none⟩ = some (.slice y.wa y.wn y.wc) ∧ w'.cell? ⟨(w.heap.size + 1), 5, none⟩ = some (.slice y.da y.dn y.dc) ∧ w'.cell? ⟨(w.heap.size + 1), 6, none⟩ = some (.bool y.ineg) ∧ w'.cell? ⟨(w.heap.size + 1), 7, none⟩ = some (.slice y.ia y.inn y.ic) ∧ w'.cell? ⟨(w.heap.size + 1), 8, none⟩ = some (.slice y.ea y.en y.ec)))
    (first | with_reducible exact ⟨X1.all, Y1.all⟩ | with_reducible exact ⟨(X1.keep (by assumption)).all, (Y1.keep (by assumption)).all⟩ | with_reducible exact ⟨((X1.keep (by assumption)).set9 (by omega) _ _ _ _ _ _ _ _ _).all, ((Y1.keep (by assumption)).set9 (by omega) _ _ _ _ _ _ _ _ _).all⟩)
    (first | (go_at_call 39; (with_reducible refine (madeInt_any x _ ?_ ?_ ?_).mono ?_); exact HX1.out.keep (by assumption); exact K1.out; omega; rintro e w2 ⟨u1, rfl, hu1, hB2⟩; have hb2 := Below.then hd0 (Nat.le_refl _) hB2) | (go_at_call 39; (with_reducible refine (madeIntF_any y _ ?_ ?_ ?_).mono ?_); exact HY1.out.keep (by assumption); exact K2.out; omega; rintro e w3 ⟨u2, rfl, hu2, ⟨ab, hab, hat⟩, hB3⟩; have hb3 := Below.then hb2 (Nat.le_refl _) hB3) | (go_at_call 38; have q1 := Below.then hb1 (Nat.le_refl _) hb3; have q2 := hu1.keep hB3; have q3 := aprt_of hu1 hab hat; (with_reducible refine (HH.out u1 u2 _ q1 q2 hu2 q3).mono ?_); clear q1 q2 q3; rintro e w4 ⟨u, rfl, hu, hB4⟩; have hb4 := Below.then hb3 (Nat.le_refl _) hB4) | (go_at_call 37; (with_reducible refine (toldZ_any u z _ ?_ L hL HZ.out).mono ?_); exact hu; rintro e w5 ⟨r, rfl, hy, hP, hB5⟩; have hb5 := Below.then hb4 (Nat.le_refl _) hB5; have hR5 := hR1.keep hb5; have HE := Lib.hid (givesV_end hR5 (by omega) (Below.then hb1 (Nat.le_refl _) hb5) hy hP); have rc0 := (hR5).cell 0; have rc1 := (hR5).cell 1; have rc2 := (hR5).cell 2; have rc3 := (hR5).cell 3; have rc4 := (hR5).cell 4; have rc5 := (hR5).cell 5; have rc6 := (hR5).cell 6; have rc7 := (hR5).cell 7; have rc8 := (hR5).cell 8; simp only [List.getElem?_toArray, List.getElem?_cons_zero, List.getElem?_cons_succ] at rc0 rc1 rc2 rc3 rc4 rc5 rc6 rc7 rc8; have rf0 := (hR5).frozen 0; have rf1 := (hR5).frozen 1; have rf2 := (hR5).frozen 2; have rf3 := (hR5).frozen 3; have rf4 := (hR5).frozen 4; have rf5 := (hR5).frozen 5; have rf6 := (hR5).frozen 6; have rf7 := (hR5).frozen 7; have rf8 := (hR5).frozen 8))
  go_wp2
  exact bodyPost_ret (v := .agg #[.int .i64 r.kind, .bool r.truth, .string r.text, .bool r.neg, .slice r.wa r.wn r.wc, .slice r.da r.dn r.dc, .bool r.ineg, .slice r.ia r.inn r.ic, .slice r.ea r.en r.ec]) (by simp [results, Tryz.results15, go_sem, rc0, rc1, rc2, rc3, rc4, rc5, rc6, rc7, rc8]) rfl HE.out
end Go.Proofs.YtdkipndepkblhaaGreatDoor

set_option linter.unusedSimpArgs false
set_option linter.unusedVariables false
namespace Go.Proofs.YtdkipndepkblhaaGreatDoor
open Go.RowKit Go.Bg Dg

theorem vl_lt {w : World} {x : Vl} {K : Nat} (h : VlAt w x) (hn : x.wn ≤ K) : (sg x.neg (val W64 x.wf x.wn)).natAbs < W64 ^ K := by
  rw [sg_nat]; exact Nat.lt_of_lt_of_le (val_lt h.ws.lt) (Nat.pow_le_pow_right W64_pos hn)
theorem pow_step (K : Nat) : W64 ^ K + W64 ^ K ≤ W64 ^ (K + 1) := by
  rw [Nat.pow_succ]
  have : 2 ≤ W64 := W64_gt
  have := Nat.mul_le_mul_left (W64 ^ K) this
  omega

theorem implSum_any (x y : Vl) (K : Nat) (w : World) (h1 : VlAt w x) (h2 : VlAt w y) (k1 : x.kind = 3) (k2 : y.kind = 3) (n1 : x.wn ≤ K) (n2 : y.wn ≤ K) (hK : K ≤ 1000) :
    Calls Tryz.prog 15 #[.int .i64 0, .agg #[.int .i64 x.kind, .bool x.truth, .string x.text, .bool x.neg, .slice x.wa x.wn x.wc, .slice x.da x.dn x.dc, .bool x.ineg, .slice x.ia x.inn x.ic, .slice x.ea x.en x.ec], .agg #[.int .i64 y.kind, .bool y.truth, .string y.text, .bool y.neg, .slice y.wa y.wn y.wc, .slice y.da y.dn y.dc, .bool y.ineg, .slice y.ia y.inn y.ic, .slice y.ea y.en y.ec]] w (GivesV (IsZ (sg x.neg (val W64 x.wf x.wn) + sg y.neg (val W64 y.wf y.wn)) (K + 1)) w) := by
  have l1 := vl_lt h1 n1
  have l2 := vl_lt h2 n2
  have hp := pow_step K
  exact implBinary_any 0 (by omega) x y _ (K + 1) w h1 h2 k1 k2 (by omega) (by omega) (by omega) (by omega)
    (fun v1 v2 w' _ c1 c2 _ => binAdd_any v1 v2 _ _ w' c1 c2 K (by omega) l1 l2)

theorem implDiff_any (x y : Vl) (K : Nat) (w : World) (h1 : VlAt w x) (h2 : VlAt w y) (k1 : x.kind = 3) (k2 : y.kind = 3) (n1 : x.wn ≤ K) (n2 : y.wn ≤ K) (hK : K ≤ 1000) :
    Calls Tryz.prog 15 #[.int .i64 1, .agg #[.int .i64 x.kind, .bool x.truth, .string x.text, .bool x.neg, .slice x.wa x.wn x.wc, .slice x.da x.dn x.dc, .bool x.ineg, .slice x.ia x.inn x.ic, .slice x.ea x.en x.ec], .agg #[.int .i64 y.kind, .bool y.truth, .string y.text, .bool y.neg, .slice y.wa y.wn y.wc, .slice y.da y.dn y.dc, .bool y.ineg, .slice y.ia y.inn y.ic, .slice y.ea y.en y.ec]] w (GivesV (IsZ (sg x.neg (val W64 x.wf x.wn) - sg y.neg (val W64 y.wf y.wn)) (K + 1)) w) := by
  have l1 := vl_lt h1 n1
  have l2 := vl_lt h2 n2
  have hp := pow_step K
  exact implBinary_any 1 (by omega) x y _ (K + 1) w h1 h2 k1 k2 (by omega) (by omega) (by omega) (by omega)
    (fun v1 v2 w' _ c1 c2 _ => binSub_any v1 v2 _ _ w' c1 c2 K (by omega) l1 l2)
end Go.Proofs.YtdkipndepkblhaaGreatDoor
