/-
  Contracts and lemmas: MatF MadF OpsW Bin0 BinAdd IntS BinSub OpsX RatT OpsC RatG BinMul BinFrac OpsF CmpR.
-/
import Derived.Test.YtgmienggfaahlaaGreatDoorK04
import Derived.Test.YtgmienggfaahlaaGreatDoorK02
import Derived.Test.YtgmienggfaahlaaGreatDoorK19
import Derived.WalkMore
import Derived.Test.YtgmienggfaahlaaGreatDoorK24
import Derived.Test.YtgmienggfaahlaaGreatDoorK11
import Derived.Test.YtgmienggfaahlaaGreatDoorK30
import Derived.Test.YtgmienggfaahlaaGreatDoorK29
import Derived.Test.YtgmienggfaahlaaGreatDoorK17
set_option linter.unusedSimpArgs false
set_option linter.unusedVariables false
set_option maxRecDepth 100000
set_option maxHeartbeats 8000000
namespace Go.Proofs.YtgmienggfaahlaaGreatDoor
open Go.RowKit Go.Bg Dg
def At (v : Value) (b : Nat) : Prop := ∀ b' o', v = .iface 98 (.agg #[.pointer (some ⟨b', o', none⟩)]) → b' = b
theorem at_big (b o : Nat) : At (.iface 98 (.agg #[.pointer (some ⟨b, o, none⟩)])) b := by
  intro b' o' h
  injection h with _ h
  injection h with h
  injection h with h
  injection h with h _
  injection h with h
  injection h with h
  injection h with h _ _
  exact h.symm
theorem CInt.block {w : World} {v : Value} {z : Int} (h : CInt w v z) : ∀ b o, v = .iface 98 (.agg #[.pointer (some ⟨b, o, none⟩)]) → b < w.heap.size := by
  intro b o e
  rcases h with ⟨rfl, _⟩ | ⟨b1, o1, s, N, rfl, hI, _⟩
  · injection e with h _
    exact absurd h (by decide)
  · have := at_big b1 o1 b o e
    subst this
    exact hI.blk.lt
end Go.Proofs.YtgmienggfaahlaaGreatDoor
namespace Go.Bg
open Go.RowKit Dg
theorem Box9.set9 {w : World} {b g : Nat} {x : Vl} (h : Box9 w b x) (hg : b ≠ g) (v0 v1 v2 v3 v4 v5 v6 v7 v8 : Value) :
    Box9 (((((((((w.setCell ⟨g, 0, none⟩ v0).setCell ⟨g, 1, none⟩ v1).setCell ⟨g, 2, none⟩ v2).setCell ⟨g, 3, none⟩ v3).setCell ⟨g, 4, none⟩ v4).setCell ⟨g, 5, none⟩ v5).setCell ⟨g, 6, none⟩ v6).setCell ⟨g, 7, none⟩ v7).setCell ⟨g, 8, none⟩ v8) b x := by
  have e : ∀ (i j : Nat) (v : Value) (w : World), (w.setCell ⟨g, i, none⟩ v).cell? ⟨b, j, none⟩ = w.cell? ⟨b, j, none⟩ := fun i j v w => World.cell?_setCell_other _ _ _ _ (fun hh => hg (by injection hh with hh; exact hh.symm))
  refine ⟨?_, ?_, ?_, ?_, ?_, ?_, ?_, ?_, ?_⟩ <;> (simp only [e])
  · exact h.c0
  · exact h.c1
  · exact h.c2
  · exact h.c3
  · exact h.c4
  · exact h.c5
  · exact h.c6
  · exact h.c7
  · exact h.c8
end Go.Bg
namespace Go.Proofs.YtgmienggfaahlaaGreatDoor
open Go.RowKit Go.Bg Dg
def opTok (k : Nat) : Int := if k = 0 then 12 else if k = 1 then 13 else if k = 2 then 14 else if k = 3 then 15 else if k = 4 then 26 else if k = 5 then 16 else if k = 6 then 17 else if k = 7 then 18 else if k = 8 then 19 else 22
theorem operator_any (k : Nat) (hk : k < 10) (w : World) :
    Calls Tryz.prog 35 #[.int .i64 k] w fun e w' => e = .returned (.tuple #[.int .i64 (opTok k), .bool true]) ∧ Below w.heap.size w w' := by
  have HB := Lib.hid (fun (o : Obj) => (Below.alloc' (Below.refl w.heap.size w) o))
  obtain ⟨T, hT⟩ : ∃ T, T = opTok k := ⟨_, rfl⟩
  rcases (by omega : k = 0 ∨ k = 1 ∨ k = 2 ∨ k = 3 ∨ k = 4 ∨ k = 5 ∨ k = 6 ∨ k = 7 ∨ k = 8 ∨ k = 9) with rfl | rfl | rfl | rfl | rfl | rfl | rfl | rfl | rfl | rfl
  all_goals
    go_enter Tryz.func35, Tryz.ntmps35
    go_wp2
    refine bodyPost_ret (v := .tuple #[.int .i64 T, .bool true]) (by rw [hT]; simp [results, Tryz.results35, go_sem, opTok]) rfl ⟨by rw [hT], HB.out _⟩
theorem pow_step (K : Nat) : W64 ^ K + W64 ^ K ≤ W64 ^ (K + 1) := by
  rw [Nat.pow_succ]
  have : 2 ≤ W64 := W64_gt
  have := Nat.mul_le_mul_left (W64 ^ K) this
  omega
theorem mulDenomF (p : Value) (a1 a2 : Option Addr) (n1 n2 c1 c2 D E : Nat) (w : World) (hK : Thr w) (h1 : BigN 155 w a1 n1 c1 D) (h2 : BigN 155 w a2 n2 c2 E) (hD : 0 < D) (hE : 0 < E) (hn1 : n1 < 40) (hn2 : n2 < 40) :
    Calls Tryz.prog 154 #[p, .slice none 0 0, .slice a1 n1 c1, .slice a2 n2 c2] w (GivesF 155 (D * E) w) := by
  have z1 : ((n1 : Int) == 0) = false := by
    have := natAt_pos_len h1.num
    have : 0 < n1 := by simpa [hD] using this
    simp; omega
  have z2 : ((n2 : Int) == 0) = false := by
    have := natAt_pos_len h2.num
    have : 0 < n2 := by simpa [hE] using this
    simp; omega
  have hm1 := h1.num.cm
  have hc1 := h1.num.nc
  have hm2 := h2.num.cm
  have hc2 := h2.num.nc
  unfold maxLen at hm1 hm2
  have HM := Lib.hid (natMulF a1 a2 n1 n2 c1 c2 D E w hK h1 h2 (by omega) (by omega) (.inl hn1) p)
  clear h1 h2 hK
  go_enter Tryz.func154, Tryz.ntmps154
  go_wp2_with fail
  refine HM.out.mono ?_
  rintro e w1 ⟨a, n, c, rfl, hN, hB, hf⟩
  go_wp2
  go_ret
  exact ⟨_, _, _, rfl, hN, hB, hf⟩
structure TwoS (w : World) (s t : Bool) (X Y : Nat) (wx : World) (a1 : Option Addr) (n1 c1 : Nat) (a2 : Option Addr) (n2 c2 : Nat) : Prop where
  a : OwnI 155 wx (w.heap.size + 1) 0 s a1 n1 c1 X
  d : OwnI 155 wx (w.heap.size + 1 + 1) 0 t a2 n2 c2 Y
  f1 : ∀ k, InB a1 k → w.heap.size ≤ k
  f2 : ∀ k, InB a2 k → w.heap.size ≤ k
  off : ∀ k, InB a1 k → ¬ InB a2 k
  stk : BlkAt wx w.heap.size #[.pointer none] 225
  bel : Below w.heap.size w wx
theorem two_done {w W3 w4 w5 : World} {s t : Bool} {X Y : Nat} (hW : W3 = ((w.alloc (.cells #[.pointer none] 225)).alloc (.cells #[.bool false, .slice none 0 0] 168)).alloc (.cells #[.bool false, .slice none 0 0] 168))
    (h4 : IntFr 155 (w.heap.size + 1) 0 s X W3.drew w4) (h5 : IntFr 155 (w.heap.size + 1 + 1) 0 t Y w4.drew w5) :
    ∃ a1 n1 c1 a2 n2 c2, TwoS w s t X Y w5 a1 n1 c1 a2 n2 c2 ∧ (s = true → 0 < X) ∧ (t = true → 0 < Y) := by
  have hB3 : Below w.heap.size w W3 := by rw [hW]; exact Below.alloc' (Below.alloc' (Below.alloc' (Below.refl _ _) _) _) _
  have hS3 : W3.heap.size = w.heap.size + 1 + 1 + 1 := by rw [hW]; simp
  have A3 : NewInt W3 (w.heap.size + 1) 0 := by rw [hW]; have := newInt_is (w.alloc (.cells #[.pointer none] 225)); simp at this; exact this.keep (Below.alloc' (Below.refl _ _) _)
  have B3 : NewInt W3 (w.heap.size + 1 + 1) 0 := by rw [hW]; simpa using newInt_is ((w.alloc (.cells #[.pointer none] 225)).alloc (.cells #[.bool false, .slice none 0 0] 168))
  have S3 : BlkAt W3 w.heap.size #[.pointer none] 225 := by rw [hW]; exact BlkAt.keep (BlkAt.new _ _ _) (Below.alloc' (Below.alloc' (Below.refl _ _) _) _)
  have hd3 : Below W3.heap.size W3 W3.drew := (Below.refl _ _).drew
  obtain ⟨⟨a1, n1, c1, hA, hf1⟩, hU4, z4⟩ := IntFr.own h4 (A3.keep hd3)
  have hd4 : Below w4.heap.size w4 w4.drew := (Below.refl _ _).drew
  have B4 : NewInt w4 (w.heap.size + 1 + 1) 0 := NewInt.updU (B3.keep hd3) hU4 (Nat.succ_ne_self _)
  obtain ⟨⟨a2, n2, c2, hD, hf2⟩, hU5, z5⟩ := IntFr.own h5 (B4.keep hd4)
  have s3 := hd3.size
  have s4 := hU4.size
  have s5 := hd4.size
  have la := hA.num.inLt
  have hp5 : ∀ k, InB a1 k → ¬ k = w.heap.size + 1 + 1 := fun k hk e => by
    subst e
    exact (B4.blk.notIn hA.num) hk
  refine ⟨a1, n1, c1, a2, n2, c2, ⟨(hA.keep hd4).apart hU5 (by omega) hp5, hD, fun k hk => by have := hf1 k hk; omega, fun k hk => by have := hf2 k hk; omega, fun k hk hk' => by have := la k hk; have := hf2 k hk'; omega, ?_, ?_⟩, z4, z5⟩
  · exact hU5.blk (BlkAt.keep (hU4.blk (BlkAt.keep S3 hd3) (by omega)) hd4) (by omega)
  · exact hU5.below (Below.then (hU4.below (Below.then hB3 (Nat.le_refl _) hd3) (by omega) (fun k _ e => by omega)) (Nat.le_refl _) hd4) (by omega) (fun k _ e => by omega)
end Go.Proofs.YtgmienggfaahlaaGreatDoor
namespace Go.Bg
open Go.RowKit Dg
theorem RatAt.signed {T : TypeId} {w : World} {b : Nat} {s t : Bool} {N D : Nat} (h : RatAt T w b s N D) (hz : t = true → 0 < N) : RatAt T (w.setCell ⟨b, 0, none⟩ (.bool t)) b t N D :=
  ⟨h.a.signed hz, h.d.other h.a.blk (UpdI.set0 w b 0 (.bool t)) (.inr (.inr (by omega))), h.pos⟩
end Go.Bg
namespace Go.Proofs.YtgmienggfaahlaaGreatDoor
open Go.RowKit Go.Bg Dg
theorem infoBigRatSize : (Tryz.prog.info? 179).map (·.size) = some 4 := by kernel_rfl
theorem ratSetInt64_new (b : Nat) (x : Int) (hx : -9223372036854775808 ≤ x ∧ x < 9223372036854775808) (w : World) (h : NewRat w b) :
    Calls Tryz.prog 175 #[.pointer (some ⟨b, 0, none⟩), .int .i64 x] w (RatIs b (decide (x < 0)) x.natAbs 1 w) := by
  have HS := Lib.hid (setInt64_any b 0 x hx w h.a)
  have HQ := Lib.hid (BlkAt.cell h 3)
  have HQ2 := Lib.hid (BlkAt.cell h 2)
  clear h hx
  go_enter Tryz.func175, Tryz.ntmps175
  go_wp2_with fail
  refine HS.out.mono ?_
  rintro e w1 ⟨rfl, hI, hU⟩
  have q3 : w1.cell? ⟨b, 3, none⟩ = some (.slice none 0 0) := by rw [hU.rest 3 (by decide) (by decide), HQ.out]; rfl
  have q2 : w1.cell? ⟨b, 2, none⟩ = some (.bool false) := by rw [hU.rest 2 (by decide) (by decide), HQ2.out]; rfl
  have Q2 := Lib.hid q2
  have HI := Lib.hid hI
  have HU := Lib.hid hU
  clear q2 hI hU
  go_wp2_with fail
  refine (setWord_nil 1 (by omega) _).mono ?_
  rintro e w2 ⟨a, n, c, rfl, hN, hB⟩
  have HI2 := Lib.hid (HI.out.keep hB)
  have k3 := cell_keep q3 hB
  have HR := Lib.hid (ratAt_den HI2.out (cell_keep Q2.out hB) ⟨_, k3⟩ hN (by omega))
  have HF := Lib.hid ((HU.out.toB.trans (UpdB.of_below hB)).trans (UpdB.set w2 b 3 (.slice a n c)))
  have f3 := HI2.out.blk.frozen 3
  clear q3 hN hB
  go_wp2
  go_ret
  exact ⟨rfl, HR.out, HF.out⟩
theorem newRat_any (w : World) : Calls Tryz.prog 68 #[] w fun e w' => e = .returned (.pointer (some ⟨w.heap.size, 0, none⟩)) ∧ w' = w.alloc (.cells #[.bool false, .slice none 0 0, .bool false, .slice none 0 0] 179) := by
  go_enter Tryz.func68, Tryz.ntmps68
  go_wp2
  go_ret
  exact ⟨rfl, rfl⟩
theorem newRat_is (w : World) : NewRat (w.alloc (.cells #[.bool false, .slice none 0 0, .bool false, .slice none 0 0] 179)) w.heap.size := BlkAt.new w _ _
theorem i64tor_any (x : Int) (hx : -9223372036854775808 ≤ x ∧ x < 9223372036854775808) (w : World) :
    Calls Tryz.prog 104 #[.int .i64 x] w fun e w' => ∃ b, e = .returned (.agg #[.pointer (some ⟨b, 0, none⟩)]) ∧ RatAt 155 w' b (decide (x < 0)) x.natAbs 1 ∧ Below w.heap.size w w' := by
  have HX := Lib.hid hx
  clear hx
  go_enter Tryz.func104, Tryz.ntmps104
  go_wp2_with fail
  refine (newRat_any _).mono ?_
  rintro e w1 ⟨rfl, hw1⟩
  have hs1 : w1.heap.size = w.heap.size + 1 + 1 := by rw [hw1]; simp
  have hb1 : Below w.heap.size w w1 := by rw [hw1]; exact Below.alloc' (Below.alloc' (Below.refl _ _) _) _
  have hn1 : NewRat w1 (w.heap.size + 1) := by rw [hw1]; simpa using newRat_is (w.alloc (.cells #[.pointer none] 102))
  have hl : BlkAt w1 w.heap.size #[.pointer none] 102 := by rw [hw1]; exact (BlkAt.new _ _ _).keep ((Below.refl _ _).alloc (Nat.le_refl _) _)
  have HW1 := Lib.hid hw1
  clear hw1
  go_wp2_with fail
  refine (ratSetInt64_new (w.heap.size + 1) x HX.out _ hn1).mono ?_
  rintro e w2 ⟨rfl, hI, hU⟩
  have hl2 := hU.upd.blk hl (Nat.ne_of_lt (Nat.lt_succ_self _))
  have HI := Lib.hid (hI.upd (Upd.set1 w2 w.heap.size 0 (.pointer (some ⟨w.heap.size + 1, 0, none⟩))) (Nat.ne_of_gt (Nat.lt_succ_self _)) (fun k _ e => by subst e; exact ⟨_, _, hl2, by decide⟩))
  have HB := Lib.hid ((hU.below hb1 (by omega) (Nat.le_add_right _ 1)).setCell (p := ⟨w.heap.size, 0, none⟩) (Nat.le_refl _) (.pointer (some ⟨w.heap.size + 1, 0, none⟩)))
  have c0 := hl2.cell 0
  have f0 := hl2.frozen 0
  simp only [List.getElem?_toArray, List.getElem?_cons_zero] at c0
  clear hl hl2 hI hU hn1 hb1
  go_wp2
  exact bodyPost_ret (v := .agg #[.pointer (some ⟨w.heap.size + 1, 0, none⟩)]) (by simp [results, Tryz.results104, go_sem, c0]) rfl ⟨_, rfl, HI.out, HB.out⟩
theorem itor_any (b o : Nat) (s : Bool) (N L : Nat) (w : World) (h : BigAt 155 w b o s N) (hL : L ≤ 1000000) (hN : N < W64 ^ L) :
    Calls Tryz.prog 106 #[.agg #[.pointer (some ⟨b, o, none⟩)]] w fun e w' => ∃ b2, e = .returned (.agg #[.pointer (some ⟨b2, 0, none⟩)]) ∧ RatAt 155 w' b2 s N 1 ∧ Below w.heap.size w w' := by
  obtain ⟨W0, hW0⟩ : ∃ W0, W0 = (w.alloc (.cells #[.pointer (some ⟨b, o, none⟩)] 98)).alloc (.cells #[.pointer none] 102) := ⟨_, rfl⟩
  have HS0 := Lib.hid (show W0.heap.size = w.heap.size + 1 + 1 from by rw [hW0]; simp)
  have HW := Lib.hid hW0
  have hb0 : Below w.heap.size w W0 := by rw [hW0]; exact Below.alloc' (Below.alloc' (Below.refl _ _) _) _
  have hx : W0.cell? ⟨w.heap.size, 0, none⟩ = some (.pointer (some ⟨b, o, none⟩)) := by rw [hW0]; exact alloc_keep _ _ (alloc_new _ _ _ rfl rfl)
  have hl : BlkAt W0 (w.heap.size + 1) #[.pointer none] 102 := by
    rw [hW0]
    have := BlkAt.new (w.alloc (.cells #[.pointer (some ⟨b, o, none⟩)] 98)) #[.pointer none] 102
    simpa using this
  have HH := Lib.hid (h.keep hb0)
  have HN := Lib.hid hN
  clear hW0 h hN
  go_enter Tryz.func106, Tryz.ntmps106
  go_upto_region 1 with fail
  rw [← HW.out]
  have hd0 : Below W0.heap.size W0 W0.drew := (Below.refl _ _).drew
  go_region_held3 (fun w' => w'.cell? ⟨w.heap.size, 0, none⟩ = some (.pointer (some ⟨b, o, none⟩)))
    (first | exact hx | exact cell_keep hx (by assumption) | (rw [cell?_setCell_ne (by omega)]; exact cell_keep hx (by assumption)))
    (first | (go_at_call 68; (with_reducible refine (newRat_any _).mono ?_); rintro e w1 ⟨rfl, hw1⟩; have hn1 : NewRat w1 W0.heap.size := (by rw [hw1]; exact newRat_is W0.drew); have hB1 : Below W0.heap.size W0 w1 := (by rw [hw1]; exact Below.alloc' hd0 _); have HS1 := Lib.hid (show w1.heap.size = W0.heap.size + 1 from by rw [hw1]; simp); clear hw1) | (go_at_call 168; (with_reducible refine (ratSetInt_new W0.heap.size b o s N _ ?_ ?_ ?_ L ?_ ?_).mono ?_); exact hn1; exact HH.out.keep hB1; exact Nat.ne_of_gt HH.out.blk.lt; omega; exact HN.out; rintro e w3 ⟨rfl, hJ, hU⟩; have hbg : Below W0.heap.size W0 w3 := hU.below hB1 (by have := HS1.out; omega) (Nat.le_refl _); have hl3 := hl.keep hbg; have c0 := hl3.cell 0; have f0 := hl3.frozen 0; simp only [List.getElem?_toArray, List.getElem?_cons_zero] at c0))
  have HI := Lib.hid (hJ.upd (Upd.set1 w3 (w.heap.size + 1) 0 (.pointer (some ⟨W0.heap.size, 0, none⟩))) (by have := HS0.out; omega) (fun k _ e => by subst e; exact ⟨_, _, hl3, by decide⟩))
  have HB := Lib.hid ((Below.then hb0 (Nat.le_refl _) hbg).setCell (p := ⟨w.heap.size + 1, 0, none⟩) (Nat.le_add_right _ 1) (.pointer (some ⟨W0.heap.size, 0, none⟩)))
  go_wp2
  exact bodyPost_ret (v := .agg #[.pointer (some ⟨W0.heap.size, 0, none⟩)]) (by simp [results, Tryz.results106, go_sem, c0]) rfl ⟨_, rfl, HI.out, HB.out⟩
theorem rz_sg {s : Bool} {N : Nat} (h : s = true → 0 < N) : (⟨s, N, 1⟩ : Rt) = rz (sg s N) := by
  rw [← whole_rz]
  unfold Rt.whole
  cases s
  · rfl
  · simp [h rfl]
theorem toFloat_any (v : Value) (r : Rt) (w : World) (h : CNum w v r) (L : Nat) (hL : L ≤ 63) (hN : r.num < W64 ^ L) :
    Calls Tryz.prog 42 #[v] w fun e w' => ∃ u, e = .returned u ∧ CRat w' u r ∧ Below w.heap.size w w' := by
  rcases h with ⟨z, ⟨rfl, hf⟩ | ⟨b, o, s, N, rfl, hI, rfl⟩, rfl⟩ | ⟨b, s, N, D, rfl, hR, rfl⟩
  · obtain ⟨t1, t2, t3, t4, t5, t6, t7, t8, t9⟩ := ta_int64Val
    have HF := Lib.hid (fit64_bd hf)
    clear hf hN
    go_enter Tryz.func42, Tryz.ntmps42
    go_wp2_with fail
    refine (i64tor_any z HF.out _).mono ?_
    rintro e w1 ⟨b, rfl, hR, hB⟩
    go_wp2
    go_ret
    exact ⟨_, rfl, ⟨b, _, _, _, rfl, hR, rfl⟩, hB⟩
  · obtain ⟨t1, t2, t3, t4, t5, t6, t7, t8, t9⟩ := ta_intVal
    have HN := Lib.hid (show N < W64 ^ L from by have := hN; unfold rz at this; simpa [sg_nat] using this)
    obtain ⟨W0, hW0⟩ : ∃ W0, W0 = w.alloc (.cells #[.pointer (some ⟨b, o, none⟩)] 98) := ⟨_, rfl⟩
    have HW := Lib.hid hW0
    have hb0 : Below w.heap.size w W0 := by rw [hW0]; exact Below.alloc' (Below.refl _ _) _
    have hx : W0.cell? ⟨w.heap.size, 0, none⟩ = some (.pointer (some ⟨b, o, none⟩)) := by rw [hW0]; exact alloc_new _ _ _ rfl rfl
    have HH := Lib.hid (hI.keep hb0)
    clear hW0 hI hN
    go_enter Tryz.func42, Tryz.ntmps42
    go_wp2_with fail
    rw [← HW.out]
    refine (smallInt_any b o s N L _ HH.out HN.out hL).mono ?_
    rintro e w1 ⟨rfl, rfl⟩
    go_wp2_with fail
    refine (itor_any b o s N L _ HH.out (by omega) HN.out).mono ?_
    rintro e w2 ⟨b2, rfl, hR, hB⟩
    have hbf := Below.then hb0 (Nat.le_refl _) hB
    go_wp2
    go_ret
    exact ⟨_, rfl, ⟨b2, _, _, _, rfl, hR, (rz_sg hR.a.zero).symm⟩, hbf⟩
  · obtain ⟨t1, t2, t3, t4, t5, t6, t7, t8, t9⟩ := ta_ratVal
    have HR := Lib.hid hR
    clear hR hN
    go_enter Tryz.func42, Tryz.ntmps42
    go_wp2
    go_ret
    exact ⟨_, rfl, ⟨b, _, _, _, rfl, HR.out, rfl⟩, Below.refl _ _⟩
theorem FracUp.int {w w1 : World} {zb : Nat} (h : NewRat w zb) {x : Nat} {a : Option Addr} {n c : Nat} (hQ : BigN 155 w1 a n c x) (hU : Upd (InB none) w w1) (hp : ∀ k, InB a k → InB none k ∨ w.heap.size ≤ k) (s : Bool) :
    FracUp w zb s x 0 ((w1.setCell ⟨zb, 1, none⟩ (.slice a n c)).setCell ⟨zb, 0, none⟩ (.bool s)) a n c none 0 0 :=
  ((FracUp.start h).setA (Below.refl _ _) hU hQ hp).neg s
theorem rok_over (s : Bool) (N D : Nat) (hD : 0 < D) : ROk (Rt.over s N D) := by
  have hg : 0 < Nat.gcd N D := Nat.gcd_pos_of_pos_right _ hD
  refine ⟨Nat.div_pos (Nat.gcd_le_right _ hD) hg, fun h => ?_, ?_⟩
  · have h' : (s && decide (0 < N)) = true := h
    have hN : 0 < N := by simpa using (Bool.and_eq_true_iff.1 h').2
    exact Nat.div_pos (Nat.gcd_le_left _ hN) hg
  · show Nat.gcd (N / Nat.gcd N D) (D / Nat.gcd N D) = 1
    rw [Nat.gcd_div (Nat.gcd_dvd_left _ _) (Nat.gcd_dvd_right _ _), Nat.div_self hg]
abbrev MadeAs (x : Vl) (P : World → Value → Prop) : Prop := ∀ w, VlAt w x → Calls Tryz.prog 38 #[.agg #[.int .i64 x.kind, .bool x.truth, .string x.text, .bool x.neg, .slice x.wa x.wn x.wc, .slice x.da x.dn x.dc, .bool x.ineg, .slice x.ia x.inn x.ic, .slice x.ea x.en x.ec]] w fun e w' => ∃ u, e = .returned u ∧ P w' u ∧ Below w.heap.size w w'
theorem over_lt {s : Bool} {N D B : Nat} (hN : N < B) (hD : D < B) : (Rt.over s N D).num < B ∧ (Rt.over s N D).den < B :=
  ⟨Nat.lt_of_le_of_lt (Nat.div_le_self _ _) hN, Nat.lt_of_le_of_lt (Nat.div_le_self _ _) hD⟩
theorem implBinaryQ_any (k : Nat) (hk : k < 10) (x y : Vl) (P1 P2 : World → Value → Prop) (z : Rt) (L : Nat) (w : World) (h1 : VlAt w x) (h2 : VlAt w y) (k1 : MadeAs x P1) (k2 : MadeAs y P2) (kk : ∀ (w w' : World) v, P1 w v → Below w.heap.size w w' → P1 w' v) (hL : L ≤ 100000) (hz : z.num < W64 ^ L ∧ z.den < W64 ^ L ∧ ROk z)
    (H : ∀ (v1 v2 : Value) (w' : World), Below w.heap.size w w' → P1 w' v1 → P2 w' v2 →
      Calls Tryz.prog 37 #[v1, .int .i64 (opTok k), v2] w' fun e w'' => ∃ u, e = .returned u ∧ CRat w'' u z ∧ Below w'.heap.size w' w'') :
    Calls Tryz.prog 15 #[.int .i64 k, .agg #[.int .i64 x.kind, .bool x.truth, .string x.text, .bool x.neg, .slice x.wa x.wn x.wc, .slice x.da x.dn x.dc, .bool x.ineg, .slice x.ia x.inn x.ic, .slice x.ea x.en x.ec], .agg #[.int .i64 y.kind, .bool y.truth, .string y.text, .bool y.neg, .slice y.wa y.wn y.wc, .slice y.da y.dn y.dc, .bool y.ineg, .slice y.ia y.inn y.ic, .slice y.ea y.en y.ec]] w (GivesV (IsQ z L) w) := by
  obtain ⟨W0, hW0⟩ : ∃ W0, W0 = ((w.alloc (.cells #[.int .i64 x.kind, .bool x.truth, .string x.text, .bool x.neg, .slice x.wa x.wn x.wc, .slice x.da x.dn x.dc, .bool x.ineg, .slice x.ia x.inn x.ic, .slice x.ea x.en x.ec] 26)).alloc (.cells #[.int .i64 y.kind, .bool y.truth, .string y.text, .bool y.neg, .slice y.wa y.wn y.wc, .slice y.da y.dn y.dc, .bool y.ineg, .slice y.ia y.inn y.ic, .slice y.ea y.en y.ec] 26)).alloc (.cells #[.int .i64 0, .bool false, .string ⟨#[]⟩, .bool false, .slice none 0 0, .slice none 0 0, .bool false, .slice none 0 0, .slice none 0 0] 26) := ⟨_, rfl⟩
  have HW := Lib.hid hW0
  have hb0 : Below w.heap.size w W0 := by rw [hW0]; exact Below.alloc' (Below.alloc' (Below.alloc' (Below.refl _ _) _) _) _
  have X : Box9 W0 w.heap.size x := by rw [hW0]; exact ((Box9.new w x _ rfl).alloc _).alloc _
  have Y : Box9 W0 (w.heap.size + 1) y := by rw [hW0]; exact (Box9.new _ y _ (by simp)).alloc _
  have hR : BlkAt W0 (w.heap.size + 1 + 1) #[.int .i64 0, .bool false, .string ⟨#[]⟩, .bool false, .slice none 0 0, .slice none 0 0, .bool false, .slice none 0 0, .slice none 0 0] 26 := by
    rw [hW0]
    have := BlkAt.new ((w.alloc (.cells #[.int .i64 x.kind, .bool x.truth, .string x.text, .bool x.neg, .slice x.wa x.wn x.wc, .slice x.da x.dn x.dc, .bool x.ineg, .slice x.ia x.inn x.ic, .slice x.ea x.en x.ec] 26)).alloc (.cells #[.int .i64 y.kind, .bool y.truth, .string y.text, .bool y.neg, .slice y.wa y.wn y.wc, .slice y.da y.dn y.dc, .bool y.ineg, .slice y.ia y.inn y.ic, .slice y.ea y.en y.ec] 26)) #[.int .i64 0, .bool false, .string ⟨#[]⟩, .bool false, .slice none 0 0, .slice none 0 0, .bool false, .slice none 0 0, .slice none 0 0] 26
    simpa using this
  have HX := Lib.hid (h1.keep hb0)
  have HY := Lib.hid (h2.keep hb0)
  have K1 := Lib.hid k1
  have K2 := Lib.hid k2
  have HZ := Lib.hid hz
  have HH := Lib.hid H
  clear hW0 h1 h2 k1 k2 hz H
  go_enter Tryz.func15, Tryz.ntmps15
  go_upto_region 1 with fail
  rw [← HW.out]
  go_wp2_with fail
  refine (operator_any k hk _).mono ?_
  rintro e w1 ⟨rfl, hB1⟩
  have hb1 := Below.then hb0 (Nat.le_refl _) hB1
  have hR1 := hR.keep hB1
  have X1 := X.keep hB1
  have Y1 := Y.keep hB1
  have HX1 := Lib.hid (HX.out.keep hB1)
  have HY1 := Lib.hid (HY.out.keep hB1)
  go_wp2_with fail
  have hd0 : Below w1.heap.size w1 w1.drew := (Below.refl _ _).drew
  go_region_held3 (fun w' => (w'.cell? ⟨w.heap.size, 0, none⟩ = some (.int .i64 x.kind) ∧ w'.cell? ⟨w.heap.size, 1, none⟩ = some (.bool x.truth) ∧ w'.cell? ⟨w.heap.size, 2, none⟩ = some (.string x.text) ∧ w'.cell? ⟨w.heap.size, 3, none⟩ = some (.bool x.neg) ∧ w'.cell? ⟨w.heap.size, 4, none⟩ = some (.slice x.wa x.wn x.wc) ∧ w'.cell? ⟨w.heap.size, 5, none⟩ = some (.slice x.da x.dn x.dc) ∧ w'.cell? ⟨w.heap.size, 6, none⟩ = some (.bool x.ineg) ∧ w'.cell? ⟨w.heap.size, 7, none⟩ = some (.slice x.ia x.inn x.ic) ∧ w'.cell? ⟨w.heap.size, 8, none⟩ = some (.slice x.ea x.en x.ec)) ∧ (w'.cell? ⟨(w.heap.size + 1), 0, none⟩ = some (.int .i64 y.kind) ∧ w'.cell? ⟨(w.heap.size + 1), 1, none⟩ = some (.bool y.truth) ∧ w'.cell? ⟨(w.heap.size + 1), 2, none⟩ = some (.string y.text) ∧ w'.cell? ⟨(w.heap.size + 1), 3, none⟩ = some (.bool y.neg) ∧ w'.cell? ⟨(w.heap.size + 1), 4, none⟩ = some (.slice y.wa y.wn y.wc) ∧ w'.cell? ⟨(w.heap.size + 1), 5, none⟩ = some (.slice y.da y.dn y.dc) ∧ w'.cell? ⟨(w.heap.size + 1), 6, none⟩ = some (.bool y.ineg) ∧ w'.cell? ⟨(w.heap.size + 1), 7, none⟩ = some (.slice y.ia y.inn y.ic) ∧ w'.cell? ⟨(w.heap.size + 1), 8, none⟩ = some (.slice y.ea y.en y.ec)))
    (first | with_reducible exact ⟨X1.all, Y1.all⟩ | with_reducible exact ⟨(X1.keep (by assumption)).all, (Y1.keep (by assumption)).all⟩ | with_reducible exact ⟨((X1.keep (by assumption)).set9 (by omega) _ _ _ _ _ _ _ _ _).all, ((Y1.keep (by assumption)).set9 (by omega) _ _ _ _ _ _ _ _ _).all⟩)
    (first | (go_at_call 38; (with_reducible refine (K1.out _ ?_).mono ?_); exact HX1.out.keep (by assumption); rintro e w2 ⟨u1, rfl, hu1, hB2⟩; have hb2 := Below.then hd0 (Nat.le_refl _) hB2) | (go_at_call 38; (with_reducible refine (K2.out _ ?_).mono ?_); exact HY1.out.keep (by assumption); rintro e w3 ⟨u2, rfl, hu2, hB3⟩; have hb3 := Below.then hb2 (Nat.le_refl _) hB3) | (go_at_call 37; have q1 := Below.then hb1 (Nat.le_refl _) hb3; have q2 := kk _ _ _ hu1 hB3; (with_reducible refine (HH.out u1 u2 _ q1 q2 hu2).mono ?_); clear q1 q2; rintro e w4 ⟨u, rfl, hu, hB4⟩; have hb4 := Below.then hb3 (Nat.le_refl _) hB4) | (go_at_call 36; (with_reducible refine (toldRat_any u z _ ?_ HZ.out.2.2 L hL HZ.out.1 HZ.out.2.1).mono ?_); exact hu; rintro e w5 ⟨o, rfl, hy, hP, hB5⟩; have hb5 := Below.then hb4 (Nat.le_refl _) hB5; have hR5 := hR1.keep hb5; have HE := Lib.hid (givesV_end hR5 (by omega) (Below.then hb1 (Nat.le_refl _) hb5) hy hP); have oc0 := (hR5).cell 0; have oc1 := (hR5).cell 1; have oc2 := (hR5).cell 2; have oc3 := (hR5).cell 3; have oc4 := (hR5).cell 4; have oc5 := (hR5).cell 5; have oc6 := (hR5).cell 6; have oc7 := (hR5).cell 7; have oc8 := (hR5).cell 8; simp only [List.getElem?_toArray, List.getElem?_cons_zero, List.getElem?_cons_succ] at oc0 oc1 oc2 oc3 oc4 oc5 oc6 oc7 oc8; have of0 := (hR5).frozen 0; have of1 := (hR5).frozen 1; have of2 := (hR5).frozen 2; have of3 := (hR5).frozen 3; have of4 := (hR5).frozen 4; have of5 := (hR5).frozen 5; have of6 := (hR5).frozen 6; have of7 := (hR5).frozen 7; have of8 := (hR5).frozen 8))
  go_wp2
  exact bodyPost_ret (v := .agg #[.int .i64 o.kind, .bool o.truth, .string o.text, .bool o.neg, .slice o.wa o.wn o.wc, .slice o.da o.dn o.dc, .bool o.ineg, .slice o.ia o.inn o.ic, .slice o.ea o.en o.ec]) (by simp [results, Tryz.results15, go_sem, oc0, oc1, oc2, oc3, oc4, oc5, oc6, oc7, oc8]) rfl HE.out
def cmpQ (r q : Rt) : Int := cmpZ (sg r.neg (r.num * q.den)) (sg q.neg (q.num * r.den))
theorem cmpQ_rz (x y : Int) : cmpQ (rz x) (rz y) = cmpZ x y := by
  show cmpZ (sg (decide (x < 0)) (x.natAbs * 1)) (sg (decide (y < 0)) (y.natAbs * 1)) = _
  rw [Nat.mul_one, Nat.mul_one, sg_natAbs, sg_natAbs]
theorem ordRat_any (v : Value) (r : Rt) (w : World) (h : CRat w v r) :
    Calls Tryz.prog 132 #[v] w fun e w' => e = .returned (.int .i64 4) ∧ w = w' := by
  obtain ⟨b, s, N, D, rfl, -, -⟩ := h
  obtain ⟨t1, t2, t3, t4, t5, t6, t7, t8, t9⟩ := ta_ratVal
  go_enter Tryz.func132, Tryz.ntmps132
  go_wp2
  go_ret
  exact ⟨rfl, rfl⟩
theorem match0IR_any (v1 v2 : Value) (z : Int) (r : Rt) (w : World) (h1 : CInt w v1 z) (h2 : CRat w v2 r) (L : Nat) (hL : L ≤ 63) (hz : z.natAbs < W64 ^ L) :
    Calls Tryz.prog 133 #[v1, v2] w fun e w' => ∃ u, e = .returned (.tuple #[u, v2]) ∧ CRat w' u (rz z) ∧ CRat w' v2 r ∧ Below w.heap.size w w' := by
  have H2 := Lib.hid h2
  obtain ⟨b', s', N', D', rfl, -, -⟩ := h2
  obtain ⟨q1, q2, q3, q4, q5, q6, q7, q8, q9⟩ := ta_ratVal
  rcases h1 with ⟨rfl, hf⟩ | ⟨b, o, s, N, rfl, hI, rfl⟩
  · obtain ⟨t1, t2, t3, t4, t5, t6, t7, t8, t9⟩ := ta_int64Val
    have HF := Lib.hid (fit64_bd hf)
    clear hf hz
    go_enter Tryz.func133, Tryz.ntmps133
    go_wp2_with fail
    refine (i64tor_any z HF.out _).mono ?_
    rintro e w1 ⟨b, rfl, hR, hB⟩
    have HR := Lib.hid hR
    have HB := Lib.hid hB
    clear hR hB
    go_wp2
    exact bodyPost_ret (v := .tuple #[.iface 102 (.agg #[.pointer (some ⟨b, 0, none⟩)]), .iface 102 (.agg #[.pointer (some ⟨b', 0, none⟩)])]) (by simp [results, Tryz.results133, go_sem]) rfl
      ⟨_, rfl, ⟨b, _, _, _, rfl, HR.out, rfl⟩, H2.out.keep HB.out, HB.out⟩
  · obtain ⟨t1, t2, t3, t4, t5, t6, t7, t8, t9⟩ := ta_intVal
    have HN := Lib.hid (show N < W64 ^ L from by rwa [sg_nat] at hz)
    obtain ⟨W0, hW0⟩ : ∃ W0, W0 = w.alloc (.cells #[.pointer (some ⟨b, o, none⟩)] 98) := ⟨_, rfl⟩
    have HW := Lib.hid hW0
    have hb0 : Below w.heap.size w W0 := by rw [hW0]; exact Below.alloc' (Below.refl _ _) _
    have hx : W0.cell? ⟨w.heap.size, 0, none⟩ = some (.pointer (some ⟨b, o, none⟩)) := by rw [hW0]; exact alloc_new _ _ _ rfl rfl
    have HH := Lib.hid (hI.keep hb0)
    have HZ := Lib.hid hI.zero
    clear hW0 hI hz
    go_enter Tryz.func133, Tryz.ntmps133
    go_wp2_with fail
    rw [← HW.out]
    refine (itor_any b o s N L _ HH.out (by omega) HN.out).mono ?_
    rintro e w1 ⟨b2, rfl, hR, hB⟩
    have HR := Lib.hid hR
    have HB := Lib.hid (Below.then hb0 (Nat.le_refl _) hB)
    clear hR hB hb0
    go_wp2
    exact bodyPost_ret (v := .tuple #[.iface 102 (.agg #[.pointer (some ⟨b2, 0, none⟩)]), .iface 102 (.agg #[.pointer (some ⟨b', 0, none⟩)])]) (by simp [results, Tryz.results133, go_sem]) rfl
      ⟨_, rfl, ⟨b2, _, _, _, rfl, HR.out, (rz_sg HZ.out).symm⟩, H2.out.keep HB.out, HB.out⟩
theorem ordOf_or {w : World} {v : Value} {z : Int} (h : CInt w v z) : ordOf v = 2 ∨ ordOf v = 3 := by
  rcases h with ⟨rfl, _⟩ | ⟨b, o, s, N, rfl, _, _⟩
  · exact .inl rfl
  · exact .inr rfl
def MatR (r q : Rt) (w : World) (e : Ending) (w' : World) : Prop := ∃ u1 u2, e = .returned (.tuple #[u1, u2]) ∧ CRat w' u1 r ∧ CRat w' u2 q ∧ Below w.heap.size w w'
theorem matchRR_any (v1 v2 : Value) (r q : Rt) (w : World) (h1 : CRat w v1 r) (h2 : CRat w v2 q) : Calls Tryz.prog 57 #[v1, v2] w (MatR r q w) := by
  have H1 := Lib.hid h1
  have H2 := Lib.hid h2
  clear h1 h2
  go_enter Tryz.func57, Tryz.ntmps57
  go_wp2_with fail
  refine (ordRat_any _ r _ H1.out).mono ?_
  rintro e w1 ⟨rfl, rfl⟩
  go_wp2_with fail
  refine (ordRat_any _ q _ H2.out).mono ?_
  rintro e w1 ⟨rfl, rfl⟩
  go_wp2
  exact bodyPost_ret (v := .tuple #[v1, v2]) (by simp [results, Tryz.results57, go_sem]) rfl ⟨_, _, rfl, H1.out, H2.out, Below.refl _ _⟩
theorem matchIR_any (v1 v2 : Value) (z : Int) (q : Rt) (w : World) (h1 : CInt w v1 z) (h2 : CRat w v2 q) (L : Nat) (hL : L ≤ 63) (hz : z.natAbs < W64 ^ L) : Calls Tryz.prog 57 #[v1, v2] w (MatR (rz z) q w) := by
  have ho := ordOf_or h1
  have H1 := Lib.hid h1
  have H2 := Lib.hid h2
  have HZ := Lib.hid hz
  clear h1 h2 hz
  go_enter Tryz.func57, Tryz.ntmps57
  go_wp2_with fail
  refine (ordInt_any _ z _ H1.out).mono ?_
  rintro e w1 ⟨rfl, rfl⟩
  go_wp2_with fail
  refine (ordRat_any _ q _ H2.out).mono ?_
  rintro e w1 ⟨rfl, rfl⟩
  generalize ordOf v1 = k at *
  rcases ho with rfl | rfl
  all_goals
    go_wp2_with fail
    refine (match0IR_any v1 v2 z q _ H1.out H2.out L hL HZ.out).mono ?_
    rintro e w1 ⟨u, rfl, hu, hv, hB⟩
    have HU := Lib.hid hu
    have HV := Lib.hid hv
    have HB := Lib.hid hB
    clear hu hv hB
    go_wp2
    exact bodyPost_ret (v := .tuple #[u, v2]) (by simp [results, Tryz.results57, go_sem]) rfl ⟨_, _, rfl, HU.out, HV.out, HB.out⟩
theorem matchRI_any (v1 v2 : Value) (z : Int) (q : Rt) (w : World) (h1 : CInt w v1 z) (h2 : CRat w v2 q) (L : Nat) (hL : L ≤ 63) (hz : z.natAbs < W64 ^ L) : Calls Tryz.prog 57 #[v2, v1] w (MatR q (rz z) w) := by
  have ho := ordOf_or h1
  have H1 := Lib.hid h1
  have H2 := Lib.hid h2
  have HZ := Lib.hid hz
  clear h1 h2 hz
  go_enter Tryz.func57, Tryz.ntmps57
  go_wp2_with fail
  refine (ordRat_any _ q _ H2.out).mono ?_
  rintro e w1 ⟨rfl, rfl⟩
  go_wp2_with fail
  refine (ordInt_any _ z _ H1.out).mono ?_
  rintro e w1 ⟨rfl, rfl⟩
  generalize ordOf v1 = k at *
  rcases ho with rfl | rfl
  all_goals
    go_wp2_with fail
    refine (match0IR_any v1 v2 z q _ H1.out H2.out L hL HZ.out).mono ?_
    rintro e w1 ⟨u, rfl, hu, hv, hB⟩
    have HU := Lib.hid hu
    have HV := Lib.hid hv
    have HB := Lib.hid hB
    clear hu hv hB
    go_wp2
    exact bodyPost_ret (v := .tuple #[v2, u]) (by simp [results, Tryz.results57, go_sem]) rfl ⟨_, _, rfl, HV.out, HU.out, HB.out⟩
theorem field_ratVal (p : Value) (w : World) : (Instr.field 102 (.agg #[p]) 0).run Tryz.prog w = .ok p w := by kernel_rfl
theorem compareMat_any (k : Nat) (hk : k < 6) (v1 v2 : Value) (r q : Rt) (w : World) (hK : Thr w) (hm : Calls Tryz.prog 57 #[v1, v2] w (MatR r q w)) (L : Nat) (hL : L < 40) (hr : r.num < W64 ^ L ∧ r.den < W64 ^ L) (hq : q.num < W64 ^ L ∧ q.den < W64 ^ L) :
    Calls Tryz.prog 41 #[v1, .int .i64 (cmpTok k), v2] w fun e w' => e = .returned (.bool (cmpB k (cmpQ r q))) ∧ Below w.heap.size w w' := by
  have HM := Lib.hid hm
  have HK := Lib.hid hK
  clear hm hK
  go_enter Tryz.func41, Tryz.ntmps41
  go_wp2_with fail
  refine HM.out.mono ?_
  rintro e w1 ⟨u1, u2, rfl, ⟨b1, s, N, D, rfl, hR, rfl⟩, ⟨b2, t, M, E, rfl, hQ, rfl⟩, hB⟩
  obtain ⟨t1, t2, t3, t4, t5, t6, t7, t8, t9⟩ := ta_ratVal
  have HR := Lib.hid hR
  have HQ := Lib.hid hQ
  have HB := Lib.hid hB
  have hfld := field_ratVal
  clear hR hQ hB
  obtain ⟨W2, hW2⟩ : ∃ W2, W2 = w1.alloc (.cells #[.pointer (some ⟨b1, 0, none⟩)] 102) := ⟨_, rfl⟩
  have hb2 : Below w1.heap.size w1 W2 := by rw [hW2]; exact Below.alloc' (Below.refl _ _) _
  have c0 : W2.cell? ⟨w1.heap.size, 0, none⟩ = some (.pointer (some ⟨b1, 0, none⟩)) := by rw [hW2]; exact alloc_new _ _ _ rfl rfl
  have HW2 := Lib.hid hW2
  clear hW2
  go_wp2_with fail
  rw [← HW2.out]
  have HB2 := Lib.hid (Below.then HB.out (Nat.le_refl _) hb2)
  have HR2 := Lib.hid (HR.out.keep hb2)
  have HQ2 := Lib.hid (HQ.out.keep hb2)
  have HK2 := Lib.hid (HK.out.keep HB2.out)
  have hd0 : Below W2.heap.size W2 W2.drew := (Below.refl _ _).drew
  clear HR HQ HK hb2 HW2
  go_region_held3 (fun w' => w'.cell? ⟨w1.heap.size, 0, none⟩ = some (.pointer (some ⟨b1, 0, none⟩)))
    (first | with_reducible exact c0 | exact cell_keep c0 (by assumption))
    (first | (go_at_call 101; (with_reducible refine (ratCmp_any b1 b2 s t N D M E _ ?_ ?_ ?_ L hL hr.1 hr.2 hq.1 hq.2).mono ?_); exact HK2.out.keep (by assumption); exact HR2.out.keep (by assumption); exact HQ2.out.keep (by assumption); rintro e w3 ⟨rfl, hB3⟩; have hb3 := Below.then hd0 (Nat.le_refl _) hB3) | (go_at_call 99; (with_reducible refine (cmpZero_any k hk _ _).mono ?_); rintro e w4 ⟨rfl, rfl⟩))
  go_wp2
  go_ret
  exact ⟨rfl, Below.then HB2.out (Nat.le_refl _) hb3⟩
theorem compareNum_any (k : Nat) (hk : k < 6) (v1 v2 : Value) (r q : Rt) (w : World) (hK : Thr w) (h1 : CNum w v1 r) (h2 : CNum w v2 q) (L : Nat) (hL0 : 1 ≤ L) (hL : L < 40) (hr : r.num < W64 ^ L ∧ r.den < W64 ^ L) (hq : q.num < W64 ^ L ∧ q.den < W64 ^ L) :
    Calls Tryz.prog 41 #[v1, .int .i64 (cmpTok k), v2] w fun e w' => e = .returned (.bool (cmpB k (cmpQ r q))) ∧ Below w.heap.size w w' := by
  rcases h1 with ⟨x, h1, rfl⟩ | h1
  · rcases h2 with ⟨y, h2, rfl⟩ | h2
    · rw [cmpQ_rz]
      exact compareInt_any k hk v1 v2 x y w h1 h2
    · exact compareMat_any k hk v1 v2 (rz x) q w hK (matchIR_any v1 v2 x q w h1 h2 L (by omega) hr.1) L hL hr hq
  · rcases h2 with ⟨y, h2, rfl⟩ | h2
    · exact compareMat_any k hk v1 v2 r (rz y) w hK (matchRI_any v2 v1 y r w h2 h1 L (by omega) hq.1) L hL hr hq
    · exact compareMat_any k hk v1 v2 r q w hK (matchRR_any v1 v2 r q w h1 h2) L hL hr hq
theorem implCompareNum_any (k : Nat) (hk : k < 6) (x y : Vl) (r q : Rt) (w : World) (hK : Thr w) (h1 : VlAt w x) (h2 : VlAt w y) (m1 : NumV x r) (m2 : NumV y q) (L : Nat) (hL0 : 1 ≤ L) (hL : L < 40) (hr : r.num < W64 ^ L ∧ r.den < W64 ^ L) (hq : q.num < W64 ^ L ∧ q.den < W64 ^ L) :
    Calls Tryz.prog 19 #[.int .i64 k, .agg #[.int .i64 x.kind, .bool x.truth, .string x.text, .bool x.neg, .slice x.wa x.wn x.wc, .slice x.da x.dn x.dc, .bool x.ineg, .slice x.ia x.inn x.ic, .slice x.ea x.en x.ec], .agg #[.int .i64 y.kind, .bool y.truth, .string y.text, .bool y.neg, .slice y.wa y.wn y.wc, .slice y.da y.dn y.dc, .bool y.ineg, .slice y.ia y.inn y.ic, .slice y.ea y.en y.ec]] w fun e w' => e = .returned (.bool (cmpB k (cmpQ r q))) ∧ Below w.heap.size w w' := by
  obtain ⟨W0, hW0⟩ : ∃ W0, W0 = (w.alloc (.cells #[.int .i64 x.kind, .bool x.truth, .string x.text, .bool x.neg, .slice x.wa x.wn x.wc, .slice x.da x.dn x.dc, .bool x.ineg, .slice x.ia x.inn x.ic, .slice x.ea x.en x.ec] 26)).alloc (.cells #[.int .i64 y.kind, .bool y.truth, .string y.text, .bool y.neg, .slice y.wa y.wn y.wc, .slice y.da y.dn y.dc, .bool y.ineg, .slice y.ia y.inn y.ic, .slice y.ea y.en y.ec] 26) := ⟨_, rfl⟩
  have HW := Lib.hid hW0
  have hb0 : Below w.heap.size w W0 := by rw [hW0]; exact Below.alloc' (Below.alloc' (Below.refl _ _) _) _
  have X : Box9 W0 w.heap.size x := by rw [hW0]; exact (Box9.new w x _ rfl).alloc _
  have Y : Box9 W0 (w.heap.size + 1) y := by rw [hW0]; exact Box9.new _ y _ (by simp)
  have HX := Lib.hid (h1.keep hb0)
  have HY := Lib.hid (h2.keep hb0)
  have HK := Lib.hid (hK.keep hb0)
  have M1 := Lib.hid m1
  have M2 := Lib.hid m2
  clear hW0 h1 h2 m1 m2 hK
  go_enter Tryz.func19, Tryz.ntmps19
  go_upto_region 1 with fail
  rw [← HW.out]
  go_wp2_with fail
  refine (comparison_any k hk _).mono ?_
  rintro e w1 ⟨rfl, hB1⟩
  have hb1 := Below.then hb0 (Nat.le_refl _) hB1
  have X1 := X.keep hB1
  have Y1 := Y.keep hB1
  have HX1 := Lib.hid (HX.out.keep hB1)
  have HY1 := Lib.hid (HY.out.keep hB1)
  have HK1 := Lib.hid (HK.out.keep hB1)
  go_wp2_with fail
  have hd0 : Below w1.heap.size w1 w1.drew := (Below.refl _ _).drew
  go_region_held3 (fun w' => (w'.cell? ⟨w.heap.size, 0, none⟩ = some (.int .i64 x.kind) ∧ w'.cell? ⟨w.heap.size, 1, none⟩ = some (.bool x.truth) ∧ w'.cell? ⟨w.heap.size, 2, none⟩ = some (.string x.text) ∧ w'.cell? ⟨w.heap.size, 3, none⟩ = some (.bool x.neg) ∧ w'.cell? ⟨w.heap.size, 4, none⟩ = some (.slice x.wa x.wn x.wc) ∧ w'.cell? ⟨w.heap.size, 5, none⟩ = some (.slice x.da x.dn x.dc) ∧ w'.cell? ⟨w.heap.size, 6, none⟩ = some (.bool x.ineg) ∧ w'.cell? ⟨w.heap.size, 7, none⟩ = some (.slice x.ia x.inn x.ic) ∧ w'.cell? ⟨w.heap.size, 8, none⟩ = some (.slice x.ea x.en x.ec)) ∧ (w'.cell? ⟨(w.heap.size + 1), 0, none⟩ = some (.int .i64 y.kind) ∧ w'.cell? ⟨(w.heap.size + 1), 1, none⟩ = some (.bool y.truth) ∧ w'.cell? ⟨(w.heap.size + 1), 2, none⟩ = some (.string y.text) ∧ w'.cell? ⟨(w.heap.size + 1), 3, none⟩ = some (.bool y.neg) ∧ w'.cell? ⟨(w.heap.size + 1), 4, none⟩ = some (.slice y.wa y.wn y.wc) ∧ w'.cell? ⟨(w.heap.size + 1), 5, none⟩ = some (.slice y.da y.dn y.dc) ∧ w'.cell? ⟨(w.heap.size + 1), 6, none⟩ = some (.bool y.ineg) ∧ w'.cell? ⟨(w.heap.size + 1), 7, none⟩ = some (.slice y.ia y.inn y.ic) ∧ w'.cell? ⟨(w.heap.size + 1), 8, none⟩ = some (.slice y.ea y.en y.ec)))
    (first | with_reducible exact ⟨X1.all, Y1.all⟩ | with_reducible exact ⟨(X1.keep (by assumption)).all, (Y1.keep (by assumption)).all⟩)
    (first | (go_at_call 38; (with_reducible refine (madeNum_any x r _ ?_ M1.out).mono ?_); exact HX1.out.keep (by assumption); rintro e w2 ⟨u1, rfl, hu1, hB2⟩; have hb2 := Below.then hd0 (Nat.le_refl _) hB2) | (go_at_call 38; (with_reducible refine (madeNum_any y q _ ?_ M2.out).mono ?_); exact HY1.out.keep (by assumption); rintro e w3 ⟨u2, rfl, hu2, hB3⟩; have hb3 := Below.then hb2 (Nat.le_refl _) hB3) | (go_at_call 41; (with_reducible refine (compareNum_any k hk u1 u2 r q _ ?_ ?_ ?_ L hL0 hL hr hq).mono ?_); exact HK1.out.keep hb3; exact hu1.keep hB3; exact hu2; rintro e w4 ⟨rfl, hB4⟩; have hb4 := Below.then hb3 (Nat.le_refl _) hB4))
  go_wp2
  go_ret
  exact ⟨rfl, Below.then hb1 (Nat.le_refl _) hb4⟩
end Go.Proofs.YtgmienggfaahlaaGreatDoor
