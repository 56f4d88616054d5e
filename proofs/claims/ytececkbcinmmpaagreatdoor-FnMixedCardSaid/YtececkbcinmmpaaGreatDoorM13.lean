/-
  Contracts and lemmas: OpsC OpsI LNeg LawN VecA VecB.
-/
import Derived.Test.YtececkbcinmmpaaGreatDoorM12
import Derived.Test.YtececkbcinmmpaaGreatDoorM06
import Derived.Laws.Externs
import Derived.Shelf.Spec.BitsCarry
import Derived.Test.YtececkbcinmmpaaGreatDoorM10
import Derived.IntWalk
set_option linter.unusedSimpArgs false
set_option linter.unusedVariables false
set_option maxRecDepth 100000
set_option maxHeartbeats 8000000
namespace Go.Bg
open Go.RowKit Dg
theorem RatAt.signed {T : TypeId} {w : World} {b : Nat} {s t : Bool} {N D : Nat} (h : RatAt T w b s N D) (hz : t = true → 0 < N) : RatAt T (w.setCell ⟨b, 0, none⟩ (.bool t)) b t N D :=
  ⟨h.a.signed hz, h.d.other h.a.blk (UpdI.set0 w b 0 (.bool t)) (.inr (.inr (by omega))), h.pos⟩
end Go.Bg
namespace Go.Proofs.YtececkbcinmmpaaGreatDoor
open Go.RowKit Go.Bg Dg
theorem infoBigRatSize : (Tryz.prog.info? 170).map (·.size) = some 4 := by kernel_rfl
theorem ratSetInt64_new (b : Nat) (x : Int) (hx : -9223372036854775808 ≤ x ∧ x < 9223372036854775808) (w : World) (h : NewRat w b) :
    Calls Tryz.prog 194 #[.pointer (some ⟨b, 0, none⟩), .int .i64 x] w (RatIs b (decide (x < 0)) x.natAbs 1 w) := by
  have HS := Lib.hid (setInt64_any b 0 x hx w h.a)
  have HQ := Lib.hid (BlkAt.cell h 3)
  have HQ2 := Lib.hid (BlkAt.cell h 2)
  clear h hx
  go_enter Tryz.func194, Tryz.ntmps194
  go_wp2_with fail
  refine HS.out.mono ?_
  rintro e w1 ⟨rfl, hI, hU⟩
  have q3 : w1.cell? ⟨b, 3, none⟩ = some (.slice none 0 0) := by rw [hU.rest 3 (by decide) (by decide), HQ.out]; rfl
  have q2 : w1.cell? ⟨b, 2, none⟩ = some (.bool false) := by rw [hU.rest 2 (by decide) (by decide), HQ2.out]; rfl
  have Q2 := Lib.hid q2
  have HI := Lib.hid hI
  have HU := Lib.hid hU
  clear q2 hI hU
  go_wp2_with fail
  refine (setWord_nil 1 (by omega) _).mono ?_
  rintro e w2 ⟨a, n, c, rfl, hN, hB⟩
  have HI2 := Lib.hid (HI.out.keep hB)
  have k3 := cell_keep q3 hB
  have HR := Lib.hid (ratAt_den HI2.out (cell_keep Q2.out hB) ⟨_, k3⟩ hN (by omega))
  have HF := Lib.hid ((HU.out.toB.trans (UpdB.of_below hB)).trans (UpdB.set w2 b 3 (.slice a n c)))
  have f3 := HI2.out.blk.frozen 3
  clear q3 hN hB
  go_wp2
  go_ret
  exact ⟨rfl, HR.out, HF.out⟩
theorem newRat_any (w : World) : Calls Tryz.prog 84 #[] w fun e w' => e = .returned (.pointer (some ⟨w.heap.size, 0, none⟩)) ∧ w' = w.alloc (.cells #[.bool false, .slice none 0 0, .bool false, .slice none 0 0] 170) := by
  go_enter Tryz.func84, Tryz.ntmps84
  go_wp2
  go_ret
  exact ⟨rfl, rfl⟩
theorem newRat_is (w : World) : NewRat (w.alloc (.cells #[.bool false, .slice none 0 0, .bool false, .slice none 0 0] 170)) w.heap.size := BlkAt.new w _ _
theorem i64tor_any (x : Int) (hx : -9223372036854775808 ≤ x ∧ x < 9223372036854775808) (w : World) :
    Calls Tryz.prog 197 #[.int .i64 x] w fun e w' => ∃ b, e = .returned (.agg #[.pointer (some ⟨b, 0, none⟩)]) ∧ RatAt 139 w' b (decide (x < 0)) x.natAbs 1 ∧ Below w.heap.size w w' := by
  have HX := Lib.hid hx
  clear hx
  go_enter Tryz.func197, Tryz.ntmps197
  go_wp2_with fail
  refine (newRat_any _).mono ?_
  rintro e w1 ⟨rfl, hw1⟩
  have hs1 : w1.heap.size = w.heap.size + 1 + 1 := by rw [hw1]; simp
  have hb1 : Below w.heap.size w w1 := by rw [hw1]; exact Below.alloc' (Below.alloc' (Below.refl _ _) _) _
  have hn1 : NewRat w1 (w.heap.size + 1) := by rw [hw1]; simpa using newRat_is (w.alloc (.cells #[.pointer none] 106))
  have hl : BlkAt w1 w.heap.size #[.pointer none] 106 := by rw [hw1]; exact (BlkAt.new _ _ _).keep ((Below.refl _ _).alloc (Nat.le_refl _) _)
  have HW1 := Lib.hid hw1
  clear hw1
  go_wp2_with fail
  refine (ratSetInt64_new (w.heap.size + 1) x HX.out _ hn1).mono ?_
  rintro e w2 ⟨rfl, hI, hU⟩
  have hl2 := hU.upd.blk hl (Nat.ne_of_lt (Nat.lt_succ_self _))
  have HI := Lib.hid (hI.upd (Upd.set1 w2 w.heap.size 0 (.pointer (some ⟨w.heap.size + 1, 0, none⟩))) (Nat.ne_of_gt (Nat.lt_succ_self _)) (fun k _ e => by subst e; exact ⟨_, _, hl2, by decide⟩))
  have HB := Lib.hid ((hU.below hb1 (by omega) (Nat.le_add_right _ 1)).setCell (p := ⟨w.heap.size, 0, none⟩) (Nat.le_refl _) (.pointer (some ⟨w.heap.size + 1, 0, none⟩)))
  have c0 := hl2.cell 0
  have f0 := hl2.frozen 0
  simp only [List.getElem?_toArray, List.getElem?_cons_zero] at c0
  clear hl hl2 hI hU hn1 hb1
  go_wp2
  exact bodyPost_ret (v := .agg #[.pointer (some ⟨w.heap.size + 1, 0, none⟩)]) (by simp [results, Tryz.results197, go_sem, c0]) rfl ⟨_, rfl, HI.out, HB.out⟩
theorem itor_any (b o : Nat) (s : Bool) (N L : Nat) (w : World) (h : BigAt 139 w b o s N) (hL : L ≤ 1000000) (hN : N < W64 ^ L) :
    Calls Tryz.prog 198 #[.agg #[.pointer (some ⟨b, o, none⟩)]] w fun e w' => ∃ b2, e = .returned (.agg #[.pointer (some ⟨b2, 0, none⟩)]) ∧ RatAt 139 w' b2 s N 1 ∧ Below w.heap.size w w' := by
  obtain ⟨W0, hW0⟩ : ∃ W0, W0 = (w.alloc (.cells #[.pointer (some ⟨b, o, none⟩)] 102)).alloc (.cells #[.pointer none] 106) := ⟨_, rfl⟩
  have HS0 := Lib.hid (show W0.heap.size = w.heap.size + 1 + 1 from by rw [hW0]; simp)
  have HW := Lib.hid hW0
  have hb0 : Below w.heap.size w W0 := by rw [hW0]; exact Below.alloc' (Below.alloc' (Below.refl _ _) _) _
  have hx : W0.cell? ⟨w.heap.size, 0, none⟩ = some (.pointer (some ⟨b, o, none⟩)) := by rw [hW0]; exact alloc_keep _ _ (alloc_new _ _ _ rfl rfl)
  have hl : BlkAt W0 (w.heap.size + 1) #[.pointer none] 106 := by
    rw [hW0]
    have := BlkAt.new (w.alloc (.cells #[.pointer (some ⟨b, o, none⟩)] 102)) #[.pointer none] 106
    simpa using this
  have HH := Lib.hid (h.keep hb0)
  have HN := Lib.hid hN
  clear hW0 h hN
  go_enter Tryz.func198, Tryz.ntmps198
  go_upto_region 1 with fail
  rw [← HW.out]
  have hd0 : Below W0.heap.size W0 W0.drew := (Below.refl _ _).drew
  go_region_held3 (fun w' => w'.cell? ⟨w.heap.size, 0, none⟩ = some (.pointer (some ⟨b, o, none⟩)))
    (first | exact hx | exact cell_keep hx (by assumption) | (rw [cell?_setCell_ne (by omega)]; exact cell_keep hx (by assumption)))
    (first | (go_at_call 84; (with_reducible refine (newRat_any _).mono ?_); rintro e w1 ⟨rfl, hw1⟩; have hn1 : NewRat w1 W0.heap.size := (by rw [hw1]; exact newRat_is W0.drew); have hB1 : Below W0.heap.size W0 w1 := (by rw [hw1]; exact Below.alloc' hd0 _); have HS1 := Lib.hid (show w1.heap.size = W0.heap.size + 1 from by rw [hw1]; simp); clear hw1) | (go_at_call 176; (with_reducible refine (ratSetInt_new W0.heap.size b o s N _ ?_ ?_ ?_ L ?_ ?_).mono ?_); exact hn1; exact HH.out.keep hB1; exact Nat.ne_of_gt HH.out.blk.lt; omega; exact HN.out; rintro e w3 ⟨rfl, hJ, hU⟩; have hbg : Below W0.heap.size W0 w3 := hU.below hB1 (by have := HS1.out; omega) (Nat.le_refl _); have hl3 := hl.keep hbg; have c0 := hl3.cell 0; have f0 := hl3.frozen 0; simp only [List.getElem?_toArray, List.getElem?_cons_zero] at c0))
  have HI := Lib.hid (hJ.upd (Upd.set1 w3 (w.heap.size + 1) 0 (.pointer (some ⟨W0.heap.size, 0, none⟩))) (by have := HS0.out; omega) (fun k _ e => by subst e; exact ⟨_, _, hl3, by decide⟩))
  have HB := Lib.hid ((Below.then hb0 (Nat.le_refl _) hbg).setCell (p := ⟨w.heap.size + 1, 0, none⟩) (Nat.le_add_right _ 1) (.pointer (some ⟨W0.heap.size, 0, none⟩)))
  go_wp2
  exact bodyPost_ret (v := .agg #[.pointer (some ⟨W0.heap.size, 0, none⟩)]) (by simp [results, Tryz.results198, go_sem, c0]) rfl ⟨_, rfl, HI.out, HB.out⟩
theorem rz_sg {s : Bool} {N : Nat} (h : s = true → 0 < N) : (⟨s, N, 1⟩ : Rt) = rz (sg s N) := by
  rw [← whole_rz]
  unfold Rt.whole
  cases s
  · rfl
  · simp [h rfl]
theorem isZ_same {z : Int} {L : Nat} {y : Vl} {r : Rt} (h : IsZ z L y) (hr : r = rz z) : (intB y && sameB (Rt.whole y.neg (val W64 y.wf y.wn)) r) = true := by
  obtain ⟨h1, h2, h3, _⟩ := h
  rw [h1, h2, h3, whole_abs, hr, sameB_refl]; rfl
theorem wholeB_parts {x : Vl} {k : Nat} (h : wholeB x k = true) : x.kind = 3 ∧ x.wn ≤ k := by
  unfold wholeB intB at h
  simp only [Bool.and_eq_true, decide_eq_true_eq] at h
  obtain ⟨nX, ⟨⟨⟨kX, -⟩, -⟩, -⟩⟩ := h
  exact ⟨kX, nX⟩
end Go.Proofs.YtececkbcinmmpaaGreatDoor
namespace Go.Bg
open Go.RowKit Dg
theorem Box9.setOther {w : World} {b s : Nat} {v : Vl} (h : Box9 w b v) (hne : b ≠ s) (i : Nat) (u : Value) : Box9 (w.setCell ⟨s, i, none⟩ u) b v := by
  have e : ∀ j, (w.setCell ⟨s, i, none⟩ u).cell? ⟨b, j, none⟩ = w.cell? ⟨b, j, none⟩ := fun j => cell?_setCell_ne hne
  exact ⟨by rw [e]; exact h.c0, by rw [e]; exact h.c1, by rw [e]; exact h.c2, by rw [e]; exact h.c3, by rw [e]; exact h.c4, by rw [e]; exact h.c5, by rw [e]; exact h.c6, by rw [e]; exact h.c7, by rw [e]; exact h.c8⟩
theorem resBlk_new (w : World) (T : TypeId) (s : Bool) (a : Option Addr) (n c : Nat) (a' : Option Addr) (n' c' : Nat) : ResBlk (w.alloc (.cells #[.bool s, .slice a n c, .slice a' n' c'] T)) w.heap.size := by
  refine ⟨⟨⟨_, by simp; rfl⟩, ⟨_, by simp; rfl⟩, ⟨_, by simp; rfl⟩⟩, fun o => by simp, fun o k v h => ?_, by simp⟩
  rw [World.cell?_alloc_new] at h
  match o, h with
  | 0, h => simp at h
  | 1, h => simp at h
  | 2, h => simp at h
  | n + 3, h => simp at h
end Go.Bg
namespace Go.Proofs.YtececkbcinmmpaaGreatDoor
open Go.RowKit Go.Bg Dg
theorem isQ_same {r : Rt} {L : Nat} {y : Vl} (h : IsQ r L y) : (ratB y && sameB (vrt y) r) = true := by
  obtain ⟨h1, h2, _⟩ := h
  rw [h1, h2, sameB_refl]; rfl
theorem isN_same {r : Rt} {L : Nat} {y : Vl} (h : IsN r L y) : (intB y && sameB (Rt.whole y.neg (val W64 y.wf y.wn)) r || ratB y && sameB (vrt y) r) = true := by
  rcases h with ⟨z, rfl, h⟩ | h
  · rw [isZ_same h rfl, Bool.true_or]
  · rw [isQ_same h, Bool.or_true]
theorem fracB_parts {s : Bool} {f : Nat → Nat} {n : Nat} {f' : Nat → Nat} {n' : Nat} (h : fracB s f n f' n' = true) :
    ROk (frt s f n f' n') ∧ s = (s && decide (0 < val W64 f n)) := by
  unfold fracB isNumB at h
  simp only [Bool.and_eq_true, decide_eq_true_eq, beq_iff_eq] at h
  obtain ⟨⟨⟨h1, h2, h3⟩, h4⟩, h5⟩ := h
  refine ⟨⟨h1, fun hs => ?_, h5⟩, h2⟩
  have hs : s = true := hs
  rw [hs] at h2
  show 0 < val W64 f n
  simpa using h2.symm
theorem lratB_parts {x : Vl} {k : Nat} (h : lratB x k = true) : x.kind = 4 ∧ x.wn ≤ k ∧ x.dn ≤ k ∧ fracB x.neg x.wf x.wn x.df x.dn = true := by
  unfold lratB ratB at h
  simp only [Bool.and_eq_true, decide_eq_true_eq] at h
  exact ⟨h.2.1.1, h.1.1, h.1.2, h.2.2⟩
theorem numV_rat {x : Vl} {k : Nat} (h : lratB x k = true) (hk : k ≤ 63) : NumV x (vrt x) := by
  obtain ⟨h1, h2, h3, h4⟩ := lratB_parts h
  obtain ⟨h5, h6⟩ := fracB_parts h4
  refine ⟨.inr ⟨h1, h5.den, ?_⟩, by omega, by omega, h5⟩
  unfold vrt mrt frt
  rw [← h6]
end Go.Proofs.YtececkbcinmmpaaGreatDoor
namespace Dg
theorem addw_div {B : Nat} (hB : 0 < B) (X y k : Nat) : (X + y) / B ^ k = X / B ^ k + (X % B ^ k + y) / B ^ k := by
  have hp : 0 < B ^ k := Nat.pow_pos hB
  have h := Nat.div_add_mod X (B ^ k)
  have e : X + y = X % B ^ k + y + B ^ k * (X / B ^ k) := by omega
  rw [e, Nat.add_mul_div_left _ _ hp]
  have e2 : (X % B ^ k + y + B ^ k * (X / B ^ k)) = X + y := by omega
  omega
theorem addw_same {B : Nat} (hB : 0 < B) {X y k i : Nat} (h : (X % B ^ k + y) / B ^ k = 0) (hi : k ≤ i) : dg B (X + y) i = dg B X i := by
  obtain ⟨j, rfl⟩ : ∃ j, i = k + j := ⟨i - k, by omega⟩
  rw [← dg_div, ← dg_div, addw_div hB, h, Nat.add_zero]
theorem addw_step {B : Nat} (hB : 0 < B) (X y k : Nat) :
    dg B (X + y) k = (dg B X k + (X % B ^ k + y) / B ^ k) % B ∧ (X % B ^ (k + 1) + y) / B ^ (k + 1) = (dg B X k + (X % B ^ k + y) / B ^ k) / B := by
  have hp : 0 < B ^ k := Nat.pow_pos hB
  constructor
  · show (X + y) / B ^ k % B = _
    rw [addw_div hB, Nat.add_mod, dg]
    conv => rhs; rw [Nat.add_mod, Nat.mod_mod]
  · rw [mod_succ, Nat.pow_succ, ← Nat.div_div_eq_div_mul]
    have : X % B ^ k + B ^ k * dg B X k + y = X % B ^ k + y + B ^ k * dg B X k := by omega
    rw [this, Nat.add_mul_div_left _ _ hp, Nat.add_comm]
theorem subb {B : Nat} (hB : 0 < B) {X Y : Nat} (h : Y ≤ X) (k : Nat) : (X - Y) / B ^ k = X / B ^ k - Y / B ^ k - (if X % B ^ k < Y % B ^ k then 1 else 0) := by
  have hp : 0 < B ^ k := Nat.pow_pos hB
  have hx := Nat.div_add_mod X (B ^ k)
  have hy := Nat.div_add_mod Y (B ^ k)
  have hxm := Nat.mod_lt X hp
  have hym := Nat.mod_lt Y hp
  generalize X / B ^ k = a at *
  generalize X % B ^ k = r at *
  generalize Y / B ^ k = b at *
  generalize Y % B ^ k = t at *
  generalize B ^ k = P at *
  by_cases hr : r < t
  · rw [if_pos hr]
    have hba : b < a := by
      rcases Nat.lt_or_ge b a with hh | hh
      · exact hh
      · have : P * a ≤ P * b := Nat.mul_le_mul_left _ hh
        omega
    obtain ⟨d, rfl⟩ : ∃ d, a = b + 1 + d := ⟨a - b - 1, by omega⟩
    have e : X - Y = P * d + (P + r - t) := by
      have : P * (b + 1 + d) = P * b + P + P * d := by rw [Nat.mul_add, Nat.mul_add, Nat.mul_one]
      omega
    rw [e, Nat.add_comm, Nat.add_mul_div_left _ _ hp, Nat.div_eq_of_lt (by omega)]
    omega
  · rw [if_neg hr]
    have hba : b ≤ a := by
      rcases Nat.lt_or_ge a b with hh | hh
      · have : P * (a + 1) ≤ P * b := Nat.mul_le_mul_left _ hh
        rw [Nat.mul_add, Nat.mul_one] at this
        omega
      · exact hh
    obtain ⟨d, rfl⟩ : ∃ d, a = b + d := ⟨a - b, by omega⟩
    have e : X - Y = P * d + (r - t) := by
      have : P * (b + d) = P * b + P * d := Nat.mul_add _ _ _
      omega
    rw [e, Nat.add_comm, Nat.add_mul_div_left _ _ hp, Nat.div_eq_of_lt (by omega)]
    omega
end Dg
namespace Go.Bg
open Go.RowKit Dg
structure RowUp (T : TypeId) (w w' : World) (g o n : Nat) (cur : Array Value) (h : Nat → Nat) : Prop where
  upd : Upd (· = g) w w'
  blk : ∃ cur', BlkAt w' g cur' T ∧ cur'.size = cur.size ∧ (∀ i, i < n → cur'[o + i]? = some (.int .u64 (h i : Nat))) ∧ ∀ j, (j < o ∨ o + n ≤ j) → cur'[j]? = cur[j]?
theorem RowUp.start {T : TypeId} {w : World} {g : Nat} {cur : Array Value} (hg : BlkAt w g cur T) (o : Nat) (h : Nat → Nat) : RowUp T w w g o 0 cur h :=
  ⟨Upd.refl _ _, cur, hg, rfl, fun i hi => by omega, fun _ _ => rfl⟩
theorem RowUp.drewN {T : TypeId} {w w' : World} {g o n : Nat} {cur : Array Value} {h : Nat → Nat} (r : RowUp T w w' g o n cur h) (q : Nat) : RowUp T w (w'.drewN q) g o n cur h := by
  have hb : Below w'.heap.size w' (w'.drewN q) := below_drewN (Below.refl _ _) q
  obtain ⟨cur', h1, h2, h3, h4⟩ := r.blk
  exact ⟨r.upd.then hb, cur', h1.keep hb, h2, h3, h4⟩
theorem RowUp.step {T : TypeId} {w w' : World} {g o k : Nat} {cur : Array Value} {h : Nat → Nat} (r : RowUp T w w' g o k cur h) (hk : o + k < cur.size) {x : Nat} (hx : x = h k) :
    RowUp T w (w'.setCell ⟨g, o + k, none⟩ (.int .u64 (x : Nat))) g o (k + 1) cur h := by
  obtain ⟨cur', h1, h2, h3, h4⟩ := r.blk
  refine ⟨r.upd.setCell rfl _, _, h1.set (o + k) _, by simpa using h2, fun i hi => ?_, fun j hj => ?_⟩
  · rw [Array.getElem?_setIfInBounds]
    by_cases e : o + k = o + i
    · rw [if_pos e, if_pos (by omega)]
      have : i = k := by omega
      subst this; rw [hx]
    · rw [if_neg e]; exact h3 i (by omega)
  · rw [Array.getElem?_setIfInBounds, if_neg (by omega)]; exact h4 j (by omega)
theorem RowUp.room {T : TypeId} {w w' : World} {g o k : Nat} {cur : Array Value} {h : Nat → Nat} (r : RowUp T w w' g o k cur h) {j : Nat} (hj : j < cur.size) :
    (∃ u, w'.cell? ⟨g, j, none⟩ = some u) ∧ w'.frozen? ⟨g, j, none⟩ = false := by
  obtain ⟨cur', h1, h2, h3, h4⟩ := r.blk
  refine ⟨?_, h1.frozen j⟩
  rw [h1.cell j, Array.getElem?_eq_getElem (by omega)]
  exact ⟨_, rfl⟩
theorem RowUp.read {T : TypeId} {w w' : World} {g o k b p i : Nat} {cur : Array Value} {h : Nat → Nat} (r : RowUp T w w' g o k cur h) (hg : BlkAt w g cur T) {v : Value} (hv : w.cell? ⟨b, p + i, none⟩ = some v) (hne : b ≠ g ∨ o ≤ p) (hi : k ≤ i) :
    w'.cell? ⟨b, p + i, none⟩ = some v := by
  by_cases e : b = g
  · subst e
    obtain ⟨cur', h1, h2, h3, h4⟩ := r.blk
    rw [h1.cell, h4 _ (by omega), ← hg.cell]; exact hv
  · rw [r.upd.cell (p := ⟨b, p + i, none⟩) (block_lt hv) e]; exact hv
theorem RowUp.cells {T : TypeId} {w w' : World} {g o n : Nat} {cur : Array Value} {h : Nat → Nat} (r : RowUp T w w' g o n cur h) : ∀ i, i < n → w'.cell? ⟨g, o + i, none⟩ = some (.int .u64 (h i : Nat)) := by
  intro i hi
  obtain ⟨cur', h1, h2, h3, h4⟩ := r.blk
  rw [h1.cell]; exact h3 i hi
def WCells (w : World) (b o n : Nat) (f : Nat → Nat) : Prop := ∀ i, i < n → w.cell? ⟨b, o + i, none⟩ = some (.int .u64 (f i : Nat))
end Go.Bg
namespace Go.Proofs.YtececkbcinmmpaaGreatDoor
open Go.RowKit Go.Bg Dg
theorem runAdd64 (x y c : Nat) (hc : c ≤ 1) (w : World) :
    (callFunc 272 #[.int .u64 x, .int .u64 y, .int .u64 c]).run Tryz.prog w =
      .ok (.value (.tuple #[.int .u64 (((x + y + c) % 18446744073709551616 : Nat) : Int), .int .u64 (((x + y + c) / 18446744073709551616 : Nat) : Int)])) w := by
  rw [run_callFunc_extern Tryz.func272 (by kernel_rfl) (by kernel_rfl) (by kernel_rfl) (e := add64Entry) (by kernel_rfl), run_add64 x y c (by omega) (by omega) (by omega) (by omega)]
  simp only [Result.andThen]
  congr 5 <;> omega
theorem runSub64 (x y b : Nat) (hb : b ≤ 1) (w : World) :
    (callFunc 274 #[.int .u64 x, .int .u64 y, .int .u64 b]).run Tryz.prog w =
      .ok (.value (.tuple #[.int .u64 (((x + 18446744073709551616 - y - b) % 18446744073709551616 : Nat) : Int), .int .u64 ((if x < y + b then 1 else 0 : Nat) : Int)])) w := by
  rw [run_callFunc_extern Tryz.func274 (by kernel_rfl) (by kernel_rfl) (by kernel_rfl) (e := sub64Entry) (by kernel_rfl), run_sub64 x y b hb]
  rfl
theorem bitsAdd_any (x y c : Nat) (hc : c ≤ 1) (w : World) :
    Calls Tryz.prog 234 #[.int .u64 x, .int .u64 y, .int .u64 c] w fun e w' => e = .returned (.tuple #[.int .u64 (((x + y + c) % 18446744073709551616 : Nat) : Int), .int .u64 (((x + y + c) / 18446744073709551616 : Nat) : Int)]) ∧ w = w' := by
  have ha := fun w => runAdd64 x y c hc w
  have hd1 : (x + y + c) % 18446744073709551616 < 18446744073709551616 := Nat.mod_lt _ (by decide)
  generalize (x + y + c) % 18446744073709551616 = s at *
  generalize (x + y + c) / 18446744073709551616 = d at *
  go_enter Tryz.func234, Tryz.ntmps234
  go_wp2
  exact bodyPost_ret (v := .tuple #[.int .u64 (s : Nat), .int .u64 (d : Nat)]) (by simp [results, Tryz.results234, go_sem]) rfl ⟨rfl, rfl⟩
theorem bitsSub_any (x y c : Nat) (hc : c ≤ 1) (w : World) :
    Calls Tryz.prog 236 #[.int .u64 x, .int .u64 y, .int .u64 c] w fun e w' => e = .returned (.tuple #[.int .u64 (((x + 18446744073709551616 - y - c) % 18446744073709551616 : Nat) : Int), .int .u64 ((if x < y + c then 1 else 0 : Nat) : Int)]) ∧ w = w' := by
  have ha := fun w => runSub64 x y c hc w
  have hd1 : (x + 18446744073709551616 - y - c) % 18446744073709551616 < 18446744073709551616 := Nat.mod_lt _ (by decide)
  generalize (x + 18446744073709551616 - y - c) % 18446744073709551616 = s at *
  have hd2 : (if x < y + c then 1 else 0 : Nat) ≤ 1 := by split <;> omega
  generalize (if x < y + c then 1 else 0 : Nat) = d at *
  go_enter Tryz.func236, Tryz.ntmps236
  go_wp2
  exact bodyPost_ret (v := .tuple #[.int .u64 (s : Nat), .int .u64 (d : Nat)]) (by simp [results, Tryz.results236, go_sem]) rfl ⟨rfl, rfl⟩
def VecIs (g o n : Nat) (cur : Array Value) (h : Nat → Nat) (c : Nat) (w : World) (e : Ending) (w' : World) : Prop :=
  e = .returned (.int .u64 (c : Nat)) ∧ RowUp 139 w w' g o n cur h
def bor (X Y k : Nat) : Nat := if X % W64 ^ k < Y % W64 ^ k then 1 else 0
theorem bor_le (X Y k : Nat) : bor X Y k ≤ 1 := by unfold bor; split <;> omega
theorem bor_zero (X Y : Nat) : bor X Y 0 = 0 := by simp [bor, Nat.mod_one]
theorem subw_step {X Y : Nat} (hXY : Y ≤ X) (k : Nat) :
    (dg W64 X k + 18446744073709551616 - dg W64 Y k - bor X Y k) % 18446744073709551616 = dg W64 (X - Y) k ∧
    (if dg W64 X k < dg W64 Y k + bor X Y k then 1 else 0 : Nat) = bor X Y (k + 1) := by
  have h := sub_step W64_pos X Y k hXY
  have hc := bor_le X Y k
  have hx := W64_lt (dg_lt W64_pos X k)
  have hy := W64_lt (dg_lt W64_pos Y k)
  have hd := W64_lt (dg_lt W64_pos (X - Y) k)
  have e : (if X % W64 ^ k < Y % W64 ^ k then (1 : Int) else 0) = (bor X Y k : Int) := by unfold bor; split <;> rfl
  have e2 : bor X Y (k + 1) = if X % W64 ^ (k + 1) < Y % W64 ^ (k + 1) then 1 else 0 := rfl
  rw [e] at h
  have hW : ((W64 : Nat) : Int) = 18446744073709551616 := rfl
  rw [hW] at h
  rw [e2]
  generalize bor X Y k = c at *
  generalize dg W64 (X - Y) k = d at *
  generalize dg W64 X k = x at *
  generalize dg W64 Y k = y at *
  by_cases hl : x < y + c
  · obtain ⟨h1, h2⟩ := h.1 (by omega)
    rw [if_pos hl, if_pos h2]
    exact ⟨by omega, rfl⟩
  · obtain ⟨h1, h2⟩ := h.2 (by omega)
    rw [if_neg hl, if_neg h2]
    exact ⟨by omega, rfl⟩
theorem addVVg_any (g o n c0 b1 o1 c1 b2 o2 c2 : Nat) (cur : Array Value) (X Y : Nat) (w : World) (hg : BlkAt w g cur 139) (hn : n ≤ 1000000) (hr : o + n ≤ cur.size) (h0 : n ≤ c0) (h0m : c0 ≤ maxLen)
    (h1 : WCells w b1 o1 n (dg W64 X)) (h1c : n ≤ c1) (h1m : c1 ≤ maxLen) (h2 : WCells w b2 o2 n (dg W64 Y)) (h2c : n ≤ c2) (h2m : c2 ≤ maxLen) (hn1 : b1 ≠ g ∨ o ≤ o1) (hn2 : b2 ≠ g ∨ o ≤ o2) :
    Calls Tryz.prog 233 #[.slice (some ⟨g, o, none⟩) n c0, .slice (some ⟨b1, o1, none⟩) n c1, .slice (some ⟨b2, o2, none⟩) n c2] w
      (VecIs g o n cur (dg W64 (X + Y)) ((X % W64 ^ n + Y % W64 ^ n) / W64 ^ n) w) := by
  unfold maxLen at h0m h1m h2m
  have HG := Lib.hid hg
  have H1 := Lib.hid h1
  have H2 := Lib.hid h2
  clear hg h1 h2
  go_enter Tryz.func233, Tryz.ntmps233
  go_wp2
  go_loopw [6, 7, 8, 9, 25] (fun c _ _ _ i wr => ∃ k : Nat, k ≤ n ∧ i = .int .i64 k ∧ c = .int .u64 (((X % W64 ^ k + Y % W64 ^ k) / W64 ^ k : Nat) : Int) ∧ RowUp 139 w wr g o k cur (dg W64 (X + Y)))
    (fun _ _ _ _ i _ => n - (intOf i).toNat)
  case atStart => exact ⟨0, Nat.zero_le _, rfl, by simp, RowUp.start HG.out _ _⟩
  case round =>
    obtain ⟨k, hk, rfl, rfl, hR⟩ := hrel
    by_cases k1 : k < n
    · have e1 := hR.read HG.out (H1.out k k1) hn1 (Nat.le_refl _)
      have e2 := hR.read HG.out (H2.out k k1) hn2 (Nat.le_refl _)
      have d1 : dg W64 X k < 18446744073709551616 := W64_lt (dg_lt W64_pos _ _)
      have d2 : dg W64 Y k < 18446744073709551616 := W64_lt (dg_lt W64_pos _ _)
      have hc := add_carry_le W64_pos X Y k
      have HS := Lib.hid (add_step W64_pos X Y k)
      have HR := Lib.hid hR
      have hlt := hR.room (j := o + k) (by omega)
      obtain ⟨⟨u0, p0⟩, f0⟩ := hlt
      clear hR
      generalize (X % W64 ^ k + Y % W64 ^ k) / W64 ^ k = c at *
      generalize dg W64 X k = x at *
      generalize dg W64 Y k = y at *
      have HE := Lib.hid (show (x + y + c) % 18446744073709551616 = dg W64 (X + Y) k from by rw [← HS.out.1]; show _ % W64 = _; congr 1; omega)
      have HF := Lib.hid (show (x + y + c) / 18446744073709551616 = (X % W64 ^ (k + 1) + Y % W64 ^ (k + 1)) / W64 ^ (k + 1) from by rw [← HS.out.2]; show _ / W64 = _; congr 1; omega)
      go_wp2
      go_quiet (first | (go_at_call 234; refine Calls.quiet_of_same ((bitsAdd_any x y c hc _).mono (fun _ _ h => ⟨h.1, h.2.symm⟩))))
      go_wp2
      have hq1 : ((x : Int) + y + c) % 18446744073709551616 = (((x + y + c) % 18446744073709551616 : Nat) : Int) := by omega
      have hq2 : ((x : Int) + y + c) / 18446744073709551616 = (((x + y + c) / 18446744073709551616 : Nat) : Int) := by omega
      rw [hq1, hq2]
      go_roundw
      case rel => exact ⟨k + 1, by omega, by go_num, by rw [HF.out], (HR.out.drewN _).step (by omega) HE.out⟩
      case measure => simp [intOf]; omega
    · obtain rfl : k = n := by omega
      go_wp2
      go_ret
      exact ⟨rfl, hR⟩
theorem addVV_any (g o n c0 b1 o1 c1 b2 o2 c2 : Nat) (cur : Array Value) (X Y : Nat) (w : World) (hg : BlkAt w g cur 139) (hn : n ≤ 1000000) (hr : o + n ≤ cur.size) (h0 : n ≤ c0) (h0m : c0 ≤ maxLen)
    (h1 : WCells w b1 o1 n (dg W64 X)) (h1c : n ≤ c1) (h1m : c1 ≤ maxLen) (h2 : WCells w b2 o2 n (dg W64 Y)) (h2c : n ≤ c2) (h2m : c2 ≤ maxLen) (hn1 : b1 ≠ g ∨ o ≤ o1) (hn2 : b2 ≠ g ∨ o ≤ o2) :
    Calls Tryz.prog 205 #[.slice (some ⟨g, o, none⟩) n c0, .slice (some ⟨b1, o1, none⟩) n c1, .slice (some ⟨b2, o2, none⟩) n c2] w
      (VecIs g o n cur (dg W64 (X + Y)) ((X % W64 ^ n + Y % W64 ^ n) / W64 ^ n) w) := by
  have HS := Lib.hid (addVVg_any g o n c0 b1 o1 c1 b2 o2 c2 cur X Y w hg hn hr h0 h0m h1 h1c h1m h2 h2c h2m hn1 hn2)
  clear hg h1 h2
  go_enter Tryz.func205, Tryz.ntmps205
  go_wp2_with fail
  refine HS.out.mono ?_
  rintro e w1 ⟨rfl, hR⟩
  have HR := Lib.hid hR
  clear hR
  go_wp2
  go_ret
  exact ⟨rfl, HR.out⟩
theorem subVVg_any (g o n c0 b1 o1 c1 b2 o2 c2 : Nat) (cur : Array Value) (X Y : Nat) (hXY : Y ≤ X) (w : World) (hg : BlkAt w g cur 139) (hn : n ≤ 1000000) (hr : o + n ≤ cur.size) (h0 : n ≤ c0) (h0m : c0 ≤ maxLen)
    (h1 : WCells w b1 o1 n (dg W64 X)) (h1c : n ≤ c1) (h1m : c1 ≤ maxLen) (h2 : WCells w b2 o2 n (dg W64 Y)) (h2c : n ≤ c2) (h2m : c2 ≤ maxLen) (hn1 : b1 ≠ g ∨ o ≤ o1) (hn2 : b2 ≠ g ∨ o ≤ o2) :
    Calls Tryz.prog 235 #[.slice (some ⟨g, o, none⟩) n c0, .slice (some ⟨b1, o1, none⟩) n c1, .slice (some ⟨b2, o2, none⟩) n c2] w
      (VecIs g o n cur (dg W64 (X - Y)) (bor X Y n) w) := by
  unfold maxLen at h0m h1m h2m
  have HG := Lib.hid hg
  have H1 := Lib.hid h1
  have H2 := Lib.hid h2
  clear hg h1 h2
  go_enter Tryz.func235, Tryz.ntmps235
  go_wp2
  go_loopw [6, 7, 8, 9, 25] (fun c _ _ _ i wr => ∃ k : Nat, k ≤ n ∧ i = .int .i64 k ∧ c = .int .u64 (bor X Y k : Int) ∧ RowUp 139 w wr g o k cur (dg W64 (X - Y)))
    (fun _ _ _ _ i _ => n - (intOf i).toNat)
  case atStart => exact ⟨0, Nat.zero_le _, rfl, by rw [bor_zero]; rfl, RowUp.start HG.out _ _⟩
  case round =>
    obtain ⟨k, hk, rfl, rfl, hR⟩ := hrel
    by_cases k1 : k < n
    · have e1 := hR.read HG.out (H1.out k k1) hn1 (Nat.le_refl _)
      have e2 := hR.read HG.out (H2.out k k1) hn2 (Nat.le_refl _)
      have d1 : dg W64 X k < 18446744073709551616 := W64_lt (dg_lt W64_pos _ _)
      have d2 : dg W64 Y k < 18446744073709551616 := W64_lt (dg_lt W64_pos _ _)
      have hc := bor_le X Y k
      have HS := Lib.hid (subw_step hXY k)
      have HR := Lib.hid hR
      have hlt := hR.room (j := o + k) (by omega)
      obtain ⟨⟨u0, p0⟩, f0⟩ := hlt
      clear hR
      generalize bor X Y k = c at *
      generalize dg W64 X k = x at *
      generalize dg W64 Y k = y at *
      have HE := Lib.hid (show (x + 18446744073709551616 - y - c) % 18446744073709551616 = dg W64 (X - Y) k from HS.out.1)
      have HF := Lib.hid (show (if x < y + c then 1 else 0 : Nat) = bor X Y (k + 1) from HS.out.2)
      have hd1 : (x + 18446744073709551616 - y - c) % 18446744073709551616 < 18446744073709551616 := Nat.mod_lt _ (by decide)
      have HC := Lib.hid (fun w => (bitsSub_any x y c hc w).mono (fun _ _ h => (⟨h.1, h.2.symm⟩ : _ ∧ _)))
      generalize (x + 18446744073709551616 - y - c) % 18446744073709551616 = s at *
      generalize (if x < y + c then 1 else 0 : Nat) = d at *
      go_wp2
      go_quiet (first | (go_at_call 236; refine Calls.quiet_of_same (HC.out _)))
      go_wp2
      go_roundw
      case rel => exact ⟨k + 1, by omega, by go_num, by rw [HF.out], (HR.out.drewN _).step (by omega) HE.out⟩
      case measure => simp [intOf]; omega
    · obtain rfl : k = n := by omega
      go_wp2
      go_ret
      exact ⟨rfl, hR⟩
theorem subVV_any (g o n c0 b1 o1 c1 b2 o2 c2 : Nat) (cur : Array Value) (X Y : Nat) (hXY : Y ≤ X) (w : World) (hg : BlkAt w g cur 139) (hn : n ≤ 1000000) (hr : o + n ≤ cur.size) (h0 : n ≤ c0) (h0m : c0 ≤ maxLen)
    (h1 : WCells w b1 o1 n (dg W64 X)) (h1c : n ≤ c1) (h1m : c1 ≤ maxLen) (h2 : WCells w b2 o2 n (dg W64 Y)) (h2c : n ≤ c2) (h2m : c2 ≤ maxLen) (hn1 : b1 ≠ g ∨ o ≤ o1) (hn2 : b2 ≠ g ∨ o ≤ o2) :
    Calls Tryz.prog 207 #[.slice (some ⟨g, o, none⟩) n c0, .slice (some ⟨b1, o1, none⟩) n c1, .slice (some ⟨b2, o2, none⟩) n c2] w
      (VecIs g o n cur (dg W64 (X - Y)) (bor X Y n) w) := by
  have HS := Lib.hid (subVVg_any g o n c0 b1 o1 c1 b2 o2 c2 cur X Y hXY w hg hn hr h0 h0m h1 h1c h1m h2 h2c h2m hn1 hn2)
  clear hg h1 h2
  go_enter Tryz.func207, Tryz.ntmps207
  go_wp2_with fail
  refine HS.out.mono ?_
  rintro e w1 ⟨rfl, hR⟩
  have HR := Lib.hid hR
  clear hR
  go_wp2
  go_ret
  exact ⟨rfl, HR.out⟩
end Go.Proofs.YtececkbcinmmpaaGreatDoor
