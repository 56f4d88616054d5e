/-
  Contracts and lemmas: Law1 RtB Law2 Same SpF IsInt.
-/
import Derived.Test.YtececkbcinmmpaaGreatDoorM05
import Derived.Test.YtececkbcinmmpaaGreatDoorM04
set_option linter.unusedSimpArgs false
set_option linter.unusedVariables false
set_option maxRecDepth 100000
set_option maxHeartbeats 8000000
namespace Go.Proofs.YtececkbcinmmpaaGreatDoor
open Go.RowKit Go.Bg Dg
def fitsB (v : Vl) : Bool := decide (v.text.size ≤ 2147483647) && decide (v.wn ≤ 2147483647) && decide (v.dn ≤ 2147483647) && decide (v.inn ≤ 2147483647) && decide (v.en ≤ 2147483647)
theorem fits1_any (v : Vl) (w : World) :
    Calls Tryz.prog 17 #[.agg #[.int .i64 v.kind, .bool v.truth, .string v.text, .bool v.neg, .slice v.wa v.wn v.wc, .slice v.da v.dn v.dc, .bool v.ineg, .slice v.ia v.inn v.ic, .slice v.ea v.en v.ec]] w fun e w' => e = .returned (.bool (fitsB v)) ∧ Below w.heap.size w w' := by
  have HB := Lib.hid (show ∀ cs, Below w.heap.size w (w.alloc (.cells cs 26)) from fun cs => (Below.refl _ _).alloc (Nat.le_refl _) _)
  go_enter Tryz.func17, Tryz.ntmps17
  go_wp2
  all_goals go_ret
  all_goals refine ⟨ret_bool ?_, ?_⟩
  all_goals first
    | exact HB.out _
    | exact Below.alloc' (HB.out _) _
    | exact Below.alloc' (Below.alloc' (HB.out _) _) _
    | (unfold fitsB; simp_all; done)
    | (unfold fitsB; simp_all; omega)
  go_goals
def wholeB (v : Vl) (k : Nat) : Bool := decide (v.wn ≤ k) && intB v
end Go.Proofs.YtececkbcinmmpaaGreatDoor
namespace Go.Bg
open Go.RowKit Dg
theorem RtAt.mono {w : World} {s : Bool} {a : Option Addr} {n c : Nat} {a' : Option Addr} {n' c' : Nat} {r : Rt} {L L' : Nat} (h : RtAt w s a n c a' n' c' r L) (hL : L ≤ L') : RtAt w s a n c a' n' c' r L' :=
  ⟨h.neg, h.num, h.den, Nat.lt_of_lt_of_le h.numL (Nat.pow_le_pow_right (by decide) hL), Nat.lt_of_lt_of_le h.denL (Nat.pow_le_pow_right (by decide) hL)⟩
theorem RtAt.drew {w : World} {s : Bool} {a : Option Addr} {n c : Nat} {a' : Option Addr} {n' c' : Nat} {r : Rt} {L : Nat} (h : RtAt w s a n c a' n' c' r L) : RtAt w.drew s a n c a' n' c' r L :=
  h.keep (Below.refl _ _).drew
structure Box9 (W : World) (b : Nat) (v : Vl) : Prop where
  c0 : W.cell? ⟨b, 0, none⟩ = some (.int .i64 v.kind)
  c1 : W.cell? ⟨b, 1, none⟩ = some (.bool v.truth)
  c2 : W.cell? ⟨b, 2, none⟩ = some (.string v.text)
  c3 : W.cell? ⟨b, 3, none⟩ = some (.bool v.neg)
  c4 : W.cell? ⟨b, 4, none⟩ = some (.slice v.wa v.wn v.wc)
  c5 : W.cell? ⟨b, 5, none⟩ = some (.slice v.da v.dn v.dc)
  c6 : W.cell? ⟨b, 6, none⟩ = some (.bool v.ineg)
  c7 : W.cell? ⟨b, 7, none⟩ = some (.slice v.ia v.inn v.ic)
  c8 : W.cell? ⟨b, 8, none⟩ = some (.slice v.ea v.en v.ec)
theorem Box9.keep {w w1 : World} {b : Nat} {v : Vl} (h : Box9 w b v) (hb : Below w.heap.size w w1) : Box9 w1 b v :=
  ⟨cell_keep h.c0 hb, cell_keep h.c1 hb, cell_keep h.c2 hb, cell_keep h.c3 hb, cell_keep h.c4 hb, cell_keep h.c5 hb, cell_keep h.c6 hb, cell_keep h.c7 hb, cell_keep h.c8 hb⟩
theorem Box9.alloc {w : World} {b : Nat} {v : Vl} (h : Box9 w b v) (o : Obj) : Box9 (w.alloc o) b v := h.keep ((Below.refl _ _).alloc (Nat.le_refl _) _)
theorem Box9.new (w : World) (v : Vl) (T : TypeId) {b : Nat} (hb : b = w.heap.size) : Box9 (w.alloc (.cells #[.int .i64 v.kind, .bool v.truth, .string v.text, .bool v.neg, .slice v.wa v.wn v.wc, .slice v.da v.dn v.dc, .bool v.ineg, .slice v.ia v.inn v.ic, .slice v.ea v.en v.ec] T)) b v :=
  ⟨alloc_new _ _ _ hb rfl, alloc_new _ _ _ hb rfl, alloc_new _ _ _ hb rfl, alloc_new _ _ _ hb rfl, alloc_new _ _ _ hb rfl, alloc_new _ _ _ hb rfl, alloc_new _ _ _ hb rfl, alloc_new _ _ _ hb rfl, alloc_new _ _ _ hb rfl⟩
theorem Box9.all {W : World} {b : Nat} {v : Vl} (h : Box9 W b v) : W.cell? ⟨b, 0, none⟩ = some (.int .i64 v.kind) ∧ W.cell? ⟨b, 1, none⟩ = some (.bool v.truth) ∧ W.cell? ⟨b, 2, none⟩ = some (.string v.text) ∧ W.cell? ⟨b, 3, none⟩ = some (.bool v.neg) ∧ W.cell? ⟨b, 4, none⟩ = some (.slice v.wa v.wn v.wc) ∧ W.cell? ⟨b, 5, none⟩ = some (.slice v.da v.dn v.dc) ∧ W.cell? ⟨b, 6, none⟩ = some (.bool v.ineg) ∧ W.cell? ⟨b, 7, none⟩ = some (.slice v.ia v.inn v.ic) ∧ W.cell? ⟨b, 8, none⟩ = some (.slice v.ea v.en v.ec) := ⟨h.c0, h.c1, h.c2, h.c3, h.c4, h.c5, h.c6, h.c7, h.c8⟩
theorem ResBlk.new (w : World) (T : TypeId) {b : Nat} (hb : b = w.heap.size) : ResBlk (w.alloc (.cells #[.bool false, .slice none 0 0, .slice none 0 0] T)) b := by subst hb; exact ResBlk.alloc w T
theorem RtBlk.all {W : World} {b : Nat} {s : Bool} {a : Option Addr} {n c : Nat} {a' : Option Addr} {n' c' : Nat} (h : RtBlk W b s a n c a' n' c') : W.cell? ⟨b, 0, none⟩ = some (.bool s) ∧ W.cell? ⟨b, 1, none⟩ = some (.slice a n c) ∧ W.cell? ⟨b, 2, none⟩ = some (.slice a' n' c') := ⟨h.c0, h.c1, h.c2⟩
theorem RtBlk.new (w : World) (T : TypeId) {b : Nat} (hb : b = w.heap.size) (sg : Bool) (a : Option Addr) (n c : Nat) (a' : Option Addr) (n' c' : Nat) :
    RtBlk (w.alloc (.cells #[.bool sg, .slice a n c, .slice a' n' c'] T)) b sg a n c a' n' c' := by subst hb; exact rtBlk_new _ _ _ _ _ _ _ _ _
end Go.Bg
namespace Go.Proofs.YtececkbcinmmpaaGreatDoor
open Go.RowKit Go.Bg Dg
def sameB (r q : Rt) : Bool := (r.neg == q.neg) && decide (r.num = q.num) && decide (r.den = q.den)
theorem cmpI_zero (N M : Nat) : (cmpI N M == 0) = decide (N = M) := by
  unfold cmpI
  rcases Nat.lt_trichotomy N M with h | h | h
  · have h1 : N ≠ M := by omega
    simp [h, h1]
  · subst h; simp
  · have h1 : N ≠ M := by omega
    have h2 : ¬ N < M := by omega
    simp [h, h1, h2]
theorem same_any (s t : Bool) (a1 : Option Addr) (n1 c1 : Nat) (a1' : Option Addr) (n1' c1' : Nat) (a2 : Option Addr) (n2 c2 : Nat) (a2' : Option Addr) (n2' c2' : Nat) (r q : Rt) (L : Nat) (w : World)
    (h1 : RtAt w s a1 n1 c1 a1' n1' c1' r L) (h2 : RtAt w t a2 n2 c2 a2' n2' c2' q L) (hL : L ≤ 400000) :
    Calls Tryz.prog 45 #[.agg #[.bool s, .slice a1 n1 c1, .slice a1' n1' c1'], .agg #[.bool t, .slice a2 n2 c2, .slice a2' n2' c2']] w fun e w' => e = .returned (.bool (sameB r q)) ∧ Below w.heap.size w w' := by
  have l1 := h1.n_le
  have l2 := h2.n_le
  have l3 := h1.d_le
  have l4 := h2.d_le
  obtain ⟨W0, hW0⟩ : ∃ W0, W0 = (w.alloc (.cells #[.bool s, .slice a1 n1 c1, .slice a1' n1' c1'] 31)).alloc (.cells #[.bool t, .slice a2 n2 c2, .slice a2' n2' c2'] 31) := ⟨_, rfl⟩
  have HW := Lib.hid hW0
  have hb0 : Below w.heap.size w W0 := by rw [hW0]; exact Below.alloc' (Below.alloc' (Below.refl _ _) _) _
  have A : RtBlk W0 w.heap.size s a1 n1 c1 a1' n1' c1' := by rw [hW0]; exact (RtBlk.new _ _ rfl _ _ _ _ _ _ _).keep ((Below.refl _ _).alloc (Nat.le_refl _) _)
  have C : RtBlk W0 (w.heap.size + 1) t a2 n2 c2 a2' n2' c2' := by rw [hW0]; exact RtBlk.new _ _ (by simp) _ _ _ _ _ _ _
  have HA := Lib.hid (h1.keep hb0)
  have HC := Lib.hid (h2.keep hb0)
  have hs := h1.neg
  have ht := h2.neg
  clear hW0 h1 h2
  obtain ⟨x0, x1, x2⟩ := A
  obtain ⟨y0, y1, y2⟩ := C
  have HS := Lib.hid hs
  have HT := Lib.hid ht
  clear hs ht
  by_cases hst : s = t
  · subst hst
    have HN := Lib.hid (cmpI_zero r.num q.num)
    have HD := Lib.hid (cmpI_zero r.den q.den)
    have HST := Lib.hid (show (r.neg == q.neg) = true from by rw [← HS.out, ← HT.out]; simp)
    by_cases hn : r.num = q.num
    · have hz : (cmpI r.num q.num == 0) = true := by rw [HN.out]; simpa using hn
      go_enter Tryz.func45, Tryz.ntmps45
      go_upto_region 1 with fail
      rw [← HW.out]
      go_wp2_with fail
      refine (cmp_any a1 a2 n1 n2 c1 c2 r.num q.num _ HA.out.num HC.out.num (by omega) (by omega)).mono ?_
      rintro e w1 ⟨rfl, hm1⟩
      have hB1 := below_of_drewN (B := W0.heap.size) hm1
      have hc1 := HN.out
      have x2' := cell_keep x2 hB1
      have y2' := cell_keep y2 hB1
      have HNE := Lib.hid hn
      clear hc1 hn
      generalize cmpI r.num q.num = k1 at *
      go_wp2_with fail
      refine (cmp_any a1' a2' n1' n2' c1' c2' r.den q.den _ (HA.out.den.keep hB1) (HC.out.den.keep hB1) (by omega) (by omega)).mono ?_
      rintro e w2 ⟨rfl, hm2⟩
      have hB2 := below_of_drewN (B := w1.heap.size) hm2
      have hbf := Below.then (Below.then hb0 (Nat.le_refl _) hB1) (Nat.le_refl _) hB2
      clear hm1 hm2
      go_wp2
      go_ret
      exact ⟨ret_bool (by unfold sameB; rw [HD.out, HST.out, HNE.out]; simp), hbf⟩
    · have hz : (cmpI r.num q.num == 0) = false := by rw [HN.out]; simpa using hn
      go_enter Tryz.func45, Tryz.ntmps45
      go_upto_region 1 with fail
      rw [← HW.out]
      go_wp2_with fail
      refine (cmp_any a1 a2 n1 n2 c1 c2 r.num q.num _ HA.out.num HC.out.num (by omega) (by omega)).mono ?_
      rintro e w1 ⟨rfl, hm1⟩
      have hB1 := below_of_drewN (B := W0.heap.size) hm1
      have hc1 := HN.out
      have HNE := Lib.hid hn
      have hbf := Below.then hb0 (Nat.le_refl _) hB1
      clear hc1 hn hm1
      generalize cmpI r.num q.num = k1 at *
      go_wp2
      go_ret
      exact ⟨ret_bool (by unfold sameB; simp [HNE.out]), hbf⟩
  · have hb : (s == t) = false := by cases s <;> cases t <;> simp_all
    go_enter Tryz.func45, Tryz.ntmps45
    go_upto_region 1 with fail
    rw [← HW.out]
    go_wp2
    go_ret
    exact ⟨ret_bool (by unfold sameB; rw [← HS.out, ← HT.out, hb]; rfl), hb0⟩
end Go.Proofs.YtececkbcinmmpaaGreatDoor
namespace Go.Bg
open Go.RowKit Dg
def frt (s : Bool) (f : Nat → Nat) (n : Nat) (f' : Nat → Nat) (n' : Nat) : Rt := ⟨s, val W64 f n, val W64 f' n'⟩
end Go.Bg
namespace Go.Proofs.YtececkbcinmmpaaGreatDoor
open Go.RowKit Go.Bg Dg
def fracB (s : Bool) (f : Nat → Nat) (n : Nat) (f' : Nat → Nat) (n' : Nat) : Bool :=
  decide (0 < val W64 f' n') && isNumB s f n s (val W64 f n) && hasW f' n' (val W64 f' n') && decide (Nat.gcd (val W64 f n) (val W64 f' n') = 1)
theorem val_L {f : Nat → Nat} {n : Nat} (hf : ∀ i, i < n → f i < W64) (L : Nat) (hL : 4 * n ≤ L) : val W64 f n < 65536 ^ L := by
  have := val_lt hf
  rw [W64_16, ← Nat.pow_mul] at this
  exact Nat.lt_of_lt_of_le this (Nat.pow_le_pow_right (by decide) hL)
theorem small_one (w : World) : Calls Tryz.prog 61 #[.int .i64 1] w (Gives .i64 65536 1 w) := small_any 1 w (by omega)
theorem fraction_any (s : Bool) (a : Option Addr) (n c : Nat) (f : Nat → Nat) (a' : Option Addr) (n' c' : Nat) (f' : Nat → Nat) (L : Nat) (w : World) (h : WordsAt w a n c f) (h' : WordsAt w a' n' c' f') (hn : 4 * n ≤ L) (hn' : 4 * n' ≤ L) (hL : L ≤ 4000) :
    Calls Tryz.prog 69 #[.agg #[.bool s, .slice a n c], .slice a' n' c'] w (Reads1 (fracB s f n f' n') (frt s f n f' n') L w) := by
  obtain ⟨W0, hW0⟩ : ∃ W0, W0 = (w.alloc (.cells #[.bool s, .slice a n c] 24)).alloc (.cells #[.bool false, .slice none 0 0, .slice none 0 0] 31) := ⟨_, rfl⟩
  have HW := Lib.hid hW0
  have hbW : Below w.heap.size w W0 := by rw [hW0]; exact Below.alloc' (Below.alloc' (Below.refl _ _) _) _
  have R : ResBlk W0 (w.heap.size + 1) := by rw [hW0]; exact ResBlk.new _ _ (by simp)
  have k0 : W0.cell? ⟨w.heap.size, 0, none⟩ = some (.bool s) := by rw [hW0]; exact alloc_keep _ _ (alloc_new _ _ _ rfl rfl)
  have k1 : W0.cell? ⟨w.heap.size, 1, none⟩ = some (.slice a n c) := by rw [hW0]; exact alloc_keep _ _ (alloc_new _ _ _ rfl rfl)
  have WS := Lib.hid (show ∀ W', Below W0.heap.size W0 W' → WordsAt W' a n c f from fun W' hb => (h.keep hbW).keep hb)
  have WS' := Lib.hid (show ∀ W', Below W0.heap.size W0 W' → WordsAt W' a' n' c' f' from fun W' hb => (h'.keep hbW).keep hb)
  have HN := Lib.hid (val_L h.lt L hn)
  have HD := Lib.hid (val_L h'.lt L hn')
  clear hW0 h h'
  go_enter Tryz.func69, Tryz.ntmps69
  go_upto_region 1 with fail
  rw [← HW.out]
  go_cut [6] (fun s6 wx => ∃ g aO nO cO aD nD cD, s6 = .pointer (some ⟨g, 0, none⟩) ∧ RtBlk wx g s aO nO cO aD nD cD ∧ RtAt wx s aO nO cO aD nD cD (frt s f n f' n') L ∧ W0.heap.size ≤ g ∧ Below W0.heap.size W0 wx)
  case first =>
    have hI := R.lt
    have hb0 : Below W0.heap.size W0 W0.drew := (Below.refl _ _).drew
    go_region_held3 (fun w' => w'.cell? ⟨w.heap.size, 0, none⟩ = some (.bool s) ∧ w'.cell? ⟨w.heap.size, 1, none⟩ = some (.slice a n c))
      (first | exact ⟨k0, k1⟩ | exact ⟨cell_keep k0 (by assumption), cell_keep k1 (by assumption)⟩ | exact ⟨cell_keep k0 (Below.alloc' (by assumption) _), cell_keep k1 (Below.alloc' (by assumption) _)⟩ | (refine ⟨?_, ?_⟩ <;> (rw [cell?_setCell_ne (by omega), cell?_setCell_ne (by omega), cell?_setCell_ne (by omega)]) <;> first | exact cell_keep k0 (by assumption) | exact cell_keep k1 (by assumption)))
      (first | (go_at_call 60; (with_reducible refine (of_any a n c f _ ?_ ?_ ?_).mono ?_); exact (WS.out _ (by first | exact hb0 | exact Below.alloc' hb0 _)).cells; exact (WS.out _ hb0).lt; omega; rintro e w1 ⟨aO, nO, cO, rfl, hO, hB1⟩; have hb1 := Below.then (by first | exact hb0 | exact Below.alloc' hb0 _) (Nat.le_refl _) hB1; have hz1 := hb1.size; try (have RR : ResBlk w1 W0.heap.size := (ResBlk.alloc W0.drew 31).below (by simp) hB1)) | (go_at_call 60; (with_reducible refine (of_any a' n' c' f' _ ?_ ?_ ?_).mono ?_); exact (WS'.out _ (by first | exact hb1 | exact Below.alloc' hb1 _)).cells; exact (WS'.out _ hb0).lt; omega; rintro e w2 ⟨aD, nD, cD, rfl, hD, hB2⟩; have hb2 := Below.then (by first | exact hb1 | exact Below.alloc' hb1 _) (Nat.le_refl _) hB2; have hz2 := hb2.size; have hV : RtAt w2 s aO nO cO aD nD cD (frt s f n f' n') L := ⟨rfl, by first | exact hO.keep hB2 | exact (hO.keep ((Below.refl _ _).alloc (Nat.le_refl _) _)).keep hB2, hD, HN.out, HD.out⟩; try (first | (have RV : ResBlk w2 W0.heap.size := RR.below RR.lt hB2; obtain ⟨⟨u0, r0⟩, ⟨u1, r1⟩, ⟨u2, r2⟩⟩ := (RV).cells; have f0 := (RV).frozen 0; have f1 := (RV).frozen 1; have f2 := (RV).frozen 2) | (have RV : ResBlk w2 w1.heap.size := (ResBlk.alloc w1 31).below (by simp) hB2; obtain ⟨⟨u0, r0⟩, ⟨u1, r1⟩, ⟨u2, r2⟩⟩ := (RV).cells; have f0 := (RV).frozen 0; have f1 := (RV).frozen 1; have f2 := (RV).frozen 2))))
    all_goals (go_wp2_with fail; go_meet; first | exact ⟨_, _, _, _, _, _, _, rfl, rtBlk_new w2 _ _ _ _ _ _ _ _, hV.keep ((Below.refl _ _).alloc (Nat.le_refl _) _), hz2, Below.alloc' hb2 _⟩ | exact ⟨_, _, _, _, _, _, _, rfl, rtBlk_stored RV _ _ _ _ _ _ _, stored3 RV hV, Nat.le_refl _, ((hb2.setCell (Nat.le_refl _) _).setCell (Nat.le_refl _) _).setCell (Nat.le_refl _) _⟩ | exact ⟨_, _, _, _, _, _, _, rfl, rtBlk_stored RV _ _ _ _ _ _ _, stored3 RV hV, hz1, ((hb2.setCell hz1 _).setCell hz1 _).setCell hz1 _⟩)
  case rest =>
    obtain ⟨g, aO, nO, cO, aD, nD, cD, rfl, hblk, hV, hg, hbw⟩ := hcut
    have hgt : w.heap.size + 1 < g := Nat.lt_of_lt_of_le R.lt hg
    have RC := R.below R.lt hbw
    have K0 := cell_keep k0 hbw
    have K1 := cell_keep k1 hbw
    have WSc := WS.out _ hbw
    have WSd := WS'.out _ hbw
    have hlN := hV.n_le
    have hlD := hV.d_le
    have hbf := Below.then hbW (Nat.le_refl _) hbw
    have hp := natAt_pos_len hV.den
    have HV := Lib.hid hV
    have HSE := Lib.hid (show (frt s f n f' n').num = val W64 f n ∧ (frt s f n f' n').den = val W64 f' n' ∧ (frt s f n f' n').neg = s from ⟨rfl, rfl, rfl⟩)
    clear hbw WS WS' k0 k1 R hV HW hbW
    obtain ⟨⟨u0, r0⟩, ⟨u1, r1⟩, ⟨u2, r2⟩⟩ := (RC).cells; have f0 := (RC).frozen 0; have f1 := (RC).frozen 1; have f2 := (RC).frozen 2
    obtain ⟨v0, v1, v2⟩ := hblk
    cases hD0 : decide (0 < val W64 f' n')
    · have hl0 : nD = 0 := by
        rw [HSE.out.2.1, hD0] at hp
        simpa using hp
      have HB := Lib.hid (show fracB s f n f' n' = false from by unfold fracB; rw [hD0]; rfl)
      clear hD0 hp
      subst hl0
      go_wp2
      exact bodyPost_ret (v := .tuple #[.agg #[.bool false, .slice none 0 0, .slice none 0 0], .bool false]) (by simp [results, Tryz.results69, go_sem, r0, r1, r2]) rfl
        ⟨_, _, _, _, _, _, _, by rw [HB.out], fun h => (by rw [HB.out] at h; cases h), ((hbf.setCell (Nat.le_add_right _ 1) _).setCell (Nat.le_add_right _ 1) _).setCell (Nat.le_add_right _ 1) _⟩
    · have hl0 : ((nD : Int) == 0) = false := by
        rw [HSE.out.2.1, hD0] at hp
        simp at hp ⊢; omega
      have HD0 := Lib.hid hD0
      clear hD0 hp
      cases hN : isNumB s f n s (val W64 f n)
      · have HB := Lib.hid (show fracB s f n f' n' = false from by unfold fracB; rw [hN]; simp)
        have HNB := Lib.hid hN
        clear hN
        go_wp2_with fail
        refine (isNumber_any s a n c f s aO nO cO (val W64 f n) _ WSc (by omega) HV.out.num (by omega)).mono ?_
        rintro e w1 ⟨rfl, hB1⟩
        rw [HNB.out]
        have RC1 := RC.below RC.lt hB1
        clear r0 r1 r2 f0 f1 f2
        obtain ⟨⟨u0', r0⟩, ⟨u1', r1⟩, ⟨u2', r2⟩⟩ := RC1.cells
        have f0 := RC1.frozen 0
        have f1 := RC1.frozen 1
        have f2 := RC1.frozen 2
        have hbg := Below.then hbf (Nat.le_refl _) hB1
        go_wp2
        exact bodyPost_ret (v := .tuple #[.agg #[.bool false, .slice none 0 0, .slice none 0 0], .bool false]) (by simp [results, Tryz.results69, go_sem, r0, r1, r2]) rfl
          ⟨_, _, _, _, _, _, _, by rw [HB.out], fun h => (by rw [HB.out] at h; cases h), ((hbg.setCell (Nat.le_add_right _ 1) _).setCell (Nat.le_add_right _ 1) _).setCell (Nat.le_add_right _ 1) _⟩
      · have HNB := Lib.hid hN
        clear hN
        cases hH : hasW f' n' (val W64 f' n')
        · have HB := Lib.hid (show fracB s f n f' n' = false from by unfold fracB; rw [hH]; simp)
          have HHB := Lib.hid hH
          clear hH
          go_wp2_with fail
          refine (isNumber_any s a n c f s aO nO cO (val W64 f n) _ WSc (by omega) HV.out.num (by omega)).mono ?_
          rintro e w1 ⟨rfl, hB1⟩
          rw [HNB.out]
          have V2' := cell_keep v2 hB1
          clear r0 r1 r2 f0 f1 f2
          have RC1 := RC.below RC.lt hB1
          have hbg := Below.then hbf (Nat.le_refl _) hB1
          go_wp2_with fail
          refine (hasWords_any a' aD n' c' nD cD (val W64 f' n') f' _ (WSd.keep hB1).cells WSd.lt (by omega) (HV.out.den.keep hB1) (by omega)).mono ?_
          rintro e w2 ⟨rfl, hB2⟩
          rw [HHB.out]
          have RC2 := RC1.below RC1.lt hB2
          obtain ⟨⟨u0', r0⟩, ⟨u1', r1⟩, ⟨u2', r2⟩⟩ := RC2.cells
          have f0 := RC2.frozen 0
          have f1 := RC2.frozen 1
          have f2 := RC2.frozen 2
          have hbh := Below.then hbg (Nat.le_refl _) hB2
          go_wp2
          exact bodyPost_ret (v := .tuple #[.agg #[.bool false, .slice none 0 0, .slice none 0 0], .bool false]) (by simp [results, Tryz.results69, go_sem, r0, r1, r2]) rfl
            ⟨_, _, _, _, _, _, _, by rw [HB.out], fun h => (by rw [HB.out] at h; cases h), ((hbh.setCell (Nat.le_add_right _ 1) _).setCell (Nat.le_add_right _ 1) _).setCell (Nat.le_add_right _ 1) _⟩
        · have HB := Lib.hid (show fracB s f n f' n' = decide (Nat.gcd (val W64 f n) (val W64 f' n') = 1) from by unfold fracB; rw [HD0.out, HNB.out, hH]; simp)
          have HHB := Lib.hid hH
          clear hH
          go_wp2_with fail
          refine (isNumber_any s a n c f s aO nO cO (val W64 f n) _ WSc (by omega) HV.out.num (by omega)).mono ?_
          rintro e w1 ⟨rfl, hB1⟩
          rw [HNB.out]
          have V2' := cell_keep v2 hB1
          clear r0 r1 r2 f0 f1 f2
          have RC1 := RC.below RC.lt hB1
          have hbg := Below.then hbf (Nat.le_refl _) hB1
          go_wp2_with fail
          refine (hasWords_any a' aD n' c' nD cD (val W64 f' n') f' _ (WSd.keep hB1).cells WSd.lt (by omega) (HV.out.den.keep hB1) (by omega)).mono ?_
          rintro e w2 ⟨rfl, hB2⟩
          rw [HHB.out]
          have RC2 := RC1.below RC1.lt hB2
          have hbh := Below.then hbg (Nat.le_refl _) hB2
          have HV2 := Lib.hid ((HV.out.keep hB1).keep hB2)
          have z0 := cell_keep (cell_keep v0 hB1) hB2
          have z1 := cell_keep (cell_keep v1 hB1) hB2
          have z2 := cell_keep (cell_keep v2 hB1) hB2
          have HZ := Lib.hid (cmpI_zero (Nat.gcd (val W64 f n) (val W64 f' n')) 1)
          clear v0 v1 v2 V2' K0 K1
          go_upto_region 4 with fail
          have hb0 : Below w2.heap.size w2 w2.drew := (Below.refl _ _).drew
          go_region_held3 (fun w' => w'.cell? ⟨g, 0, none⟩ = some (.bool s) ∧ w'.cell? ⟨g, 1, none⟩ = some (.slice aO nO cO) ∧ w'.cell? ⟨g, 2, none⟩ = some (.slice aD nD cD))
            (first | exact ⟨z0, z1, z2⟩ | exact ⟨cell_keep z0 (by assumption), cell_keep z1 (by assumption), cell_keep z2 (by assumption)⟩ | (refine ⟨?_, ?_, ?_⟩ <;> (rw [cell?_setCell_ne (by omega), cell?_setCell_ne (by omega), cell?_setCell_ne (by omega)]) <;> first | exact cell_keep z0 (by assumption) | exact cell_keep z1 (by assumption) | exact cell_keep z2 (by assumption)))
            (first | (go_at_call 114; (with_reducible refine (gcd_any aO aD nO nD cO cD (val W64 f n) (val W64 f' n') _ ?_ ?_ ?_ ?_).mono ?_); exact (HV2.out.keep hb0).num; exact (HV2.out.keep hb0).den; omega; omega; rintro e w3 ⟨aG, nG, cG, rfl, hG, hB3⟩; have hb3 := Below.then hb0 (Nat.le_refl _) hB3; have hlG := hG.len16 (Nat.lt_of_le_of_lt (Nat.le_of_dvd (by simpa using HD0.out) (Nat.gcd_dvd_right _ _)) HD.out)) | (go_at_call 61; (with_reducible refine (small_one _).mono ?_); rintro e w4 ⟨aS, nS, cS, rfl, hS, hB4⟩; have hb4 := Below.then hb3 (Nat.le_refl _) hB4; have hlS := hS.len16 (m := 1) (by decide)) | (go_at_call 53; (with_reducible refine (cmp_any aG aS nG nS cG cS (Nat.gcd (val W64 f n) (val W64 f' n')) 1 _ ?_ ?_ ?_ ?_).mono ?_); exact hG.keep hB4; exact hS; omega; omega; rintro e w5 ⟨rfl, hm5⟩; have hb5 := Below.then hb4 (Nat.le_refl _) (below_of_drewN (B := w4.heap.size) hm5); clear hm5; have RC5 := RC2.below RC2.lt hb5; obtain ⟨⟨u0, r0⟩, ⟨u1, r1⟩, ⟨u2, r2⟩⟩ := (RC5).cells; have f0 := (RC5).frozen 0; have f1 := (RC5).frozen 1; have f2 := (RC5).frozen 2))
          have hbi := Below.then hbh (Nat.le_refl _) hb5
          go_wp2
          exact bodyPost_ret (v := .tuple #[.agg #[.bool s, .slice aO nO cO, .slice aD nD cD], .bool (cmpI (Nat.gcd (val W64 f n) (val W64 f' n')) 1 == 0)]) (by simp [results, Tryz.results69, go_sem, r0, r1, r2]) rfl
            ⟨_, _, _, _, _, _, _, by rw [HB.out, HZ.out], fun _ => stored3 RC5 (HV2.out.keep hb5), ((hbi.setCell (Nat.le_add_right _ 1) _).setCell (Nat.le_add_right _ 1) _).setCell (Nat.le_add_right _ 1) _⟩
theorem isInt_any (x : Vl) (t : Bool) (a2 : Option Addr) (n2 c2 : Nat) (a2' : Option Addr) (n2' c2' : Nat) (q : Rt) (L : Nat) (w : World)
    (h1 : VlAt w x) (h2 : RtAt w t a2 n2 c2 a2' n2' c2' q L) (hL : L ≤ 100000) (hn : x.wn ≤ 1000) :
    Calls Tryz.prog 29 #[.agg #[.int .i64 x.kind, .bool x.truth, .string x.text, .bool x.neg, .slice x.wa x.wn x.wc, .slice x.da x.dn x.dc, .bool x.ineg, .slice x.ia x.inn x.ic, .slice x.ea x.en x.ec], .agg #[.bool t, .slice a2 n2 c2, .slice a2' n2' c2']] w fun e w' => e = .returned (.bool (intB x && sameB (Rt.whole x.neg (val W64 x.wf x.wn)) q)) ∧ Below w.heap.size w w' := by
  obtain ⟨W0, hW0⟩ : ∃ W0, W0 = (w.alloc (.cells #[.int .i64 x.kind, .bool x.truth, .string x.text, .bool x.neg, .slice x.wa x.wn x.wc, .slice x.da x.dn x.dc, .bool x.ineg, .slice x.ia x.inn x.ic, .slice x.ea x.en x.ec] 26)).alloc (.cells #[.bool t, .slice a2 n2 c2, .slice a2' n2' c2'] 31) := ⟨_, rfl⟩
  have HW := Lib.hid hW0
  have hb0 : Below w.heap.size w W0 := by rw [hW0]; exact Below.alloc' (Below.alloc' (Below.refl _ _) _) _
  have X : Box9 W0 w.heap.size x := by rw [hW0]; exact (Box9.new w x _ rfl).alloc _
  have C : RtBlk W0 (w.heap.size + 1) t a2 n2 c2 a2' n2' c2' := by rw [hW0]; exact RtBlk.new _ _ (by simp) _ _ _ _ _ _ _
  have HX := Lib.hid (h1.keep hb0)
  have HC := Lib.hid (h2.keep hb0)
  clear hW0 h1 h2
  go_enter Tryz.func29, Tryz.ntmps29
  go_upto_region 1 with fail
  rw [← HW.out]
  obtain ⟨xc0, xc1, xc2, xc3, xc4, xc5, xc6, xc7, xc8⟩ := (X).all
  go_wp2_with fail
  refine (integer_any x _ HX.out hn).mono ?_
  rintro e w1 ⟨sV, aV, nV, cV, aE, nE, cE, rfl, hR, hB1⟩
  clear xc0 xc1 xc2 xc3 xc4 xc5 xc6 xc7 xc8
  go_upto_region 2 with fail
  obtain ⟨W1, hW1⟩ : ∃ W1, W1 = w1.alloc (.cells #[.bool sV, .slice aV nV cV, .slice aE nE cE] 31) := ⟨_, rfl⟩
  rw [← hW1]
  have hb1 : Below W0.heap.size W0 W1 := by rw [hW1]; exact Below.alloc' hB1 _
  have V1 : RtBlk W1 w1.heap.size sV aV nV cV aE nE cE := by rw [hW1]; exact RtBlk.new _ _ rfl _ _ _ _ _ _ _
  have R1 := Lib.hid (show intB x = true → RtAt W1 sV aV nV cV aE nE cE (Rt.whole x.neg (val W64 x.wf x.wn)) (4 * x.wn + 1) from fun hb => by
    rw [hW1]; exact (hR hb).keep ((Below.refl _ _).alloc (Nat.le_refl _) _))
  have C1 := C.keep hb1
  have HC1 := Lib.hid (HC.out.keep hb1)
  have hbf := Below.then hb0 (Nat.le_refl _) hb1
  clear hW1 hR hB1 C HC X HX hb1
  obtain ⟨v0, v1, v2⟩ := V1
  obtain ⟨y0, y1, y2⟩ := C1
  cases hb : intB x
  · go_wp2
    go_ret
    exact ⟨ret_bool (by rw [hb]; rfl), hbf⟩
  · have HR := R1.out hb
    have hL' : 4 * x.wn + 1 ≤ L + 4001 := by omega
    have HBB := Lib.hid hb
    clear hb R1
    go_wp2_with fail
    refine (same_any sV t aV nV cV aE nE cE a2 n2 c2 a2' n2' c2' (Rt.whole x.neg (val W64 x.wf x.wn)) q (L + 4001) _ (HR.mono hL') (HC1.out.mono (by omega)) (by omega)).mono ?_
    rintro e w2 ⟨rfl, hB2⟩
    have hbg := Below.then hbf (Nat.le_refl _) hB2
    go_wp2
    go_ret
    exact ⟨ret_bool (by rw [HBB.out, Bool.true_and]), hbg⟩
end Go.Proofs.YtececkbcinmmpaaGreatDoor
