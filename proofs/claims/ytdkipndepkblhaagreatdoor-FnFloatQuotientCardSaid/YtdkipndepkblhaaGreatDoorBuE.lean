/-
  The reference's reader of integers: Integer.
  The laws' own readers: zzFits1, whole, wholes.
  The laws' reader of two integers.
-/
import Derived.Test.YtdkipndepkblhaaGreatDoorBuD
import Derived.Deep.DeepCutAuto
import Derived.Test.YtdkipndepkblhaaGreatDoorBuA
set_option linter.unusedSimpArgs false
set_option linter.unusedVariables false
namespace Go.Proofs.YtdkipndepkblhaaGreatDoor
open Go.RowKit Go.Bg Dg

/-- a fraction's three cells, whatever they hold, and whether the reading stands; if it does, it is r -/
def Reads1 (b : Bool) (r : Rt) (L : Nat) (w : World) (e : Ending) (w' : World) : Prop :=
  ∃ s a n c a' n' c', e = .returned (.tuple #[.agg #[.bool s, .slice a n c, .slice a' n' c'], .bool b]) ∧ (b = true → RtAt w' s a n c a' n' c' r L) ∧ Below w.heap.size w w'

/-- the value is an Int as it is told -/
def intB (v : Vl) : Bool :=
  decide (v.kind = 3) && isNumB v.neg v.wf v.wn (v.neg && decide (0 < val W64 v.wf v.wn)) (val W64 v.wf v.wn) && decide (v.dn = 0) && v.restB

structure IntegerW (w W0 : World) (v : Vl) : Prop where
  c0 : W0.cell? ⟨w.heap.size, 0, none⟩ = some (.int .i64 v.kind)
  c1 : W0.cell? ⟨w.heap.size, 1, none⟩ = some (.bool v.truth)
  c2 : W0.cell? ⟨w.heap.size, 2, none⟩ = some (.string v.text)
  c3 : W0.cell? ⟨w.heap.size, 3, none⟩ = some (.bool v.neg)
  c4 : W0.cell? ⟨w.heap.size, 4, none⟩ = some (.slice v.wa v.wn v.wc)
  c5 : W0.cell? ⟨w.heap.size, 5, none⟩ = some (.slice v.da v.dn v.dc)
  c6 : W0.cell? ⟨w.heap.size, 6, none⟩ = some (.bool v.ineg)
  c7 : W0.cell? ⟨w.heap.size, 7, none⟩ = some (.slice v.ia v.inn v.ic)
  c8 : W0.cell? ⟨w.heap.size, 8, none⟩ = some (.slice v.ea v.en v.ec)
  res : ResBlk W0 (w.heap.size + 1)
  below : Below w.heap.size w W0

theorem IntegerW.keep {w W0 W1 : World} {v : Vl} (h : IntegerW w W0 v) (hb : Below W0.heap.size W0 W1) : IntegerW w W1 v :=
  ⟨cell_keep h.c0 hb, cell_keep h.c1 hb, cell_keep h.c2 hb, cell_keep h.c3 hb, cell_keep h.c4 hb, cell_keep h.c5 hb, cell_keep h.c6 hb, cell_keep h.c7 hb, cell_keep h.c8 hb, h.res.below h.res.lt hb, Below.then h.below (Nat.le_refl _) hb⟩

theorem IntegerW.all {w W0 : World} {v : Vl} (h : IntegerW w W0 v) : W0.cell? ⟨w.heap.size, 0, none⟩ = some (.int .i64 v.kind) ∧ W0.cell? ⟨w.heap.size, 1, none⟩ = some (.bool v.truth) ∧ W0.cell? ⟨w.heap.size, 2, none⟩ = some (.string v.text) ∧ W0.cell? ⟨w.heap.size, 3, none⟩ = some (.bool v.neg) ∧ W0.cell? ⟨w.heap.size, 4, none⟩ = some (.slice v.wa v.wn v.wc) ∧ W0.cell? ⟨w.heap.size, 5, none⟩ = some (.slice v.da v.dn v.dc) ∧ W0.cell? ⟨w.heap.size, 6, none⟩ = some (.bool v.ineg) ∧ W0.cell? ⟨w.heap.size, 7, none⟩ = some (.slice v.ia v.inn v.ic) ∧ W0.cell? ⟨w.heap.size, 8, none⟩ = some (.slice v.ea v.en v.ec) := ⟨h.c0, h.c1, h.c2, h.c3, h.c4, h.c5, h.c6, h.c7, h.c8⟩

theorem IntegerW.all_same {w W1 W' : World} {v : Vl} (C : IntegerW w W1 v) (h : ∀ o, W'.cell? ⟨w.heap.size, o, none⟩ = W1.cell? ⟨w.heap.size, o, none⟩) : W'.cell? ⟨w.heap.size, 0, none⟩ = some (.int .i64 v.kind) ∧ W'.cell? ⟨w.heap.size, 1, none⟩ = some (.bool v.truth) ∧ W'.cell? ⟨w.heap.size, 2, none⟩ = some (.string v.text) ∧ W'.cell? ⟨w.heap.size, 3, none⟩ = some (.bool v.neg) ∧ W'.cell? ⟨w.heap.size, 4, none⟩ = some (.slice v.wa v.wn v.wc) ∧ W'.cell? ⟨w.heap.size, 5, none⟩ = some (.slice v.da v.dn v.dc) ∧ W'.cell? ⟨w.heap.size, 6, none⟩ = some (.bool v.ineg) ∧ W'.cell? ⟨w.heap.size, 7, none⟩ = some (.slice v.ia v.inn v.ic) ∧ W'.cell? ⟨w.heap.size, 8, none⟩ = some (.slice v.ea v.en v.ec) := by
  rw [h, h, h, h, h, h, h, h, h]; exact C.all

theorem integerW (w : World) (v : Vl) (T T' : TypeId) : IntegerW w ((w.alloc (.cells #[.int .i64 v.kind, .bool v.truth, .string v.text, .bool v.neg, .slice v.wa v.wn v.wc, .slice v.da v.dn v.dc, .bool v.ineg, .slice v.ia v.inn v.ic, .slice v.ea v.en v.ec] T)).alloc (.cells #[.bool false, .slice none 0 0, .slice none 0 0] T')) v := by
  have R := ResBlk.alloc (w.alloc (.cells #[.int .i64 v.kind, .bool v.truth, .string v.text, .bool v.neg, .slice v.wa v.wn v.wc, .slice v.da v.dn v.dc, .bool v.ineg, .slice v.ia v.inn v.ic, .slice v.ea v.en v.ec] T)) T'
  simp at R
  exact ⟨alloc_keep _ _ (alloc_new _ _ _ rfl rfl), alloc_keep _ _ (alloc_new _ _ _ rfl rfl), alloc_keep _ _ (alloc_new _ _ _ rfl rfl), alloc_keep _ _ (alloc_new _ _ _ rfl rfl), alloc_keep _ _ (alloc_new _ _ _ rfl rfl),
    alloc_keep _ _ (alloc_new _ _ _ rfl rfl), alloc_keep _ _ (alloc_new _ _ _ rfl rfl), alloc_keep _ _ (alloc_new _ _ _ rfl rfl), alloc_keep _ _ (alloc_new _ _ _ rfl rfl), R, ((Below.refl _ _).alloc (Nat.le_refl _) _).alloc (by simp) _⟩

set_option maxRecDepth 100000 in
set_option maxHeartbeats 2000000 in
theorem integer_any (v : Vl) (w : World) (h : VlAt w v) (hn : v.wn ≤ 1000) : Calls Tryz.prog 40 #[.agg #[.int .i64 v.kind, .bool v.truth, .string v.text, .bool v.neg, .slice v.wa v.wn v.wc, .slice v.da v.dn v.dc, .bool v.ineg, .slice v.ia v.inn v.ic, .slice v.ea v.en v.ec]] w (Reads1 (intB v) (Rt.whole v.neg (val W64 v.wf v.wn)) (4 * v.wn + 1) w) := by
  by_cases hk : v.kind = 3
  · have hkb : (v.kind != 3) = false := by rw [hk]; rfl
    obtain ⟨W0, hW0⟩ : ∃ W0, W0 = (w.alloc (.cells #[.int .i64 v.kind, .bool v.truth, .string v.text, .bool v.neg, .slice v.wa v.wn v.wc, .slice v.da v.dn v.dc, .bool v.ineg, .slice v.ia v.inn v.ic, .slice v.ea v.en v.ec] 26)).alloc (.cells #[.bool false, .slice none 0 0, .slice none 0 0] 31) := ⟨_, rfl⟩
    have I := integerW w v 26 31
    rw [← hW0] at I
    have HW := Lib.hid hW0
    have HK := Lib.hid hk
    have hL : val W64 v.wf v.wn < 65536 ^ (4 * v.wn + 1) := by
      have := val_lt h.ws.lt
      rw [W64_16, ← Nat.pow_mul] at this
      exact Nat.lt_of_lt_of_le this (Nat.pow_le_pow_right (by decide) (by omega))
    have HL := Lib.hid hL
    have WS := Lib.hid (show ∀ W', Below W0.heap.size W0 W' → WordsAt W' v.wa v.wn v.wc v.wf from fun W' hb => (h.ws.keep I.below).keep hb)
    clear hW0 hk hL
    go_enter Tryz.func40, Tryz.ntmps40
    go_upto_region 3 with fail
    rw [← HW.out]
    go_cut [4] (fun s4 wx => ∃ g sV aV nV cV aE nE cE, s4 = .pointer (some ⟨g, 0, none⟩) ∧ RtBlk wx g sV aV nV cV aE nE cE ∧ RtAt wx sV aV nV cV aE nE cE (Rt.whole v.neg (val W64 v.wf v.wn)) (4 * v.wn + 1) ∧ W0.heap.size ≤ g ∧ Below W0.heap.size W0 wx)
    case first =>
      have hI := I.res.lt
      have hb0 : Below W0.heap.size W0 W0.drew := (Below.refl _ _).drew
      go_region_held3 (fun w' => w'.cell? ⟨w.heap.size, 3, none⟩ = some (.bool v.neg) ∧ w'.cell? ⟨w.heap.size, 4, none⟩ = some (.slice v.wa v.wn v.wc))
        (first | exact ⟨I.c3, I.c4⟩ | exact ⟨cell_keep I.c3 (by assumption), cell_keep I.c4 (by assumption)⟩ | exact ⟨cell_keep I.c3 (Below.alloc' (by assumption) _), cell_keep I.c4 (Below.alloc' (by assumption) _)⟩ | (refine ⟨?_, ?_⟩ <;> (rw [cell?_setCell_ne (by omega), cell?_setCell_ne (by omega), cell?_setCell_ne (by omega)]) <;> first | exact cell_keep I.c3 (by assumption) | exact cell_keep I.c4 (by assumption)))
        (first | (go_at_call 42; (with_reducible refine (of_any v.wa v.wn v.wc v.wf _ ?_ ?_ ?_).mono ?_); exact (WS.out _ (by first | exact hb0 | exact Below.alloc' hb0 _)).cells; exact (WS.out _ hb0).lt; omega; rintro e w1 ⟨aO, nO, cO, rfl, hO, hB1⟩; have hb1 := Below.then (by first | exact hb0 | exact Below.alloc' hb0 _) (Nat.le_refl _) hB1; have hz1 := hb1.size; try (have RR : ResBlk w1 W0.heap.size := (ResBlk.alloc W0.drew 31).below (by simp) hB1)) | (go_at_call 23; (with_reducible refine (whole_any v.neg aO nO cO (val W64 v.wf v.wn) (4 * v.wn + 1) _ ?_ ?_ ?_ ?_).mono ?_); (first | exact hO | exact hO.keep ((Below.refl _ _).alloc (Nat.le_refl _) _)); exact HL.out; omega; omega; rintro e w2 ⟨sV, aV, nV, cV, aE, nE, cE, rfl, hV, hB2⟩; have hb2 := Below.then (by first | exact hb1 | exact Below.alloc' hb1 _) (Nat.le_refl _) hB2; have hz2 := hb2.size; try (first | (have RV : ResBlk w2 W0.heap.size := RR.below RR.lt hB2; obtain ⟨⟨u0, r0⟩, ⟨u1, r1⟩, ⟨u2, r2⟩⟩ := (RV).cells; have f0 := (RV).frozen 0; have f1 := (RV).frozen 1; have f2 := (RV).frozen 2) | (have RV : ResBlk w2 w1.heap.size := (ResBlk.alloc w1 31).below (by simp) hB2; obtain ⟨⟨u0, r0⟩, ⟨u1, r1⟩, ⟨u2, r2⟩⟩ := (RV).cells; have f0 := (RV).frozen 0; have f1 := (RV).frozen 1; have f2 := (RV).frozen 2))))
      all_goals (go_wp2_with fail; go_meet; first | exact ⟨_, _, _, _, _, _, _, _, rfl, rtBlk_new w2 _ _ _ _ _ _ _ _, hV.keep ((Below.refl _ _).alloc (Nat.le_refl _) _), hz2, Below.alloc' hb2 _⟩ | exact ⟨_, _, _, _, _, _, _, _, rfl, rtBlk_stored RV _ _ _ _ _ _ _, stored3 RV hV, Nat.le_refl _, ((hb2.setCell (Nat.le_refl _) _).setCell (Nat.le_refl _) _).setCell (Nat.le_refl _) _⟩ | exact ⟨_, _, _, _, _, _, _, _, rfl, rtBlk_stored RV _ _ _ _ _ _ _, stored3 RV hV, hz1, ((hb2.setCell hz1 _).setCell hz1 _).setCell hz1 _⟩)
    case rest =>
      obtain ⟨g, sV, aV, nV, cV, aE, nE, cE, rfl, hblk, hV, hg, hbw⟩ := hcut
      have hgt : w.heap.size + 1 < g := Nat.lt_of_lt_of_le I.res.lt hg
      have C := I.keep hbw
      have WSc := WS.out _ hbw
      have hVs : sV = (v.neg && decide (0 < val W64 v.wf v.wn)) := hV.neg
      have hnV := hV.n_le
      have hVn := hV.num
      have HV := Lib.hid hV
      have HVS := Lib.hid hVs
      have HH := Lib.hid h
      clear hbw HW HL WS I hV hVs h
      by_cases hN : isNumB v.neg v.wf v.wn sV (val W64 v.wf v.wn) = true
      · by_cases hd : v.dn = 0
        · have hd0 : ((v.dn : Int) == 0) = true := by simp; exact hd
          have hI : intB v = v.restB := by unfold intB; rw [← HVS.out, hN, HK.out]; simp [hd]
          have HI := Lib.hid hI
          have HN := Lib.hid hN
          clear hN hI hd
          go_upto_region 4 with fail
          have hb0 : Below wc.heap.size wc wc.drew := (Below.refl _ _).drew
          refine wp_region_held_drew (S := fun w' => (w'.cell? ⟨w.heap.size, 0, none⟩ = some (.int .i64 v.kind) ∧ w'.cell? ⟨w.heap.size, 1, none⟩ = some (.bool v.truth) ∧ w'.cell? ⟨w.heap.size, 2, none⟩ = some (.string v.text) ∧ w'.cell? ⟨w.heap.size, 3, none⟩ = some (.bool v.neg) ∧ w'.cell? ⟨w.heap.size, 4, none⟩ = some (.slice v.wa v.wn v.wc) ∧ w'.cell? ⟨w.heap.size, 5, none⟩ = some (.slice v.da v.dn v.dc) ∧ w'.cell? ⟨w.heap.size, 6, none⟩ = some (.bool v.ineg) ∧ w'.cell? ⟨w.heap.size, 7, none⟩ = some (.slice v.ia v.inn v.ic) ∧ w'.cell? ⟨w.heap.size, 8, none⟩ = some (.slice v.ea v.en v.ec)) ∧ w'.cell? ⟨g, 0, none⟩ = some (.bool sV) ∧ w'.cell? ⟨g, 1, none⟩ = some (.slice aV nV cV) ∧ w'.cell? ⟨g, 2, none⟩ = some (.slice aE nE cE)) (by kernel_rfl) ⟨C.all, hblk.c0, hblk.c1, hblk.c2⟩ (fun hHeld => ?_)
          refine wpAnyH_take (i := 0) (v := ?_) rfl (by kernel_rfl) (by kernel_rfl) (by kernel_rfl) (fun _ _ _ h => h) (Or.inl ⟨by kernel_rfl, ?_⟩) (by assumption) ?_; rotate_left; focus (intro w' hSw; (try dsimp only at hSw); go_simp; (try with_reducible rfl)); (try simp only [Act.put, List.setIfInBounds_toArray, List.set_cons_zero, List.set_cons_succ])
          refine wpAnyH_take (i := 1) (v := ?_) rfl (by kernel_rfl) (by kernel_rfl) (by kernel_rfl) (fun _ _ _ h => h) (Or.inl ⟨by kernel_rfl, ?_⟩) (by assumption) ?_; rotate_left; focus (intro w' hSw; (try dsimp only at hSw); go_simp; (try with_reducible rfl)); (try simp only [Act.put, List.setIfInBounds_toArray, List.set_cons_zero, List.set_cons_succ])
          refine wpAnyH_take (i := 2) (v := ?_) rfl (by kernel_rfl) (by kernel_rfl) (by kernel_rfl) (fun _ _ _ h => h) (Or.inl ⟨by kernel_rfl, ?_⟩) (by assumption) ?_; rotate_left; focus (intro w' hSw; (try dsimp only at hSw); go_simp; (try with_reducible rfl)); (try simp only [Act.put, List.setIfInBounds_toArray, List.set_cons_zero, List.set_cons_succ])
          refine wpAnyH_take (i := 3) (v := ?_) rfl (by kernel_rfl) (by kernel_rfl) (by kernel_rfl) (fun _ _ _ h => h) (Or.inl ⟨by kernel_rfl, ?_⟩) (by assumption) ?_; rotate_left; focus (intro w' hSw; (try dsimp only at hSw); go_simp; (try with_reducible rfl)); (try simp only [Act.put, List.setIfInBounds_toArray, List.set_cons_zero, List.set_cons_succ])
          refine wpAnyH_take (i := 4) (v := ?_) rfl (by kernel_rfl) (by kernel_rfl) (by kernel_rfl) (fun _ _ _ h => h) (Or.inl ⟨by kernel_rfl, ?_⟩) (by assumption) ?_; rotate_left; focus (intro w' hSw; (try dsimp only at hSw); go_simp; (try with_reducible rfl)); (try simp only [Act.put, List.setIfInBounds_toArray, List.set_cons_zero, List.set_cons_succ])
          refine wpAnyH_take (i := 5) (v := ?_) rfl (by kernel_rfl) (by kernel_rfl) (by kernel_rfl) (fun _ _ _ h => h) (Or.inl ⟨by kernel_rfl, ?_⟩) (by assumption) ?_; rotate_left; focus (intro w' hSw; (try dsimp only at hSw); go_simp; (try with_reducible rfl)); (try simp only [Act.put, List.setIfInBounds_toArray, List.set_cons_zero, List.set_cons_succ])
          refine wpAnyH_take (i := 6) (v := ?_) rfl (by kernel_rfl) (by kernel_rfl) (by kernel_rfl) (fun _ _ _ h => h) (Or.inl ⟨by kernel_rfl, ?_⟩) (by assumption) ?_; rotate_left; focus (intro w' hSw; (try dsimp only at hSw); go_simp; (try with_reducible rfl)); (try simp only [Act.put, List.setIfInBounds_toArray, List.set_cons_zero, List.set_cons_succ])
          refine wpAnyH_ready (rs := [7]) (by kernel_rfl) (by simp) ?_; refine AllReadyH.cons rfl (fun K hK => ?_) AllReadyH.nil
          go_simp
          (with_reducible refine (isNumber_any v.neg v.wa v.wn v.wc v.wf sV aV nV cV (val W64 v.wf v.wn) _ ?_ ?_ ?_ ?_).mono ?_)
          · exact WSc.keep hb0
          · omega
          · exact hVn.keep hb0
          · omega
          rintro e w1 ⟨rfl, hB1⟩
          have hb1 := Below.then hb0 (Nat.le_refl _) hB1
          have RR := C.res.below C.res.lt hb1
          obtain ⟨⟨u0, r0⟩, ⟨u1, r1⟩, ⟨u2, r2⟩⟩ := (RR).cells; have f0 := (RR).frozen 0; have f1 := (RR).frozen 1; have f2 := (RR).frozen 2
          rw [HN.out]
          refine hK.out _ _ (⟨(C.keep hb1).all, cell_keep hblk.c0 hb1, cell_keep hblk.c1 hb1, cell_keep hblk.c2 hb1⟩) (fun hHeld => ?_); clear hK K; (try simp only [Act.put, List.setIfInBounds_toArray, List.set_cons_zero, List.set_cons_succ])
          refine wpAnyH_take (i := 8) (v := ?_) rfl (by kernel_rfl) (by kernel_rfl) (by kernel_rfl) (fun _ _ _ h => h) (Or.inl ⟨by kernel_rfl, ?_⟩) (by assumption) ?_; rotate_left; focus (intro w' hSw; (try dsimp only at hSw); go_simp; (try with_reducible rfl)); (try simp only [Act.put, List.setIfInBounds_toArray, List.set_cons_zero, List.set_cons_succ])
          refine wpAnyH_take (i := 9) (v := ?_) rfl (by kernel_rfl) (by kernel_rfl) (by kernel_rfl) (fun _ _ _ h => h) (Or.inl ⟨by kernel_rfl, ?_⟩) (by assumption) ?_; rotate_left; focus (intro w' hSw; (try dsimp only at hSw); go_simp; (try with_reducible rfl)); (try simp only [Act.put, List.setIfInBounds_toArray, List.set_cons_zero, List.set_cons_succ])
          refine wpAnyH_take (i := 10) (v := ?_) rfl (by kernel_rfl) (by kernel_rfl) (by kernel_rfl) (fun _ _ _ h => h) (Or.inl ⟨by kernel_rfl, ?_⟩) (by assumption) ?_; rotate_left; focus (intro w' hSw; (try dsimp only at hSw); go_simp; (try with_reducible rfl)); (try simp only [Act.put, List.setIfInBounds_toArray, List.set_cons_zero, List.set_cons_succ])
          refine wpAnyH_take (i := 11) (v := ?_) rfl (by kernel_rfl) (by kernel_rfl) (by kernel_rfl) (fun _ _ _ h => h) (Or.inl ⟨by kernel_rfl, ?_⟩) (by assumption) ?_; rotate_left; focus (intro w' hSw; (try dsimp only at hSw); go_simp; (try with_reducible rfl)); (try simp only [Act.put, List.setIfInBounds_toArray, List.set_cons_zero, List.set_cons_succ])
          refine wpAnyH_take (i := 12) (v := ?_) rfl (by kernel_rfl) (by kernel_rfl) (by kernel_rfl) (fun _ _ _ h => h) (Or.inl ⟨by kernel_rfl, ?_⟩) (by assumption) ?_; rotate_left; focus (intro w' hSw; (try dsimp only at hSw); go_simp; (try with_reducible rfl)); (try simp only [Act.put, List.setIfInBounds_toArray, List.set_cons_zero, List.set_cons_succ])
          refine wpAnyH_take (i := 13) (v := ?_) rfl (by kernel_rfl) (by kernel_rfl) (by kernel_rfl) (fun _ _ _ h => h) (Or.inl ⟨by kernel_rfl, ?_⟩) (by assumption) ?_; rotate_left; focus (intro w' hSw; (try dsimp only at hSw); go_simp; (try with_reducible rfl)); (try simp only [Act.put, List.setIfInBounds_toArray, List.set_cons_zero, List.set_cons_succ])
          refine wpAnyH_take (i := 14) (v := ?_) rfl (by kernel_rfl) (by kernel_rfl) (by kernel_rfl) (fun _ _ _ h => h) (Or.inl ⟨by kernel_rfl, ?_⟩) (by assumption) ?_; rotate_left; focus (intro w' hSw; (try dsimp only at hSw); go_simp; (try with_reducible rfl)); (try simp only [Act.put, List.setIfInBounds_toArray, List.set_cons_zero, List.set_cons_succ])
          refine wpAnyH_take (i := 15) (v := ?_) rfl (by kernel_rfl) (by kernel_rfl) (by kernel_rfl) (fun _ _ _ h => h) (Or.inl ⟨by kernel_rfl, ?_⟩) (by assumption) ?_; rotate_left; focus (intro w' hSw; (try dsimp only at hSw); go_simp; (try with_reducible rfl)); (try simp only [Act.put, List.setIfInBounds_toArray, List.set_cons_zero, List.set_cons_succ])
          refine wpAnyH_ready (rs := [16]) (by kernel_rfl) (by simp) ?_; refine AllReadyH.cons rfl (fun K hK => ?_) AllReadyH.nil
          go_simp
          (with_reducible refine (rest_any v _).mono ?_)
          rintro e w2 ⟨rfl, hB2⟩
          have hb2 := Below.then hb1 (Nat.le_refl _) hB2
          have RR2 := C.res.below C.res.lt hb2
          clear r0 r1 r2 f0 f1 f2
          obtain ⟨⟨u0', r0⟩, ⟨u1', r1⟩, ⟨u2', r2⟩⟩ := RR2.cells
          have f0 := RR2.frozen 0
          have f1 := RR2.frozen 1
          have f2 := RR2.frozen 2
          refine hK.out _ _ (⟨(C.keep hb2).all, cell_keep hblk.c0 hb2, cell_keep hblk.c1 hb2, cell_keep hblk.c2 hb2⟩) (fun hHeld => ?_); clear hK K; (try simp only [Act.put, List.setIfInBounds_toArray, List.set_cons_zero, List.set_cons_succ])
          refine wpAnyH_take (i := 17) (v := ?_) rfl (by kernel_rfl) (by kernel_rfl) (by kernel_rfl) (fun _ _ _ h => h) (Or.inl ⟨by kernel_rfl, ?_⟩) (by assumption) ?_; rotate_left; focus (intro w' hSw; (try dsimp only at hSw); go_simp; (try with_reducible rfl)); (try simp only [Act.put, List.setIfInBounds_toArray, List.set_cons_zero, List.set_cons_succ])
          refine wpAnyH_ready (rs := [18]) (by kernel_rfl) (by simp) ?_; refine AllReadyH.cons rfl (fun K hK => ?_) AllReadyH.nil
          go_simp
          refine hK.out _ _ (⟨(C.keep hb2).all_same (fun o => by rw [cell?_setCell_ne (by omega), cell?_setCell_ne (by omega), cell?_setCell_ne (by omega)]), by rw [cell?_setCell_ne (by omega), cell?_setCell_ne (by omega), cell?_setCell_ne (by omega)]; exact cell_keep hblk.c0 hb2, by rw [cell?_setCell_ne (by omega), cell?_setCell_ne (by omega), cell?_setCell_ne (by omega)]; exact cell_keep hblk.c1 hb2, by rw [cell?_setCell_ne (by omega), cell?_setCell_ne (by omega), cell?_setCell_ne (by omega)]; exact cell_keep hblk.c2 hb2⟩) (fun hHeld => ?_); clear hK K; (try simp only [Act.put, List.setIfInBounds_toArray, List.set_cons_zero, List.set_cons_succ])
          refine wpAnyH_take (i := 19) (v := ?_) rfl (by kernel_rfl) (by kernel_rfl) (by kernel_rfl) (fun _ _ _ h => h) (Or.inl ⟨by kernel_rfl, ?_⟩) (by assumption) ?_; rotate_left; focus (intro w' hSw; (try dsimp only at hSw); go_simp; (try with_reducible rfl)); (try simp only [Act.put, List.setIfInBounds_toArray, List.set_cons_zero, List.set_cons_succ])
          refine wpAnyH_done (by kernel_rfl) ?_ _
          have hbf := Below.then C.below (Nat.le_refl _) hb2
          go_wp2
          exact bodyPost_ret (v := .tuple #[.agg #[.bool sV, .slice aV nV cV, .slice aE nE cE], .bool v.restB]) (by simp [results, Tryz.results40, go_sem, r0, r1, r2]) rfl
            ⟨_, _, _, _, _, _, _, by rw [HI.out], fun _ => stored3 RR2 (HV.out.keep hb2), ((hbf.setCell (Nat.le_add_right _ 1) _).setCell (Nat.le_add_right _ 1) _).setCell (Nat.le_add_right _ 1) _⟩
        · have hd0 : ((v.dn : Int) == 0) = false := by simp; exact hd
          have hI : intB v = false := by unfold intB; simp [hd]
          have HI := Lib.hid hI
          have HN := Lib.hid hN
          clear hN hI hd
          go_upto_region 4 with fail
          have hb0 : Below wc.heap.size wc wc.drew := (Below.refl _ _).drew
          refine wp_region_held_drew (S := fun w' => (w'.cell? ⟨w.heap.size, 0, none⟩ = some (.int .i64 v.kind) ∧ w'.cell? ⟨w.heap.size, 1, none⟩ = some (.bool v.truth) ∧ w'.cell? ⟨w.heap.size, 2, none⟩ = some (.string v.text) ∧ w'.cell? ⟨w.heap.size, 3, none⟩ = some (.bool v.neg) ∧ w'.cell? ⟨w.heap.size, 4, none⟩ = some (.slice v.wa v.wn v.wc) ∧ w'.cell? ⟨w.heap.size, 5, none⟩ = some (.slice v.da v.dn v.dc) ∧ w'.cell? ⟨w.heap.size, 6, none⟩ = some (.bool v.ineg) ∧ w'.cell? ⟨w.heap.size, 7, none⟩ = some (.slice v.ia v.inn v.ic) ∧ w'.cell? ⟨w.heap.size, 8, none⟩ = some (.slice v.ea v.en v.ec)) ∧ w'.cell? ⟨g, 0, none⟩ = some (.bool sV) ∧ w'.cell? ⟨g, 1, none⟩ = some (.slice aV nV cV) ∧ w'.cell? ⟨g, 2, none⟩ = some (.slice aE nE cE)) (by kernel_rfl) ⟨C.all, hblk.c0, hblk.c1, hblk.c2⟩ (fun hHeld => ?_)
          refine wpAnyH_take (i := 0) (v := ?_) rfl (by kernel_rfl) (by kernel_rfl) (by kernel_rfl) (fun _ _ _ h => h) (Or.inl ⟨by kernel_rfl, ?_⟩) (by assumption) ?_; rotate_left; focus (intro w' hSw; (try dsimp only at hSw); go_simp; (try with_reducible rfl)); (try simp only [Act.put, List.setIfInBounds_toArray, List.set_cons_zero, List.set_cons_succ])
          refine wpAnyH_take (i := 1) (v := ?_) rfl (by kernel_rfl) (by kernel_rfl) (by kernel_rfl) (fun _ _ _ h => h) (Or.inl ⟨by kernel_rfl, ?_⟩) (by assumption) ?_; rotate_left; focus (intro w' hSw; (try dsimp only at hSw); go_simp; (try with_reducible rfl)); (try simp only [Act.put, List.setIfInBounds_toArray, List.set_cons_zero, List.set_cons_succ])
          refine wpAnyH_take (i := 2) (v := ?_) rfl (by kernel_rfl) (by kernel_rfl) (by kernel_rfl) (fun _ _ _ h => h) (Or.inl ⟨by kernel_rfl, ?_⟩) (by assumption) ?_; rotate_left; focus (intro w' hSw; (try dsimp only at hSw); go_simp; (try with_reducible rfl)); (try simp only [Act.put, List.setIfInBounds_toArray, List.set_cons_zero, List.set_cons_succ])
          refine wpAnyH_take (i := 3) (v := ?_) rfl (by kernel_rfl) (by kernel_rfl) (by kernel_rfl) (fun _ _ _ h => h) (Or.inl ⟨by kernel_rfl, ?_⟩) (by assumption) ?_; rotate_left; focus (intro w' hSw; (try dsimp only at hSw); go_simp; (try with_reducible rfl)); (try simp only [Act.put, List.setIfInBounds_toArray, List.set_cons_zero, List.set_cons_succ])
          refine wpAnyH_take (i := 4) (v := ?_) rfl (by kernel_rfl) (by kernel_rfl) (by kernel_rfl) (fun _ _ _ h => h) (Or.inl ⟨by kernel_rfl, ?_⟩) (by assumption) ?_; rotate_left; focus (intro w' hSw; (try dsimp only at hSw); go_simp; (try with_reducible rfl)); (try simp only [Act.put, List.setIfInBounds_toArray, List.set_cons_zero, List.set_cons_succ])
          refine wpAnyH_take (i := 5) (v := ?_) rfl (by kernel_rfl) (by kernel_rfl) (by kernel_rfl) (fun _ _ _ h => h) (Or.inl ⟨by kernel_rfl, ?_⟩) (by assumption) ?_; rotate_left; focus (intro w' hSw; (try dsimp only at hSw); go_simp; (try with_reducible rfl)); (try simp only [Act.put, List.setIfInBounds_toArray, List.set_cons_zero, List.set_cons_succ])
          refine wpAnyH_take (i := 6) (v := ?_) rfl (by kernel_rfl) (by kernel_rfl) (by kernel_rfl) (fun _ _ _ h => h) (Or.inl ⟨by kernel_rfl, ?_⟩) (by assumption) ?_; rotate_left; focus (intro w' hSw; (try dsimp only at hSw); go_simp; (try with_reducible rfl)); (try simp only [Act.put, List.setIfInBounds_toArray, List.set_cons_zero, List.set_cons_succ])
          refine wpAnyH_ready (rs := [7]) (by kernel_rfl) (by simp) ?_; refine AllReadyH.cons rfl (fun K hK => ?_) AllReadyH.nil
          go_simp
          (with_reducible refine (isNumber_any v.neg v.wa v.wn v.wc v.wf sV aV nV cV (val W64 v.wf v.wn) _ ?_ ?_ ?_ ?_).mono ?_)
          · exact WSc.keep hb0
          · omega
          · exact hVn.keep hb0
          · omega
          rintro e w1 ⟨rfl, hB1⟩
          have hb1 := Below.then hb0 (Nat.le_refl _) hB1
          have RR := C.res.below C.res.lt hb1
          obtain ⟨⟨u0, r0⟩, ⟨u1, r1⟩, ⟨u2, r2⟩⟩ := (RR).cells; have f0 := (RR).frozen 0; have f1 := (RR).frozen 1; have f2 := (RR).frozen 2
          rw [HN.out]
          refine hK.out _ _ (⟨(C.keep hb1).all, cell_keep hblk.c0 hb1, cell_keep hblk.c1 hb1, cell_keep hblk.c2 hb1⟩) (fun hHeld => ?_); clear hK K; (try simp only [Act.put, List.setIfInBounds_toArray, List.set_cons_zero, List.set_cons_succ])
          refine wpAnyH_take (i := 8) (v := ?_) rfl (by kernel_rfl) (by kernel_rfl) (by kernel_rfl) (fun _ _ _ h => h) (Or.inl ⟨by kernel_rfl, ?_⟩) (by assumption) ?_; rotate_left; focus (intro w' hSw; (try dsimp only at hSw); go_simp; (try with_reducible rfl)); (try simp only [Act.put, List.setIfInBounds_toArray, List.set_cons_zero, List.set_cons_succ])
          refine wpAnyH_take (i := 9) (v := ?_) rfl (by kernel_rfl) (by kernel_rfl) (by kernel_rfl) (fun _ _ _ h => h) (Or.inl ⟨by kernel_rfl, ?_⟩) (by assumption) ?_; rotate_left; focus (intro w' hSw; (try dsimp only at hSw); go_simp; (try with_reducible rfl)); (try simp only [Act.put, List.setIfInBounds_toArray, List.set_cons_zero, List.set_cons_succ])
          refine wpAnyH_take (i := 10) (v := ?_) rfl (by kernel_rfl) (by kernel_rfl) (by kernel_rfl) (fun _ _ _ h => h) (Or.inl ⟨by kernel_rfl, ?_⟩) (by assumption) ?_; rotate_left; focus (intro w' hSw; (try dsimp only at hSw); go_simp; (try with_reducible rfl)); (try simp only [Act.put, List.setIfInBounds_toArray, List.set_cons_zero, List.set_cons_succ])
          refine wpAnyH_take (i := 11) (v := ?_) rfl (by kernel_rfl) (by kernel_rfl) (by kernel_rfl) (fun _ _ _ h => h) (Or.inl ⟨by kernel_rfl, ?_⟩) (by assumption) ?_; rotate_left; focus (intro w' hSw; (try dsimp only at hSw); go_simp; (try with_reducible rfl)); (try simp only [Act.put, List.setIfInBounds_toArray, List.set_cons_zero, List.set_cons_succ])
          refine wpAnyH_take (i := 12) (v := ?_) rfl (by kernel_rfl) (by kernel_rfl) (by kernel_rfl) (fun _ _ _ h => h) (Or.inl ⟨by kernel_rfl, ?_⟩) (by assumption) ?_; rotate_left; focus (intro w' hSw; (try dsimp only at hSw); go_simp; (try with_reducible rfl)); (try simp only [Act.put, List.setIfInBounds_toArray, List.set_cons_zero, List.set_cons_succ])
          refine wpAnyH_take (i := 13) (v := ?_) rfl (by kernel_rfl) (by kernel_rfl) (by kernel_rfl) (fun _ _ _ h => h) (Or.inl ⟨by kernel_rfl, ?_⟩) (by assumption) ?_; rotate_left; focus (intro w' hSw; (try dsimp only at hSw); go_simp; (try with_reducible rfl)); (try simp only [Act.put, List.setIfInBounds_toArray, List.set_cons_zero, List.set_cons_succ])
          refine wpAnyH_take (i := 14) (v := ?_) rfl (by kernel_rfl) (by kernel_rfl) (by kernel_rfl) (fun _ _ _ h => h) (Or.inl ⟨by kernel_rfl, ?_⟩) (by assumption) ?_; rotate_left; focus (intro w' hSw; (try dsimp only at hSw); go_simp; (try with_reducible rfl)); (try simp only [Act.put, List.setIfInBounds_toArray, List.set_cons_zero, List.set_cons_succ])
          refine wpAnyH_take (i := 15) (v := undef) rfl (by kernel_rfl) (by kernel_rfl) (by kernel_rfl) (fun _ _ _ h => h) (Or.inr ⟨by kernel_rfl, rfl⟩) (by assumption) ?_; (try simp only [Act.put, List.setIfInBounds_toArray, List.set_cons_zero, List.set_cons_succ])
          refine wpAnyH_take (i := 16) (v := undef) rfl (by kernel_rfl) (by kernel_rfl) (by kernel_rfl) (fun _ _ _ h => h) (Or.inr ⟨by kernel_rfl, rfl⟩) (by assumption) ?_; (try simp only [Act.put, List.setIfInBounds_toArray, List.set_cons_zero, List.set_cons_succ])
          refine wpAnyH_take (i := 17) (v := ?_) rfl (by kernel_rfl) (by kernel_rfl) (by kernel_rfl) (fun _ _ _ h => h) (Or.inl ⟨by kernel_rfl, ?_⟩) (by assumption) ?_; rotate_left; focus (intro w' hSw; (try dsimp only at hSw); go_simp; (try with_reducible rfl)); (try simp only [Act.put, List.setIfInBounds_toArray, List.set_cons_zero, List.set_cons_succ])
          refine wpAnyH_ready (rs := [18]) (by kernel_rfl) (by simp) ?_; refine AllReadyH.cons rfl (fun K hK => ?_) AllReadyH.nil
          go_simp
          refine hK.out _ _ (⟨(C.keep hb1).all_same (fun o => by rw [cell?_setCell_ne (by omega), cell?_setCell_ne (by omega), cell?_setCell_ne (by omega)]), by rw [cell?_setCell_ne (by omega), cell?_setCell_ne (by omega), cell?_setCell_ne (by omega)]; exact cell_keep hblk.c0 hb1, by rw [cell?_setCell_ne (by omega), cell?_setCell_ne (by omega), cell?_setCell_ne (by omega)]; exact cell_keep hblk.c1 hb1, by rw [cell?_setCell_ne (by omega), cell?_setCell_ne (by omega), cell?_setCell_ne (by omega)]; exact cell_keep hblk.c2 hb1⟩) (fun hHeld => ?_); clear hK K; (try simp only [Act.put, List.setIfInBounds_toArray, List.set_cons_zero, List.set_cons_succ])
          refine wpAnyH_take (i := 19) (v := ?_) rfl (by kernel_rfl) (by kernel_rfl) (by kernel_rfl) (fun _ _ _ h => h) (Or.inl ⟨by kernel_rfl, ?_⟩) (by assumption) ?_; rotate_left; focus (intro w' hSw; (try dsimp only at hSw); go_simp; (try with_reducible rfl)); (try simp only [Act.put, List.setIfInBounds_toArray, List.set_cons_zero, List.set_cons_succ])
          refine wpAnyH_done (by kernel_rfl) ?_ _
          have hbf := Below.then C.below (Nat.le_refl _) hb1
          go_wp2
          exact bodyPost_ret (v := .tuple #[.agg #[.bool sV, .slice aV nV cV, .slice aE nE cE], .bool false]) (by simp [results, Tryz.results40, go_sem, r0, r1, r2]) rfl
            ⟨_, _, _, _, _, _, _, by rw [HI.out], fun h => (by rw [HI.out] at h; cases h), ((hbf.setCell (Nat.le_add_right _ 1) _).setCell (Nat.le_add_right _ 1) _).setCell (Nat.le_add_right _ 1) _⟩
      · have hN : isNumB v.neg v.wf v.wn sV (val W64 v.wf v.wn) = false := by simpa using hN
        have hI : intB v = false := by unfold intB; rw [← HVS.out, hN]; simp
        have HI := Lib.hid hI
        have HN := Lib.hid hN
        clear hN hI
        go_upto_region 4 with fail
        have hb0 : Below wc.heap.size wc wc.drew := (Below.refl _ _).drew
        refine wp_region_held_drew (S := fun w' => (w'.cell? ⟨w.heap.size, 0, none⟩ = some (.int .i64 v.kind) ∧ w'.cell? ⟨w.heap.size, 1, none⟩ = some (.bool v.truth) ∧ w'.cell? ⟨w.heap.size, 2, none⟩ = some (.string v.text) ∧ w'.cell? ⟨w.heap.size, 3, none⟩ = some (.bool v.neg) ∧ w'.cell? ⟨w.heap.size, 4, none⟩ = some (.slice v.wa v.wn v.wc) ∧ w'.cell? ⟨w.heap.size, 5, none⟩ = some (.slice v.da v.dn v.dc) ∧ w'.cell? ⟨w.heap.size, 6, none⟩ = some (.bool v.ineg) ∧ w'.cell? ⟨w.heap.size, 7, none⟩ = some (.slice v.ia v.inn v.ic) ∧ w'.cell? ⟨w.heap.size, 8, none⟩ = some (.slice v.ea v.en v.ec)) ∧ w'.cell? ⟨g, 0, none⟩ = some (.bool sV) ∧ w'.cell? ⟨g, 1, none⟩ = some (.slice aV nV cV) ∧ w'.cell? ⟨g, 2, none⟩ = some (.slice aE nE cE)) (by kernel_rfl) ⟨C.all, hblk.c0, hblk.c1, hblk.c2⟩ (fun hHeld => ?_)
        refine wpAnyH_take (i := 0) (v := ?_) rfl (by kernel_rfl) (by kernel_rfl) (by kernel_rfl) (fun _ _ _ h => h) (Or.inl ⟨by kernel_rfl, ?_⟩) (by assumption) ?_; rotate_left; focus (intro w' hSw; (try dsimp only at hSw); go_simp; (try with_reducible rfl)); (try simp only [Act.put, List.setIfInBounds_toArray, List.set_cons_zero, List.set_cons_succ])
        refine wpAnyH_take (i := 1) (v := ?_) rfl (by kernel_rfl) (by kernel_rfl) (by kernel_rfl) (fun _ _ _ h => h) (Or.inl ⟨by kernel_rfl, ?_⟩) (by assumption) ?_; rotate_left; focus (intro w' hSw; (try dsimp only at hSw); go_simp; (try with_reducible rfl)); (try simp only [Act.put, List.setIfInBounds_toArray, List.set_cons_zero, List.set_cons_succ])
        refine wpAnyH_take (i := 2) (v := ?_) rfl (by kernel_rfl) (by kernel_rfl) (by kernel_rfl) (fun _ _ _ h => h) (Or.inl ⟨by kernel_rfl, ?_⟩) (by assumption) ?_; rotate_left; focus (intro w' hSw; (try dsimp only at hSw); go_simp; (try with_reducible rfl)); (try simp only [Act.put, List.setIfInBounds_toArray, List.set_cons_zero, List.set_cons_succ])
        refine wpAnyH_take (i := 3) (v := ?_) rfl (by kernel_rfl) (by kernel_rfl) (by kernel_rfl) (fun _ _ _ h => h) (Or.inl ⟨by kernel_rfl, ?_⟩) (by assumption) ?_; rotate_left; focus (intro w' hSw; (try dsimp only at hSw); go_simp; (try with_reducible rfl)); (try simp only [Act.put, List.setIfInBounds_toArray, List.set_cons_zero, List.set_cons_succ])
        refine wpAnyH_take (i := 4) (v := ?_) rfl (by kernel_rfl) (by kernel_rfl) (by kernel_rfl) (fun _ _ _ h => h) (Or.inl ⟨by kernel_rfl, ?_⟩) (by assumption) ?_; rotate_left; focus (intro w' hSw; (try dsimp only at hSw); go_simp; (try with_reducible rfl)); (try simp only [Act.put, List.setIfInBounds_toArray, List.set_cons_zero, List.set_cons_succ])
        refine wpAnyH_take (i := 5) (v := ?_) rfl (by kernel_rfl) (by kernel_rfl) (by kernel_rfl) (fun _ _ _ h => h) (Or.inl ⟨by kernel_rfl, ?_⟩) (by assumption) ?_; rotate_left; focus (intro w' hSw; (try dsimp only at hSw); go_simp; (try with_reducible rfl)); (try simp only [Act.put, List.setIfInBounds_toArray, List.set_cons_zero, List.set_cons_succ])
        refine wpAnyH_take (i := 6) (v := ?_) rfl (by kernel_rfl) (by kernel_rfl) (by kernel_rfl) (fun _ _ _ h => h) (Or.inl ⟨by kernel_rfl, ?_⟩) (by assumption) ?_; rotate_left; focus (intro w' hSw; (try dsimp only at hSw); go_simp; (try with_reducible rfl)); (try simp only [Act.put, List.setIfInBounds_toArray, List.set_cons_zero, List.set_cons_succ])
        refine wpAnyH_ready (rs := [7]) (by kernel_rfl) (by simp) ?_; refine AllReadyH.cons rfl (fun K hK => ?_) AllReadyH.nil
        go_simp
        (with_reducible refine (isNumber_any v.neg v.wa v.wn v.wc v.wf sV aV nV cV (val W64 v.wf v.wn) _ ?_ ?_ ?_ ?_).mono ?_)
        · exact WSc.keep hb0
        · omega
        · exact hVn.keep hb0
        · omega
        rintro e w1 ⟨rfl, hB1⟩
        have hb1 := Below.then hb0 (Nat.le_refl _) hB1
        have RR := C.res.below C.res.lt hb1
        obtain ⟨⟨u0, r0⟩, ⟨u1, r1⟩, ⟨u2, r2⟩⟩ := (RR).cells; have f0 := (RR).frozen 0; have f1 := (RR).frozen 1; have f2 := (RR).frozen 2
        rw [HN.out]
        refine hK.out _ _ (⟨(C.keep hb1).all, cell_keep hblk.c0 hb1, cell_keep hblk.c1 hb1, cell_keep hblk.c2 hb1⟩) (fun hHeld => ?_); clear hK K; (try simp only [Act.put, List.setIfInBounds_toArray, List.set_cons_zero, List.set_cons_succ])
        refine wpAnyH_take (i := 8) (v := ?_) rfl (by kernel_rfl) (by kernel_rfl) (by kernel_rfl) (fun _ _ _ h => h) (Or.inl ⟨by kernel_rfl, ?_⟩) (by assumption) ?_; rotate_left; focus (intro w' hSw; (try dsimp only at hSw); go_simp; (try with_reducible rfl)); (try simp only [Act.put, List.setIfInBounds_toArray, List.set_cons_zero, List.set_cons_succ])
        refine wpAnyH_take (i := 9) (v := undef) rfl (by kernel_rfl) (by kernel_rfl) (by kernel_rfl) (fun _ _ _ h => h) (Or.inr ⟨by kernel_rfl, rfl⟩) (by assumption) ?_; (try simp only [Act.put, List.setIfInBounds_toArray, List.set_cons_zero, List.set_cons_succ])
        refine wpAnyH_take (i := 10) (v := undef) rfl (by kernel_rfl) (by kernel_rfl) (by kernel_rfl) (fun _ _ _ h => h) (Or.inr ⟨by kernel_rfl, rfl⟩) (by assumption) ?_; (try simp only [Act.put, List.setIfInBounds_toArray, List.set_cons_zero, List.set_cons_succ])
        refine wpAnyH_take (i := 11) (v := undef) rfl (by kernel_rfl) (by kernel_rfl) (by kernel_rfl) (fun _ _ _ h => h) (Or.inr ⟨by kernel_rfl, rfl⟩) (by assumption) ?_; (try simp only [Act.put, List.setIfInBounds_toArray, List.set_cons_zero, List.set_cons_succ])
        refine wpAnyH_take (i := 12) (v := undef) rfl (by kernel_rfl) (by kernel_rfl) (by kernel_rfl) (fun _ _ _ h => h) (Or.inr ⟨by kernel_rfl, rfl⟩) (by assumption) ?_; (try simp only [Act.put, List.setIfInBounds_toArray, List.set_cons_zero, List.set_cons_succ])
        refine wpAnyH_take (i := 13) (v := ?_) rfl (by kernel_rfl) (by kernel_rfl) (by kernel_rfl) (fun _ _ _ h => h) (Or.inl ⟨by kernel_rfl, ?_⟩) (by assumption) ?_; rotate_left; focus (intro w' hSw; (try dsimp only at hSw); go_simp; (try with_reducible rfl)); (try simp only [Act.put, List.setIfInBounds_toArray, List.set_cons_zero, List.set_cons_succ])
        refine wpAnyH_take (i := 14) (v := ?_) rfl (by kernel_rfl) (by kernel_rfl) (by kernel_rfl) (fun _ _ _ h => h) (Or.inl ⟨by kernel_rfl, ?_⟩) (by assumption) ?_; rotate_left; focus (intro w' hSw; (try dsimp only at hSw); go_simp; (try with_reducible rfl)); (try simp only [Act.put, List.setIfInBounds_toArray, List.set_cons_zero, List.set_cons_succ])
        refine wpAnyH_take (i := 15) (v := undef) rfl (by kernel_rfl) (by kernel_rfl) (by kernel_rfl) (fun _ _ _ h => h) (Or.inr ⟨by kernel_rfl, rfl⟩) (by assumption) ?_; (try simp only [Act.put, List.setIfInBounds_toArray, List.set_cons_zero, List.set_cons_succ])
        refine wpAnyH_take (i := 16) (v := undef) rfl (by kernel_rfl) (by kernel_rfl) (by kernel_rfl) (fun _ _ _ h => h) (Or.inr ⟨by kernel_rfl, rfl⟩) (by assumption) ?_; (try simp only [Act.put, List.setIfInBounds_toArray, List.set_cons_zero, List.set_cons_succ])
        refine wpAnyH_take (i := 17) (v := ?_) rfl (by kernel_rfl) (by kernel_rfl) (by kernel_rfl) (fun _ _ _ h => h) (Or.inl ⟨by kernel_rfl, ?_⟩) (by assumption) ?_; rotate_left; focus (intro w' hSw; (try dsimp only at hSw); go_simp; (try with_reducible rfl)); (try simp only [Act.put, List.setIfInBounds_toArray, List.set_cons_zero, List.set_cons_succ])
        refine wpAnyH_ready (rs := [18]) (by kernel_rfl) (by simp) ?_; refine AllReadyH.cons rfl (fun K hK => ?_) AllReadyH.nil
        go_simp
        refine hK.out _ _ (⟨(C.keep hb1).all_same (fun o => by rw [cell?_setCell_ne (by omega), cell?_setCell_ne (by omega), cell?_setCell_ne (by omega)]), by rw [cell?_setCell_ne (by omega), cell?_setCell_ne (by omega), cell?_setCell_ne (by omega)]; exact cell_keep hblk.c0 hb1, by rw [cell?_setCell_ne (by omega), cell?_setCell_ne (by omega), cell?_setCell_ne (by omega)]; exact cell_keep hblk.c1 hb1, by rw [cell?_setCell_ne (by omega), cell?_setCell_ne (by omega), cell?_setCell_ne (by omega)]; exact cell_keep hblk.c2 hb1⟩) (fun hHeld => ?_); clear hK K; (try simp only [Act.put, List.setIfInBounds_toArray, List.set_cons_zero, List.set_cons_succ])
        refine wpAnyH_take (i := 19) (v := ?_) rfl (by kernel_rfl) (by kernel_rfl) (by kernel_rfl) (fun _ _ _ h => h) (Or.inl ⟨by kernel_rfl, ?_⟩) (by assumption) ?_; rotate_left; focus (intro w' hSw; (try dsimp only at hSw); go_simp; (try with_reducible rfl)); (try simp only [Act.put, List.setIfInBounds_toArray, List.set_cons_zero, List.set_cons_succ])
        refine wpAnyH_done (by kernel_rfl) ?_ _
        have hbf := Below.then C.below (Nat.le_refl _) hb1
        go_wp2
        exact bodyPost_ret (v := .tuple #[.agg #[.bool sV, .slice aV nV cV, .slice aE nE cE], .bool false]) (by simp [results, Tryz.results40, go_sem, r0, r1, r2]) rfl
          ⟨_, _, _, _, _, _, _, by rw [HI.out], fun h => (by rw [HI.out] at h; cases h), ((hbf.setCell (Nat.le_add_right _ 1) _).setCell (Nat.le_add_right _ 1) _).setCell (Nat.le_add_right _ 1) _⟩
  · have hkb : (v.kind != 3) = true := by simp; exact hk
    have hI : intB v = false := by unfold intB; simp [hk]
    have HI := Lib.hid hI
    have hb := ((Below.refl w.heap.size w).alloc (Nat.le_refl _) (.cells #[.int .i64 v.kind, .bool v.truth, .string v.text, .bool v.neg, .slice v.wa v.wn v.wc, .slice v.da v.dn v.dc, .bool v.ineg, .slice v.ia v.inn v.ic, .slice v.ea v.en v.ec] 26)).alloc (by simp) (.cells #[.bool false, .slice none 0 0, .slice none 0 0] 31)
    have HB := Lib.hid hb
    clear hk hI hb
    go_enter Tryz.func40, Tryz.ntmps40
    go_wp2
    exact bodyPost_ret (v := .tuple #[.agg #[.bool false, .slice none 0 0, .slice none 0 0], .bool false]) (by simp [results, Tryz.results40, go_sem]) rfl
      ⟨_, _, _, _, _, _, _, by rw [HI.out], fun h => (by rw [HI.out] at h; cases h), HB.out⟩
end Go.Proofs.YtdkipndepkblhaaGreatDoor

set_option linter.unusedSimpArgs false
set_option linter.unusedVariables false
namespace Go.Proofs.YtdkipndepkblhaaGreatDoor
open Go.RowKit Go.Bg Dg

/-- nothing longer than the bound of the statements -/
def fitsB (v : Vl) : Bool := decide (v.text.size ≤ 2147483647) && decide (v.wn ≤ 2147483647) && decide (v.dn ≤ 2147483647) && decide (v.inn ≤ 2147483647) && decide (v.en ≤ 2147483647)

set_option maxRecDepth 100000 in
set_option maxHeartbeats 1000000 in
theorem fits2_any (b : Bool) (a : Option Addr) (n c : Nat) (w : World) :
    Calls Tryz.prog 34 #[.agg #[.bool b, .slice a n c]] w fun e w' => e = .returned (.bool (decide (n ≤ 2147483647))) ∧ Below w.heap.size w w' := by
  have HB := Lib.hid (fun cs => (Below.refl w.heap.size w).alloc (Nat.le_refl _) (.cells cs 24))
  by_cases h : n ≤ 2147483647
  · go_enter Tryz.func34, Tryz.ntmps34
    go_wp2
    go_ret
    exact ⟨ret_bool (by simp [h]), HB.out _⟩
  · go_enter Tryz.func34, Tryz.ntmps34
    go_wp2
    go_ret
    exact ⟨ret_bool (by simp; omega), HB.out _⟩

set_option maxRecDepth 100000 in
set_option maxHeartbeats 1000000 in
theorem fits1_any (v : Vl) (w : World) :
    Calls Tryz.prog 11 #[.agg #[.int .i64 v.kind, .bool v.truth, .string v.text, .bool v.neg, .slice v.wa v.wn v.wc, .slice v.da v.dn v.dc, .bool v.ineg, .slice v.ia v.inn v.ic, .slice v.ea v.en v.ec]] w fun e w' => e = .returned (.bool (fitsB v)) ∧ Below w.heap.size w w' := by
  have HB := Lib.hid (show ∀ cs, Below w.heap.size w (w.alloc (.cells cs 26)) from fun cs => (Below.refl _ _).alloc (Nat.le_refl _) _)
  go_enter Tryz.func11, Tryz.ntmps11
  go_wp2
  all_goals go_ret
  all_goals refine ⟨ret_bool ?_, ?_⟩
  all_goals first
    | exact HB.out _
    | exact Below.alloc' (HB.out _) _
    | exact Below.alloc' (Below.alloc' (HB.out _) _) _
    | (unfold fitsB; simp_all; done)
    | (unfold fitsB; simp_all; omega)
  go_goals

/-- an Int of at most so many words -/
def wholeB (v : Vl) (k : Nat) : Bool := decide (v.wn ≤ k) && intB v

set_option maxRecDepth 100000 in
set_option maxHeartbeats 1000000 in
theorem lawWhole_any (v : Vl) (k : Nat) (w : World) (h : VlAt w v) (hk : k ≤ 1000) :
    Calls Tryz.prog 17 #[.agg #[.int .i64 v.kind, .bool v.truth, .string v.text, .bool v.neg, .slice v.wa v.wn v.wc, .slice v.da v.dn v.dc, .bool v.ineg, .slice v.ia v.inn v.ic, .slice v.ea v.en v.ec], .int .i64 k] w (Reads1 (wholeB v k) (Rt.whole v.neg (val W64 v.wf v.wn)) (4 * v.wn + 1) w) := by
  by_cases hn : v.wn ≤ k
  · obtain ⟨W0, hW0⟩ : ∃ W0, W0 = (w.alloc (.cells #[.int .i64 v.kind, .bool v.truth, .string v.text, .bool v.neg, .slice v.wa v.wn v.wc, .slice v.da v.dn v.dc, .bool v.ineg, .slice v.ia v.inn v.ic, .slice v.ea v.en v.ec] 26)).alloc (.cells #[.bool false, .slice none 0 0, .slice none 0 0] 31) := ⟨_, rfl⟩
    have I := integerW w v 26 31
    rw [← hW0] at I
    have HW := Lib.hid hW0
    have HI := Lib.hid (show wholeB v k = intB v from by unfold wholeB; simp [hn])
    have HV := Lib.hid (h.keep I.below)
    clear hW0 h
    go_enter Tryz.func17, Tryz.ntmps17
    go_upto_region 3 with fail
    rw [← HW.out]
    obtain ⟨c0, c1, c2, c3, c4, c5, c6, c7, c8⟩ := I.all
    go_wp2_with fail
    refine (integer_any v _ HV.out (by omega)).mono ?_
    rintro e w1 ⟨sV, aV, nV, cV, aE, nE, cE, rfl, hR, hB1⟩
    have RR := I.res.below I.res.lt hB1
    obtain ⟨⟨u0, r0⟩, ⟨u1, r1⟩, ⟨u2, r2⟩⟩ := (RR).cells; have f0 := (RR).frozen 0; have f1 := (RR).frozen 1; have f2 := (RR).frozen 2
    have hbf := Below.then I.below (Nat.le_refl _) hB1
    clear c0 c1 c2 c3 c4 c5 c6 c7 c8
    go_wp2
    exact bodyPost_ret (v := .tuple #[.agg #[.bool sV, .slice aV nV cV, .slice aE nE cE], .bool (intB v)]) (by simp [results, Tryz.results17, go_sem, r0, r1, r2]) rfl
      ⟨_, _, _, _, _, _, _, by rw [HI.out], fun hb => stored3 RR (hR (by rw [← HI.out]; exact hb)), ((hbf.setCell (Nat.le_add_right _ 1) _).setCell (Nat.le_add_right _ 1) _).setCell (Nat.le_add_right _ 1) _⟩
  · have HI := Lib.hid (show wholeB v k = false from by unfold wholeB; simp [hn])
    have hb := ((Below.refl w.heap.size w).alloc (Nat.le_refl _) (.cells #[.int .i64 v.kind, .bool v.truth, .string v.text, .bool v.neg, .slice v.wa v.wn v.wc, .slice v.da v.dn v.dc, .bool v.ineg, .slice v.ia v.inn v.ic, .slice v.ea v.en v.ec] 26)).alloc (by simp) (.cells #[.bool false, .slice none 0 0, .slice none 0 0] 31)
    have HB := Lib.hid hb
    clear hb
    go_enter Tryz.func17, Tryz.ntmps17
    go_wp2
    exact bodyPost_ret (v := .tuple #[.agg #[.bool false, .slice none 0 0, .slice none 0 0], .bool false]) (by simp [results, Tryz.results17, go_sem]) rfl
      ⟨_, _, _, _, _, _, _, by rw [HI.out], fun h => (by rw [HI.out] at h; cases h), HB.out⟩
end Go.Proofs.YtdkipndepkblhaaGreatDoor

set_option linter.unusedSimpArgs false
set_option linter.unusedVariables false
namespace Go.Proofs.YtdkipndepkblhaaGreatDoor
open Go.RowKit Go.Bg Dg

set_option maxRecDepth 100000 in
set_option maxHeartbeats 2000000 in
theorem lawWholes_any (v u : Vl) (k : Nat) (w : World) (h : VlAt w v) (h' : VlAt w u) (hk : k ≤ 1000) :
    Calls Tryz.prog 12 #[.agg #[.int .i64 v.kind, .bool v.truth, .string v.text, .bool v.neg, .slice v.wa v.wn v.wc, .slice v.da v.dn v.dc, .bool v.ineg, .slice v.ia v.inn v.ic, .slice v.ea v.en v.ec], .agg #[.int .i64 u.kind, .bool u.truth, .string u.text, .bool u.neg, .slice u.wa u.wn u.wc, .slice u.da u.dn u.dc, .bool u.ineg, .slice u.ia u.inn u.ic, .slice u.ea u.en u.ec], .int .i64 k] w
      (Reads2 (wholeB v k && wholeB u k) (Rt.whole v.neg (val W64 v.wf v.wn)) (Rt.whole u.neg (val W64 u.wf u.wn)) (4 * k + 1) w) := by
  obtain ⟨W0, hW0⟩ : ∃ W0, W0 = (((w.alloc (.cells #[.int .i64 v.kind, .bool v.truth, .string v.text, .bool v.neg, .slice v.wa v.wn v.wc, .slice v.da v.dn v.dc, .bool v.ineg, .slice v.ia v.inn v.ic, .slice v.ea v.en v.ec] 26)).alloc (.cells #[.int .i64 u.kind, .bool u.truth, .string u.text, .bool u.neg, .slice u.wa u.wn u.wc, .slice u.da u.dn u.dc, .bool u.ineg, .slice u.ia u.inn u.ic, .slice u.ea u.en u.ec] 26)).alloc (.cells #[.bool false, .slice none 0 0, .slice none 0 0] 31)).alloc (.cells #[.bool false, .slice none 0 0, .slice none 0 0] 31) := ⟨_, rfl⟩
  have HW := Lib.hid hW0
  have hb0 : Below w.heap.size w W0 := by rw [hW0]; exact Below.alloc' (Below.alloc' (Below.alloc' (Below.alloc' (Below.refl _ _) _) _) _) _
  have R1 : ResBlk W0 (w.heap.size + 1 + 1) := by rw [hW0]; exact (ResBlk.new _ _ (by simp)).alloc1 _
  have R2 : ResBlk W0 (w.heap.size + 1 + 1 + 1) := by rw [hW0]; exact ResBlk.new _ _ (by simp)
  have X : Box9 W0 w.heap.size v := by rw [hW0]; exact (((Box9.new w v _ rfl).alloc _).alloc _).alloc _
  have Y : Box9 W0 (w.heap.size + 1) u := by rw [hW0]; exact ((Box9.new _ u _ (by simp)).alloc _).alloc _
  have HX := Lib.hid (h.keep hb0)
  have HY := Lib.hid (h'.keep hb0)
  clear hW0 h h'
  go_enter Tryz.func12, Tryz.ntmps12
  go_upto_region 1 with fail
  rw [← HW.out]
  obtain ⟨xc0, xc1, xc2, xc3, xc4, xc5, xc6, xc7, xc8⟩ := (X).all
  go_wp2_with fail
  refine (lawWhole_any v k _ HX.out hk).mono ?_
  rintro e w1 ⟨sA, aA, nA, cA, aB, nB, cB, rfl, hA, hB1⟩
  clear xc0 xc1 xc2 xc3 xc4 xc5 xc6 xc7 xc8
  have hA1 := hA
  obtain ⟨W1, hW1⟩ : ∃ W1, W1 = w1.alloc (.cells #[.bool sA, .slice aA nA cA, .slice aB nB cB] 31) := ⟨_, rfl⟩
  have hb1 : Below W0.heap.size W0 W1 := by rw [hW1]; exact Below.alloc' hB1 _
  have A1 : RtBlk W1 w1.heap.size sA aA nA cA aB nB cB := by rw [hW1]; exact RtBlk.new _ _ rfl _ _ _ _ _ _ _
  have A2 := Lib.hid (show wholeB v k = true → RtAt W1 sA aA nA cA aB nB cB (Rt.whole v.neg (val W64 v.wf v.wn)) (4 * k + 1) from by
    intro hb; rw [hW1]
    have hvk : v.wn ≤ k := by unfold wholeB at hb; simp at hb; exact hb.1
    exact ((hA hb).keep ((Below.refl _ _).alloc (Nat.le_refl _) _)).mono (by omega))
  have HW1 := Lib.hid hW1
  have R1' := R1.below R1.lt hb1
  have R2' := R2.below R2.lt hb1
  have Y1 := Y.keep hb1
  have HY1 := Lib.hid (HY.out.keep hb1)
  clear hW1 hA hA1
  go_upto_region 2 with fail
  rw [← HW1.out]
  obtain ⟨yc0, yc1, yc2, yc3, yc4, yc5, yc6, yc7, yc8⟩ := (Y1).all
  go_wp2_with fail
  refine (lawWhole_any u k _ HY1.out hk).mono ?_
  rintro e w2 ⟨sC, aC, nC, cC, aD, nD, cD, rfl, hC, hB2⟩
  clear yc0 yc1 yc2 yc3 yc4 yc5 yc6 yc7 yc8
  obtain ⟨W2, hW2⟩ : ∃ W2, W2 = w2.alloc (.cells #[.bool sC, .slice aC nC cC, .slice aD nD cD] 31) := ⟨_, rfl⟩
  have hb2 : Below W1.heap.size W1 W2 := by rw [hW2]; exact Below.alloc' hB2 _
  have A3 := A1.keep hb2
  have C1 : RtBlk W2 w2.heap.size sC aC nC cC aD nD cD := by rw [hW2]; exact RtBlk.new _ _ rfl _ _ _ _ _ _ _
  have A4 := Lib.hid (show wholeB v k = true → RtAt W2 sA aA nA cA aB nB cB (Rt.whole v.neg (val W64 v.wf v.wn)) (4 * k + 1) from fun hb => (A2.out hb).keep hb2)
  have C2 := Lib.hid (show wholeB u k = true → RtAt W2 sC aC nC cC aD nD cD (Rt.whole u.neg (val W64 u.wf u.wn)) (4 * k + 1) from by
    intro hb; rw [hW2]
    have hvk : u.wn ≤ k := by unfold wholeB at hb; simp at hb; exact hb.1
    exact ((hC hb).keep ((Below.refl _ _).alloc (Nat.le_refl _) _)).mono (by omega))
  have HW2 := Lib.hid hW2
  have Q1 := R1'.below R1'.lt hb2
  have Q2 := R2'.below R2'.lt hb2
  have hbf := Below.then (Below.then hb0 (Nat.le_refl _) hb1) (Nat.le_refl _) hb2
  have hlt1 := A3.lt
  have hg1 : w.heap.size + 1 + 1 + 1 < w1.heap.size := Nat.lt_of_lt_of_le R2.lt hB1.size
  have hg2 : w.heap.size + 1 + 1 + 1 < w2.heap.size := Nat.lt_of_lt_of_le R2'.lt hB2.size
  clear hW2 hC hB1 hB2 R1 R2 R1' R2' hb0 hb1 hb2 HX HY HY1 A2 A1 X Y Y1
  go_upto_region 3 with fail
  rw [← HW2.out]
  obtain ⟨a0, a1, a2⟩ := A3
  obtain ⟨d0, d1, d2⟩ := C1
  obtain ⟨⟨u0, r0⟩, ⟨u1, r1⟩, ⟨u2, r2⟩⟩ := Q1.cells
  have f0 := Q1.frozen 0
  have f1 := Q1.frozen 1
  have f2 := Q1.frozen 2
  obtain ⟨⟨z0, q0⟩, ⟨z1, q1⟩, ⟨z2, q2⟩⟩ := Q2.cells
  have g0 := Q2.frozen 0
  have g1 := Q2.frozen 1
  have g2 := Q2.frozen 2
  generalize hv : wholeB v k = bv at *
  generalize hu : wholeB u k = bu at *
  cases bv
  · go_region
    all_goals go_wp2
    refine bodyPost_ret (v := .tuple #[.agg #[.bool sA, .slice aA nA cA, .slice aB nB cB], .agg #[.bool sC, .slice aC nC cC, .slice aD nD cD], .bool (false && bu)]) (by simp [results, Tryz.results12, go_sem, r0, r1, r2, q0, q1, q2]) rfl ⟨_, _, _, _, _, _, _, _, _, _, _, _, _, _, rfl, ?_, ?_⟩
    · simp
    · exact below33 hbf (by omega) (by omega) _ _ _ _ _ _
  · go_region
    all_goals go_wp2
    refine bodyPost_ret (v := .tuple #[.agg #[.bool sA, .slice aA nA cA, .slice aB nB cB], .agg #[.bool sC, .slice aC nC cC, .slice aD nD cD], .bool (true && bu)]) (by simp [results, Tryz.results12, go_sem, r0, r1, r2, q0, q1, q2]) rfl ⟨_, _, _, _, _, _, _, _, _, _, _, _, _, _, rfl, ?_, ?_⟩
    · intro hb
      exact ⟨RtAt.drew (stored33 Q1.noInt Q2.noInt (A4.out (by simp))), RtAt.drew (stored33 Q1.noInt Q2.noInt (C2.out (by simpa using hb)))⟩
    · exact below33 hbf (by omega) (by omega) _ _ _ _ _ _
end Go.Proofs.YtdkipndepkblhaaGreatDoor
