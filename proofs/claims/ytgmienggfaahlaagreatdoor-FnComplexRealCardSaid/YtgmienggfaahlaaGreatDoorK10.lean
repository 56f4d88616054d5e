/-
  Contracts and lemmas: Spec13.
-/
import Derived.Deep.DeepCutAuto
import Derived.Test.YtgmienggfaahlaaGreatDoorK09
set_option linter.unusedSimpArgs false
set_option linter.unusedVariables false
set_option maxRecDepth 100000
set_option maxHeartbeats 8000000
namespace Go.Proofs.YtgmienggfaahlaaGreatDoor
open Go.RowKit Go.Bg Dg
def Reads1 (b : Bool) (r : Rt) (L : Nat) (w : World) (e : Ending) (w' : World) : Prop :=
  ∃ s a n c a' n' c', e = .returned (.tuple #[.agg #[.bool s, .slice a n c, .slice a' n' c'], .bool b]) ∧ (b = true → RtAt w' s a n c a' n' c' r L) ∧ Below w.heap.size w w'
def intB (v : Vl) : Bool :=
  decide (v.kind = 3) && isNumB v.neg v.wf v.wn (v.neg && decide (0 < val W64 v.wf v.wn)) (val W64 v.wf v.wn) && decide (v.dn = 0) && v.restB
structure IntegerW (w W0 : World) (v : Vl) : Prop where
  c0 : W0.cell? ⟨w.heap.size, 0, none⟩ = some (.int .i64 v.kind)
  c1 : W0.cell? ⟨w.heap.size, 1, none⟩ = some (.bool v.truth)
  c2 : W0.cell? ⟨w.heap.size, 2, none⟩ = some (.string v.text)
  c3 : W0.cell? ⟨w.heap.size, 3, none⟩ = some (.bool v.neg)
  c4 : W0.cell? ⟨w.heap.size, 4, none⟩ = some (.slice v.wa v.wn v.wc)
  c5 : W0.cell? ⟨w.heap.size, 5, none⟩ = some (.slice v.da v.dn v.dc)
  c6 : W0.cell? ⟨w.heap.size, 6, none⟩ = some (.bool v.ineg)
  c7 : W0.cell? ⟨w.heap.size, 7, none⟩ = some (.slice v.ia v.inn v.ic)
  c8 : W0.cell? ⟨w.heap.size, 8, none⟩ = some (.slice v.ea v.en v.ec)
  res : ResBlk W0 (w.heap.size + 1)
  below : Below w.heap.size w W0
theorem IntegerW.keep {w W0 W1 : World} {v : Vl} (h : IntegerW w W0 v) (hb : Below W0.heap.size W0 W1) : IntegerW w W1 v :=
  ⟨cell_keep h.c0 hb, cell_keep h.c1 hb, cell_keep h.c2 hb, cell_keep h.c3 hb, cell_keep h.c4 hb, cell_keep h.c5 hb, cell_keep h.c6 hb, cell_keep h.c7 hb, cell_keep h.c8 hb, h.res.below h.res.lt hb, Below.then h.below (Nat.le_refl _) hb⟩
theorem IntegerW.all {w W0 : World} {v : Vl} (h : IntegerW w W0 v) : W0.cell? ⟨w.heap.size, 0, none⟩ = some (.int .i64 v.kind) ∧ W0.cell? ⟨w.heap.size, 1, none⟩ = some (.bool v.truth) ∧ W0.cell? ⟨w.heap.size, 2, none⟩ = some (.string v.text) ∧ W0.cell? ⟨w.heap.size, 3, none⟩ = some (.bool v.neg) ∧ W0.cell? ⟨w.heap.size, 4, none⟩ = some (.slice v.wa v.wn v.wc) ∧ W0.cell? ⟨w.heap.size, 5, none⟩ = some (.slice v.da v.dn v.dc) ∧ W0.cell? ⟨w.heap.size, 6, none⟩ = some (.bool v.ineg) ∧ W0.cell? ⟨w.heap.size, 7, none⟩ = some (.slice v.ia v.inn v.ic) ∧ W0.cell? ⟨w.heap.size, 8, none⟩ = some (.slice v.ea v.en v.ec) := ⟨h.c0, h.c1, h.c2, h.c3, h.c4, h.c5, h.c6, h.c7, h.c8⟩
theorem IntegerW.all_same {w W1 W' : World} {v : Vl} (C : IntegerW w W1 v) (h : ∀ o, W'.cell? ⟨w.heap.size, o, none⟩ = W1.cell? ⟨w.heap.size, o, none⟩) : W'.cell? ⟨w.heap.size, 0, none⟩ = some (.int .i64 v.kind) ∧ W'.cell? ⟨w.heap.size, 1, none⟩ = some (.bool v.truth) ∧ W'.cell? ⟨w.heap.size, 2, none⟩ = some (.string v.text) ∧ W'.cell? ⟨w.heap.size, 3, none⟩ = some (.bool v.neg) ∧ W'.cell? ⟨w.heap.size, 4, none⟩ = some (.slice v.wa v.wn v.wc) ∧ W'.cell? ⟨w.heap.size, 5, none⟩ = some (.slice v.da v.dn v.dc) ∧ W'.cell? ⟨w.heap.size, 6, none⟩ = some (.bool v.ineg) ∧ W'.cell? ⟨w.heap.size, 7, none⟩ = some (.slice v.ia v.inn v.ic) ∧ W'.cell? ⟨w.heap.size, 8, none⟩ = some (.slice v.ea v.en v.ec) := by
  rw [h, h, h, h, h, h, h, h, h]; exact C.all
theorem integerW (w : World) (v : Vl) (T T' : TypeId) : IntegerW w ((w.alloc (.cells #[.int .i64 v.kind, .bool v.truth, .string v.text, .bool v.neg, .slice v.wa v.wn v.wc, .slice v.da v.dn v.dc, .bool v.ineg, .slice v.ia v.inn v.ic, .slice v.ea v.en v.ec] T)).alloc (.cells #[.bool false, .slice none 0 0, .slice none 0 0] T')) v := by
  have R := ResBlk.alloc (w.alloc (.cells #[.int .i64 v.kind, .bool v.truth, .string v.text, .bool v.neg, .slice v.wa v.wn v.wc, .slice v.da v.dn v.dc, .bool v.ineg, .slice v.ia v.inn v.ic, .slice v.ea v.en v.ec] T)) T'
  simp at R
  exact ⟨alloc_keep _ _ (alloc_new _ _ _ rfl rfl), alloc_keep _ _ (alloc_new _ _ _ rfl rfl), alloc_keep _ _ (alloc_new _ _ _ rfl rfl), alloc_keep _ _ (alloc_new _ _ _ rfl rfl), alloc_keep _ _ (alloc_new _ _ _ rfl rfl),
    alloc_keep _ _ (alloc_new _ _ _ rfl rfl), alloc_keep _ _ (alloc_new _ _ _ rfl rfl), alloc_keep _ _ (alloc_new _ _ _ rfl rfl), alloc_keep _ _ (alloc_new _ _ _ rfl rfl), R, ((Below.refl _ _).alloc (Nat.le_refl _) _).alloc (by simp) _⟩
theorem integer_any (v : Vl) (w : World) (h : VlAt w v) (hn : v.wn ≤ 1000) : Calls Tryz.prog 47 #[.agg #[.int .i64 v.kind, .bool v.truth, .string v.text, .bool v.neg, .slice v.wa v.wn v.wc, .slice v.da v.dn v.dc, .bool v.ineg, .slice v.ia v.inn v.ic, .slice v.ea v.en v.ec]] w (Reads1 (intB v) (Rt.whole v.neg (val W64 v.wf v.wn)) (4 * v.wn + 1) w) := by
  by_cases hk : v.kind = 3
  · have hkb : (v.kind != 3) = false := by rw [hk]; rfl
    obtain ⟨W0, hW0⟩ : ∃ W0, W0 = (w.alloc (.cells #[.int .i64 v.kind, .bool v.truth, .string v.text, .bool v.neg, .slice v.wa v.wn v.wc, .slice v.da v.dn v.dc, .bool v.ineg, .slice v.ia v.inn v.ic, .slice v.ea v.en v.ec] 26)).alloc (.cells #[.bool false, .slice none 0 0, .slice none 0 0] 31) := ⟨_, rfl⟩
    have I := integerW w v 26 31
    rw [← hW0] at I
    have HW := Lib.hid hW0
    have HK := Lib.hid hk
    have hL : val W64 v.wf v.wn < 65536 ^ (4 * v.wn + 1) := by
      have := val_lt h.ws.lt
      rw [W64_16, ← Nat.pow_mul] at this
      exact Nat.lt_of_lt_of_le this (Nat.pow_le_pow_right (by decide) (by omega))
    have HL := Lib.hid hL
    have WS := Lib.hid (show ∀ W', Below W0.heap.size W0 W' → WordsAt W' v.wa v.wn v.wc v.wf from fun W' hb => (h.ws.keep I.below).keep hb)
    clear hW0 hk hL
    go_enter Tryz.func47, Tryz.ntmps47
    go_upto_region 3 with fail
    rw [← HW.out]
    go_cut [4] (fun s4 wx => ∃ g sV aV nV cV aE nE cE, s4 = .pointer (some ⟨g, 0, none⟩) ∧ RtBlk wx g sV aV nV cV aE nE cE ∧ RtAt wx sV aV nV cV aE nE cE (Rt.whole v.neg (val W64 v.wf v.wn)) (4 * v.wn + 1) ∧ W0.heap.size ≤ g ∧ Below W0.heap.size W0 wx)
    case first =>
      have hI := I.res.lt
      have hb0 : Below W0.heap.size W0 W0.drew := (Below.refl _ _).drew
      go_region_held3 (fun w' => w'.cell? ⟨w.heap.size, 3, none⟩ = some (.bool v.neg) ∧ w'.cell? ⟨w.heap.size, 4, none⟩ = some (.slice v.wa v.wn v.wc))
        (first | exact ⟨I.c3, I.c4⟩ | exact ⟨cell_keep I.c3 (by assumption), cell_keep I.c4 (by assumption)⟩ | exact ⟨cell_keep I.c3 (Below.alloc' (by assumption) _), cell_keep I.c4 (Below.alloc' (by assumption) _)⟩ | (refine ⟨?_, ?_⟩ <;> (rw [cell?_setCell_ne (by omega), cell?_setCell_ne (by omega), cell?_setCell_ne (by omega)]) <;> first | exact cell_keep I.c3 (by assumption) | exact cell_keep I.c4 (by assumption)))
        (first | (go_at_call 119; (with_reducible refine (of_any v.wa v.wn v.wc v.wf _ ?_ ?_ ?_).mono ?_); exact (WS.out _ (by first | exact hb0 | exact Below.alloc' hb0 _)).cells; exact (WS.out _ hb0).lt; omega; rintro e w1 ⟨aO, nO, cO, rfl, hO, hB1⟩; have hb1 := Below.then (by first | exact hb0 | exact Below.alloc' hb0 _) (Nat.le_refl _) hB1; have hz1 := hb1.size; try (have RR : ResBlk w1 W0.heap.size := (ResBlk.alloc W0.drew 31).below (by simp) hB1)) | (go_at_call 118; (with_reducible refine (whole_any v.neg aO nO cO (val W64 v.wf v.wn) (4 * v.wn + 1) _ ?_ ?_ ?_ ?_).mono ?_); (first | exact hO | exact hO.keep ((Below.refl _ _).alloc (Nat.le_refl _) _)); exact HL.out; omega; omega; rintro e w2 ⟨sV, aV, nV, cV, aE, nE, cE, rfl, hV, hB2⟩; have hb2 := Below.then (by first | exact hb1 | exact Below.alloc' hb1 _) (Nat.le_refl _) hB2; have hz2 := hb2.size; try (first | (have RV : ResBlk w2 W0.heap.size := RR.below RR.lt hB2; obtain ⟨⟨u0, r0⟩, ⟨u1, r1⟩, ⟨u2, r2⟩⟩ := (RV).cells; have f0 := (RV).frozen 0; have f1 := (RV).frozen 1; have f2 := (RV).frozen 2) | (have RV : ResBlk w2 w1.heap.size := (ResBlk.alloc w1 31).below (by simp) hB2; obtain ⟨⟨u0, r0⟩, ⟨u1, r1⟩, ⟨u2, r2⟩⟩ := (RV).cells; have f0 := (RV).frozen 0; have f1 := (RV).frozen 1; have f2 := (RV).frozen 2))))
      all_goals (go_wp2_with fail; go_meet; first | exact ⟨_, _, _, _, _, _, _, _, rfl, rtBlk_new w2 _ _ _ _ _ _ _ _, hV.keep ((Below.refl _ _).alloc (Nat.le_refl _) _), hz2, Below.alloc' hb2 _⟩ | exact ⟨_, _, _, _, _, _, _, _, rfl, rtBlk_stored RV _ _ _ _ _ _ _, stored3 RV hV, Nat.le_refl _, ((hb2.setCell (Nat.le_refl _) _).setCell (Nat.le_refl _) _).setCell (Nat.le_refl _) _⟩ | exact ⟨_, _, _, _, _, _, _, _, rfl, rtBlk_stored RV _ _ _ _ _ _ _, stored3 RV hV, hz1, ((hb2.setCell hz1 _).setCell hz1 _).setCell hz1 _⟩)
    case rest =>
      obtain ⟨g, sV, aV, nV, cV, aE, nE, cE, rfl, hblk, hV, hg, hbw⟩ := hcut
      have hgt : w.heap.size + 1 < g := Nat.lt_of_lt_of_le I.res.lt hg
      have C := I.keep hbw
      have WSc := WS.out _ hbw
      have hVs : sV = (v.neg && decide (0 < val W64 v.wf v.wn)) := hV.neg
      have hnV := hV.n_le
      have hVn := hV.num
      have HV := Lib.hid hV
      have HVS := Lib.hid hVs
      have HH := Lib.hid h
      clear hbw HW HL WS I hV hVs h
      by_cases hN : isNumB v.neg v.wf v.wn sV (val W64 v.wf v.wn) = true
      · by_cases hd : v.dn = 0
        · have hd0 : ((v.dn : Int) == 0) = true := by simp; exact hd
          have hI : intB v = v.restB := by unfold intB; rw [← HVS.out, hN, HK.out]; simp [hd]
          have HI := Lib.hid hI
          have HN := Lib.hid hN
          clear hN hI hd
          go_upto_region 4 with fail
          have hb0 : Below wc.heap.size wc wc.drew := (Below.refl _ _).drew
          refine wp_region_held_drew (S := fun w' => (w'.cell? ⟨w.heap.size, 0, none⟩ = some (.int .i64 v.kind) ∧ w'.cell? ⟨w.heap.size, 1, none⟩ = some (.bool v.truth) ∧ w'.cell? ⟨w.heap.size, 2, none⟩ = some (.string v.text) ∧ w'.cell? ⟨w.heap.size, 3, none⟩ = some (.bool v.neg) ∧ w'.cell? ⟨w.heap.size, 4, none⟩ = some (.slice v.wa v.wn v.wc) ∧ w'.cell? ⟨w.heap.size, 5, none⟩ = some (.slice v.da v.dn v.dc) ∧ w'.cell? ⟨w.heap.size, 6, none⟩ = some (.bool v.ineg) ∧ w'.cell? ⟨w.heap.size, 7, none⟩ = some (.slice v.ia v.inn v.ic) ∧ w'.cell? ⟨w.heap.size, 8, none⟩ = some (.slice v.ea v.en v.ec)) ∧ w'.cell? ⟨g, 0, none⟩ = some (.bool sV) ∧ w'.cell? ⟨g, 1, none⟩ = some (.slice aV nV cV) ∧ w'.cell? ⟨g, 2, none⟩ = some (.slice aE nE cE)) (by kernel_rfl) ⟨C.all, hblk.c0, hblk.c1, hblk.c2⟩ (fun hHeld => ?_)
          refine wpAnyH_take (i := 0) (v := ?_) rfl (by kernel_rfl) (by kernel_rfl) (by kernel_rfl) (fun _ _ _ h => h) (Or.inl ⟨by kernel_rfl, ?_⟩) (by assumption) ?_; rotate_left; focus (intro w' hSw; (try dsimp only at hSw); go_simp; (try with_reducible rfl)); (try simp only [Act.put, List.setIfInBounds_toArray, List.set_cons_zero, List.set_cons_succ])
          refine wpAnyH_take (i := 1) (v := ?_) rfl (by kernel_rfl) (by kernel_rfl) (by kernel_rfl) (fun _ _ _ h => h) (Or.inl ⟨by kernel_rfl, ?_⟩) (by assumption) ?_; rotate_left; focus (intro w' hSw; (try dsimp only at hSw); go_simp; (try with_reducible rfl)); (try simp only [Act.put, List.setIfInBounds_toArray, List.set_cons_zero, List.set_cons_succ])
          refine wpAnyH_take (i := 2) (v := ?_) rfl (by kernel_rfl) (by kernel_rfl) (by kernel_rfl) (fun _ _ _ h => h) (Or.inl ⟨by kernel_rfl, ?_⟩) (by assumption) ?_; rotate_left; focus (intro w' hSw; (try dsimp only at hSw); go_simp; (try with_reducible rfl)); (try simp only [Act.put, List.setIfInBounds_toArray, List.set_cons_zero, List.set_cons_succ])
          refine wpAnyH_take (i := 3) (v := ?_) rfl (by kernel_rfl) (by kernel_rfl) (by kernel_rfl) (fun _ _ _ h => h) (Or.inl ⟨by kernel_rfl, ?_⟩) (by assumption) ?_; rotate_left; focus (intro w' hSw; (try dsimp only at hSw); go_simp; (try with_reducible rfl)); (try simp only [Act.put, List.setIfInBounds_toArray, List.set_cons_zero, List.set_cons_succ])
          refine wpAnyH_take (i := 4) (v := ?_) rfl (by kernel_rfl) (by kernel_rfl) (by kernel_rfl) (fun _ _ _ h => h) (Or.inl ⟨by kernel_rfl, ?_⟩) (by assumption) ?_; rotate_left; focus (intro w' hSw; (try dsimp only at hSw); go_simp; (try with_reducible rfl)); (try simp only [Act.put, List.setIfInBounds_toArray, List.set_cons_zero, List.set_cons_succ])
          refine wpAnyH_take (i := 5) (v := ?_) rfl (by kernel_rfl) (by kernel_rfl) (by kernel_rfl) (fun _ _ _ h => h) (Or.inl ⟨by kernel_rfl, ?_⟩) (by assumption) ?_; rotate_left; focus (intro w' hSw; (try dsimp only at hSw); go_simp; (try with_reducible rfl)); (try simp only [Act.put, List.setIfInBounds_toArray, List.set_cons_zero, List.set_cons_succ])
          refine wpAnyH_take (i := 6) (v := ?_) rfl (by kernel_rfl) (by kernel_rfl) (by kernel_rfl) (fun _ _ _ h => h) (Or.inl ⟨by kernel_rfl, ?_⟩) (by assumption) ?_; rotate_left; focus (intro w' hSw; (try dsimp only at hSw); go_simp; (try with_reducible rfl)); (try simp only [Act.put, List.setIfInBounds_toArray, List.set_cons_zero, List.set_cons_succ])
          refine wpAnyH_ready (rs := [7]) (by kernel_rfl) (by simp) ?_; refine AllReadyH.cons rfl (fun K hK => ?_) AllReadyH.nil
          go_simp
          (with_reducible refine (isNumber_any v.neg v.wa v.wn v.wc v.wf sV aV nV cV (val W64 v.wf v.wn) _ ?_ ?_ ?_ ?_).mono ?_)
          · exact WSc.keep hb0
          · omega
          · exact hVn.keep hb0
          · omega
          rintro e w1 ⟨rfl, hB1⟩
          have hb1 := Below.then hb0 (Nat.le_refl _) hB1
          have RR := C.res.below C.res.lt hb1
          obtain ⟨⟨u0, r0⟩, ⟨u1, r1⟩, ⟨u2, r2⟩⟩ := (RR).cells; have f0 := (RR).frozen 0; have f1 := (RR).frozen 1; have f2 := (RR).frozen 2
          rw [HN.out]
          refine hK.out _ _ (⟨(C.keep hb1).all, cell_keep hblk.c0 hb1, cell_keep hblk.c1 hb1, cell_keep hblk.c2 hb1⟩) (fun hHeld => ?_); clear hK K; (try simp only [Act.put, List.setIfInBounds_toArray, List.set_cons_zero, List.set_cons_succ])
          refine wpAnyH_take (i := 8) (v := ?_) rfl (by kernel_rfl) (by kernel_rfl) (by kernel_rfl) (fun _ _ _ h => h) (Or.inl ⟨by kernel_rfl, ?_⟩) (by assumption) ?_; rotate_left; focus (intro w' hSw; (try dsimp only at hSw); go_simp; (try with_reducible rfl)); (try simp only [Act.put, List.setIfInBounds_toArray, List.set_cons_zero, List.set_cons_succ])
          refine wpAnyH_take (i := 9) (v := ?_) rfl (by kernel_rfl) (by kernel_rfl) (by kernel_rfl) (fun _ _ _ h => h) (Or.inl ⟨by kernel_rfl, ?_⟩) (by assumption) ?_; rotate_left; focus (intro w' hSw; (try dsimp only at hSw); go_simp; (try with_reducible rfl)); (try simp only [Act.put, List.setIfInBounds_toArray, List.set_cons_zero, List.set_cons_succ])
          refine wpAnyH_take (i := 10) (v := ?_) rfl (by kernel_rfl) (by kernel_rfl) (by kernel_rfl) (fun _ _ _ h => h) (Or.inl ⟨by kernel_rfl, ?_⟩) (by assumption) ?_; rotate_left; focus (intro w' hSw; (try dsimp only at hSw); go_simp; (try with_reducible rfl)); (try simp only [Act.put, List.setIfInBounds_toArray, List.set_cons_zero, List.set_cons_succ])
          refine wpAnyH_take (i := 11) (v := ?_) rfl (by kernel_rfl) (by kernel_rfl) (by kernel_rfl) (fun _ _ _ h => h) (Or.inl ⟨by kernel_rfl, ?_⟩) (by assumption) ?_; rotate_left; focus (intro w' hSw; (try dsimp only at hSw); go_simp; (try with_reducible rfl)); (try simp only [Act.put, List.setIfInBounds_toArray, List.set_cons_zero, List.set_cons_succ])
          refine wpAnyH_take (i := 12) (v := ?_) rfl (by kernel_rfl) (by kernel_rfl) (by kernel_rfl) (fun _ _ _ h => h) (Or.inl ⟨by kernel_rfl, ?_⟩) (by assumption) ?_; rotate_left; focus (intro w' hSw; (try dsimp only at hSw); go_simp; (try with_reducible rfl)); (try simp only [Act.put, List.setIfInBounds_toArray, List.set_cons_zero, List.set_cons_succ])
          refine wpAnyH_take (i := 13) (v := ?_) rfl (by kernel_rfl) (by kernel_rfl) (by kernel_rfl) (fun _ _ _ h => h) (Or.inl ⟨by kernel_rfl, ?_⟩) (by assumption) ?_; rotate_left; focus (intro w' hSw; (try dsimp only at hSw); go_simp; (try with_reducible rfl)); (try simp only [Act.put, List.setIfInBounds_toArray, List.set_cons_zero, List.set_cons_succ])
          refine wpAnyH_take (i := 14) (v := ?_) rfl (by kernel_rfl) (by kernel_rfl) (by kernel_rfl) (fun _ _ _ h => h) (Or.inl ⟨by kernel_rfl, ?_⟩) (by assumption) ?_; rotate_left; focus (intro w' hSw; (try dsimp only at hSw); go_simp; (try with_reducible rfl)); (try simp only [Act.put, List.setIfInBounds_toArray, List.set_cons_zero, List.set_cons_succ])
          refine wpAnyH_take (i := 15) (v := ?_) rfl (by kernel_rfl) (by kernel_rfl) (by kernel_rfl) (fun _ _ _ h => h) (Or.inl ⟨by kernel_rfl, ?_⟩) (by assumption) ?_; rotate_left; focus (intro w' hSw; (try dsimp only at hSw); go_simp; (try with_reducible rfl)); (try simp only [Act.put, List.setIfInBounds_toArray, List.set_cons_zero, List.set_cons_succ])
          refine wpAnyH_ready (rs := [16]) (by kernel_rfl) (by simp) ?_; refine AllReadyH.cons rfl (fun K hK => ?_) AllReadyH.nil
          go_simp
          (with_reducible refine (rest_any v _).mono ?_)
          rintro e w2 ⟨rfl, hB2⟩
          have hb2 := Below.then hb1 (Nat.le_refl _) hB2
          have RR2 := C.res.below C.res.lt hb2
          clear r0 r1 r2 f0 f1 f2
          obtain ⟨⟨u0', r0⟩, ⟨u1', r1⟩, ⟨u2', r2⟩⟩ := RR2.cells
          have f0 := RR2.frozen 0
          have f1 := RR2.frozen 1
          have f2 := RR2.frozen 2
          refine hK.out _ _ (⟨(C.keep hb2).all, cell_keep hblk.c0 hb2, cell_keep hblk.c1 hb2, cell_keep hblk.c2 hb2⟩) (fun hHeld => ?_); clear hK K; (try simp only [Act.put, List.setIfInBounds_toArray, List.set_cons_zero, List.set_cons_succ])
          refine wpAnyH_take (i := 17) (v := ?_) rfl (by kernel_rfl) (by kernel_rfl) (by kernel_rfl) (fun _ _ _ h => h) (Or.inl ⟨by kernel_rfl, ?_⟩) (by assumption) ?_; rotate_left; focus (intro w' hSw; (try dsimp only at hSw); go_simp; (try with_reducible rfl)); (try simp only [Act.put, List.setIfInBounds_toArray, List.set_cons_zero, List.set_cons_succ])
          refine wpAnyH_ready (rs := [18]) (by kernel_rfl) (by simp) ?_; refine AllReadyH.cons rfl (fun K hK => ?_) AllReadyH.nil
          go_simp
          refine hK.out _ _ (⟨(C.keep hb2).all_same (fun o => by rw [cell?_setCell_ne (by omega), cell?_setCell_ne (by omega), cell?_setCell_ne (by omega)]), by rw [cell?_setCell_ne (by omega), cell?_setCell_ne (by omega), cell?_setCell_ne (by omega)]; exact cell_keep hblk.c0 hb2, by rw [cell?_setCell_ne (by omega), cell?_setCell_ne (by omega), cell?_setCell_ne (by omega)]; exact cell_keep hblk.c1 hb2, by rw [cell?_setCell_ne (by omega), cell?_setCell_ne (by omega), cell?_setCell_ne (by omega)]; exact cell_keep hblk.c2 hb2⟩) (fun hHeld => ?_); clear hK K; (try simp only [Act.put, List.setIfInBounds_toArray, List.set_cons_zero, List.set_cons_succ])
          refine wpAnyH_take (i := 19) (v := ?_) rfl (by kernel_rfl) (by kernel_rfl) (by kernel_rfl) (fun _ _ _ h => h) (Or.inl ⟨by kernel_rfl, ?_⟩) (by assumption) ?_; rotate_left; focus (intro w' hSw; (try dsimp only at hSw); go_simp; (try with_reducible rfl)); (try simp only [Act.put, List.setIfInBounds_toArray, List.set_cons_zero, List.set_cons_succ])
          refine wpAnyH_done (by kernel_rfl) ?_ _
          have hbf := Below.then C.below (Nat.le_refl _) hb2
          go_wp2
          exact bodyPost_ret (v := .tuple #[.agg #[.bool sV, .slice aV nV cV, .slice aE nE cE], .bool v.restB]) (by simp [results, Tryz.results47, go_sem, r0, r1, r2]) rfl
            ⟨_, _, _, _, _, _, _, by rw [HI.out], fun _ => stored3 RR2 (HV.out.keep hb2), ((hbf.setCell (Nat.le_add_right _ 1) _).setCell (Nat.le_add_right _ 1) _).setCell (Nat.le_add_right _ 1) _⟩
        · have hd0 : ((v.dn : Int) == 0) = false := by simp; exact hd
          have hI : intB v = false := by unfold intB; simp [hd]
          have HI := Lib.hid hI
          have HN := Lib.hid hN
          clear hN hI hd
          go_upto_region 4 with fail
          have hb0 : Below wc.heap.size wc wc.drew := (Below.refl _ _).drew
          refine wp_region_held_drew (S := fun w' => (w'.cell? ⟨w.heap.size, 0, none⟩ = some (.int .i64 v.kind) ∧ w'.cell? ⟨w.heap.size, 1, none⟩ = some (.bool v.truth) ∧ w'.cell? ⟨w.heap.size, 2, none⟩ = some (.string v.text) ∧ w'.cell? ⟨w.heap.size, 3, none⟩ = some (.bool v.neg) ∧ w'.cell? ⟨w.heap.size, 4, none⟩ = some (.slice v.wa v.wn v.wc) ∧ w'.cell? ⟨w.heap.size, 5, none⟩ = some (.slice v.da v.dn v.dc) ∧ w'.cell? ⟨w.heap.size, 6, none⟩ = some (.bool v.ineg) ∧ w'.cell? ⟨w.heap.size, 7, none⟩ = some (.slice v.ia v.inn v.ic) ∧ w'.cell? ⟨w.heap.size, 8, none⟩ = some (.slice v.ea v.en v.ec)) ∧ w'.cell? ⟨g, 0, none⟩ = some (.bool sV) ∧ w'.cell? ⟨g, 1, none⟩ = some (.slice aV nV cV) ∧ w'.cell? ⟨g, 2, none⟩ = some (.slice aE nE cE)) (by kernel_rfl) ⟨C.all, hblk.c0, hblk.c1, hblk.c2⟩ (fun hHeld => ?_)
          refine wpAnyH_take (i := 0) (v := ?_) rfl (by kernel_rfl) (by kernel_rfl) (by kernel_rfl) (fun _ _ _ h => h) (Or.inl ⟨by kernel_rfl, ?_⟩) (by assumption) ?_; rotate_left; focus (intro w' hSw; (try dsimp only at hSw); go_simp; (try with_reducible rfl)); (try simp only [Act.put, List.setIfInBounds_toArray, List.set_cons_zero, List.set_cons_succ])
          refine wpAnyH_take (i := 1) (v := ?_) rfl (by kernel_rfl) (by kernel_rfl) (by kernel_rfl) (fun _ _ _ h => h) (Or.inl ⟨by kernel_rfl, ?_⟩) (by assumption) ?_; rotate_left; focus (intro w' hSw; (try dsimp only at hSw); go_simp; (try with_reducible rfl)); (try simp only [Act.put, List.setIfInBounds_toArray, List.set_cons_zero, List.set_cons_succ])
          refine wpAnyH_take (i := 2) (v := ?_) rfl (by kernel_rfl) (by kernel_rfl) (by kernel_rfl) (fun _ _ _ h => h) (Or.inl ⟨by kernel_rfl, ?_⟩) (by assumption) ?_; rotate_left; focus (intro w' hSw; (try dsimp only at hSw); go_simp; (try with_reducible rfl)); (try simp only [Act.put, List.setIfInBounds_toArray, List.set_cons_zero, List.set_cons_succ])
          refine wpAnyH_take (i := 3) (v := ?_) rfl (by kernel_rfl) (by kernel_rfl) (by kernel_rfl) (fun _ _ _ h => h) (Or.inl ⟨by kernel_rfl, ?_⟩) (by assumption) ?_; rotate_left; focus (intro w' hSw; (try dsimp only at hSw); go_simp; (try with_reducible rfl)); (try simp only [Act.put, List.setIfInBounds_toArray, List.set_cons_zero, List.set_cons_succ])
          refine wpAnyH_take (i := 4) (v := ?_) rfl (by kernel_rfl) (by kernel_rfl) (by kernel_rfl) (fun _ _ _ h => h) (Or.inl ⟨by kernel_rfl, ?_⟩) (by assumption) ?_; rotate_left; focus (intro w' hSw; (try dsimp only at hSw); go_simp; (try with_reducible rfl)); (try simp only [Act.put, List.setIfInBounds_toArray, List.set_cons_zero, List.set_cons_succ])
          refine wpAnyH_take (i := 5) (v := ?_) rfl (by kernel_rfl) (by kernel_rfl) (by kernel_rfl) (fun _ _ _ h => h) (Or.inl ⟨by kernel_rfl, ?_⟩) (by assumption) ?_; rotate_left; focus (intro w' hSw; (try dsimp only at hSw); go_simp; (try with_reducible rfl)); (try simp only [Act.put, List.setIfInBounds_toArray, List.set_cons_zero, List.set_cons_succ])
          refine wpAnyH_take (i := 6) (v := ?_) rfl (by kernel_rfl) (by kernel_rfl) (by kernel_rfl) (fun _ _ _ h => h) (Or.inl ⟨by kernel_rfl, ?_⟩) (by assumption) ?_; rotate_left; focus (intro w' hSw; (try dsimp only at hSw); go_simp; (try with_reducible rfl)); (try simp only [Act.put, List.setIfInBounds_toArray, List.set_cons_zero, List.set_cons_succ])
          refine wpAnyH_ready (rs := [7]) (by kernel_rfl) (by simp) ?_; refine AllReadyH.cons rfl (fun K hK => ?_) AllReadyH.nil
          go_simp
          (with_reducible refine (isNumber_any v.neg v.wa v.wn v.wc v.wf sV aV nV cV (val W64 v.wf v.wn) _ ?_ ?_ ?_ ?_).mono ?_)
          · exact WSc.keep hb0
          · omega
          · exact hVn.keep hb0
          · omega
          rintro e w1 ⟨rfl, hB1⟩
          have hb1 := Below.then hb0 (Nat.le_refl _) hB1
          have RR := C.res.below C.res.lt hb1
          obtain ⟨⟨u0, r0⟩, ⟨u1, r1⟩, ⟨u2, r2⟩⟩ := (RR).cells; have f0 := (RR).frozen 0; have f1 := (RR).frozen 1; have f2 := (RR).frozen 2
          rw [HN.out]
          refine hK.out _ _ (⟨(C.keep hb1).all, cell_keep hblk.c0 hb1, cell_keep hblk.c1 hb1, cell_keep hblk.c2 hb1⟩) (fun hHeld => ?_); clear hK K; (try simp only [Act.put, List.setIfInBounds_toArray, List.set_cons_zero, List.set_cons_succ])
          refine wpAnyH_take (i := 8) (v := ?_) rfl (by kernel_rfl) (by kernel_rfl) (by kernel_rfl) (fun _ _ _ h => h) (Or.inl ⟨by kernel_rfl, ?_⟩) (by assumption) ?_; rotate_left; focus (intro w' hSw; (try dsimp only at hSw); go_simp; (try with_reducible rfl)); (try simp only [Act.put, List.setIfInBounds_toArray, List.set_cons_zero, List.set_cons_succ])
          refine wpAnyH_take (i := 9) (v := ?_) rfl (by kernel_rfl) (by kernel_rfl) (by kernel_rfl) (fun _ _ _ h => h) (Or.inl ⟨by kernel_rfl, ?_⟩) (by assumption) ?_; rotate_left; focus (intro w' hSw; (try dsimp only at hSw); go_simp; (try with_reducible rfl)); (try simp only [Act.put, List.setIfInBounds_toArray, List.set_cons_zero, List.set_cons_succ])
          refine wpAnyH_take (i := 10) (v := ?_) rfl (by kernel_rfl) (by kernel_rfl) (by kernel_rfl) (fun _ _ _ h => h) (Or.inl ⟨by kernel_rfl, ?_⟩) (by assumption) ?_; rotate_left; focus (intro w' hSw; (try dsimp only at hSw); go_simp; (try with_reducible rfl)); (try simp only [Act.put, List.setIfInBounds_toArray, List.set_cons_zero, List.set_cons_succ])
          refine wpAnyH_take (i := 11) (v := ?_) rfl (by kernel_rfl) (by kernel_rfl) (by kernel_rfl) (fun _ _ _ h => h) (Or.inl ⟨by kernel_rfl, ?_⟩) (by assumption) ?_; rotate_left; focus (intro w' hSw; (try dsimp only at hSw); go_simp; (try with_reducible rfl)); (try simp only [Act.put, List.setIfInBounds_toArray, List.set_cons_zero, List.set_cons_succ])
          refine wpAnyH_take (i := 12) (v := ?_) rfl (by kernel_rfl) (by kernel_rfl) (by kernel_rfl) (fun _ _ _ h => h) (Or.inl ⟨by kernel_rfl, ?_⟩) (by assumption) ?_; rotate_left; focus (intro w' hSw; (try dsimp only at hSw); go_simp; (try with_reducible rfl)); (try simp only [Act.put, List.setIfInBounds_toArray, List.set_cons_zero, List.set_cons_succ])
          refine wpAnyH_take (i := 13) (v := ?_) rfl (by kernel_rfl) (by kernel_rfl) (by kernel_rfl) (fun _ _ _ h => h) (Or.inl ⟨by kernel_rfl, ?_⟩) (by assumption) ?_; rotate_left; focus (intro w' hSw; (try dsimp only at hSw); go_simp; (try with_reducible rfl)); (try simp only [Act.put, List.setIfInBounds_toArray, List.set_cons_zero, List.set_cons_succ])
          refine wpAnyH_take (i := 14) (v := ?_) rfl (by kernel_rfl) (by kernel_rfl) (by kernel_rfl) (fun _ _ _ h => h) (Or.inl ⟨by kernel_rfl, ?_⟩) (by assumption) ?_; rotate_left; focus (intro w' hSw; (try dsimp only at hSw); go_simp; (try with_reducible rfl)); (try simp only [Act.put, List.setIfInBounds_toArray, List.set_cons_zero, List.set_cons_succ])
          refine wpAnyH_take (i := 15) (v := undef) rfl (by kernel_rfl) (by kernel_rfl) (by kernel_rfl) (fun _ _ _ h => h) (Or.inr ⟨by kernel_rfl, rfl⟩) (by assumption) ?_; (try simp only [Act.put, List.setIfInBounds_toArray, List.set_cons_zero, List.set_cons_succ])
          refine wpAnyH_take (i := 16) (v := undef) rfl (by kernel_rfl) (by kernel_rfl) (by kernel_rfl) (fun _ _ _ h => h) (Or.inr ⟨by kernel_rfl, rfl⟩) (by assumption) ?_; (try simp only [Act.put, List.setIfInBounds_toArray, List.set_cons_zero, List.set_cons_succ])
          refine wpAnyH_take (i := 17) (v := ?_) rfl (by kernel_rfl) (by kernel_rfl) (by kernel_rfl) (fun _ _ _ h => h) (Or.inl ⟨by kernel_rfl, ?_⟩) (by assumption) ?_; rotate_left; focus (intro w' hSw; (try dsimp only at hSw); go_simp; (try with_reducible rfl)); (try simp only [Act.put, List.setIfInBounds_toArray, List.set_cons_zero, List.set_cons_succ])
          refine wpAnyH_ready (rs := [18]) (by kernel_rfl) (by simp) ?_; refine AllReadyH.cons rfl (fun K hK => ?_) AllReadyH.nil
          go_simp
          refine hK.out _ _ (⟨(C.keep hb1).all_same (fun o => by rw [cell?_setCell_ne (by omega), cell?_setCell_ne (by omega), cell?_setCell_ne (by omega)]), by rw [cell?_setCell_ne (by omega), cell?_setCell_ne (by omega), cell?_setCell_ne (by omega)]; exact cell_keep hblk.c0 hb1, by rw [cell?_setCell_ne (by omega), cell?_setCell_ne (by omega), cell?_setCell_ne (by omega)]; exact cell_keep hblk.c1 hb1, by rw [cell?_setCell_ne (by omega), cell?_setCell_ne (by omega), cell?_setCell_ne (by omega)]; exact cell_keep hblk.c2 hb1⟩) (fun hHeld => ?_); clear hK K; (try simp only [Act.put, List.setIfInBounds_toArray, List.set_cons_zero, List.set_cons_succ])
          refine wpAnyH_take (i := 19) (v := ?_) rfl (by kernel_rfl) (by kernel_rfl) (by kernel_rfl) (fun _ _ _ h => h) (Or.inl ⟨by kernel_rfl, ?_⟩) (by assumption) ?_; rotate_left; focus (intro w' hSw; (try dsimp only at hSw); go_simp; (try with_reducible rfl)); (try simp only [Act.put, List.setIfInBounds_toArray, List.set_cons_zero, List.set_cons_succ])
          refine wpAnyH_done (by kernel_rfl) ?_ _
          have hbf := Below.then C.below (Nat.le_refl _) hb1
          go_wp2
          exact bodyPost_ret (v := .tuple #[.agg #[.bool sV, .slice aV nV cV, .slice aE nE cE], .bool false]) (by simp [results, Tryz.results47, go_sem, r0, r1, r2]) rfl
            ⟨_, _, _, _, _, _, _, by rw [HI.out], fun h => (by rw [HI.out] at h; cases h), ((hbf.setCell (Nat.le_add_right _ 1) _).setCell (Nat.le_add_right _ 1) _).setCell (Nat.le_add_right _ 1) _⟩
      · have hN : isNumB v.neg v.wf v.wn sV (val W64 v.wf v.wn) = false := by simpa using hN
        have hI : intB v = false := by unfold intB; rw [← HVS.out, hN]; simp
        have HI := Lib.hid hI
        have HN := Lib.hid hN
        clear hN hI
        go_upto_region 4 with fail
        have hb0 : Below wc.heap.size wc wc.drew := (Below.refl _ _).drew
        refine wp_region_held_drew (S := fun w' => (w'.cell? ⟨w.heap.size, 0, none⟩ = some (.int .i64 v.kind) ∧ w'.cell? ⟨w.heap.size, 1, none⟩ = some (.bool v.truth) ∧ w'.cell? ⟨w.heap.size, 2, none⟩ = some (.string v.text) ∧ w'.cell? ⟨w.heap.size, 3, none⟩ = some (.bool v.neg) ∧ w'.cell? ⟨w.heap.size, 4, none⟩ = some (.slice v.wa v.wn v.wc) ∧ w'.cell? ⟨w.heap.size, 5, none⟩ = some (.slice v.da v.dn v.dc) ∧ w'.cell? ⟨w.heap.size, 6, none⟩ = some (.bool v.ineg) ∧ w'.cell? ⟨w.heap.size, 7, none⟩ = some (.slice v.ia v.inn v.ic) ∧ w'.cell? ⟨w.heap.size, 8, none⟩ = some (.slice v.ea v.en v.ec)) ∧ w'.cell? ⟨g, 0, none⟩ = some (.bool sV) ∧ w'.cell? ⟨g, 1, none⟩ = some (.slice aV nV cV) ∧ w'.cell? ⟨g, 2, none⟩ = some (.slice aE nE cE)) (by kernel_rfl) ⟨C.all, hblk.c0, hblk.c1, hblk.c2⟩ (fun hHeld => ?_)
        refine wpAnyH_take (i := 0) (v := ?_) rfl (by kernel_rfl) (by kernel_rfl) (by kernel_rfl) (fun _ _ _ h => h) (Or.inl ⟨by kernel_rfl, ?_⟩) (by assumption) ?_; rotate_left; focus (intro w' hSw; (try dsimp only at hSw); go_simp; (try with_reducible rfl)); (try simp only [Act.put, List.setIfInBounds_toArray, List.set_cons_zero, List.set_cons_succ])
        refine wpAnyH_take (i := 1) (v := ?_) rfl (by kernel_rfl) (by kernel_rfl) (by kernel_rfl) (fun _ _ _ h => h) (Or.inl ⟨by kernel_rfl, ?_⟩) (by assumption) ?_; rotate_left; focus (intro w' hSw; (try dsimp only at hSw); go_simp; (try with_reducible rfl)); (try simp only [Act.put, List.setIfInBounds_toArray, List.set_cons_zero, List.set_cons_succ])
        refine wpAnyH_take (i := 2) (v := ?_) rfl (by kernel_rfl) (by kernel_rfl) (by kernel_rfl) (fun _ _ _ h => h) (Or.inl ⟨by kernel_rfl, ?_⟩) (by assumption) ?_; rotate_left; focus (intro w' hSw; (try dsimp only at hSw); go_simp; (try with_reducible rfl)); (try simp only [Act.put, List.setIfInBounds_toArray, List.set_cons_zero, List.set_cons_succ])
        refine wpAnyH_take (i := 3) (v := ?_) rfl (by kernel_rfl) (by kernel_rfl) (by kernel_rfl) (fun _ _ _ h => h) (Or.inl ⟨by kernel_rfl, ?_⟩) (by assumption) ?_; rotate_left; focus (intro w' hSw; (try dsimp only at hSw); go_simp; (try with_reducible rfl)); (try simp only [Act.put, List.setIfInBounds_toArray, List.set_cons_zero, List.set_cons_succ])
        refine wpAnyH_take (i := 4) (v := ?_) rfl (by kernel_rfl) (by kernel_rfl) (by kernel_rfl) (fun _ _ _ h => h) (Or.inl ⟨by kernel_rfl, ?_⟩) (by assumption) ?_; rotate_left; focus (intro w' hSw; (try dsimp only at hSw); go_simp; (try with_reducible rfl)); (try simp only [Act.put, List.setIfInBounds_toArray, List.set_cons_zero, List.set_cons_succ])
        refine wpAnyH_take (i := 5) (v := ?_) rfl (by kernel_rfl) (by kernel_rfl) (by kernel_rfl) (fun _ _ _ h => h) (Or.inl ⟨by kernel_rfl, ?_⟩) (by assumption) ?_; rotate_left; focus (intro w' hSw; (try dsimp only at hSw); go_simp; (try with_reducible rfl)); (try simp only [Act.put, List.setIfInBounds_toArray, List.set_cons_zero, List.set_cons_succ])
        refine wpAnyH_take (i := 6) (v := ?_) rfl (by kernel_rfl) (by kernel_rfl) (by kernel_rfl) (fun _ _ _ h => h) (Or.inl ⟨by kernel_rfl, ?_⟩) (by assumption) ?_; rotate_left; focus (intro w' hSw; (try dsimp only at hSw); go_simp; (try with_reducible rfl)); (try simp only [Act.put, List.setIfInBounds_toArray, List.set_cons_zero, List.set_cons_succ])
        refine wpAnyH_ready (rs := [7]) (by kernel_rfl) (by simp) ?_; refine AllReadyH.cons rfl (fun K hK => ?_) AllReadyH.nil
        go_simp
        (with_reducible refine (isNumber_any v.neg v.wa v.wn v.wc v.wf sV aV nV cV (val W64 v.wf v.wn) _ ?_ ?_ ?_ ?_).mono ?_)
        · exact WSc.keep hb0
        · omega
        · exact hVn.keep hb0
        · omega
        rintro e w1 ⟨rfl, hB1⟩
        have hb1 := Below.then hb0 (Nat.le_refl _) hB1
        have RR := C.res.below C.res.lt hb1
        obtain ⟨⟨u0, r0⟩, ⟨u1, r1⟩, ⟨u2, r2⟩⟩ := (RR).cells; have f0 := (RR).frozen 0; have f1 := (RR).frozen 1; have f2 := (RR).frozen 2
        rw [HN.out]
        refine hK.out _ _ (⟨(C.keep hb1).all, cell_keep hblk.c0 hb1, cell_keep hblk.c1 hb1, cell_keep hblk.c2 hb1⟩) (fun hHeld => ?_); clear hK K; (try simp only [Act.put, List.setIfInBounds_toArray, List.set_cons_zero, List.set_cons_succ])
        refine wpAnyH_take (i := 8) (v := ?_) rfl (by kernel_rfl) (by kernel_rfl) (by kernel_rfl) (fun _ _ _ h => h) (Or.inl ⟨by kernel_rfl, ?_⟩) (by assumption) ?_; rotate_left; focus (intro w' hSw; (try dsimp only at hSw); go_simp; (try with_reducible rfl)); (try simp only [Act.put, List.setIfInBounds_toArray, List.set_cons_zero, List.set_cons_succ])
        refine wpAnyH_take (i := 9) (v := undef) rfl (by kernel_rfl) (by kernel_rfl) (by kernel_rfl) (fun _ _ _ h => h) (Or.inr ⟨by kernel_rfl, rfl⟩) (by assumption) ?_; (try simp only [Act.put, List.setIfInBounds_toArray, List.set_cons_zero, List.set_cons_succ])
        refine wpAnyH_take (i := 10) (v := undef) rfl (by kernel_rfl) (by kernel_rfl) (by kernel_rfl) (fun _ _ _ h => h) (Or.inr ⟨by kernel_rfl, rfl⟩) (by assumption) ?_; (try simp only [Act.put, List.setIfInBounds_toArray, List.set_cons_zero, List.set_cons_succ])
        refine wpAnyH_take (i := 11) (v := undef) rfl (by kernel_rfl) (by kernel_rfl) (by kernel_rfl) (fun _ _ _ h => h) (Or.inr ⟨by kernel_rfl, rfl⟩) (by assumption) ?_; (try simp only [Act.put, List.setIfInBounds_toArray, List.set_cons_zero, List.set_cons_succ])
        refine wpAnyH_take (i := 12) (v := undef) rfl (by kernel_rfl) (by kernel_rfl) (by kernel_rfl) (fun _ _ _ h => h) (Or.inr ⟨by kernel_rfl, rfl⟩) (by assumption) ?_; (try simp only [Act.put, List.setIfInBounds_toArray, List.set_cons_zero, List.set_cons_succ])
        refine wpAnyH_take (i := 13) (v := ?_) rfl (by kernel_rfl) (by kernel_rfl) (by kernel_rfl) (fun _ _ _ h => h) (Or.inl ⟨by kernel_rfl, ?_⟩) (by assumption) ?_; rotate_left; focus (intro w' hSw; (try dsimp only at hSw); go_simp; (try with_reducible rfl)); (try simp only [Act.put, List.setIfInBounds_toArray, List.set_cons_zero, List.set_cons_succ])
        refine wpAnyH_take (i := 14) (v := ?_) rfl (by kernel_rfl) (by kernel_rfl) (by kernel_rfl) (fun _ _ _ h => h) (Or.inl ⟨by kernel_rfl, ?_⟩) (by assumption) ?_; rotate_left; focus (intro w' hSw; (try dsimp only at hSw); go_simp; (try with_reducible rfl)); (try simp only [Act.put, List.setIfInBounds_toArray, List.set_cons_zero, List.set_cons_succ])
        refine wpAnyH_take (i := 15) (v := undef) rfl (by kernel_rfl) (by kernel_rfl) (by kernel_rfl) (fun _ _ _ h => h) (Or.inr ⟨by kernel_rfl, rfl⟩) (by assumption) ?_; (try simp only [Act.put, List.setIfInBounds_toArray, List.set_cons_zero, List.set_cons_succ])
        refine wpAnyH_take (i := 16) (v := undef) rfl (by kernel_rfl) (by kernel_rfl) (by kernel_rfl) (fun _ _ _ h => h) (Or.inr ⟨by kernel_rfl, rfl⟩) (by assumption) ?_; (try simp only [Act.put, List.setIfInBounds_toArray, List.set_cons_zero, List.set_cons_succ])
        refine wpAnyH_take (i := 17) (v := ?_) rfl (by kernel_rfl) (by kernel_rfl) (by kernel_rfl) (fun _ _ _ h => h) (Or.inl ⟨by kernel_rfl, ?_⟩) (by assumption) ?_; rotate_left; focus (intro w' hSw; (try dsimp only at hSw); go_simp; (try with_reducible rfl)); (try simp only [Act.put, List.setIfInBounds_toArray, List.set_cons_zero, List.set_cons_succ])
        refine wpAnyH_ready (rs := [18]) (by kernel_rfl) (by simp) ?_; refine AllReadyH.cons rfl (fun K hK => ?_) AllReadyH.nil
        go_simp
        refine hK.out _ _ (⟨(C.keep hb1).all_same (fun o => by rw [cell?_setCell_ne (by omega), cell?_setCell_ne (by omega), cell?_setCell_ne (by omega)]), by rw [cell?_setCell_ne (by omega), cell?_setCell_ne (by omega), cell?_setCell_ne (by omega)]; exact cell_keep hblk.c0 hb1, by rw [cell?_setCell_ne (by omega), cell?_setCell_ne (by omega), cell?_setCell_ne (by omega)]; exact cell_keep hblk.c1 hb1, by rw [cell?_setCell_ne (by omega), cell?_setCell_ne (by omega), cell?_setCell_ne (by omega)]; exact cell_keep hblk.c2 hb1⟩) (fun hHeld => ?_); clear hK K; (try simp only [Act.put, List.setIfInBounds_toArray, List.set_cons_zero, List.set_cons_succ])
        refine wpAnyH_take (i := 19) (v := ?_) rfl (by kernel_rfl) (by kernel_rfl) (by kernel_rfl) (fun _ _ _ h => h) (Or.inl ⟨by kernel_rfl, ?_⟩) (by assumption) ?_; rotate_left; focus (intro w' hSw; (try dsimp only at hSw); go_simp; (try with_reducible rfl)); (try simp only [Act.put, List.setIfInBounds_toArray, List.set_cons_zero, List.set_cons_succ])
        refine wpAnyH_done (by kernel_rfl) ?_ _
        have hbf := Below.then C.below (Nat.le_refl _) hb1
        go_wp2
        exact bodyPost_ret (v := .tuple #[.agg #[.bool sV, .slice aV nV cV, .slice aE nE cE], .bool false]) (by simp [results, Tryz.results47, go_sem, r0, r1, r2]) rfl
          ⟨_, _, _, _, _, _, _, by rw [HI.out], fun h => (by rw [HI.out] at h; cases h), ((hbf.setCell (Nat.le_add_right _ 1) _).setCell (Nat.le_add_right _ 1) _).setCell (Nat.le_add_right _ 1) _⟩
  · have hkb : (v.kind != 3) = true := by simp; exact hk
    have hI : intB v = false := by unfold intB; simp [hk]
    have HI := Lib.hid hI
    have hb := ((Below.refl w.heap.size w).alloc (Nat.le_refl _) (.cells #[.int .i64 v.kind, .bool v.truth, .string v.text, .bool v.neg, .slice v.wa v.wn v.wc, .slice v.da v.dn v.dc, .bool v.ineg, .slice v.ia v.inn v.ic, .slice v.ea v.en v.ec] 26)).alloc (by simp) (.cells #[.bool false, .slice none 0 0, .slice none 0 0] 31)
    have HB := Lib.hid hb
    clear hk hI hb
    go_enter Tryz.func47, Tryz.ntmps47
    go_wp2
    exact bodyPost_ret (v := .tuple #[.agg #[.bool false, .slice none 0 0, .slice none 0 0], .bool false]) (by simp [results, Tryz.results47, go_sem]) rfl
      ⟨_, _, _, _, _, _, _, by rw [HI.out], fun h => (by rw [HI.out] at h; cases h), HB.out⟩
end Go.Proofs.YtgmienggfaahlaaGreatDoor
