/-
  Contracts and lemmas: SwapM StkA IntK BitJ0 IntM RcmpA StkB.
-/
import Derived.Test.YtececkbcinmmpaaGreatDoorM08
import Derived.Test.YtececkbcinmmpaaGreatDoorM13
import Derived.Test.YtececkbcinmmpaaGreatDoorM15
import Derived.Test.YtececkbcinmmpaaGreatDoorM19
import Derived.Lib.AppendZeros
import Derived.Lib.AppendZerosOnto
import Derived.Lib.SliceRun
import Derived.Test.YtececkbcinmmpaaGreatDoorM11
import Derived.Test.YtececkbcinmmpaaGreatDoorM18
import Derived.Test.YtececkbcinmmpaaGreatDoorM10
import Derived.Laws.BitsAllLaws
import Derived.Test.YtececkbcinmmpaaGreatDoorM12
import Derived.BigRegion
import Derived.Defers
set_option linter.unusedSimpArgs false
set_option linter.unusedVariables false
set_option maxRecDepth 100000
set_option maxHeartbeats 8000000
namespace Go.Proofs.YtececkbcinmmpaaGreatDoor
open Go.RowKit Go.Bg Dg
theorem noU_vl (x : Vl) : ∀ (i : Nat) z, (#[.int .i64 x.kind, .bool x.truth, .string x.text, .bool x.neg, .slice x.wa x.wn x.wc, .slice x.da x.dn x.dc, .bool x.ineg, .slice x.ia x.inn x.ic, .slice x.ea x.en x.ec] : Array Value)[i]? ≠ some (.int .u64 z) := by
  intro i z h
  match i, h with
  | 0, h => simp at h
  | 1, h => simp at h
  | 2, h => simp at h
  | 3, h => simp at h
  | 4, h => simp at h
  | 5, h => simp at h
  | 6, h => simp at h
  | 7, h => simp at h
  | 8, h => simp at h
  | i + 9, h => simp at h
theorem noInt_rt (s : Bool) (a : Option Addr) (n c : Nat) (a' : Option Addr) (n' c' : Nat) : ∀ (i : Nat) k v, (#[.bool s, .slice a n c, .slice a' n' c'] : Array Value)[i]? ≠ some (.int k v) := by
  intro i k v h
  match i, h with
  | 0, h => simp at h
  | 1, h => simp at h
  | 2, h => simp at h
  | i + 3, h => simp at h
theorem box9_blk {W : World} {g : Nat} {x : Vl} {T : TypeId} (h : BlkAt W g #[.int .i64 x.kind, .bool x.truth, .string x.text, .bool x.neg, .slice x.wa x.wn x.wc, .slice x.da x.dn x.dc, .bool x.ineg, .slice x.ia x.inn x.ic, .slice x.ea x.en x.ec] T) : Box9 W g x :=
  ⟨by rw [h.cell]; rfl, by rw [h.cell]; rfl, by rw [h.cell]; rfl, by rw [h.cell]; rfl, by rw [h.cell]; rfl, by rw [h.cell]; rfl, by rw [h.cell]; rfl, by rw [h.cell]; rfl, by rw [h.cell]; rfl⟩
theorem rtBlk_blk {W : World} {g : Nat} {s : Bool} {a : Option Addr} {n c : Nat} {a' : Option Addr} {n' c' : Nat} {T : TypeId} (h : BlkAt W g #[.bool s, .slice a n c, .slice a' n' c'] T) : RtBlk W g s a n c a' n' c' :=
  ⟨by rw [h.cell]; rfl, by rw [h.cell]; rfl, by rw [h.cell]; rfl⟩
theorem blk_own9 {W : World} {g : Nat} {x : Vl} {T : TypeId} (h : BlkAt W g #[.int .i64 x.kind, .bool x.truth, .string x.text, .bool x.neg, .slice x.wa x.wn x.wc, .slice x.da x.dn x.dc, .bool x.ineg, .slice x.ia x.inn x.ic, .slice x.ea x.en x.ec] T) (y : Vl) : BlkAt (((((((((W.setCell ⟨g, 0, none⟩ (.int .i64 y.kind)).setCell ⟨g, 1, none⟩ (.bool y.truth)).setCell ⟨g, 2, none⟩ (.string y.text)).setCell ⟨g, 3, none⟩ (.bool y.neg)).setCell ⟨g, 4, none⟩ (.slice y.wa y.wn y.wc)).setCell ⟨g, 5, none⟩ (.slice y.da y.dn y.dc)).setCell ⟨g, 6, none⟩ (.bool y.ineg)).setCell ⟨g, 7, none⟩ (.slice y.ia y.inn y.ic)).setCell ⟨g, 8, none⟩ (.slice y.ea y.en y.ec)) g #[.int .i64 y.kind, .bool y.truth, .string y.text, .bool y.neg, .slice y.wa y.wn y.wc, .slice y.da y.dn y.dc, .bool y.ineg, .slice y.ia y.inn y.ic, .slice y.ea y.en y.ec] T := by
  have := ((((((((h.set 0 (.int .i64 y.kind)).set 1 (.bool y.truth)).set 2 (.string y.text)).set 3 (.bool y.neg)).set 4 (.slice y.wa y.wn y.wc)).set 5 (.slice y.da y.dn y.dc)).set 6 (.bool y.ineg)).set 7 (.slice y.ia y.inn y.ic)).set 8 (.slice y.ea y.en y.ec)
  simpa only [List.setIfInBounds_toArray, List.set_cons_zero, List.set_cons_succ] using this
theorem blk_other9 {W : World} {g h : Nat} {cs : Array Value} {T : TypeId} (hB : BlkAt W h cs T) (hne : h ≠ g) (v0 v1 v2 v3 v4 v5 v6 v7 v8 : Value) : BlkAt (((((((((W.setCell ⟨g, 0, none⟩ (v0)).setCell ⟨g, 1, none⟩ (v1)).setCell ⟨g, 2, none⟩ (v2)).setCell ⟨g, 3, none⟩ (v3)).setCell ⟨g, 4, none⟩ (v4)).setCell ⟨g, 5, none⟩ (v5)).setCell ⟨g, 6, none⟩ (v6)).setCell ⟨g, 7, none⟩ (v7)).setCell ⟨g, 8, none⟩ (v8)) h cs T := by
  have hU : Upd (· = g) W (((((((((W.setCell ⟨g, 0, none⟩ (v0)).setCell ⟨g, 1, none⟩ (v1)).setCell ⟨g, 2, none⟩ (v2)).setCell ⟨g, 3, none⟩ (v3)).setCell ⟨g, 4, none⟩ (v4)).setCell ⟨g, 5, none⟩ (v5)).setCell ⟨g, 6, none⟩ (v6)).setCell ⟨g, 7, none⟩ (v7)).setCell ⟨g, 8, none⟩ (v8)) := by
    iterate 9 refine Upd.setCell ?_ (by exact rfl) _
    exact Upd.refl _ _
  exact hU.blk hB hne
theorem blk_own3 {W : World} {g : Nat} {u0 u1 u2 : Value} {T : TypeId} (h : BlkAt W g #[u0, u1, u2] T) (v0 v1 v2 : Value) : BlkAt (((W.setCell ⟨g, 0, none⟩ (v0)).setCell ⟨g, 1, none⟩ (v1)).setCell ⟨g, 2, none⟩ (v2)) g #[v0, v1, v2] T := by
  have := ((h.set 0 v0).set 1 v1).set 2 v2
  simpa only [List.setIfInBounds_toArray, List.set_cons_zero, List.set_cons_succ] using this
theorem blk_other3 {W : World} {g h : Nat} {cs : Array Value} {T : TypeId} (hB : BlkAt W h cs T) (hne : h ≠ g) (v0 v1 v2 : Value) : BlkAt (((W.setCell ⟨g, 0, none⟩ (v0)).setCell ⟨g, 1, none⟩ (v1)).setCell ⟨g, 2, none⟩ (v2)) h cs T := by
  have hU : Upd (· = g) W (((W.setCell ⟨g, 0, none⟩ (v0)).setCell ⟨g, 1, none⟩ (v1)).setCell ⟨g, 2, none⟩ (v2)) := by
    iterate 3 refine Upd.setCell ?_ (by exact rfl) _
    exact Upd.refl _ _
  exact hU.blk hB hne
theorem rtBlk_set3m {W : World} {b s : Nat} {t : Bool} {a : Option Addr} {n c : Nat} {a' : Option Addr} {n' c' : Nat} (h : RtBlk W b t a n c a' n' c') (hne : b ≠ s) (v0 v1 v2 : Value) :
    RtBlk (((W.setCell ⟨s, 0, none⟩ (v0)).setCell ⟨s, 1, none⟩ (v1)).setCell ⟨s, 2, none⟩ (v2)) b t a n c a' n' c' := by
  have e : ∀ (W : World) i j (v : Value), (W.setCell ⟨s, i, none⟩ v).cell? ⟨b, j, none⟩ = W.cell? ⟨b, j, none⟩ := fun W i j v => World.cell?_setCell_other _ _ _ _ (fun hh => by injection hh with hh _ _; exact hne hh.symm)
  exact ⟨by rw [e, e, e]; exact h.c0, by rw [e, e, e]; exact h.c1, by rw [e, e, e]; exact h.c2⟩
theorem numAt_fr {W W' : World} {S : Nat → Prop} {lo : Nat} {a : Option Addr} {n c N : Nat} (h : NatAt W a n c N) (hf : Fr lo a) (hU : Upd S W W') (hS : ∀ k, S k → k < lo ∨ NoInt W k) : NatAt W' a n c N := by
  refine ⟨h.lt, h.top, h.nc, h.cm, fun hn => ?_⟩
  obtain ⟨b, off, rfl, hc⟩ := h.cells hn
  refine ⟨b, off, rfl, fun i hi => ?_⟩
  have h1 := hc i hi
  rw [hU.cell (p := ⟨b, off + i, none⟩) (block_lt h1) (fun hk => ?_)]
  · exact h1
  · rcases hS b hk with h2 | h2
    · exact absurd (hf b off rfl) (by omega)
    · exact h2 _ _ _ h1
theorem rtAt_fr {W W' : World} {S : Nat → Prop} {lo : Nat} {s : Bool} {a : Option Addr} {n c : Nat} {a' : Option Addr} {n' c' : Nat} {r : Rt} {L : Nat} (h : RtAt W s a n c a' n' c' r L) (hf : Fr lo a ∧ Fr lo a') (hU : Upd S W W') (hS : ∀ k, S k → k < lo ∨ NoInt W k) : RtAt W' s a n c a' n' c' r L :=
  ⟨h.neg, numAt_fr h.num hf.1 hU hS, numAt_fr h.den hf.2 hU hS, h.numL, h.denL⟩
theorem vlAt_upd {W W' : World} {S : Nat → Prop} {x : Vl} (h : VlAt W x) (hU : Upd S W W') (hS : ∀ k, S k → NoU W k) : VlAt W' x := ⟨h.ws.updU hU hS, h.ds.updU hU hS, h.is.updU hU hS, h.es.updU hU hS, h.text, h.kind⟩
structure Placed (w W : World) (g1 g2 g3 g4 : Nat) (x y : Vl) (sA : Bool) (aA : Option Addr) (nA cA : Nat) (aB : Option Addr) (nB cB : Nat) (r : Rt) (sC : Bool) (aC : Option Addr) (nC cC : Nat) (aD : Option Addr) (nD cD : Nat) (q : Rt) (L : Nat) : Prop where
  bel : Below w.heap.size w W
  X : Box9 W g1 x
  Y : Box9 W g2 y
  A : RtBlk W g3 sA aA nA cA aB nB cB
  C : RtBlk W g4 sC aC nC cC aD nD cD
  vx : VlAt W x
  vy : VlAt W y
  ra : RtAt W sA aA nA cA aB nB cB r L
  rc : RtAt W sC aC nC cC aD nD cD q L
theorem Placed.keep {w W W' : World} {g1 g2 g3 g4 : Nat} {x y : Vl} {sA : Bool} {aA : Option Addr} {nA cA : Nat} {aB : Option Addr} {nB cB : Nat} {r : Rt} {sC : Bool} {aC : Option Addr} {nC cC : Nat} {aD : Option Addr} {nD cD : Nat} {q : Rt} {L : Nat} (h : Placed w W g1 g2 g3 g4 x y sA aA nA cA aB nB cB r sC aC nC cC aD nD cD q L) (hb : Below W.heap.size W W') : Placed w W' g1 g2 g3 g4 x y sA aA nA cA aB nB cB r sC aC nC cC aD nD cD q L :=
  ⟨Below.then h.bel (Nat.le_refl _) hb, h.X.keep hb, h.Y.keep hb, h.A.keep hb, h.C.keep hb, h.vx.keep hb, h.vy.keep hb, h.ra.keep hb, h.rc.keep hb⟩
theorem swapped {w W : World} {g1 g2 g3 g4 lo L : Nat} {T1 T2 T3 T4 : TypeId} {x y : Vl} {sA : Bool} {aA : Option Addr} {nA cA : Nat} {aB : Option Addr} {nB cB : Nat} {r : Rt} {sC : Bool} {aC : Option Addr} {nC cC : Nat} {aD : Option Addr} {nD cD : Nat} {q : Rt} (hw : Below w.heap.size w W) (B1 : BlkAt W g1 #[.int .i64 x.kind, .bool x.truth, .string x.text, .bool x.neg, .slice x.wa x.wn x.wc, .slice x.da x.dn x.dc, .bool x.ineg, .slice x.ia x.inn x.ic, .slice x.ea x.en x.ec] T1) (B2 : BlkAt W g2 #[.int .i64 y.kind, .bool y.truth, .string y.text, .bool y.neg, .slice y.wa y.wn y.wc, .slice y.da y.dn y.dc, .bool y.ineg, .slice y.ia y.inn y.ic, .slice y.ea y.en y.ec] T2) (B3 : BlkAt W g3 #[.bool sA, .slice aA nA cA, .slice aB nB cB] T3) (B4 : BlkAt W g4 #[.bool sC, .slice aC nC cC, .slice aD nD cD] T4)
    (h12 : g1 ≠ g2) (h13 : g1 ≠ g3) (h14 : g1 ≠ g4) (h23 : g2 ≠ g3) (h24 : g2 ≠ g4) (h34 : g3 ≠ g4) (l1 : w.heap.size ≤ g1) (l2 : w.heap.size ≤ g2) (l3 : w.heap.size ≤ g3) (l4 : w.heap.size ≤ g4) (vx : VlAt W x) (vy : VlAt W y) (ra : RtAt W sA aA nA cA aB nB cB r L) (rc : RtAt W sC aC nC cC aD nD cD q L) (fa : Fr lo aA ∧ Fr lo aB) (fc : Fr lo aC ∧ Fr lo aD) (o1 : g1 < lo) (o2 : g2 < lo) :
    Placed w ((((((((((((((((((((((((W.setCell ⟨g1, 0, none⟩ (.int .i64 y.kind)).setCell ⟨g1, 1, none⟩ (.bool y.truth)).setCell ⟨g1, 2, none⟩ (.string y.text)).setCell ⟨g1, 3, none⟩ (.bool y.neg)).setCell ⟨g1, 4, none⟩ (.slice y.wa y.wn y.wc)).setCell ⟨g1, 5, none⟩ (.slice y.da y.dn y.dc)).setCell ⟨g1, 6, none⟩ (.bool y.ineg)).setCell ⟨g1, 7, none⟩ (.slice y.ia y.inn y.ic)).setCell ⟨g1, 8, none⟩ (.slice y.ea y.en y.ec)).setCell ⟨g2, 0, none⟩ (.int .i64 x.kind)).setCell ⟨g2, 1, none⟩ (.bool x.truth)).setCell ⟨g2, 2, none⟩ (.string x.text)).setCell ⟨g2, 3, none⟩ (.bool x.neg)).setCell ⟨g2, 4, none⟩ (.slice x.wa x.wn x.wc)).setCell ⟨g2, 5, none⟩ (.slice x.da x.dn x.dc)).setCell ⟨g2, 6, none⟩ (.bool x.ineg)).setCell ⟨g2, 7, none⟩ (.slice x.ia x.inn x.ic)).setCell ⟨g2, 8, none⟩ (.slice x.ea x.en x.ec)).setCell ⟨g3, 0, none⟩ (.bool sC)).setCell ⟨g3, 1, none⟩ (.slice aC nC cC)).setCell ⟨g3, 2, none⟩ (.slice aD nD cD)).setCell ⟨g4, 0, none⟩ (.bool sA)).setCell ⟨g4, 1, none⟩ (.slice aA nA cA)).setCell ⟨g4, 2, none⟩ (.slice aB nB cB)) g1 g2 g3 g4 y x sC aC nC cC aD nD cD q sA aA nA cA aB nB cB r L := by
  have hU : Upd (fun k => k = g1 ∨ k = g2 ∨ k = g3 ∨ k = g4) W ((((((((((((((((((((((((W.setCell ⟨g1, 0, none⟩ (.int .i64 y.kind)).setCell ⟨g1, 1, none⟩ (.bool y.truth)).setCell ⟨g1, 2, none⟩ (.string y.text)).setCell ⟨g1, 3, none⟩ (.bool y.neg)).setCell ⟨g1, 4, none⟩ (.slice y.wa y.wn y.wc)).setCell ⟨g1, 5, none⟩ (.slice y.da y.dn y.dc)).setCell ⟨g1, 6, none⟩ (.bool y.ineg)).setCell ⟨g1, 7, none⟩ (.slice y.ia y.inn y.ic)).setCell ⟨g1, 8, none⟩ (.slice y.ea y.en y.ec)).setCell ⟨g2, 0, none⟩ (.int .i64 x.kind)).setCell ⟨g2, 1, none⟩ (.bool x.truth)).setCell ⟨g2, 2, none⟩ (.string x.text)).setCell ⟨g2, 3, none⟩ (.bool x.neg)).setCell ⟨g2, 4, none⟩ (.slice x.wa x.wn x.wc)).setCell ⟨g2, 5, none⟩ (.slice x.da x.dn x.dc)).setCell ⟨g2, 6, none⟩ (.bool x.ineg)).setCell ⟨g2, 7, none⟩ (.slice x.ia x.inn x.ic)).setCell ⟨g2, 8, none⟩ (.slice x.ea x.en x.ec)).setCell ⟨g3, 0, none⟩ (.bool sC)).setCell ⟨g3, 1, none⟩ (.slice aC nC cC)).setCell ⟨g3, 2, none⟩ (.slice aD nD cD)).setCell ⟨g4, 0, none⟩ (.bool sA)).setCell ⟨g4, 1, none⟩ (.slice aA nA cA)).setCell ⟨g4, 2, none⟩ (.slice aB nB cB)) := by
    iterate 24 refine Upd.setCell ?_ (by first | exact .inl rfl | exact .inr (.inl rfl) | exact .inr (.inr (.inl rfl)) | exact .inr (.inr (.inr rfl))) _
    exact Upd.refl _ _
  have hN : ∀ k, (k = g1 ∨ k = g2 ∨ k = g3 ∨ k = g4) → NoU W k := by
    rintro k (rfl | rfl | rfl | rfl)
    · exact noU_of_blk B1 (noU_vl _)
    · exact noU_of_blk B2 (noU_vl _)
    · exact noU_of_blk B3 (fun i z h => noInt_rt _ _ _ _ _ _ _ i _ _ h)
    · exact noU_of_blk B4 (fun i z h => noInt_rt _ _ _ _ _ _ _ i _ _ h)
  have hI : ∀ k, (k = g1 ∨ k = g2 ∨ k = g3 ∨ k = g4) → k < lo ∨ NoInt W k := by
    rintro k (rfl | rfl | rfl | rfl)
    · exact .inl o1
    · exact .inl o2
    · exact .inr (noInt_of_blk B3 (noInt_rt _ _ _ _ _ _ _))
    · exact .inr (noInt_of_blk B4 (noInt_rt _ _ _ _ _ _ _))
  exact ⟨hU.below hw hw.size (fun k _ e => by rcases e with rfl | rfl | rfl | rfl <;> assumption),
    box9_blk (blk_other3 (blk_other3 (blk_other9 (blk_own9 B1 y) h12 _ _ _ _ _ _ _ _ _) h13 _ _ _) h14 _ _ _),
    box9_blk (blk_other3 (blk_other3 (blk_own9 (blk_other9 B2 (Ne.symm h12) _ _ _ _ _ _ _ _ _) x) h23 _ _ _) h24 _ _ _),
    rtBlk_blk (blk_other3 (blk_own3 (blk_other9 (blk_other9 B3 (Ne.symm h13) _ _ _ _ _ _ _ _ _) (Ne.symm h23) _ _ _ _ _ _ _ _ _) _ _ _) h34 _ _ _),
    rtBlk_blk (blk_own3 (blk_other3 (blk_other9 (blk_other9 B4 (Ne.symm h14) _ _ _ _ _ _ _ _ _) (Ne.symm h24) _ _ _ _ _ _ _ _ _) (Ne.symm h34) _ _ _) _ _ _),
    vlAt_upd vy hU hN, vlAt_upd vx hU hN, rtAt_fr rc fc hU hI, rtAt_fr ra fa hU hI⟩
def GrewIs (n : Nat) (w : World) (e : Ending) (w' : World) : Prop :=
  ∃ (c : Nat) (cur : Array Value), n ≤ c ∧ c ≤ maxLen ∧ cur.size = c ∧ e = .returned (.slice (some ⟨w.heap.size, 0, none⟩) 0 c) ∧ w' = w.drew.alloc (.cells cur 139)
theorem growN_nil (n : Nat) (h0 : 0 < n) (hn : n ≤ 1000000) (w : World) :
    Calls Tryz.prog 278 #[.slice none 0 0, .int .i64 n] w (GrewIs n w) := by
  obtain ⟨i0, hi, hz0, hz1, hz2⟩ := info_parts infoWord
  have happ := Lib.run_append_nil_zeros (P := Tryz.prog) w 153 3 153 139 i0 (.int .u64 0) .i64 .i64 Tryz.underlying153 Tryz.underlying3 hi hz0 n h0 (by omega) (by omega) (by rw [hz2]; omega)
  generalize hcap : grownCap w n 0 139 = c at happ
  have hcge : n ≤ c := by rw [← hcap]; exact grownCap_ge w _ 0 139
  have hcle : c ≤ maxLen := by rw [← hcap]; exact grownCap_le_maxLen w _ 0 139 (by unfold maxLen; omega)
  generalize hZ : (Builtin.zeroCells (Value.int .u64 0).cells n ++ Builtin.zeroCells (Value.int .u64 0).cells (c - n)) = Z at happ
  have hZs : Z.size = c := by rw [← hZ]; simp [size_zeroCells, Value.cells]; omega
  have HA := Lib.hid happ
  have HS := Lib.hid hZs
  have HC := Lib.hid hcle
  have hcm : c ≤ 9223372036854775807 := by unfold maxLen at hcle; omega
  clear hcap hZ happ hZs hi hz0 hz1 hz2 hcle
  go_enter Tryz.func278, Tryz.ntmps278
  go_wp2_with (at_builtin; refine Lib.wpList_append_run _ rfl _ _ _ _ rfl _ _ rfl rfl _ _ HA.out ?_)
  go_wp2
  go_ret
  exact ⟨c, Z, hcge, HC.out, HS.out, rfl, rfl⟩
theorem growW_nil (n : Nat) (h0 : 0 < n) (hn : n ≤ 1000000) (w : World) :
    Calls Tryz.prog 303 #[.slice none 0 0, .int .i64 n] w (GrewIs n w) := by
  obtain ⟨i0, hi, hz0, hz1, hz2⟩ := info_parts infoWord
  have happ := Lib.run_append_nil_zeros (P := Tryz.prog) w 138 3 138 139 i0 (.int .u64 0) .i64 .i64 Tryz.underlying138 Tryz.underlying3 hi hz0 n h0 (by omega) (by omega) (by rw [hz2]; omega)
  generalize hcap : grownCap w n 0 139 = c at happ
  have hcge : n ≤ c := by rw [← hcap]; exact grownCap_ge w _ 0 139
  have hcle : c ≤ maxLen := by rw [← hcap]; exact grownCap_le_maxLen w _ 0 139 (by unfold maxLen; omega)
  generalize hZ : (Builtin.zeroCells (Value.int .u64 0).cells n ++ Builtin.zeroCells (Value.int .u64 0).cells (c - n)) = Z at happ
  have hZs : Z.size = c := by rw [← hZ]; simp [size_zeroCells, Value.cells]; omega
  have HA := Lib.hid happ
  have HS := Lib.hid hZs
  have HC := Lib.hid hcle
  have hcm : c ≤ 9223372036854775807 := by unfold maxLen at hcle; omega
  clear hcap hZ happ hZs hi hz0 hz1 hz2 hcle
  go_enter Tryz.func303, Tryz.ntmps303
  go_wp2_with (at_builtin; refine Lib.wpList_append_run _ rfl _ _ _ _ rfl _ _ rfl rfl _ _ HA.out ?_)
  go_wp2
  go_ret
  exact ⟨c, Z, hcge, HC.out, HS.out, rfl, rfl⟩
theorem growW_room (a : Option Addr) (l c n : Nat) (w : World) (hlc : l ≤ c) (hc : c ≤ maxLen) (hr : l + n ≤ c) :
    Calls Tryz.prog 303 #[.slice a l c, .int .i64 n] w fun e w' => e = .returned (.slice a l c) ∧ w' = w := by
  unfold maxLen at hc
  have h1 : ¬ ((n : Int) < 0) := by omega
  have h4 : ¬ ((n : Int) - ((c : Int) - (l : Int)) > 0) := by omega
  go_enter Tryz.func303, Tryz.ntmps303
  go_wp2
  go_ret
  exact ⟨rfl, rfl⟩
def GrewOn (l n : Nat) (w : World) (e : Ending) (w' : World) : Prop :=
  ∃ (c : Nat) (cur : Array Value), l + n ≤ c ∧ c ≤ maxLen ∧ cur.size = c ∧ e = .returned (.slice (some ⟨w.heap.size, 0, none⟩) l c) ∧ w' = w.drew.alloc (.cells cur 139)
theorem growW_onto (g l c n : Nat) (cur : Array Value) (w : World) (hg : BlkAt w g cur 139) (hs : cur.size = c) (hlc : l ≤ c) (hr : c < l + n) (hb : l + n ≤ 1000000) :
    Calls Tryz.prog 303 #[.slice (some ⟨g, 0, none⟩) l c, .int .i64 n] w (GrewOn l n w) := by
  obtain ⟨i0, hi, hz0, hz1, hz2⟩ := info_parts infoWord
  have hcl : cur.toList.length = c * i0.size := by rw [hz1]; simp [hs]
  have hold := run_firstCells_some (P := Tryz.prog) (w := w.drew) i0.size c ⟨g, 0, none⟩ c c cur.toList hcl (fun j v hj => by
    rw [Addr.add_lit, Nat.zero_add]
    have h2 : BlkAt w.drew g cur 139 := hg
    rw [h2.cell]
    simpa using hj)
  have hck : c + (l + n - c) = l + n := by omega
  have happ := Lib.run_append_grow_zeros (P := Tryz.prog) w 138 3 138 139 i0 (.int .u64 0) .i64 .i64 Tryz.underlying138 Tryz.underlying3 hi hz0 (some ⟨g, 0, none⟩) c c cur.toList hold (l + n - c) (by omega) (by omega) (by omega) (by omega)
    (by rw [hz2]; omega) (by rw [hck]; exact growslice_fits hr (by rw [hz2]; omega))
  rw [hck] at happ
  have hk : ((l + n - c : Nat) : Int) = (n : Int) - ((c : Int) - (l : Int)) := by omega
  rw [hk] at happ
  generalize hcap : grownCap w (l + n) c 139 = C at happ
  have hcge : l + n ≤ C := by rw [← hcap]; exact grownCap_ge w _ _ 139
  have hcle : C ≤ maxLen := by rw [← hcap]; exact grownCap_le_maxLen w _ _ 139 (by unfold maxLen; omega)
  generalize hZ : (cur.toList.toArray ++ Builtin.zeroCells (Value.int .u64 0).cells (l + n - c) ++ Builtin.zeroCells (Value.int .u64 0).cells (C - (l + n))) = Z at happ
  have hZs : Z.size = C := by rw [← hZ]; simp [size_zeroCells, Value.cells]; omega
  have HA := Lib.hid happ
  have HS := Lib.hid hZs
  have HC := Lib.hid hcle
  have hcm : C ≤ 9223372036854775807 := by unfold maxLen at hcle; omega
  have h1 : ¬ ((n : Int) < 0) := by omega
  have h4 : (n : Int) - ((c : Int) - (l : Int)) > 0 := by omega
  clear hcap hZ happ hZs hi hz0 hz1 hz2 hcle hold hcl hck hk hs
  go_enter Tryz.func303, Tryz.ntmps303
  go_wp2_with (at_builtin; refine Lib.wpList_append_run _ rfl _ _ _ _ rfl _ _ rfl rfl _ _ HA.out ?_)
  go_wp2
  go_ret
  exact ⟨C, Z, hcge, HC.out, HS.out, rfl, rfl⟩
theorem sum_same (s : Bool) (N M : Nat) : sg (s && decide (0 < N + M)) (N + M) = sg s N + sg s M := by
  cases s
  · simp [sg]
  · by_cases h : 0 < N + M
    · simp [sg, h]; omega
    · obtain rfl : N = 0 := by omega
      obtain rfl : M = 0 := by omega
      rfl
theorem sum_other {s t : Bool} {N M : Nat} (hst : s ≠ t) (hle : M ≤ N) : sg (s && decide (0 < N - M)) (N - M) = sg s N + sg t M := by
  cases s <;> cases t <;> simp at hst
  · simp [sg]; omega
  · by_cases h : 0 < N - M
    · simp [sg, h]; omega
    · simp [sg, h]; omega
theorem sum_other' {s t : Bool} {N M : Nat} (hst : s ≠ t) (hlt : N < M) : sg (!s && decide (0 < M - N)) (M - N) = sg s N + sg t M := by
  cases s <;> cases t <;> simp at hst
  · have h : 0 < M - N := by omega
    simp [sg, h]; omega
  · simp [sg]; omega
theorem sg_not (t : Bool) (M : Nat) : sg (!t) M = -sg t M := by cases t <;> simp [sg]
theorem cmpK_ge {N M : Nat} (h : M ≤ N) : decide (0 ≤ cmpI N M) = true := by
  unfold cmpI; simp; split
  · omega
  · split <;> omega
theorem cmpK_lt {N M : Nat} (h : N < M) : decide (0 ≤ cmpI N M) = false := by
  unfold cmpI; rw [if_pos h]; rfl
end Go.Proofs.YtececkbcinmmpaaGreatDoor
namespace Go.Bg
open Go.RowKit Dg
def andn (a b : Nat) : Nat := a ^^^ (a &&& b)
def bitsN (f : Nat → Bool) : Nat → Nat
  | 0 => 0
  | k + 1 => bitsN f k + (if f k then 2 ^ k else 0)
theorem bitsN_lt (f : Nat → Bool) (k : Nat) : bitsN f k < 2 ^ k := by
  induction k with
  | zero => simp [bitsN]
  | succ k ih =>
    have e : bitsN f (k + 1) = bitsN f k + (if f k then 2 ^ k else 0) := rfl
    rw [e, Nat.pow_succ]; split <;> omega
theorem bitsN_bit (f : Nat → Bool) (k i : Nat) : (bitsN f k).testBit i = (decide (i < k) && f i) := by
  induction k with
  | zero => simp [bitsN]
  | succ k ih =>
    have hl := bitsN_lt f k
    have e : bitsN f (k + 1) = bitsN f k + (if f k then 2 ^ k else 0) := rfl
    rw [e]
    cases hf : f k
    · simp only [Bool.false_eq_true, if_false, Nat.add_zero]
      rw [ih]
      by_cases h : i = k
      · subst h; simp [hf]
      · rw [decide_eq_decide.2 (show i < k ↔ i < k + 1 from by omega)]
    · simp only [if_true]
      rw [Nat.add_comm]
      rcases Nat.lt_trichotomy i k with h | h | h
      · rw [Nat.testBit_two_pow_add_gt h, ih, decide_eq_true h, decide_eq_true (show i < k + 1 from by omega)]
      · subst h
        rw [Nat.testBit_two_pow_add_eq, Nat.testBit_lt_two_pow hl]; simp [hf]
      · rw [Nat.testBit_lt_two_pow (Nat.lt_of_lt_of_le (show 2 ^ k + bitsN f k < 2 ^ (k + 1) from by rw [Nat.pow_succ]; omega) (Nat.pow_le_pow_right (by decide) (by omega))), decide_eq_false (show ¬ i < k + 1 from by omega)]; rfl
theorem bitsN_eq {f : Nat → Bool} {k X : Nat} (hX : X < 2 ^ k) (h : ∀ i, i < k → X.testBit i = f i) : bitsN f k = X := by
  apply Nat.eq_of_testBit_eq
  intro i
  rw [bitsN_bit]
  by_cases hi : i < k
  · rw [decide_eq_true hi, h i hi]; rfl
  · rw [decide_eq_false hi, Nat.testBit_lt_two_pow (Nat.lt_of_lt_of_le hX (Nat.pow_le_pow_right (by decide) (by omega)))]; rfl
def low (s : Bool) (N : Nat) : Nat := if s then N - 1 else N
def bitAt (s : Bool) (N i : Nat) : Bool := s != (low s N).testBit i
theorem low_le (s : Bool) (N : Nat) : low s N ≤ N := by unfold low; split <;> omega
theorem bitAt_high {s : Bool} {N i : Nat} (h : N < 2 ^ i) : bitAt s N i = s := by
  unfold bitAt
  rw [Nat.testBit_lt_two_pow (Nat.lt_of_le_of_lt (low_le s N) h)]
  cases s <;> rfl
theorem lt_bl (N : Nat) : N < 2 ^ bl N := by
  unfold bl
  split
  · subst N; decide
  · exact Nat.lt_log2_self
theorem lt_size {N k : Nat} (h : bl N ≤ k) : N < 2 ^ k := Nat.lt_of_lt_of_le (lt_bl N) (Nat.pow_le_pow_right (by decide) h)
def jlow (T : Bool → Bool → Bool) (s t : Bool) (N M : Nat) : Nat :=
  bitsN (fun i => T (bitAt s N i) (bitAt t M i) != T s t) (max (bl N) (bl M) + 1)
def jmag (T : Bool → Bool → Bool) (s t : Bool) (N M : Nat) : Nat := if T s t then jlow T s t N M + 1 else jlow T s t N M
def jz (T : Bool → Bool → Bool) (a b : Int) : Int := sg (T (decide (a < 0)) (decide (b < 0))) (jmag T (decide (a < 0)) (decide (b < 0)) a.natAbs b.natAbs)
theorem jlow_of {T : Bool → Bool → Bool} {s t : Bool} {N M X : Nat} (hX : ∀ i, X.testBit i = (T (bitAt s N i) (bitAt t M i) != T s t)) : jlow T s t N M = X := by
  refine bitsN_eq (Nat.lt_pow_two_of_testBit _ fun i hi => ?_) fun i _ => hX i
  rw [hX i, bitAt_high (lt_size (Nat.le_trans (Nat.le_max_left (bl N) (bl M)) (by omega))), bitAt_high (lt_size (Nat.le_trans (Nat.le_max_right (bl N) (bl M)) (by omega)))]
  cases T s t <;> rfl
theorem jlow_bit (T : Bool → Bool → Bool) (s t : Bool) (N M i : Nat) : (jlow T s t N M).testBit i = (T (bitAt s N i) (bitAt t M i) != T s t) := by
  unfold jlow
  rw [bitsN_bit]
  by_cases hi : i < max (bl N) (bl M) + 1
  · rw [decide_eq_true hi]; rfl
  · rw [decide_eq_false hi, bitAt_high (lt_size (Nat.le_trans (Nat.le_max_left (bl N) (bl M)) (by omega))), bitAt_high (lt_size (Nat.le_trans (Nat.le_max_right (bl N) (bl M)) (by omega)))]
    cases T s t <;> rfl
theorem jlow_lt {T : Bool → Bool → Bool} {s t : Bool} {N M k : Nat} (h1 : low s N < 2 ^ k) (h2 : low t M < 2 ^ k) : jlow T s t N M < 2 ^ k := by
  refine Nat.lt_pow_two_of_testBit _ fun i hi => ?_
  rw [jlow_bit]
  unfold bitAt
  rw [Nat.testBit_lt_two_pow (Nat.lt_of_lt_of_le h1 (Nat.pow_le_pow_right (by decide) hi)), Nat.testBit_lt_two_pow (Nat.lt_of_lt_of_le h2 (Nat.pow_le_pow_right (by decide) hi))]
  cases s <;> cases t <;> simp
theorem jmag_pos {T : Bool → Bool → Bool} {s t : Bool} (N M : Nat) (h : T s t = true) : 0 < jmag T s t N M := by
  unfold jmag; rw [if_pos h]; omega
def andnT (a b : Bool) : Bool := a && !b
theorem jmag_andn00 (N M : Nat) : jmag andnT false false N M = andn (N) (M) := by
  have e : jlow andnT false false N M = andn (N) (M) := jlow_of fun i => by
    show (andn (N) (M)).testBit i = (andnT (false != (N).testBit i) (false != (M).testBit i) != andnT false false)
    unfold andn; rw [Nat.testBit_xor, Nat.testBit_and]
    cases (N).testBit i <;> cases (M).testBit i <;> rfl
  show jlow andnT false false N M = _
  rw [e]
theorem ofInt_bit (z : Int) (i : Nat) (hi : i < 64) : (BitVec.ofInt 64 z).getLsbD i = bitAt (decide (z < 0)) z.natAbs i := by
  unfold bitAt low
  by_cases h : z < 0
  · obtain ⟨m, rfl⟩ : ∃ m : Nat, z = Int.negSucc m := ⟨z.natAbs - 1, by omega⟩
    rw [decide_eq_true h, if_pos rfl, BitVec.ofInt_negSucc_eq_not_ofNat, BitVec.getLsbD_not, BitVec.getLsbD_ofNat]
    simp [hi, Int.natAbs_negSucc]
  · obtain ⟨m, rfl⟩ : ∃ m : Nat, z = m := ⟨z.natAbs, by omega⟩
    rw [decide_eq_false h, BitVec.ofInt_natCast, BitVec.getLsbD_ofNat]
    simp [hi]
theorem jz_neg (T : Bool → Bool → Bool) (a b : Int) : decide (jz T a b < 0) = T (decide (a < 0)) (decide (b < 0)) := by
  unfold jz sg
  cases h : T (decide (a < 0)) (decide (b < 0))
  · simp
  · have := jmag_pos (T := T) (s := decide (a < 0)) (t := decide (b < 0)) a.natAbs b.natAbs h
    simp; omega
theorem jz_abs (T : Bool → Bool → Bool) (a b : Int) : (jz T a b).natAbs = jmag T (decide (a < 0)) (decide (b < 0)) a.natAbs b.natAbs := by
  unfold jz; rw [sg_nat]
theorem jz_low (T : Bool → Bool → Bool) (a b : Int) : low (T (decide (a < 0)) (decide (b < 0))) (jmag T (decide (a < 0)) (decide (b < 0)) a.natAbs b.natAbs) = jlow T (decide (a < 0)) (decide (b < 0)) a.natAbs b.natAbs := by
  unfold low jmag
  cases T (decide (a < 0)) (decide (b < 0)) <;> simp
theorem jz_bit (T : Bool → Bool → Bool) (a b : Int) (i : Nat) : bitAt (decide (jz T a b < 0)) (jz T a b).natAbs i = T (bitAt (decide (a < 0)) a.natAbs i) (bitAt (decide (b < 0)) b.natAbs i) := by
  rw [jz_neg, jz_abs]
  unfold bitAt
  rw [jz_low, jlow_bit]
  show (_ != (T (bitAt _ _ _) (bitAt _ _ _) != _)) = _
  unfold bitAt
  cases T (decide (a < 0)) (decide (b < 0)) <;> simp
theorem jz_vec (T : Bool → Bool → Bool) (a b : Int) (v : BitVec 64) (hv : ∀ i, i < 64 → v.getLsbD i = T ((BitVec.ofInt 64 a).getLsbD i) ((BitVec.ofInt 64 b).getLsbD i)) : v = BitVec.ofInt 64 (jz T a b) := by
  apply BitVec.eq_of_getLsbD_eq
  intro i hi
  rw [hv i hi, ofInt_bit _ _ hi, ofInt_bit _ _ hi, ofInt_bit _ _ hi, jz_bit]
end Go.Bg
namespace Go.Proofs.YtececkbcinmmpaaGreatDoor
open Go.RowKit Go.Bg Dg
theorem jz_fit {T : Bool → Bool → Bool} {a b : Int} (ha : fit64 a = true) (hb : fit64 b = true) : fit64 (jz T a b) = true := by
  have l1 : low (decide (a < 0)) a.natAbs < 2 ^ 63 := by
    have := fit64_bd ha
    unfold low; split <;> simp_all <;> omega
  have l2 : low (decide (b < 0)) b.natAbs < 2 ^ 63 := by
    have := fit64_bd hb
    unfold low; split <;> simp_all <;> omega
  have h := jlow_lt (T := T) l1 l2
  unfold jz jmag sg fit64
  cases T (decide (a < 0)) (decide (b < 0)) <;> simp <;> omega
theorem wrap_ofInt {z : Int} (h : fit64 z = true) : IntKind.i64.wrap ((BitVec.ofInt 64 z).toNat : Int) = z := by
  have := fit64_bd h
  rw [BitVec.toNat_ofInt, IntKind.wrap_i64]
  omega
theorem bits_andn_i64 {a b : Int} (ha : fit64 a = true) (hb : fit64 b = true) : bits .andNot .i64 a b = jz andnT a b := by
  show IntKind.i64.wrap ((BitVec.ofInt 64 a &&& ~~~ BitVec.ofInt 64 b).toNat : Int) = _
  rw [jz_vec andnT a b (BitVec.ofInt 64 a &&& ~~~ BitVec.ofInt 64 b) (fun i hi => by simp [andnT, hi]), wrap_ofInt (jz_fit ha hb)]
theorem sg_mul (s t : Bool) (N M : Nat) : sg ((s != t) && decide (0 < N * M)) (N * M) = sg s N * sg t M := by
  by_cases h : 0 < N * M
  · cases s <;> cases t <;> simp [sg, h, Int.neg_mul, Int.mul_neg]
  · have e : N * M = 0 := by omega
    have e' : (N : Int) * (M : Int) = 0 := by rw [← Int.natCast_mul, e]; rfl
    cases s <;> cases t <;> simp [sg, e, e', Int.neg_mul, Int.mul_neg]
theorem getStack_any (w : World) : Calls Tryz.prog 160 #[] w fun e w' => e = .returned (.pointer (some ⟨w.heap.size, 0, none⟩)) ∧ w' = w.alloc (.cells #[.pointer none] 225) := by
  go_enter Tryz.func160, Tryz.ntmps160
  go_wp2
  go_ret
  exact ⟨rfl, rfl⟩
theorem free_d (g : Nat) (u : FrameMode) (w : World) (h : w.cell? ⟨g, 0, none⟩ = some (.pointer none)) :
    CallsD Tryz.prog 161 #[.pointer (some ⟨g, 0, none⟩)] u w fun e u' w' => u' = u ∧ (e = .returned (.tuple #[]) ∧ w' = w) := by
  go_enter_d Tryz.func161, Tryz.ntmps161
  go_wp2
  go_end0
  exact ⟨rfl, rfl⟩
end Go.Proofs.YtececkbcinmmpaaGreatDoor
namespace Go.Bg
open Go.RowKit Dg
def nr4 (n : Nat) : Nat := 4 * ((n + 3) / 4)
theorem nr4_ge (n : Nat) : n ≤ nr4 n := by unfold nr4; omega
theorem nr4_le (n : Nat) : nr4 n ≤ n + 3 := by unfold nr4; omega
theorem andn_three (x : Nat) : andn x 3 = 4 * (x / 4) := by
  apply Nat.eq_of_testBit_eq
  intro i
  unfold andn
  rw [Nat.testBit_xor, Nat.testBit_and, show (3 : Nat) = 2 ^ 2 - 1 from rfl, Nat.testBit_two_pow_sub_one, show (4 : Nat) * (x / 4) = 2 ^ 2 * (x / 2 ^ 2) from rfl, Nat.testBit_two_pow_mul, Nat.testBit_div_two_pow]
  by_cases h : i < 2
  · rw [decide_eq_true h, decide_eq_false (show ¬ i ≥ 2 from by omega)]; simp
  · rw [decide_eq_false h, decide_eq_true (show i ≥ 2 from by omega), show i - 2 + 2 = i from by omega]; simp
end Go.Bg
namespace Go.Proofs.YtececkbcinmmpaaGreatDoor
open Go.RowKit Go.Bg Dg
theorem bits_round4 (n : Nat) (hn : n ≤ 1000000) : bits .andNot .i64 ((n : Int) + 3) 3 = ((nr4 n : Nat) : Int) := by
  have h := bits_andn_i64 (a := (n : Int) + 3) (b := 3) (by unfold fit64; simp; omega) (by decide)
  rw [h]
  have e : jz andnT ((n : Int) + 3) 3 = sg (andnT false false) (jmag andnT false false (n + 3) 3) := by
    unfold jz
    rw [decide_eq_false (show ¬ ((n : Int) + 3 < 0) from by omega), decide_eq_false (show ¬ ((3 : Int) < 0) from by omega), show ((n : Int) + 3).natAbs = n + 3 from by omega]
    rfl
  rw [e, jmag_andn00, andn_three]
  rfl
theorem innerSave_any (ib : Nat) (a : Option Addr) (l c : Nat) (w : World) (h : w.cell? ⟨ib, 0, none⟩ = some (.slice a l c)) :
    Calls Tryz.prog 277 #[.pointer (some ⟨ib, 0, none⟩)] w fun e w' => e = .returned (.int .i64 l) ∧ w = w' := by
  go_enter Tryz.func277, Tryz.ntmps277
  go_wp2
  go_ret
  exact ⟨rfl, rfl⟩
theorem save_none (sb : Nat) (w : World) (h : w.cell? ⟨sb, 0, none⟩ = some (.pointer none)) :
    Calls Tryz.prog 240 #[.pointer (some ⟨sb, 0, none⟩)] w fun e w' => e = .returned (.int .i64 0) ∧ w = w' := by
  go_enter Tryz.func240, Tryz.ntmps240
  go_wp2
  go_ret
  exact ⟨rfl, rfl⟩
theorem save_has (sb ib : Nat) (a : Option Addr) (l c : Nat) (w : World) (h : w.cell? ⟨sb, 0, none⟩ = some (.pointer (some ⟨ib, 0, none⟩))) (h2 : w.cell? ⟨ib, 0, none⟩ = some (.slice a l c)) :
    Calls Tryz.prog 240 #[.pointer (some ⟨sb, 0, none⟩)] w fun e w' => e = .returned (.int .i64 l) ∧ w = w' := by
  have HS := Lib.hid (innerSave_any ib a l c w h2)
  clear h2
  go_enter Tryz.func240, Tryz.ntmps240
  go_wp2_with fail
  refine HS.out.mono ?_
  rintro e w1 ⟨rfl, rfl⟩
  go_wp2
  go_ret
  exact ⟨rfl, rfl⟩
theorem innerRestore_any (ib n : Nat) (a : Option Addr) (l c : Nat) (w : World) (h : BlkAt w ib #[.slice a l c] 258) (hn : n ≤ c) (hc : c ≤ 9223372036854775807) :
    Calls Tryz.prog 276 #[.pointer (some ⟨ib, 0, none⟩), .int .i64 n] w fun e w' => e = .returned (.tuple #[]) ∧ w' = w.setCell ⟨ib, 0, none⟩ (.slice a n c) := by
  have h0 := h.cell 0
  simp only [List.getElem?_toArray, List.getElem?_cons_zero] at h0
  have f0 := h.frozen 0
  have hni : (n : Int) ≤ c := by omega
  clear h
  go_enter Tryz.func276, Tryz.ntmps276
  go_wp2
  go_end0
  exact ⟨rfl, rfl⟩
theorem restore_none_d (sb n : Nat) (u : FrameMode) (w : World) (h : w.cell? ⟨sb, 0, none⟩ = some (.pointer none)) :
    CallsD Tryz.prog 239 #[.pointer (some ⟨sb, 0, none⟩), .int .i64 n] u w fun e u' w' => u' = u ∧ (e = .returned (.tuple #[]) ∧ w' = w) := by
  go_enter_d Tryz.func239, Tryz.ntmps239
  go_wp2
  exact bodyPost_ret (results_none (by kernel_rfl) _ _ _) rfl ⟨rfl, rfl⟩
theorem restore_has_d (sb ib n : Nat) (a : Option Addr) (l c : Nat) (u : FrameMode) (w : World) (h : w.cell? ⟨sb, 0, none⟩ = some (.pointer (some ⟨ib, 0, none⟩))) (h2 : BlkAt w ib #[.slice a l c] 258) (hn : n ≤ c) (hc : c ≤ 9223372036854775807) :
    CallsD Tryz.prog 239 #[.pointer (some ⟨sb, 0, none⟩), .int .i64 n] u w fun e u' w' => u' = u ∧ (e = .returned (.tuple #[]) ∧ w' = w.setCell ⟨ib, 0, none⟩ (.slice a n c)) := by
  have HR := Lib.hid (innerRestore_any ib n a l c w h2 hn hc)
  clear h2
  go_enter_d Tryz.func239, Tryz.ntmps239
  go_wp2_with fail
  refine HR.out.mono ?_
  rintro e w1 ⟨rfl, rfl⟩
  go_wp2
  exact ⟨rfl, _, results_none (by kernel_rfl) _ _ _, rfl, rfl⟩
end Go.Proofs.YtececkbcinmmpaaGreatDoor
