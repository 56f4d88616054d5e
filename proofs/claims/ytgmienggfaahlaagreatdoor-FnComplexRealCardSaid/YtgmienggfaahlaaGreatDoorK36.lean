/-
  Contracts and lemmas: OpenT ThrL BoxS Box2 CmpB SpUp.
-/
import Derived.Test.YtgmienggfaahlaaGreatDoorK35
import Derived.LaidLaws
import Derived.ChangeArms
import Derived.Test.YtgmienggfaahlaaGreatDoorK06
import Derived.Test.YtgmienggfaahlaaGreatDoorK19
import Derived.Test.YtgmienggfaahlaaGreatDoorK31
import Derived.Test.YtgmienggfaahlaaGreatDoorK11
import Derived.Test.YtgmienggfaahlaaGreatDoorK09
set_option linter.unusedSimpArgs false
set_option linter.unusedVariables false
set_option maxRecDepth 100000
set_option maxHeartbeats 8000000
namespace Go.Bg
open Go.RowKit Dg
theorem laid_lit {P : Program} {w : World} {n : String} {k : IntKind} {z : Int} {g : Nat} {t : TypeId} (hg : P.globalNamed n = some g) (ht : (P.globals[g]?).map (·.type) = some t) (hu : P.underlying t = some (.int k)) :
    ∀ {laid : List (String × DataW Unit)} {ps : List MemPlace}, DataW.LaidVars P w laid ps → (n, DataW.lit (.int k z)) ∈ laid → w.cell? ⟨g, 0, none⟩ = some (.int k z)
  | [], _, _, hm => by cases hm
  | (m, d) :: r, _, ⟨g', t', cs, fuel, p, q, hg', ht', hv, hd, hr, _⟩, hm => by
    rcases List.mem_cons.1 hm with e | hm
    · obtain ⟨rfl, rfl⟩ := Prod.mk.inj e
      obtain rfl := Option.some.inj (hg.symm.trans hg')
      obtain rfl := Option.some.inj (ht.symm.trans ht')
      obtain ⟨z', hc, hx, _⟩ := DataW.trod_int hu hd
      obtain rfl : z = z' := by
        have := congrArg Prod.fst hx
        simpa using this
      have h0 := World.var?_cell hg hv 0
      rw [h0, ← Array.getElem?_toList, hc]
      rfl
    · exact laid_lit hg ht hu hr hm
end Go.Bg
namespace Go.Proofs.YtgmienggfaahlaaGreatDoor
open Go.RowKit Go.Bg Dg
theorem box9_stored {w : World} {g : Nat} {T : TypeId} (hR : BlkAt w g #[.int .i64 0, .bool false, .string ⟨#[]⟩, .bool false, .slice none 0 0, .slice none 0 0, .bool false, .slice none 0 0, .slice none 0 0] T) (y : Vl) :
    Box9 (((((((((w.setCell ⟨g, 0, none⟩ (.int .i64 y.kind)).setCell ⟨g, 1, none⟩ (.bool y.truth)).setCell ⟨g, 2, none⟩ (.string y.text)).setCell ⟨g, 3, none⟩ (.bool y.neg)).setCell ⟨g, 4, none⟩ (.slice y.wa y.wn y.wc)).setCell ⟨g, 5, none⟩ (.slice y.da y.dn y.dc)).setCell ⟨g, 6, none⟩ (.bool y.ineg)).setCell ⟨g, 7, none⟩ (.slice y.ia y.inn y.ic)).setCell ⟨g, 8, none⟩ (.slice y.ea y.en y.ec)) g y := by
  have e : ∀ (i j : Nat) (v : Value) (w : World), i ≠ j → (w.setCell ⟨g, i, none⟩ v).cell? ⟨g, j, none⟩ = w.cell? ⟨g, j, none⟩ := fun i j v w h => World.cell?_setCell_other _ _ _ _ (fun hh => h (by injection hh))
  have c0 : w.cell? ⟨g, 0, none⟩ = some (.int .i64 0) := by rw [hR.cell]; rfl
  have c1 : w.cell? ⟨g, 1, none⟩ = some (.bool false) := by rw [hR.cell]; rfl
  have c2 : w.cell? ⟨g, 2, none⟩ = some (.string ⟨#[]⟩) := by rw [hR.cell]; rfl
  have c3 : w.cell? ⟨g, 3, none⟩ = some (.bool false) := by rw [hR.cell]; rfl
  have c4 : w.cell? ⟨g, 4, none⟩ = some (.slice none 0 0) := by rw [hR.cell]; rfl
  have c5 : w.cell? ⟨g, 5, none⟩ = some (.slice none 0 0) := by rw [hR.cell]; rfl
  have c6 : w.cell? ⟨g, 6, none⟩ = some (.bool false) := by rw [hR.cell]; rfl
  have c7 : w.cell? ⟨g, 7, none⟩ = some (.slice none 0 0) := by rw [hR.cell]; rfl
  have c8 : w.cell? ⟨g, 8, none⟩ = some (.slice none 0 0) := by rw [hR.cell]; rfl
  refine ⟨?_, ?_, ?_, ?_, ?_, ?_, ?_, ?_, ?_⟩
  · rw [e _ _ _ _ (by decide), e _ _ _ _ (by decide), e _ _ _ _ (by decide), e _ _ _ _ (by decide), e _ _ _ _ (by decide), e _ _ _ _ (by decide), e _ _ _ _ (by decide), e _ _ _ _ (by decide)]; refine World.cell?_setCell_same (u := .int .i64 0) _ _ _ ?_; exact c0
  · rw [e _ _ _ _ (by decide), e _ _ _ _ (by decide), e _ _ _ _ (by decide), e _ _ _ _ (by decide), e _ _ _ _ (by decide), e _ _ _ _ (by decide), e _ _ _ _ (by decide)]; refine World.cell?_setCell_same (u := .bool false) _ _ _ ?_; rw [e _ _ _ _ (by decide)]; exact c1
  · rw [e _ _ _ _ (by decide), e _ _ _ _ (by decide), e _ _ _ _ (by decide), e _ _ _ _ (by decide), e _ _ _ _ (by decide), e _ _ _ _ (by decide)]; refine World.cell?_setCell_same (u := .string ⟨#[]⟩) _ _ _ ?_; rw [e _ _ _ _ (by decide), e _ _ _ _ (by decide)]; exact c2
  · rw [e _ _ _ _ (by decide), e _ _ _ _ (by decide), e _ _ _ _ (by decide), e _ _ _ _ (by decide), e _ _ _ _ (by decide)]; refine World.cell?_setCell_same (u := .bool false) _ _ _ ?_; rw [e _ _ _ _ (by decide), e _ _ _ _ (by decide), e _ _ _ _ (by decide)]; exact c3
  · rw [e _ _ _ _ (by decide), e _ _ _ _ (by decide), e _ _ _ _ (by decide), e _ _ _ _ (by decide)]; refine World.cell?_setCell_same (u := .slice none 0 0) _ _ _ ?_; rw [e _ _ _ _ (by decide), e _ _ _ _ (by decide), e _ _ _ _ (by decide), e _ _ _ _ (by decide)]; exact c4
  · rw [e _ _ _ _ (by decide), e _ _ _ _ (by decide), e _ _ _ _ (by decide)]; refine World.cell?_setCell_same (u := .slice none 0 0) _ _ _ ?_; rw [e _ _ _ _ (by decide), e _ _ _ _ (by decide), e _ _ _ _ (by decide), e _ _ _ _ (by decide), e _ _ _ _ (by decide)]; exact c5
  · rw [e _ _ _ _ (by decide), e _ _ _ _ (by decide)]; refine World.cell?_setCell_same (u := .bool false) _ _ _ ?_; rw [e _ _ _ _ (by decide), e _ _ _ _ (by decide), e _ _ _ _ (by decide), e _ _ _ _ (by decide), e _ _ _ _ (by decide), e _ _ _ _ (by decide)]; exact c6
  · rw [e _ _ _ _ (by decide)]; refine World.cell?_setCell_same (u := .slice none 0 0) _ _ _ ?_; rw [e _ _ _ _ (by decide), e _ _ _ _ (by decide), e _ _ _ _ (by decide), e _ _ _ _ (by decide), e _ _ _ _ (by decide), e _ _ _ _ (by decide), e _ _ _ _ (by decide)]; exact c7
  · refine World.cell?_setCell_same (u := .slice none 0 0) _ _ _ ?_; rw [e _ _ _ _ (by decide), e _ _ _ _ (by decide), e _ _ _ _ (by decide), e _ _ _ _ (by decide), e _ _ _ _ (by decide), e _ _ _ _ (by decide), e _ _ _ _ (by decide), e _ _ _ _ (by decide)]; exact c8
theorem below_set9 {w0 w : World} {B g : Nat} (hb : Below B w0 w) (hg : B ≤ g) (v0 v1 v2 v3 v4 v5 v6 v7 v8 : Value) :
    Below B w0 (((((((((w.setCell ⟨g, 0, none⟩ v0).setCell ⟨g, 1, none⟩ v1).setCell ⟨g, 2, none⟩ v2).setCell ⟨g, 3, none⟩ v3).setCell ⟨g, 4, none⟩ v4).setCell ⟨g, 5, none⟩ v5).setCell ⟨g, 6, none⟩ v6).setCell ⟨g, 7, none⟩ v7).setCell ⟨g, 8, none⟩ v8) :=
  ((((((((hb.setCell hg _).setCell hg _).setCell hg _).setCell hg _).setCell hg _).setCell hg _).setCell hg _).setCell hg _).setCell hg _
structure Boxed (w0 W : World) (g : Nat) (y : Vl) : Prop where
  below : Below w0.heap.size w0 W
  val : VlAt W y
  box : Box9 W g y
theorem boxed_at {w0 w4 : World} {T : TypeId} {y : Vl} {g : Nat} (hR : BlkAt w4 g #[.int .i64 0, .bool false, .string ⟨#[]⟩, .bool false, .slice none 0 0, .slice none 0 0, .bool false, .slice none 0 0, .slice none 0 0] T) (hb4 : Below w0.heap.size w0 w4) (hs : w0.heap.size ≤ g) (hy4 : VlAt w4 y) :
    Boxed w0 (((((((((w4.setCell ⟨g, 0, none⟩ (.int .i64 y.kind)).setCell ⟨g, 1, none⟩ (.bool y.truth)).setCell ⟨g, 2, none⟩ (.string y.text)).setCell ⟨g, 3, none⟩ (.bool y.neg)).setCell ⟨g, 4, none⟩ (.slice y.wa y.wn y.wc)).setCell ⟨g, 5, none⟩ (.slice y.da y.dn y.dc)).setCell ⟨g, 6, none⟩ (.bool y.ineg)).setCell ⟨g, 7, none⟩ (.slice y.ia y.inn y.ic)).setCell ⟨g, 8, none⟩ (.slice y.ea y.en y.ec)) g y := by
  have hU : Upd (· = g) w4 (((((((((w4.setCell ⟨g, 0, none⟩ (.int .i64 y.kind)).setCell ⟨g, 1, none⟩ (.bool y.truth)).setCell ⟨g, 2, none⟩ (.string y.text)).setCell ⟨g, 3, none⟩ (.bool y.neg)).setCell ⟨g, 4, none⟩ (.slice y.wa y.wn y.wc)).setCell ⟨g, 5, none⟩ (.slice y.da y.dn y.dc)).setCell ⟨g, 6, none⟩ (.bool y.ineg)).setCell ⟨g, 7, none⟩ (.slice y.ia y.inn y.ic)).setCell ⟨g, 8, none⟩ (.slice y.ea y.en y.ec)) := by
    iterate 9 refine Upd.setCell ?_ (by exact rfl) _
    exact Upd.refl _ _
  have hS : ∀ k, k = g → NoU w4 k := fun k e => by subst e; exact noU_of_blk hR (noU_vals _)
  exact ⟨hU.below hb4 hb4.size (fun k _ e => by subst e; exact hs), ⟨hy4.ws.updU hU hS, hy4.ds.updU hU hS, hy4.is.updU hU hS, hy4.es.updU hU hS, hy4.text, hy4.kind⟩, box9_stored hR y⟩
structure Boxed2 (w0 W : World) (g h : Nat) (q r : Vl) : Prop where
  below : Below w0.heap.size w0 W
  valq : VlAt W q
  valr : VlAt W r
  boxq : Box9 W g q
  boxr : Box9 W h r
theorem vl_set9 {w4 : World} {T : TypeId} {y q : Vl} {g : Nat} (hR : BlkAt w4 g #[.int .i64 0, .bool false, .string ⟨#[]⟩, .bool false, .slice none 0 0, .slice none 0 0, .bool false, .slice none 0 0, .slice none 0 0] T) (hq : VlAt w4 q) : VlAt (((((((((w4.setCell ⟨g, 0, none⟩ (.int .i64 y.kind)).setCell ⟨g, 1, none⟩ (.bool y.truth)).setCell ⟨g, 2, none⟩ (.string y.text)).setCell ⟨g, 3, none⟩ (.bool y.neg)).setCell ⟨g, 4, none⟩ (.slice y.wa y.wn y.wc)).setCell ⟨g, 5, none⟩ (.slice y.da y.dn y.dc)).setCell ⟨g, 6, none⟩ (.bool y.ineg)).setCell ⟨g, 7, none⟩ (.slice y.ia y.inn y.ic)).setCell ⟨g, 8, none⟩ (.slice y.ea y.en y.ec)) q := by
  have hU : Upd (· = g) w4 (((((((((w4.setCell ⟨g, 0, none⟩ (.int .i64 y.kind)).setCell ⟨g, 1, none⟩ (.bool y.truth)).setCell ⟨g, 2, none⟩ (.string y.text)).setCell ⟨g, 3, none⟩ (.bool y.neg)).setCell ⟨g, 4, none⟩ (.slice y.wa y.wn y.wc)).setCell ⟨g, 5, none⟩ (.slice y.da y.dn y.dc)).setCell ⟨g, 6, none⟩ (.bool y.ineg)).setCell ⟨g, 7, none⟩ (.slice y.ia y.inn y.ic)).setCell ⟨g, 8, none⟩ (.slice y.ea y.en y.ec)) := by
    iterate 9 refine Upd.setCell ?_ (by exact rfl) _
    exact Upd.refl _ _
  have hS : ∀ k, k = g → NoU w4 k := fun k e => by subst e; exact noU_of_blk hR (noU_vals _)
  exact ⟨hq.ws.updU hU hS, hq.ds.updU hU hS, hq.is.updU hU hS, hq.es.updU hU hS, hq.text, hq.kind⟩
theorem blk_set9 {w4 : World} {T' : TypeId} {y : Vl} {g h : Nat} {cs : Array Value} (hR : BlkAt w4 h cs T') (hne : h ≠ g) : BlkAt (((((((((w4.setCell ⟨g, 0, none⟩ (.int .i64 y.kind)).setCell ⟨g, 1, none⟩ (.bool y.truth)).setCell ⟨g, 2, none⟩ (.string y.text)).setCell ⟨g, 3, none⟩ (.bool y.neg)).setCell ⟨g, 4, none⟩ (.slice y.wa y.wn y.wc)).setCell ⟨g, 5, none⟩ (.slice y.da y.dn y.dc)).setCell ⟨g, 6, none⟩ (.bool y.ineg)).setCell ⟨g, 7, none⟩ (.slice y.ia y.inn y.ic)).setCell ⟨g, 8, none⟩ (.slice y.ea y.en y.ec)) h cs T' := by
  have hU : Upd (· = g) w4 (((((((((w4.setCell ⟨g, 0, none⟩ (.int .i64 y.kind)).setCell ⟨g, 1, none⟩ (.bool y.truth)).setCell ⟨g, 2, none⟩ (.string y.text)).setCell ⟨g, 3, none⟩ (.bool y.neg)).setCell ⟨g, 4, none⟩ (.slice y.wa y.wn y.wc)).setCell ⟨g, 5, none⟩ (.slice y.da y.dn y.dc)).setCell ⟨g, 6, none⟩ (.bool y.ineg)).setCell ⟨g, 7, none⟩ (.slice y.ia y.inn y.ic)).setCell ⟨g, 8, none⟩ (.slice y.ea y.en y.ec)) := by
    iterate 9 refine Upd.setCell ?_ (by exact rfl) _
    exact Upd.refl _ _
  exact hU.blk hR hne
theorem boxed2_r {w0 w4 : World} {T : TypeId} {q r : Vl} {g h : Nat} (hb : Below w0.heap.size w0 w4) (hq : VlAt w4 q) (hr : VlAt w4 r) (hg : Box9 w4 g q) (hR : BlkAt w4 h #[.int .i64 0, .bool false, .string ⟨#[]⟩, .bool false, .slice none 0 0, .slice none 0 0, .bool false, .slice none 0 0, .slice none 0 0] T) (hs : w0.heap.size ≤ h) (hne : g ≠ h) :
    Boxed2 w0 (((((((((w4.setCell ⟨h, 0, none⟩ (.int .i64 r.kind)).setCell ⟨h, 1, none⟩ (.bool r.truth)).setCell ⟨h, 2, none⟩ (.string r.text)).setCell ⟨h, 3, none⟩ (.bool r.neg)).setCell ⟨h, 4, none⟩ (.slice r.wa r.wn r.wc)).setCell ⟨h, 5, none⟩ (.slice r.da r.dn r.dc)).setCell ⟨h, 6, none⟩ (.bool r.ineg)).setCell ⟨h, 7, none⟩ (.slice r.ia r.inn r.ic)).setCell ⟨h, 8, none⟩ (.slice r.ea r.en r.ec)) g h q r := by
  have hB := boxed_at hR hb hs hr
  exact ⟨hB.below, vl_set9 hR hq, hB.val, hg.set9 hne _ _ _ _ _ _ _ _ _, hB.box⟩
theorem boxed2_qr {w0 w4 : World} {T T' : TypeId} {q r : Vl} {g h : Nat} (hb : Below w0.heap.size w0 w4) (hq : VlAt w4 q) (hr : VlAt w4 r) (hG : BlkAt w4 g #[.int .i64 0, .bool false, .string ⟨#[]⟩, .bool false, .slice none 0 0, .slice none 0 0, .bool false, .slice none 0 0, .slice none 0 0] T) (hR : BlkAt w4 h #[.int .i64 0, .bool false, .string ⟨#[]⟩, .bool false, .slice none 0 0, .slice none 0 0, .bool false, .slice none 0 0, .slice none 0 0] T') (hsg : w0.heap.size ≤ g) (hs : w0.heap.size ≤ h) (hne : g ≠ h) :
    Boxed2 w0 ((((((((((((((((((w4.setCell ⟨g, 0, none⟩ (.int .i64 q.kind)).setCell ⟨g, 1, none⟩ (.bool q.truth)).setCell ⟨g, 2, none⟩ (.string q.text)).setCell ⟨g, 3, none⟩ (.bool q.neg)).setCell ⟨g, 4, none⟩ (.slice q.wa q.wn q.wc)).setCell ⟨g, 5, none⟩ (.slice q.da q.dn q.dc)).setCell ⟨g, 6, none⟩ (.bool q.ineg)).setCell ⟨g, 7, none⟩ (.slice q.ia q.inn q.ic)).setCell ⟨g, 8, none⟩ (.slice q.ea q.en q.ec)).setCell ⟨h, 0, none⟩ (.int .i64 r.kind)).setCell ⟨h, 1, none⟩ (.bool r.truth)).setCell ⟨h, 2, none⟩ (.string r.text)).setCell ⟨h, 3, none⟩ (.bool r.neg)).setCell ⟨h, 4, none⟩ (.slice r.wa r.wn r.wc)).setCell ⟨h, 5, none⟩ (.slice r.da r.dn r.dc)).setCell ⟨h, 6, none⟩ (.bool r.ineg)).setCell ⟨h, 7, none⟩ (.slice r.ia r.inn r.ic)).setCell ⟨h, 8, none⟩ (.slice r.ea r.en r.ec)) g h q r := by
  have hB := boxed_at hG hb hsg hq
  exact boxed2_r hB.below hB.val (vl_set9 hG hr) hB.box (blk_set9 hR (Ne.symm hne)) hs hne
theorem upside_any (s : Bool) (a : Option Addr) (n c : Nat) (a' : Option Addr) (n' c' L : Nat) (r : Rt) (w : World) (h : RtAt w s a n c a' n' c' r L) :
    Calls Tryz.prog 9 #[.agg #[.bool s, .slice a n c, .slice a' n' c']] w (GivesR r.upside L w) := by
  have HH := Lib.hid h
  clear h
  have hb := ((Below.refl w.heap.size w).alloc (Nat.le_refl _) (.cells #[.bool s, .slice a n c, .slice a' n' c'] 31)).alloc (by simp) (.cells #[.bool s, .slice a' n' c', .slice a n c] 31)
  have HB := Lib.hid hb
  clear hb
  go_enter Tryz.func9, Tryz.ntmps9
  go_wp2
  exact bodyPost_ret (v := .agg #[.bool s, .slice a' n' c', .slice a n c]) (by simp [results, Tryz.results9, go_sem]) rfl
    ⟨_, _, _, _, _, _, _, rfl, ⟨HH.out.neg, HH.out.den.keep HB.out, HH.out.num.keep HB.out, HH.out.denL, HH.out.numL⟩, HB.out⟩
end Go.Proofs.YtgmienggfaahlaaGreatDoor
