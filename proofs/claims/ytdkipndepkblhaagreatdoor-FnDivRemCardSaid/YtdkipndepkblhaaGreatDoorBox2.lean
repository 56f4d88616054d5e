/-
  Two values that a drawing region lays into two new blocks. PRINTED BY a program of mine (session 4).
-/
import Derived.Test.YtdkipndepkblhaaGreatDoorBoxS
set_option linter.unusedSimpArgs false
set_option linter.unusedVariables false
namespace Go.Proofs.YtdkipndepkblhaaGreatDoor
open Go.RowKit Go.Bg Dg

structure Boxed2 (w0 W : World) (g h : Nat) (q r : Vl) : Prop where
  below : Below w0.heap.size w0 W
  valq : VlAt W q
  valr : VlAt W r
  boxq : Box9 W g q
  boxr : Box9 W h r

/-- a value is behind the stores of another into a block of nothing -/
theorem vl_set9 {w4 : World} {T : TypeId} {y q : Vl} {g : Nat} (hR : BlkAt w4 g #[.int .i64 0, .bool false, .string ⟨#[]⟩, .bool false, .slice none 0 0, .slice none 0 0, .bool false, .slice none 0 0, .slice none 0 0] T) (hq : VlAt w4 q) : VlAt (((((((((w4.setCell ⟨g, 0, none⟩ (.int .i64 y.kind)).setCell ⟨g, 1, none⟩ (.bool y.truth)).setCell ⟨g, 2, none⟩ (.string y.text)).setCell ⟨g, 3, none⟩ (.bool y.neg)).setCell ⟨g, 4, none⟩ (.slice y.wa y.wn y.wc)).setCell ⟨g, 5, none⟩ (.slice y.da y.dn y.dc)).setCell ⟨g, 6, none⟩ (.bool y.ineg)).setCell ⟨g, 7, none⟩ (.slice y.ia y.inn y.ic)).setCell ⟨g, 8, none⟩ (.slice y.ea y.en y.ec)) q := by
  have hU : Upd (· = g) w4 (((((((((w4.setCell ⟨g, 0, none⟩ (.int .i64 y.kind)).setCell ⟨g, 1, none⟩ (.bool y.truth)).setCell ⟨g, 2, none⟩ (.string y.text)).setCell ⟨g, 3, none⟩ (.bool y.neg)).setCell ⟨g, 4, none⟩ (.slice y.wa y.wn y.wc)).setCell ⟨g, 5, none⟩ (.slice y.da y.dn y.dc)).setCell ⟨g, 6, none⟩ (.bool y.ineg)).setCell ⟨g, 7, none⟩ (.slice y.ia y.inn y.ic)).setCell ⟨g, 8, none⟩ (.slice y.ea y.en y.ec)) := by
    iterate 9 refine Upd.setCell ?_ (by exact rfl) _
    exact Upd.refl _ _
  have hS : ∀ k, k = g → NoU w4 k := fun k e => by subst e; exact noU_of_blk hR (noU_vals _)
  exact ⟨hq.ws.updU hU hS, hq.ds.updU hU hS, hq.is.updU hU hS, hq.es.updU hU hS, hq.text, hq.kind⟩

theorem blk_set9 {w4 : World} {T' : TypeId} {y : Vl} {g h : Nat} {cs : Array Value} (hR : BlkAt w4 h cs T') (hne : h ≠ g) : BlkAt (((((((((w4.setCell ⟨g, 0, none⟩ (.int .i64 y.kind)).setCell ⟨g, 1, none⟩ (.bool y.truth)).setCell ⟨g, 2, none⟩ (.string y.text)).setCell ⟨g, 3, none⟩ (.bool y.neg)).setCell ⟨g, 4, none⟩ (.slice y.wa y.wn y.wc)).setCell ⟨g, 5, none⟩ (.slice y.da y.dn y.dc)).setCell ⟨g, 6, none⟩ (.bool y.ineg)).setCell ⟨g, 7, none⟩ (.slice y.ia y.inn y.ic)).setCell ⟨g, 8, none⟩ (.slice y.ea y.en y.ec)) h cs T' := by
  have hU : Upd (· = g) w4 (((((((((w4.setCell ⟨g, 0, none⟩ (.int .i64 y.kind)).setCell ⟨g, 1, none⟩ (.bool y.truth)).setCell ⟨g, 2, none⟩ (.string y.text)).setCell ⟨g, 3, none⟩ (.bool y.neg)).setCell ⟨g, 4, none⟩ (.slice y.wa y.wn y.wc)).setCell ⟨g, 5, none⟩ (.slice y.da y.dn y.dc)).setCell ⟨g, 6, none⟩ (.bool y.ineg)).setCell ⟨g, 7, none⟩ (.slice y.ia y.inn y.ic)).setCell ⟨g, 8, none⟩ (.slice y.ea y.en y.ec)) := by
    iterate 9 refine Upd.setCell ?_ (by exact rfl) _
    exact Upd.refl _ _
  exact hU.blk hR hne

/-- one value lies in its block, the other is stored -/
theorem boxed2_r {w0 w4 : World} {T : TypeId} {q r : Vl} {g h : Nat} (hb : Below w0.heap.size w0 w4) (hq : VlAt w4 q) (hr : VlAt w4 r) (hg : Box9 w4 g q) (hR : BlkAt w4 h #[.int .i64 0, .bool false, .string ⟨#[]⟩, .bool false, .slice none 0 0, .slice none 0 0, .bool false, .slice none 0 0, .slice none 0 0] T) (hs : w0.heap.size ≤ h) (hne : g ≠ h) :
    Boxed2 w0 (((((((((w4.setCell ⟨h, 0, none⟩ (.int .i64 r.kind)).setCell ⟨h, 1, none⟩ (.bool r.truth)).setCell ⟨h, 2, none⟩ (.string r.text)).setCell ⟨h, 3, none⟩ (.bool r.neg)).setCell ⟨h, 4, none⟩ (.slice r.wa r.wn r.wc)).setCell ⟨h, 5, none⟩ (.slice r.da r.dn r.dc)).setCell ⟨h, 6, none⟩ (.bool r.ineg)).setCell ⟨h, 7, none⟩ (.slice r.ia r.inn r.ic)).setCell ⟨h, 8, none⟩ (.slice r.ea r.en r.ec)) g h q r := by
  have hB := boxed_at hR hb hs hr
  exact ⟨hB.below, vl_set9 hR hq, hB.val, hg.set9 hne _ _ _ _ _ _ _ _ _, hB.box⟩

theorem boxed2_qr {w0 w4 : World} {T T' : TypeId} {q r : Vl} {g h : Nat} (hb : Below w0.heap.size w0 w4) (hq : VlAt w4 q) (hr : VlAt w4 r) (hG : BlkAt w4 g #[.int .i64 0, .bool false, .string ⟨#[]⟩, .bool false, .slice none 0 0, .slice none 0 0, .bool false, .slice none 0 0, .slice none 0 0] T) (hR : BlkAt w4 h #[.int .i64 0, .bool false, .string ⟨#[]⟩, .bool false, .slice none 0 0, .slice none 0 0, .bool false, .slice none 0 0, .slice none 0 0] T') (hsg : w0.heap.size ≤ g) (hs : w0.heap.size ≤ h) (hne : g ≠ h) :
    Boxed2 w0 ((((((((((((((((((w4.setCell ⟨g, 0, none⟩ (.int .i64 q.kind)).setCell ⟨g, 1, none⟩ (.bool q.truth)).setCell ⟨g, 2, none⟩ (.string q.text)).setCell ⟨g, 3, none⟩ (.bool q.neg)).setCell ⟨g, 4, none⟩ (.slice q.wa q.wn q.wc)).setCell ⟨g, 5, none⟩ (.slice q.da q.dn q.dc)).setCell ⟨g, 6, none⟩ (.bool q.ineg)).setCell ⟨g, 7, none⟩ (.slice q.ia q.inn q.ic)).setCell ⟨g, 8, none⟩ (.slice q.ea q.en q.ec)).setCell ⟨h, 0, none⟩ (.int .i64 r.kind)).setCell ⟨h, 1, none⟩ (.bool r.truth)).setCell ⟨h, 2, none⟩ (.string r.text)).setCell ⟨h, 3, none⟩ (.bool r.neg)).setCell ⟨h, 4, none⟩ (.slice r.wa r.wn r.wc)).setCell ⟨h, 5, none⟩ (.slice r.da r.dn r.dc)).setCell ⟨h, 6, none⟩ (.bool r.ineg)).setCell ⟨h, 7, none⟩ (.slice r.ia r.inn r.ic)).setCell ⟨h, 8, none⟩ (.slice r.ea r.en r.ec)) g h q r := by
  have hB := boxed_at hG hb hsg hq
  exact boxed2_r hB.below hB.val (vl_set9 hG hr) hB.box (blk_set9 hR (Ne.symm hne)) hs hne
end Go.Proofs.YtdkipndepkblhaaGreatDoor
