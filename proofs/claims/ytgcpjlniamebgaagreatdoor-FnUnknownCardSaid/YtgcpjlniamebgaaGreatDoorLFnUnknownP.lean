/-
  What FnUnknown's walk uses.
-/
import Derived.Test.YtgcpjlniamebgaaGreatDoorBuDD
import Derived.Test.YtgcpjlniamebgaaGreatDoorBuW
import Derived.Test.YtgcpjlniamebgaaGreatDoorBuE
import Derived.Test.YtgcpjlniamebgaaGreatDoorBuU
set_option linter.unusedSimpArgs false
set_option linter.unusedVariables false
namespace Go.Bg
open Go.RowKit Dg
/-- the value of nothing -/
abbrev noneVl : Vl := ⟨0, false, ⟨#[]⟩, false, none, 0, 0, fun _ => 0, none, 0, 0, fun _ => 0, false, none, 0, 0, fun _ => 0, none, 0, 0, fun _ => 0⟩
theorem noneVl_at (w : World) : VlAt w noneVl := ⟨nilWords _, nilWords _, nilWords _, nilWords _, Nat.zero_le _, by simp⟩
theorem box9_put {w : World} {g : Nat} {cur : Array Value} {T : TypeId} (hb : BlkAt w g cur T) (hs : cur.size = 9) (x : Vl) :
    Box9 (((((((((w.setCell ⟨g, 0, none⟩ (.int .i64 x.kind)).setCell ⟨g, 1, none⟩ (.bool x.truth)).setCell ⟨g, 2, none⟩ (.string x.text)).setCell ⟨g, 3, none⟩ (.bool x.neg)).setCell ⟨g, 4, none⟩ (.slice x.wa x.wn x.wc)).setCell ⟨g, 5, none⟩ (.slice x.da x.dn x.dc)).setCell ⟨g, 6, none⟩ (.bool x.ineg)).setCell ⟨g, 7, none⟩ (.slice x.ia x.inn x.ic)).setCell ⟨g, 8, none⟩ (.slice x.ea x.en x.ec)) g x := by
  have h := ((((((((hb.set 0 (.int .i64 x.kind)).set 1 (.bool x.truth)).set 2 (.string x.text)).set 3 (.bool x.neg)).set 4 (.slice x.wa x.wn x.wc)).set 5 (.slice x.da x.dn x.dc)).set 6 (.bool x.ineg)).set 7 (.slice x.ia x.inn x.ic)).set 8 (.slice x.ea x.en x.ec)
  refine ⟨?_, ?_, ?_, ?_, ?_, ?_, ?_, ?_, ?_⟩ <;> (rw [h.cell]; simp [Array.getElem?_setIfInBounds, hs])
theorem box9_blk {w : World} {g b : Nat} {cur : Array Value} {T : TypeId} (hb : BlkAt w b cur T) (hg : b ≠ g) (x : Vl) :
    BlkAt (((((((((w.setCell ⟨g, 0, none⟩ (.int .i64 x.kind)).setCell ⟨g, 1, none⟩ (.bool x.truth)).setCell ⟨g, 2, none⟩ (.string x.text)).setCell ⟨g, 3, none⟩ (.bool x.neg)).setCell ⟨g, 4, none⟩ (.slice x.wa x.wn x.wc)).setCell ⟨g, 5, none⟩ (.slice x.da x.dn x.dc)).setCell ⟨g, 6, none⟩ (.bool x.ineg)).setCell ⟨g, 7, none⟩ (.slice x.ia x.inn x.ic)).setCell ⟨g, 8, none⟩ (.slice x.ea x.en x.ec)) b cur T := by
  have e : ∀ (i : Nat) (v : Value) (w : World), BlkAt w b cur T → BlkAt (w.setCell ⟨g, i, none⟩ v) b cur T := fun i v w h => (Upd.set1 w g i v).blk h hg
  exact e _ _ _ (e _ _ _ (e _ _ _ (e _ _ _ (e _ _ _ (e _ _ _ (e _ _ _ (e _ _ _ (e _ _ _ hb))))))))
/-- the cells of one value among several, its kind 0 -/
def Nine0 (w : World) (g k : Nat) : Prop := ∃ y : Vl, w.cell? ⟨g, k * 9, none⟩ = some (.int .i64 0) ∧ w.cell? ⟨g, k * 9 + 1, none⟩ = some (.bool y.truth) ∧ w.cell? ⟨g, k * 9 + 2, none⟩ = some (.string y.text) ∧ w.cell? ⟨g, k * 9 + 3, none⟩ = some (.bool y.neg) ∧ w.cell? ⟨g, k * 9 + 4, none⟩ = some (.slice y.wa y.wn y.wc) ∧ w.cell? ⟨g, k * 9 + 5, none⟩ = some (.slice y.da y.dn y.dc) ∧ w.cell? ⟨g, k * 9 + 6, none⟩ = some (.bool y.ineg) ∧ w.cell? ⟨g, k * 9 + 7, none⟩ = some (.slice y.ia y.inn y.ic) ∧ w.cell? ⟨g, k * 9 + 8, none⟩ = some (.slice y.ea y.en y.ec)
theorem Nine0.keep {w w' : World} {g k : Nat} (h : Nine0 w g k) (hb : Below w.heap.size w w') : Nine0 w' g k := by
  obtain ⟨y, z0, z1, z2, z3, z4, z5, z6, z7, z8⟩ := h
  exact ⟨y, cell_keep z0 hb, cell_keep z1 hb, cell_keep z2 hb, cell_keep z3 hb, cell_keep z4 hb, cell_keep z5 hb, cell_keep z6 hb, cell_keep z7 hb, cell_keep z8 hb⟩
theorem nine0_of {w : World} {g : Nat} {cur : Array Value} {T : TypeId} (hb : BlkAt w g cur T) (h0 : ∀ k, k < 9 → ∃ y : Vl, cur[k * 9]? = some (.int .i64 0) ∧ cur[k * 9 + 1]? = some (.bool y.truth) ∧ cur[k * 9 + 2]? = some (.string y.text) ∧ cur[k * 9 + 3]? = some (.bool y.neg) ∧ cur[k * 9 + 4]? = some (.slice y.wa y.wn y.wc) ∧ cur[k * 9 + 5]? = some (.slice y.da y.dn y.dc) ∧ cur[k * 9 + 6]? = some (.bool y.ineg) ∧ cur[k * 9 + 7]? = some (.slice y.ia y.inn y.ic) ∧ cur[k * 9 + 8]? = some (.slice y.ea y.en y.ec)) : ∀ k, k < 9 → Nine0 w g k := by
  intro k hk
  obtain ⟨y, z0, z1, z2, z3, z4, z5, z6, z7, z8⟩ := h0 k hk
  exact ⟨y, by rw [hb.cell]; exact z0, by rw [hb.cell]; exact z1, by rw [hb.cell]; exact z2, by rw [hb.cell]; exact z3, by rw [hb.cell]; exact z4, by rw [hb.cell]; exact z5, by rw [hb.cell]; exact z6, by rw [hb.cell]; exact z7, by rw [hb.cell]; exact z8⟩
end Go.Bg
