/-
  Contracts and lemmas: StkC StkD StkE MulX.
-/
import Derived.Test.YtececkbcinmmpaaGreatDoorM20
import Derived.Test.YtececkbcinmmpaaGreatDoorM14
import Derived.Test.YtececkbcinmmpaaGreatDoorM15
set_option linter.unusedSimpArgs false
set_option linter.unusedVariables false
set_option maxRecDepth 100000
set_option maxHeartbeats 8000000
namespace Go.Proofs.YtececkbcinmmpaaGreatDoor
open Go.RowKit Go.Bg Dg
def HandNew (ib n : Nat) (w : World) (e : Ending) (w' : World) : Prop :=
  ∃ (c g : Nat) (cur : Array Value), g = w.heap.size ∧ e = .returned (.slice (some ⟨g, 0, none⟩) n n) ∧ BlkAt w' g cur 139 ∧ cur.size = c ∧ nr4 n ≤ c ∧ c ≤ maxLen ∧ BlkAt w' ib #[.slice (some ⟨g, 0, none⟩) (nr4 n) c] 258 ∧ Upd (· = ib) w w'
theorem innerNat_new (ib n : Nat) (w : World) (hn1 : 1 ≤ n) (hn : n ≤ 100000) (h : BlkAt w ib #[.slice none 0 0] 258) :
    Calls Tryz.prog 279 #[.pointer (some ⟨ib, 0, none⟩), .int .i64 n] w (HandNew ib n w) := by
  have hbt := bits_round4 n (by omega)
  have hm1 := nr4_ge n
  have hm2 := nr4_le n
  have HB := Lib.hid h
  have hlt := h.lt
  have h0 := h.cell 0
  simp only [List.getElem?_toArray, List.getElem?_cons_zero] at h0
  have f0 := h.frozen 0
  have HG := Lib.hid (fun w' => growW_nil (nr4 n) (by omega) (by omega) w')
  have HM := Lib.hid (show nr4 n = nr4 n from rfl)
  clear h
  unfold HandNew
  generalize nr4 n = m at *
  have hsum : IntKind.i64.wrap ((n : Int) + 3) = (n : Int) + 3 := by rw [IntKind.wrap_i64]; omega
  go_enter Tryz.func279, Tryz.ntmps279
  go_wp2_with fail
  refine (HG.out _).mono ?_
  rintro e w1 ⟨c, cur, hc1, hc2, hcs, rfl, hw1⟩
  obtain ⟨g, hg⟩ : ∃ g, g = w.heap.size := ⟨_, rfl⟩
  have hgn : g ≠ ib := by omega
  rw [← hg]
  have HBel := Lib.hid (show Below w.heap.size w w1 from by rw [hw1]; exact Below.alloc' (Below.refl _ _).drew _)
  have HK := Lib.hid (show BlkAt w1 g cur 139 from by rw [hw1, hg]; exact BlkAt.new _ _ _)
  have HI := Lib.hid (HB.out.keep HBel.out)
  have k0 := cell_keep h0 HBel.out
  have fi0 := HI.out.frozen 0
  obtain ⟨v, hv⟩ : ∃ v, cur[0]? = some v := ⟨cur[0]'(by omega), by rw [Array.getElem?_eq_getElem]⟩
  have g0 : ∀ x y, ((w1.setCell ⟨ib, 0, none⟩ x).setCell ⟨ib, 0, none⟩ y).cell? ⟨g, 0, none⟩ = some v := fun x y => by
    rw [cell?_setCell_ne hgn, cell?_setCell_ne hgn, HK.out.cell, hv]
  have gf0 := HK.out.frozen 0
  unfold maxLen at hc2
  have HGE := Lib.hid hg
  have hge : w.heap.size ≤ g := by omega
  clear hw1 h0 f0 HG hg
  go_wp2
  go_ret
  have HK2 := Upd.blk ((Upd.set1 w1 ib 0 (.slice (some ⟨g, 0, none⟩) 0 c)).trans (Upd.set1 _ ib 0 (.slice (some ⟨g, 0, none⟩) m c))) HK.out hgn
  have HI2 := (HI.out.set 0 (.slice (some ⟨g, 0, none⟩) 0 c)).set 0 (.slice (some ⟨g, 0, none⟩) m c)
  refine ⟨c, g, _, HGE.out, rfl, HK2.set 0 _, by simp [hcs], hc1, hc2, ?_, ?_⟩
  · exact Upd.blk (Upd.set1 _ g 0 _) (by simpa using HI2) (fun h => hgn h.symm)
  · exact (((Upd.of_below HBel.out).trans (Upd.set1 _ _ _ _)).trans (Upd.set1 _ _ _ _)).setNew (by omega) _
def HandOn (ib g l n : Nat) (cur : Array Value) (w : World) (e : Ending) (w' : World) : Prop :=
  ∃ (c g' : Nat) (cur' : Array Value), e = .returned (.slice (some ⟨g', l, none⟩) n n) ∧ BlkAt w' g' cur' 139 ∧ cur'.size = c ∧ l + nr4 n ≤ c ∧ c ≤ maxLen ∧ BlkAt w' ib #[.slice (some ⟨g', 0, none⟩) (l + nr4 n) c] 258 ∧
    ((g' = g ∧ cur'.size = cur.size ∧ (∀ i, i < l → cur'[i]? = cur[i]?) ∧ Upd (fun k => k = ib ∨ k = g) w w') ∨ (g' = w.heap.size ∧ Upd (· = ib) w w'))
theorem innerNat_on (ib g l c n : Nat) (cur : Array Value) (w : World) (hn1 : 1 ≤ n) (hn : n ≤ 100000) (hl : l ≤ 100000) (h : BlkAt w ib #[.slice (some ⟨g, 0, none⟩) l c] 258) (hg : BlkAt w g cur 139) (hcs : cur.size = c) (hlc : l ≤ c) (hcm : c ≤ maxLen) (hl0 : 0 < l) :
    Calls Tryz.prog 279 #[.pointer (some ⟨ib, 0, none⟩), .int .i64 n] w (HandOn ib g l n cur w) := by
  have hbt := bits_round4 n (by omega)
  have hm1 := nr4_ge n
  have hm2 := nr4_le n
  have HB := Lib.hid h
  have HGB := Lib.hid hg
  have hlt := h.lt
  have hglt := hg.lt
  have h0 := h.cell 0
  simp only [List.getElem?_toArray, List.getElem?_cons_zero] at h0
  have f0 := h.frozen 0
  have hne : g ≠ ib := fun e => by
    subst e
    have h1 := h
    unfold BlkAt at h1 hg
    rw [h1] at hg
    injection hg with hg
    injection hg with _ h2 _
    exact absurd h2 (by decide)
  have hsum : IntKind.i64.wrap ((n : Int) + 3) = (n : Int) + 3 := by rw [IntKind.wrap_i64]; omega
  by_cases hr : l + nr4 n ≤ c
  · have HR := Lib.hid (fun w' => growW_room (some ⟨g, 0, none⟩) l c (nr4 n) w' hlc hcm hr)
    unfold HandOn
    have hmx := hcm
    unfold maxLen at hmx
    have HCS := Lib.hid hcs
    clear h hg hcs
    generalize nr4 n = m at *
    obtain ⟨v, hv⟩ : ∃ v, cur[l]? = some v := ⟨cur[l]'(by have := HCS.out; omega), by rw [Array.getElem?_eq_getElem]⟩
    have g0 : ∀ x y, ((w.setCell ⟨ib, 0, none⟩ x).setCell ⟨ib, 0, none⟩ y).cell? ⟨g, l, none⟩ = some v := fun x y => by
      rw [cell?_setCell_ne hne, cell?_setCell_ne hne, HGB.out.cell, hv]
    have gf0 := HGB.out.frozen l
    have hl0' : ¬ (l : Int) = 0 := by omega
    have hln : l + n - l = n := by omega
    have hcl : ¬ c = l := by omega
    have hlm : ((l : Int) + m) ≤ c := by omega
    go_enter Tryz.func279, Tryz.ntmps279
    go_wp2_with fail
    refine (HR.out _).mono ?_
    rintro e w1 ⟨rfl, rfl⟩
    go_wp2
    go_ret
    have HK2 := Upd.blk ((Upd.set1 w1 ib 0 (.slice (some ⟨g, 0, none⟩) l c)).trans (Upd.set1 _ ib 0 (.slice (some ⟨g, 0, none⟩) (l + m) c))) HGB.out hne
    have HI2 := (HB.out.set 0 (.slice (some ⟨g, 0, none⟩) l c)).set 0 (.slice (some ⟨g, 0, none⟩) (l + m) c)
    refine ⟨c, g, _, (show Ending.returned (.slice (some ⟨g, l, none⟩) (l + n - l) (l + n - l)) = _ from by rw [hln]), HK2.set l _, by simp [HCS.out], hr, hcm, ?_, .inl ⟨rfl, by simp, ?_, ?_⟩⟩
    · exact Upd.blk (Upd.set1 _ g l _) (by simpa using HI2) (fun h => hne h.symm)
    · intro i hi
      rw [Array.getElem?_setIfInBounds, if_neg (by omega)]
    · exact (((Upd.refl _ _).setCell (p := ⟨ib, 0, none⟩) (.inl rfl) _).setCell (p := ⟨ib, 0, none⟩) (.inl rfl) _).setCell (p := ⟨g, l, none⟩) (.inr rfl) _
  · have HR := Lib.hid (fun w' hg' => growW_onto g l c (nr4 n) cur w' hg' hcs hlc (by omega) (by omega))
    have HG' := HGB
    unfold HandOn
    have HCS := Lib.hid hcs
    have hrr : c < l + nr4 n := by omega
    clear h hg hcs hr
    generalize nr4 n = m at *
    have hl0' : ¬ (l : Int) = 0 := by omega
    have hln : l + n - l = n := by omega
    go_enter Tryz.func279, Tryz.ntmps279
    go_wp2_with fail
    refine (HR.out _ HG'.out).mono ?_
    rintro e w1 ⟨c', cur', hc1, hc2, hcs', rfl, hw1⟩
    obtain ⟨g', hg'⟩ : ∃ g', g' = w.heap.size := ⟨_, rfl⟩
    have hgn : g' ≠ ib := by omega
    rw [← hg']
    have HBel := Lib.hid (show Below w.heap.size w w1 from by rw [hw1]; exact Below.alloc' (Below.refl _ _).drew _)
    have HK := Lib.hid (show BlkAt w1 g' cur' 139 from by rw [hw1, hg']; exact BlkAt.new _ _ _)
    have HI := Lib.hid (HB.out.keep HBel.out)
    have k0 := cell_keep h0 HBel.out
    have fi0 := HI.out.frozen 0
    obtain ⟨v, hv⟩ : ∃ v, cur'[l]? = some v := ⟨cur'[l]'(by omega), by rw [Array.getElem?_eq_getElem]⟩
    have g0 : ∀ x y, ((w1.setCell ⟨ib, 0, none⟩ x).setCell ⟨ib, 0, none⟩ y).cell? ⟨g', l, none⟩ = some v := fun x y => by
      rw [cell?_setCell_ne hgn, cell?_setCell_ne hgn, HK.out.cell, hv]
    have gf0 := HK.out.frozen l
    have hc2' := hc2
    unfold maxLen at hc2
    have hcl : ¬ c' = l := by omega
    have hlm : ((l : Int) + m) ≤ c' := by omega
    have HGE := Lib.hid hg'
    have hge : w.heap.size ≤ g' := by omega
    clear hw1 h0 f0 HR hg'
    go_wp2
    go_ret
    have HK2 := Upd.blk ((Upd.set1 w1 ib 0 (.slice (some ⟨g', 0, none⟩) l c')).trans (Upd.set1 _ ib 0 (.slice (some ⟨g', 0, none⟩) (l + m) c'))) HK.out hgn
    have HI2 := (HI.out.set 0 (.slice (some ⟨g', 0, none⟩) l c')).set 0 (.slice (some ⟨g', 0, none⟩) (l + m) c')
    refine ⟨c', g', _, (show Ending.returned (.slice (some ⟨g', l, none⟩) (l + n - l) (l + n - l)) = _ from by rw [hln]), HK2.set l _, by simp [hcs'], hc1, hc2', ?_, .inr ⟨HGE.out, ?_⟩⟩
    · exact Upd.blk (Upd.set1 _ g' l _) (by simpa using HI2) (fun h => hgn h.symm)
    · exact (((Upd.of_below HBel.out).trans (Upd.set1 _ _ _ _)).trans (Upd.set1 _ _ _ _)).setNew (by omega) _
theorem innerNat_on0 (ib g c n : Nat) (cur : Array Value) (w : World) (hn1 : 1 ≤ n) (hn : n ≤ 100000) (h : BlkAt w ib #[.slice (some ⟨g, 0, none⟩) 0 c] 258) (hg : BlkAt w g cur 139) (hcs : cur.size = c) (hcm : c ≤ maxLen) :
    Calls Tryz.prog 279 #[.pointer (some ⟨ib, 0, none⟩), .int .i64 n] w (HandOn ib g 0 n cur w) := by
  have hbt := bits_round4 n (by omega)
  have hm1 := nr4_ge n
  have hm2 := nr4_le n
  have HB := Lib.hid h
  have HGB := Lib.hid hg
  have hlt := h.lt
  have hglt := hg.lt
  have h0 := h.cell 0
  simp only [List.getElem?_toArray, List.getElem?_cons_zero] at h0
  have f0 := h.frozen 0
  have hne : g ≠ ib := fun e => by
    subst e
    have h1 := h
    unfold BlkAt at h1 hg
    rw [h1] at hg
    injection hg with hg
    injection hg with _ h2 _
    exact absurd h2 (by decide)
  have hsum : IntKind.i64.wrap ((n : Int) + 3) = (n : Int) + 3 := by rw [IntKind.wrap_i64]; omega
  by_cases hr : nr4 n ≤ c
  · have HR := Lib.hid (fun w' => growW_room (some ⟨g, 0, none⟩) 0 c (nr4 n) w' (Nat.zero_le _) hcm (by omega))
    unfold HandOn
    have hmx := hcm
    unfold maxLen at hmx
    have HCS := Lib.hid hcs
    clear h hg hcs
    generalize nr4 n = m at *
    obtain ⟨v, hv⟩ : ∃ v, cur[0]? = some v := ⟨cur[0]'(by have := HCS.out; omega), by rw [Array.getElem?_eq_getElem]⟩
    have g0 : ∀ x y, ((w.setCell ⟨ib, 0, none⟩ x).setCell ⟨ib, 0, none⟩ y).cell? ⟨g, 0, none⟩ = some v := fun x y => by
      rw [cell?_setCell_ne hne, cell?_setCell_ne hne, HGB.out.cell, hv]
    have gf0 := HGB.out.frozen 0
    go_enter Tryz.func279, Tryz.ntmps279
    go_wp2_with fail
    refine (HR.out _).mono ?_
    rintro e w1 ⟨rfl, rfl⟩
    go_wp2
    go_ret
    have HK2 := Upd.blk ((Upd.set1 w1 ib 0 (.slice (some ⟨g, 0, none⟩) 0 c)).trans (Upd.set1 _ ib 0 (.slice (some ⟨g, 0, none⟩) m c))) HGB.out hne
    have HI2 := (HB.out.set 0 (.slice (some ⟨g, 0, none⟩) 0 c)).set 0 (.slice (some ⟨g, 0, none⟩) m c)
    refine ⟨c, g, _, rfl, HK2.set 0 _, by simp [HCS.out], by omega, hcm, ?_, .inl ⟨rfl, by simp, fun i hi => by omega, ?_⟩⟩
    · rw [Nat.zero_add]
      exact Upd.blk (Upd.set1 _ g 0 _) (by simpa using HI2) (fun h => hne h.symm)
    · exact (((Upd.refl _ _).setCell (p := ⟨ib, 0, none⟩) (.inl rfl) _).setCell (p := ⟨ib, 0, none⟩) (.inl rfl) _).setCell (p := ⟨g, 0, none⟩) (.inr rfl) _
  · have HR := Lib.hid (fun w' hg' => growW_onto g 0 c (nr4 n) cur w' hg' hcs (Nat.zero_le _) (by omega) (by omega))
    have HG' := HGB
    unfold HandOn
    have HCS := Lib.hid hcs
    have hrr : c < 0 + nr4 n := by omega
    clear h hg hcs hr
    generalize nr4 n = m at *
    go_enter Tryz.func279, Tryz.ntmps279
    go_wp2_with fail
    refine (HR.out _ HG'.out).mono ?_
    rintro e w1 ⟨c', cur', hc1, hc2, hcs', rfl, hw1⟩
    obtain ⟨g', hg'⟩ : ∃ g', g' = w.heap.size := ⟨_, rfl⟩
    have hgn : g' ≠ ib := by omega
    rw [← hg']
    have HBel := Lib.hid (show Below w.heap.size w w1 from by rw [hw1]; exact Below.alloc' (Below.refl _ _).drew _)
    have HK := Lib.hid (show BlkAt w1 g' cur' 139 from by rw [hw1, hg']; exact BlkAt.new _ _ _)
    have HI := Lib.hid (HB.out.keep HBel.out)
    have k0 := cell_keep h0 HBel.out
    have fi0 := HI.out.frozen 0
    obtain ⟨v, hv⟩ : ∃ v, cur'[0]? = some v := ⟨cur'[0]'(by omega), by rw [Array.getElem?_eq_getElem]⟩
    have g0 : ∀ x y, ((w1.setCell ⟨ib, 0, none⟩ x).setCell ⟨ib, 0, none⟩ y).cell? ⟨g', 0, none⟩ = some v := fun x y => by
      rw [cell?_setCell_ne hgn, cell?_setCell_ne hgn, HK.out.cell, hv]
    have gf0 := HK.out.frozen 0
    have hc2' := hc2
    unfold maxLen at hc2
    have HGE := Lib.hid hg'
    have hge : w.heap.size ≤ g' := by omega
    clear hw1 h0 f0 HR hg'
    go_wp2
    go_ret
    have HK2 := Upd.blk ((Upd.set1 w1 ib 0 (.slice (some ⟨g', 0, none⟩) 0 c')).trans (Upd.set1 _ ib 0 (.slice (some ⟨g', 0, none⟩) m c'))) HK.out hgn
    have HI2 := (HI.out.set 0 (.slice (some ⟨g', 0, none⟩) 0 c')).set 0 (.slice (some ⟨g', 0, none⟩) m c')
    refine ⟨c', g', _, rfl, HK2.set 0 _, by simp [hcs'], hc1, hc2', ?_, .inr ⟨HGE.out, ?_⟩⟩
    · rw [Nat.zero_add]
      exact Upd.blk (Upd.set1 _ g' 0 _) (by simpa using HI2) (fun h => hgn h.symm)
    · exact (((Upd.of_below HBel.out).trans (Upd.set1 _ _ _ _)).trans (Upd.set1 _ _ _ _)).setNew (by omega) _
theorem innerNat_all (ib g l c n : Nat) (cur : Array Value) (w : World) (hn1 : 1 ≤ n) (hn : n ≤ 100000) (hl : l ≤ 100000) (h : BlkAt w ib #[.slice (some ⟨g, 0, none⟩) l c] 258) (hg : BlkAt w g cur 139) (hcs : cur.size = c) (hlc : l ≤ c) (hcm : c ≤ maxLen) :
    Calls Tryz.prog 279 #[.pointer (some ⟨ib, 0, none⟩), .int .i64 n] w (HandOn ib g l n cur w) := by
  rcases Nat.eq_zero_or_pos l with rfl | h0
  · exact innerNat_on0 ib g c n cur w hn1 hn h hg hcs hcm
  · exact innerNat_on ib g l c n cur w hn1 hn hl h hg hcs hlc hcm h0
def StkAt (w : World) (sb : Nat) (st : Option (Nat × Nat)) (l : Nat) : Prop :=
  match st with
  | none => l = 0 ∧ BlkAt w sb #[.pointer none] 225
  | some (ib, g) => ∃ c cur, BlkAt w sb #[.pointer (some ⟨ib, 0, none⟩)] 225 ∧ BlkAt w ib #[.slice (some ⟨g, 0, none⟩) l c] 258 ∧ BlkAt w g cur 139 ∧ cur.size = c ∧ l ≤ c ∧ c ≤ maxLen
def StkBlk (sb : Nat) (st : Option (Nat × Nat)) (k : Nat) : Prop := k = sb ∨ ∃ ib g, st = some (ib, g) ∧ (k = ib ∨ k = g)
theorem words_ne {w : World} {a b : Nat} {cur cur' : Array Value} {T : TypeId} (h : BlkAt w a cur 139) (h' : BlkAt w b cur' T) (hT : T ≠ 139) : a ≠ b := fun e => by
  subst e
  unfold BlkAt at h h'
  rw [h] at h'
  injection h' with h'
  injection h' with _ h2 _
  exact hT h2.symm
theorem StkAt.keep {w w' : World} {sb : Nat} {st : Option (Nat × Nat)} {l : Nat} (h : StkAt w sb st l) (hb : Below w.heap.size w w') : StkAt w' sb st l := by
  rcases st with _ | ⟨ib, g⟩
  · exact ⟨h.1, h.2.keep hb⟩
  · obtain ⟨c, cur, h1, h2, h3, h4⟩ := h
    exact ⟨c, cur, h1.keep hb, h2.keep hb, h3.keep hb, h4⟩
theorem StkAt.lt {w : World} {sb : Nat} {st : Option (Nat × Nat)} {l : Nat} (h : StkAt w sb st l) {k : Nat} (hk : StkBlk sb st k) : k < w.heap.size := by
  rcases st with _ | ⟨ib, g⟩
  · rcases hk with rfl | ⟨_, _, h', _⟩
    · exact h.2.lt
    · cases h'
  · obtain ⟨c, cur, h1, h2, h3, h4⟩ := h
    rcases hk with rfl | ⟨_, _, h', h''⟩
    · exact h1.lt
    · injection h' with h'
      injection h' with e1 e2
      subst e1 e2
      rcases h'' with rfl | rfl
      · exact h2.lt
      · exact h3.lt
theorem StkAt.upd {w w' : World} {sb : Nat} {st : Option (Nat × Nat)} {l : Nat} (h : StkAt w sb st l) {S : Nat → Prop} (hu : Upd S w w') (h1 : ¬ S sb) (h2 : ∀ ib g, st = some (ib, g) → ¬ S ib) (h3 : ∀ ib g cur, st = some (ib, g) → BlkAt w g cur 139 → ∃ cur', BlkAt w' g cur' 139 ∧ cur'.size = cur.size) : StkAt w' sb st l := by
  rcases st with _ | ⟨ib, g⟩
  · exact ⟨h.1, hu.blk h.2 h1⟩
  · obtain ⟨c, cur, e1, e2, e3, e4, e5, e6⟩ := h
    obtain ⟨cur', f1, f2⟩ := h3 ib g cur rfl e3
    exact ⟨c, cur', hu.blk e1 h1, hu.blk e2 (h2 ib g rfl), f1, by omega, e5, e6⟩
def Handed (sb : Nat) (st : Option (Nat × Nat)) (l n : Nat) (w : World) (e : Ending) (w' : World) : Prop :=
  ∃ (st' : Option (Nat × Nat)) (l' g o k : Nat) (cur : Array Value), e = .returned (.slice (some ⟨g, o, none⟩) n k) ∧ n ≤ k ∧ k ≤ maxLen ∧ BlkAt w' g cur 139 ∧ o + n ≤ cur.size ∧ StkAt w' sb st' l' ∧
    ((w.heap.size ≤ g) ∨ ((∃ ib, st = some (ib, g)) ∧ l ≤ o)) ∧ (∀ x, StkBlk sb st' x → StkBlk sb st x ∨ w.heap.size ≤ x) ∧ (∀ ib, st' = some (ib, g) → o + n ≤ l') ∧ (l ≤ l' ∧ l' ≤ l + n + 3) ∧ (st' = none ∨ 0 < l') ∧
    Upd (StkBlk sb st) w w' ∧ (∀ x cx, BlkAt w x cx 139 → ∃ c', BlkAt w' x c' 139 ∧ c'.size = cx.size) ∧ (∀ ib g0, st = some (ib, g0) → ∀ i, i < l → w'.cell? ⟨g0, i, none⟩ = w.cell? ⟨g0, i, none⟩)
theorem stkNat_small (sb n : Nat) (w : World) (hn1 : 1 ≤ n) (hn : n ≤ 4) (h : StkAt w sb none 0) :
    Calls Tryz.prog 241 #[.pointer (some ⟨sb, 0, none⟩), .int .i64 n] w (Handed sb none 0 n w) := by
  have hb := h.2
  have h0 := hb.cell 0
  simp only [List.getElem?_toArray, List.getElem?_cons_zero] at h0
  have HB := Lib.hid hb
  have HG := Lib.hid (fun w' => growN_nil n (by omega) (by omega) w')
  clear h hb
  go_enter Tryz.func241, Tryz.ntmps241
  go_wp2_with fail
  refine (HG.out _).mono ?_
  rintro e w1 ⟨c, cur, hc1, hc2, hcs, rfl, hw1⟩
  obtain ⟨g, hg⟩ : ∃ g, g = w.heap.size := ⟨_, rfl⟩
  rw [← hg]
  have HBel := Lib.hid (show Below w.heap.size w w1 from by rw [hw1]; exact Below.alloc' (Below.refl _ _).drew _)
  have HK := Lib.hid (show BlkAt w1 g cur 139 from by rw [hw1, hg]; exact BlkAt.new _ _ _)
  obtain ⟨v, hv⟩ : ∃ v, cur[0]? = some v := ⟨cur[0]'(by omega), by rw [Array.getElem?_eq_getElem]⟩
  have g0 : w1.cell? ⟨g, 0, none⟩ = some v := by rw [HK.out.cell, hv]
  have gf0 := HK.out.frozen 0
  have hc2' := hc2
  unfold maxLen at hc2
  have HGE := Lib.hid hg
  have hge : w.heap.size ≤ g := by omega
  have hlt : sb < w.heap.size := HB.out.lt
  clear hw1 h0 HG hg
  go_wp2
  go_ret
  refine ⟨none, 0, g, 0, c, _, rfl, hc1, hc2', HK.out.set 0 _, by simp; omega, ⟨rfl, Upd.blk (Upd.set1 _ g 0 _) (HB.out.keep HBel.out) (by omega)⟩, .inl hge, fun x hx => .inl hx, fun ib h => (by cases h), ⟨Nat.le_refl _, by omega⟩, .inl rfl, (Upd.of_below HBel.out).setNew hge _, fun x cx hx => ⟨cx, Upd.blk (Upd.set1 _ g 0 _) (hx.keep HBel.out) (by have := hx.lt; omega), rfl⟩, fun _ _ h => (by cases h)⟩
theorem stkNat_great (sb n : Nat) (w : World) (hn1 : 5 ≤ n) (hn : n ≤ 1000) (h : StkAt w sb none 0) :
    Calls Tryz.prog 241 #[.pointer (some ⟨sb, 0, none⟩), .int .i64 n] w (Handed sb none 0 n w) := by
  have hb := h.2
  have hlt := hb.lt
  have h0 := hb.cell 0
  simp only [List.getElem?_toArray, List.getElem?_cons_zero] at h0
  have f0 := hb.frozen 0
  have HB := Lib.hid hb
  clear h hb
  obtain ⟨W0, hW0⟩ : ∃ W0, W0 = (w.setCell ⟨sb, 0, none⟩ (.pointer (some ⟨w.heap.size, 0, none⟩))).alloc (.cells #[.slice none 0 0] 258) := ⟨_, rfl⟩
  have hsz : (w.setCell ⟨sb, 0, none⟩ (.pointer (some ⟨w.heap.size, 0, none⟩))).heap.size = w.heap.size := by simp
  have HI := Lib.hid (show BlkAt W0 w.heap.size #[.slice none 0 0] 258 from by
    rw [hW0]
    have := BlkAt.new (w.setCell ⟨sb, 0, none⟩ (.pointer (some ⟨w.heap.size, 0, none⟩))) #[.slice none 0 0] 258
    rwa [hsz] at this)
  have HSB := Lib.hid (show BlkAt W0 sb #[.pointer (some ⟨w.heap.size, 0, none⟩)] 225 from by
    rw [hW0]
    have := HB.out.set 0 (.pointer (some ⟨w.heap.size, 0, none⟩))
    refine BlkAt.keep (by simpa using this) (Below.alloc' (Below.refl _ _) _))
  have HU := Lib.hid (show Upd (StkBlk sb none) w W0 from by rw [hW0]; exact ((Upd.refl _ _).setCell (p := ⟨sb, 0, none⟩) (.inl rfl) _).alloc _)
  have hs0 : W0.heap.size = w.heap.size + 1 := by rw [hW0]; simp
  have HW := Lib.hid hW0
  have HN := Lib.hid (innerNat_new w.heap.size n W0 (by omega) (by omega) HI.out)
  clear hsz
  clear hW0
  go_enter Tryz.func241, Tryz.ntmps241
  go_wp2_with fail
  rw [← HW.out]
  refine HN.out.mono ?_
  rintro e w1 ⟨c, g, cur, hg, rfl, hK, hcs, hc1, hc2, hI, hU⟩
  have HGE := Lib.hid hg
  clear hg
  go_wp2
  go_ret
  have hg := HGE.out
  have hm := nr4_ge n
  rw [hs0] at hg
  refine ⟨some (w.heap.size, g), nr4 n, g, 0, n, cur, rfl, Nat.le_refl _, by unfold maxLen; omega, hK, by omega, ⟨c, cur, hU.blk HSB.out (by omega), hI, hK, hcs, hc1, hc2⟩, .inl (by omega), ?_, fun ib _ => by omega, ⟨Nat.zero_le _, by have := nr4_le n; omega⟩, .inr (by omega), ?_, fun x cx hx => ⟨cx, hU.blk (HU.out.blk hx (by rintro (h | ⟨_, _, h, _⟩); exact words_ne hx HB.out (by decide) h; cases h)) (Nat.ne_of_lt hx.lt), rfl⟩, fun _ _ h => (by cases h)⟩
  · rintro x (rfl | ⟨ib, g', h', h''⟩)
    · exact .inl (.inl rfl)
    · injection h' with h'
      injection h' with e1 e2
      subst e1 e2
      rcases h'' with rfl | rfl
      · exact .inr (Nat.le_refl _)
      · exact .inr (by omega)
  · exact ⟨hU.os.trans HU.out.os, hU.tape.trans HU.out.tape, hU.output.trans HU.out.output, Nat.le_trans HU.out.size hU.size, fun k hk hn => by rw [hU.block k (Nat.lt_of_lt_of_le hk HU.out.size) (Nat.ne_of_lt hk)]; exact HU.out.block k hk hn⟩
theorem stkNat_has (sb ib g l n : Nat) (w : World) (hn1 : 1 ≤ n) (hn : n ≤ 1000) (hl : l ≤ 100000) (h : StkAt w sb (some (ib, g)) l) :
    Calls Tryz.prog 241 #[.pointer (some ⟨sb, 0, none⟩), .int .i64 n] w (Handed sb (some (ib, g)) l n w) := by
  obtain ⟨c, cur, e1, e2, e3, e4, e5, e6⟩ := h
  have h0 := e1.cell 0
  simp only [List.getElem?_toArray, List.getElem?_cons_zero] at h0
  have HN := Lib.hid (innerNat_all ib g l c n cur w hn1 (by omega) hl e2 e3 e4 e5 e6)
  have H1 := Lib.hid e1
  have H2 := Lib.hid e2
  have H3 := Lib.hid e3
  clear e1 e2 e3
  go_enter Tryz.func241, Tryz.ntmps241
  go_wp2_with fail
  refine HN.out.mono ?_
  rintro e w1 ⟨c', g', cur', rfl, hK, hcs, hc1, hc2, hI, hor⟩
  have HO := Lib.hid hor
  clear hor
  go_wp2
  go_ret
  have hm := nr4_ge n
  have hib : sb ≠ ib := fun e => by
    subst e
    have a1 := H1.out
    have a2 := H2.out
    unfold BlkAt at a1 a2
    rw [a1] at a2
    injection a2 with a2
    injection a2 with _ h2 _
    exact absurd h2 (by decide)
  have hgs : g ≠ sb := words_ne H3.out H1.out (by decide)
  have hgi : g ≠ ib := words_ne H3.out H2.out (by decide)
  have hg'i : g' ≠ ib := words_ne hK hI (by decide)
  rcases HO.out with ⟨rfl, hsz, hlow, hU⟩ | ⟨rfl, hU⟩
  · refine ⟨some (ib, g'), l + nr4 n, g', l, n, cur', rfl, Nat.le_refl _, by unfold maxLen; omega, hK, by omega, ⟨c', cur', hU.blk H1.out (by rintro (h | h) <;> omega), hI, hK, hcs, hc1, hc2⟩, .inr ⟨⟨ib, rfl⟩, Nat.le_refl _⟩, fun x hx => .inl hx, fun ib' _ => by omega, ⟨Nat.le_add_right _ _, by have := nr4_le n; omega⟩, .inr (by omega), hU.mono (fun k _ hk => .inr ⟨ib, g', rfl, hk⟩), ?_, ?_⟩
    · intro x cx hx
      by_cases e : x = g'
      · subst e
        refine ⟨cur', hK, ?_⟩
        have a1 := H3.out
        unfold BlkAt at a1 hx
        rw [a1] at hx
        injection hx with hx
        injection hx with e5 _ _
        rw [← e5]; exact hsz
      · exact ⟨cx, hU.blk hx (by rintro (h | h); exact words_ne hx H2.out (by decide) h; exact e h), rfl⟩
    intro ib' g0 h i hi
    injection h with h
    injection h with a b
    subst a b
    rw [hK.cell, H3.out.cell]
    exact hlow i hi
  · refine ⟨some (ib, w.heap.size), l + nr4 n, w.heap.size, l, n, cur', rfl, Nat.le_refl _, by unfold maxLen; omega, hK, by omega, ⟨c', cur', hU.blk H1.out hib, hI, hK, hcs, hc1, hc2⟩, .inl (Nat.le_refl _), ?_, fun ib' _ => by omega, ⟨Nat.le_add_right _ _, by have := nr4_le n; omega⟩, .inr (by omega), hU.mono (fun k _ hk => .inr ⟨ib, g, rfl, .inl hk⟩), ?_, ?_⟩
    · rintro x (rfl | ⟨ib', g', h', h''⟩)
      · exact .inl (.inl rfl)
      · injection h' with h'
        injection h' with a b
        subst a b
        rcases h'' with rfl | rfl
        · exact .inl (.inr ⟨_, _, rfl, .inl rfl⟩)
        · exact .inr (Nat.le_refl _)
    · intro x cx hx
      exact ⟨cx, hU.blk hx (words_ne hx H2.out (by decide)), rfl⟩
    · intro ib' g0 h i hi
      injection h with h
      injection h with a b
      subst a b
      exact hU.cell (p := ⟨g, i, none⟩) H3.out.lt hgi
theorem stkNat_any (sb l n : Nat) (st : Option (Nat × Nat)) (w : World) (hn1 : 1 ≤ n) (hn : n ≤ 1000) (hl : l ≤ 100000) (h : StkAt w sb st l) :
    Calls Tryz.prog 241 #[.pointer (some ⟨sb, 0, none⟩), .int .i64 n] w (Handed sb st l n w) := by
  rcases st with _ | ⟨ib, g⟩
  · obtain rfl : l = 0 := h.1
    by_cases h4 : n ≤ 4
    · exact stkNat_small sb n w hn1 h4 h
    · exact stkNat_great sb n w (by omega) hn h
  · exact stkNat_has sb ib g l n w hn1 hn hl h
theorem stkSave_any (sb l : Nat) (st : Option (Nat × Nat)) (w : World) (h : StkAt w sb st l) :
    Calls Tryz.prog 240 #[.pointer (some ⟨sb, 0, none⟩)] w fun e w' => e = .returned (.int .i64 l) ∧ w = w' := by
  rcases st with _ | ⟨ib, g⟩
  · obtain ⟨rfl, hb⟩ := h
    have h0 := hb.cell 0
    exact save_none sb w (by simpa using h0)
  · obtain ⟨c, cur, e1, e2, e3, e4, e5, e6⟩ := h
    have h0 := e1.cell 0
    have h1 := e2.cell 0
    exact save_has sb ib _ l c w (by simpa using h0) (by simpa using h1)
theorem stkRestore_any (sb l m : Nat) (st : Option (Nat × Nat)) (u : FrameMode) (w : World) (h : StkAt w sb st l) (hm : st = none ∨ m ≤ l) :
    CallsD Tryz.prog 239 #[.pointer (some ⟨sb, 0, none⟩), .int .i64 m] u w fun e u' w' => u' = u ∧ (e = .returned (.tuple #[]) ∧ (∃ l', StkAt w' sb st l' ∧ (st = none ∨ l' = m)) ∧ Upd (fun k => ∃ ib g, st = some (ib, g) ∧ k = ib) w w') := by
  rcases st with _ | ⟨ib, g⟩
  · obtain ⟨rfl, hb⟩ := h
    have h0 := hb.cell 0
    refine (restore_none_d sb m u w (by simpa using h0)).mono ?_
    rintro e u' w' ⟨rfl, rfl, rfl⟩
    exact ⟨rfl, rfl, ⟨0, ⟨rfl, hb⟩, .inl rfl⟩, Upd.refl _ _⟩
  · obtain ⟨c, cur, e1, e2, e3, e4, e5, e6⟩ := h
    have hm : m ≤ l := by rcases hm with h | h; cases h; exact h
    have h0 := e1.cell 0
    refine (restore_has_d sb ib m _ l c u w (by simpa using h0) e2 (by omega) (by unfold maxLen at e6; omega)).mono ?_
    rintro e u' w' ⟨rfl, rfl, rfl⟩
    have hU := Upd.set1 w ib 0 (.slice (some ⟨g, 0, none⟩) m c)
    have hib : ¬ sb = ib := fun e => by
      subst e
      unfold BlkAt at e1 e2
      rw [e1] at e2
      injection e2 with e2
      injection e2 with _ h2 _
      exact absurd h2 (by decide)
    have hgi : ¬ g = ib := words_ne e3 e2 (by decide)
    refine ⟨rfl, rfl, ⟨m, ⟨c, cur, hU.blk e1 hib, by simpa using e2.set 0 (.slice (some ⟨g, 0, none⟩) m c), hU.blk e3 hgi, e4, by omega, e6⟩, .inr rfl⟩, hU.mono (fun k _ hk => ⟨ib, g, rfl, hk⟩)⟩
theorem mulAddVWWgx_any (g o n c0 b1 o1 c1 : Nat) (cur : Array Value) (X y r : Nat) (w : World) (hg : BlkAt w g cur 139) (hn : n ≤ 1000000) (hr : o + n ≤ cur.size) (h0 : n ≤ c0) (h0m : c0 ≤ maxLen)
    (h1 : WCells w b1 o1 n (dg W64 X)) (h1c : n ≤ c1) (h1m : c1 ≤ maxLen) (hn1 : b1 ≠ g ∨ o1 + n ≤ o) (hy : y < W64) (hrr : r < W64) :
    Calls Tryz.prog 302 #[.slice (some ⟨g, o, none⟩) n c0, .slice (some ⟨b1, o1, none⟩) n c1, .int .u64 y, .int .u64 r] w
      (VecIs g o n cur (dg W64 (X * y + r)) ((X % W64 ^ n * y + r) / W64 ^ n) w) := by
  unfold maxLen at h0m h1m
  have hy' : y < 18446744073709551616 := W64_lt hy
  have HG := Lib.hid hg
  have H1 := Lib.hid h1
  have HY := Lib.hid hy
  have HRR := Lib.hid hrr
  clear hg h1 hy hrr
  go_enter Tryz.func302, Tryz.ntmps302
  go_wp2
  go_loopw [8, 9, 19] (fun c _ i wr => ∃ k : Nat, k ≤ n ∧ i = .int .i64 k ∧ c = .int .u64 (((X % W64 ^ k * y + r) / W64 ^ k : Nat) : Int) ∧ RowUp 139 w wr g o k cur (dg W64 (X * y + r)))
    (fun _ _ i _ => n - (intOf i).toNat)
  case atStart => exact ⟨0, Nat.zero_le _, rfl, by simp [Nat.mod_one], RowUp.start HG.out _ _⟩
  case round =>
    obtain ⟨k, hk, rfl, rfl, hR⟩ := hrel
    by_cases k1 : k < n
    · have e1 := hR.readOut HG.out (H1.out k k1) (by rcases hn1 with h | h; exact .inl h; exact .inr (.inl (by omega)))
      have d1 : dg W64 X k < 18446744073709551616 := W64_lt (dg_lt W64_pos _ _)
      have hS := amul_step W64_pos 0 X y r k
      have hcl := amul_carry W64_pos 0 X k HY.out HRR.out
      have hz : dg W64 0 k = 0 := by simp [dg]
      rw [hz] at hS
      simp only [Nat.zero_mod, Nat.zero_add] at hS hcl
      have HS := Lib.hid hS
      have hcl' : (X % W64 ^ k * y + r) / W64 ^ k < 18446744073709551616 := hcl
      have HR := Lib.hid hR
      have hlt := hR.room (j := o + k) (by omega)
      obtain ⟨⟨u0, p0⟩, f0⟩ := hlt
      clear hR hS hcl hz
      generalize (X % W64 ^ k * y + r) / W64 ^ k = c at *
      generalize dg W64 X k = x at *
      have HE := Lib.hid (show (x * y + c) % 18446744073709551616 = dg W64 (X * y + r) k from HS.out.1.symm)
      have HF := Lib.hid (show (x * y + c) / 18446744073709551616 = (X % W64 ^ (k + 1) * y + r) / W64 ^ (k + 1) from HS.out.2.symm)
      have HM := Lib.hid (fun w => mulAddWWW_any x y c d1 hy' hcl' w)
      have hs1 : (x * y + c) % 18446744073709551616 < 18446744073709551616 := Nat.mod_lt _ (by decide)
      generalize (x * y + c) % 18446744073709551616 = s at *
      generalize (x * y + c) / 18446744073709551616 = d at *
      go_wp2_with fail
      refine (HM.out _).mono ?_
      rintro e w1 ⟨rfl, rfl⟩
      go_wp2
      go_roundw
      case rel => exact ⟨k + 1, by omega, by go_num, by rw [HF.out], HR.out.step (by omega) HE.out⟩
      case measure => simp [intOf]; omega
    · obtain rfl : k = n := by omega
      go_wp2
      go_ret
      exact ⟨rfl, hR⟩
theorem mulAddVWWx_any (g o n c0 b1 o1 c1 : Nat) (cur : Array Value) (X y r : Nat) (w : World) (hg : BlkAt w g cur 139) (hn : n ≤ 1000000) (hr : o + n ≤ cur.size) (h0 : n ≤ c0) (h0m : c0 ≤ maxLen)
    (h1 : WCells w b1 o1 n (dg W64 X)) (h1c : n ≤ c1) (h1m : c1 ≤ maxLen) (hn1 : b1 ≠ g ∨ o1 + n ≤ o) (hy : y < W64) (hrr : r < W64) :
    Calls Tryz.prog 275 #[.slice (some ⟨g, o, none⟩) n c0, .slice (some ⟨b1, o1, none⟩) n c1, .int .u64 y, .int .u64 r] w
      (VecIs g o n cur (dg W64 (X * y + r)) ((X % W64 ^ n * y + r) / W64 ^ n) w) := by
  have HS := Lib.hid (mulAddVWWgx_any g o n c0 b1 o1 c1 cur X y r w hg hn hr h0 h0m h1 h1c h1m hn1 hy hrr)
  clear hg h1 hy hrr
  go_enter Tryz.func275, Tryz.ntmps275
  go_wp2_with fail
  refine HS.out.mono ?_
  rintro e w1 ⟨rfl, hR⟩
  have HR := Lib.hid hR
  clear hR
  go_wp2
  go_ret
  exact ⟨rfl, HR.out⟩
end Go.Proofs.YtececkbcinmmpaaGreatDoor
