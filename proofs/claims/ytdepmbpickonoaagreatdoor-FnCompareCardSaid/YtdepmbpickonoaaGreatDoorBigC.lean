/-
  Int.SetBits, Int.Neg of itself, of.
-/
import Derived.Test.YtdepmbpickonoaaGreatDoorBigB
import Derived.Lib.Builder
set_option linter.unusedSimpArgs false
set_option linter.unusedVariables false
namespace Go.Proofs.YtdepmbpickonoaaGreatDoor
open Go.RowKit Go.Bg Dg

theorem infoBigInt : ∃ j, Tryz.prog.info? 93 = some j := Option.isSome_iff_exists.1 (by kernel_rfl)

/-- the big integer at (b, o) is what has been asked for -/
def IntIs (b o : Nat) (s : Bool) (N : Nat) (w : World) (e : Ending) (w' : World) : Prop :=
  e = .returned (.pointer (some ⟨b, o, none⟩)) ∧ BigAt 143 w' b o s N ∧ UpdI 143 b o w w'

set_option maxRecDepth 100000 in
set_option maxHeartbeats 1000000 in
theorem setBits_any (b o : Nat) (a : Option Addr) (n c : Nat) (f : Nat → Nat) (w : World) (hb : Strct 143 w b) (h0 : ∃ u, w.cell? ⟨b, o, none⟩ = some u) (h1 : ∃ u, w.cell? ⟨b, o + 1, none⟩ = some u)
    (hn : n ≤ 1000000000) (hnc : n ≤ c) (hcm : c ≤ maxLen) (hnil : a = none → c = 0) (hf : ∀ i, i < n → f i < W64) (hc : Cells w a n (fun i => .int .u64 (f i : Nat))) (hbuf : Buf 143 w a c) :
    Calls Tryz.prog 57 #[.pointer (some ⟨b, o, none⟩), .slice a n c] w (IntIs b o false (val W64 f n) w) := by
  have HN := Lib.hid (bigN_of_words hf hnc hcm hc hbuf)
  have HS := Lib.hid (fun a n c N hN => BigAt.stored (T := 143) (s := false) (a := a) (n := n) (c := c) (N := N) hb h0 h1 hN (by simp))
  have HB := Lib.hid hb
  obtain ⟨u0, h0⟩ := h0
  obtain ⟨u1, h1⟩ := h1
  have f0 := hb.frozen o
  have f1 := hb.frozen (o + 1)
  have h0' : ∀ v, (w.setCell ⟨b, o + 1, none⟩ v).cell? ⟨b, o, none⟩ = some u0 := fun v => by
    rw [World.cell?_setCell_other _ _ _ _ (fun hh => by injection hh with _ hh _; omega)]; exact h0
  clear hb
  go_enter Tryz.func57, Tryz.ntmps57
  go_wp2_with fail
  refine (norm_any a n c f _ hn hnc hcm hnil hc).mono ?_
  rintro e w1 ⟨rfl, rfl⟩
  go_wp2
  go_ret
  exact ⟨rfl, HS.out _ _ _ _ HN.out, (UpdI.set1 _ _ _ _).trans (UpdI.set0 _ _ _ _)⟩

set_option maxRecDepth 100000 in
set_option maxHeartbeats 1000000 in
theorem setSelf_any (b o : Nat) (w : World) : Calls Tryz.prog 105 #[.pointer (some ⟨b, o, none⟩), .pointer (some ⟨b, o, none⟩)] w (fun e w' => e = .returned (.pointer (some ⟨b, o, none⟩)) ∧ w = w') := by
  obtain ⟨j, hj⟩ := infoBigInt
  have hq := Lib.run_neq_ptr_same (P := Tryz.prog) w ⟨b, o, none⟩ Tryz.underlying58 hj
  go_enter Tryz.func105, Tryz.ntmps105
  go_wp2
  go_ret
  exact ⟨rfl, rfl⟩

set_option maxRecDepth 100000 in
set_option maxHeartbeats 1000000 in
theorem negSelf_any (b o : Nat) (s : Bool) (N : Nat) (w : World) (h : BigAt 143 w b o s N) :
    Calls Tryz.prog 59 #[.pointer (some ⟨b, o, none⟩), .pointer (some ⟨b, o, none⟩)] w (IntIs b o (!s && decide (0 < N)) N w) := by
  have HS := Lib.hid (fun t ht => h.signed (t := t) ht)
  have f0 := h.blk.frozen o
  obtain ⟨a, n, c, h0, h1, hN⟩ := h.val
  have HP := Lib.hid (natAt_pos_len hN.num)
  clear hN h
  by_cases hn : 0 < n
  · go_enter Tryz.func59, Tryz.ntmps59
    go_wp2_with fail
    refine (setSelf_any b o _).mono ?_
    rintro e w1 ⟨rfl, rfl⟩
    go_wp2
    go_ret
    have hp : 0 < N := by have := HP.out; simpa [hn] using this.symm
    exact ⟨rfl, by simpa [hp] using HS.out (!s) (fun _ => hp), UpdI.set0 _ _ _ _⟩
  · go_enter Tryz.func59, Tryz.ntmps59
    go_wp2_with fail
    refine (setSelf_any b o _).mono ?_
    rintro e w1 ⟨rfl, rfl⟩
    go_wp2
    go_ret
    have hp : ¬ 0 < N := by have := HP.out; simpa [hn] using this
    exact ⟨rfl, by simpa [hp] using HS.out false (by simp), UpdI.set0 _ _ _ _⟩

set_option maxRecDepth 100000 in
set_option maxHeartbeats 1000000 in
theorem of_any' (s : Bool) (a : Option Addr) (n c : Nat) (f : Nat → Nat) (w : World) (h : WordsAt w a n c f) (hn : n ≤ 1000000) :
    Calls Tryz.prog 27 #[.agg #[.bool s, .slice a n c]] w fun e w' => ∃ b, e = .returned (.pointer (some ⟨b, 0, none⟩)) ∧ w.heap.size ≤ b ∧ BigAt 143 w' b 0 (s && decide (0 < val W64 f n)) (val W64 f n) ∧ Below w.heap.size w w' := by
  obtain ⟨W0, hW0⟩ : ∃ W0, W0 = (w.alloc (.cells #[.bool s, .slice a n c] 24)).alloc (.cells #[.bool false, .slice none 0 0] 93) := ⟨_, rfl⟩
  have hs0 : W0.heap.size = w.heap.size + 1 + 1 := by rw [hW0]; simp
  have HW := Lib.hid hW0
  have hb0 : Below w.heap.size w W0 := by rw [hW0]; exact Below.alloc' (Below.alloc' (Below.refl _ _) _) _
  have hz : BlkAt W0 (w.heap.size + 1) #[.bool false, .slice none 0 0] 93 := by
    rw [hW0]
    have := BlkAt.new (w.alloc (.cells #[.bool s, .slice a n c] 24)) #[.bool false, .slice none 0 0] 93
    simpa using this
  have hx : BlkAt W0 w.heap.size #[.bool s, .slice a n c] 24 := by
    rw [hW0]; exact (BlkAt.new _ _ _).keep ((Below.refl _ _).alloc (Nat.le_refl _) _)
  have hw0 := h.keep hb0
  have HX0 := hx.cell 0
  have HX1 := hx.cell 1
  simp only [List.getElem?_toArray, List.getElem?_cons_zero, List.getElem?_cons_succ] at HX0 HX1
  clear hW0 h
  have HB := Lib.hid hb0
  have HX0' := Lib.hid HX0
  clear HX0
  cases s
  · go_enter Tryz.func27, Tryz.ntmps27
    go_wp2_with fail
    rw [← HW.out]
    refine (wordsOf_any a n c f _ hw0 hn).mono ?_
    rintro e w1 ⟨v, rfl, hown, hb1⟩
    obtain ⟨a1, c1, rfl, hbuf, hnc, hcm, hnil, hcells⟩ := buf_of_own hown
    have hw1 := hcells (wv f) (fun i hi => by simp [hi])
    have hz1 := hz.keep hb1
    have hx0 := hx.keep hb1
    have hs1 : Strct 143 w1 (w.heap.size + 1) := ⟨_, _, hz1, by decide⟩
    go_wp2_with fail
    refine (setBits_any (w.heap.size + 1) 0 a1 n c1 f _ hs1 ⟨_, hz1.cell 0⟩ ⟨_, hz1.cell 1⟩ (by omega) hnc hcm hnil hw0.lt hw1 hbuf).mono ?_
    rintro e w2 ⟨rfl, hI, hU⟩
    have hx2 := (hU.upd.blk hx0 (Nat.ne_of_lt (Nat.lt_succ_self _))).cell 0
    simp only [List.getElem?_toArray, List.getElem?_cons_zero, List.getElem?_cons_succ] at hx2
    go_wp2
    go_ret
    exact ⟨_, rfl, Nat.le_add_right _ 1, by simpa using hI, hU.upd.below (Below.then hb0 (by omega) hb1) (Nat.le_trans HB.out.size hb1.size) (fun k _ e => by subst e; exact Nat.le_add_right _ 1)⟩
  · go_enter Tryz.func27, Tryz.ntmps27
    go_wp2_with fail
    rw [← HW.out]
    refine (wordsOf_any a n c f _ hw0 hn).mono ?_
    rintro e w1 ⟨v, rfl, hown, hb1⟩
    obtain ⟨a1, c1, rfl, hbuf, hnc, hcm, hnil, hcells⟩ := buf_of_own hown
    have hw1 := hcells (wv f) (fun i hi => by simp [hi])
    have hz1 := hz.keep hb1
    have hx0 := hx.keep hb1
    have hs1 : Strct 143 w1 (w.heap.size + 1) := ⟨_, _, hz1, by decide⟩
    go_wp2_with fail
    refine (setBits_any (w.heap.size + 1) 0 a1 n c1 f _ hs1 ⟨_, hz1.cell 0⟩ ⟨_, hz1.cell 1⟩ (by omega) hnc hcm hnil hw0.lt hw1 hbuf).mono ?_
    rintro e w2 ⟨rfl, hI, hU⟩
    have hx2 := (hU.upd.blk hx0 (Nat.ne_of_lt (Nat.lt_succ_self _))).cell 0
    simp only [List.getElem?_toArray, List.getElem?_cons_zero, List.getElem?_cons_succ] at hx2
    go_wp2_with fail
    refine (negSelf_any (w.heap.size + 1) 0 false _ _ hI).mono ?_
    rintro e w3 ⟨rfl, hI3, hU3⟩
    go_wp2
    go_ret
    exact ⟨_, rfl, Nat.le_add_right _ 1, by simpa using hI3, (hU.trans hU3).upd.below (Below.then hb0 (by omega) hb1) (Nat.le_trans HB.out.size hb1.size) (fun k _ e => by subst e; exact Nat.le_add_right _ 1)⟩
end Go.Proofs.YtdepmbpickonoaaGreatDoor
