/-
  Contracts and lemmas: UnkA OpsA OpsB OpsU SpH TolT.
-/
import Derived.Test.YtgmienggfaahlaaGreatDoorK18
import Derived.WalkMore
set_option linter.unusedSimpArgs false
set_option linter.unusedVariables false
set_option maxRecDepth 100000
set_option maxHeartbeats 8000000
namespace Go.Proofs.YtgmienggfaahlaaGreatDoor
open Go.RowKit Go.Bg Dg
def IsU (x : Vl) : Prop := x.kind = 0
theorem methodKindUnk (x : Value) (w : World) : (method 410 85 x "Kind").run Tryz.prog w = .ok (320, x) w := by kernel_rfl
theorem kindUnk_any (w : World) : Calls Tryz.prog 320 #[.agg #[]] w fun e w' => e = .returned (.int .i64 0) ∧ Below w.heap.size w w' := by
  have HB := Lib.hid (fun o => (Below.refl w.heap.size w).alloc (Nat.le_refl _) o)
  go_enter Tryz.func320, Tryz.ntmps320
  go_wp2
  go_ret
  first
    | exact ⟨rfl, HB.out _⟩
    | exact ⟨rfl, Below.refl _ _⟩
theorem toldUnk_any (w : World) : Calls Tryz.prog 36 #[.iface 85 (.agg #[])] w (GivesV IsU w) := by
  have hm := methodKindUnk
  have hb0 : Below w.heap.size w (w.alloc (.cells #[.int .i64 0, .bool false, .string ⟨#[]⟩, .bool false, .slice none 0 0, .slice none 0 0, .bool false, .slice none 0 0, .slice none 0 0] 26)) := Below.alloc' (Below.refl _ _) _
  have hR0 := BlkAt.new w #[.int .i64 0, .bool false, .string ⟨#[]⟩, .bool false, .slice none 0 0, .slice none 0 0, .bool false, .slice none 0 0, .slice none 0 0] 26
  go_enter Tryz.func36, Tryz.ntmps36
  go_wp2_with fail
  refine (kindUnk_any _).mono ?_
  rintro e w1 ⟨rfl, hB1⟩
  have hR1 := (hR0.keep hB1).keep ((Below.refl _ _).alloc (Nat.le_refl _) (.cells #[.int .i64 0, .bool false, .string ⟨#[]⟩, .bool false, .slice none 0 0, .slice none 0 0, .bool false, .slice none 0 0, .slice none 0 0] 26))
  have hO1 := BlkAt.new w1 #[.int .i64 0, .bool false, .string ⟨#[]⟩, .bool false, .slice none 0 0, .slice none 0 0, .bool false, .slice none 0 0, .slice none 0 0] 26
  have hb1 := Below.alloc' (Below.then hb0 (Nat.le_refl _) hB1) (.cells #[.int .i64 0, .bool false, .string ⟨#[]⟩, .bool false, .slice none 0 0, .slice none 0 0, .bool false, .slice none 0 0, .slice none 0 0] 26)
  have hlt1 := (hR0.keep hB1).lt
  clear hR0 hb0 hB1
  go_wp2_with fail
  refine (kindUnk_any _).mono ?_
  rintro e w2 ⟨rfl, hB2⟩
  have hR2 := hR1.keep hB2
  have hO2 := hO1.keep hB2
  have HB2 := Lib.hid (Below.then hb1 (Nat.le_refl _) hB2)
  have hne : w.heap.size ≠ w1.heap.size := Nat.ne_of_lt hlt1
  clear hR1 hO1 hb1 hB2
  have oc0 := (hO2).cell 0; have oc1 := (hO2).cell 1; have oc2 := (hO2).cell 2; have oc3 := (hO2).cell 3; have oc4 := (hO2).cell 4; have oc5 := (hO2).cell 5; have oc6 := (hO2).cell 6; have oc7 := (hO2).cell 7; have oc8 := (hO2).cell 8; simp only [List.getElem?_toArray, List.getElem?_cons_zero, List.getElem?_cons_succ] at oc0 oc1 oc2 oc3 oc4 oc5 oc6 oc7 oc8
  have of0 := (hO2).frozen 0; have of1 := (hO2).frozen 1; have of2 := (hO2).frozen 2; have of3 := (hO2).frozen 3; have of4 := (hO2).frozen 4; have of5 := (hO2).frozen 5; have of6 := (hO2).frozen 6; have of7 := (hO2).frozen 7; have of8 := (hO2).frozen 8
  have rc0 := (hR2).cell 0; have rc1 := (hR2).cell 1; have rc2 := (hR2).cell 2; have rc3 := (hR2).cell 3; have rc4 := (hR2).cell 4; have rc5 := (hR2).cell 5; have rc6 := (hR2).cell 6; have rc7 := (hR2).cell 7; have rc8 := (hR2).cell 8; simp only [List.getElem?_toArray, List.getElem?_cons_zero, List.getElem?_cons_succ] at rc0 rc1 rc2 rc3 rc4 rc5 rc6 rc7 rc8
  have rf0 := (hR2).frozen 0; have rf1 := (hR2).frozen 1; have rf2 := (hR2).frozen 2; have rf3 := (hR2).frozen 3; have rf4 := (hR2).frozen 4; have rf5 := (hR2).frozen 5; have rf6 := (hR2).frozen 6; have rf7 := (hR2).frozen 7; have rf8 := (hR2).frozen 8
  clear hm hO2 hR2
  go_wp2
  refine bodyPost_ret (v := .agg #[.int .i64 0, .bool false, .string ⟨#[]⟩, .bool false, .slice none 0 0, .slice none 0 0, .bool false, .slice none 0 0, .slice none 0 0]) (by simp [results, Tryz.results36, go_sem, rc0, rc1, rc2, rc3, rc4, rc5, rc6, rc7, rc8]) rfl ⟨⟨0, false, ⟨#[]⟩, false, none, 0, 0, fun _ => 0, none, 0, 0, fun _ => 0, false, none, 0, 0, fun _ => 0, none, 0, 0, fun _ => 0⟩, rfl, ⟨nilWords _, nilWords _, nilWords _, nilWords _, Nat.zero_le _, by simp⟩, rfl, ?_⟩
  iterate 9 refine Below.setCell ?_ (by exact Nat.le_refl _) _
  exact HB2.out
def CCpx (w : World) (v : Value) (r q : Rt) : Prop := ∃ v1 v2, v = .iface 111 (.agg #[v1, v2]) ∧ CNum w v1 r ∧ CNum w v2 q
theorem CCpx.keep {w w' : World} {v : Value} {r q : Rt} (h : CCpx w v r q) (hb : Below w.heap.size w w') : CCpx w' v r q := by
  obtain ⟨v1, v2, e, h1, h2⟩ := h; exact ⟨v1, v2, e, h1.keep hb, h2.keep hb⟩
theorem CNum.form {w : World} {v : Value} {r : Rt} (h : CNum w v r) : (∃ z, v = .iface 87 (.int .i64 z)) ∨ (∃ p, v = .iface 98 (.agg #[p])) ∨ (∃ p, v = .iface 102 (.agg #[p])) := by
  rcases h with ⟨z, ⟨rfl, _⟩ | ⟨b, o, s, N, rfl, _, _⟩, _⟩ | ⟨b, s, N, D, rfl, _, _⟩
  · exact .inl ⟨_, rfl⟩
  · exact .inr (.inl ⟨_, rfl⟩)
  · exact .inr (.inr ⟨_, rfl⟩)
theorem CNum.iface {w : World} {v : Value} {r : Rt} (h : CNum w v r) : ∃ t x, v = .iface t x := by
  rcases h.form with ⟨z, rfl⟩ | ⟨p, rfl⟩ | ⟨p, rfl⟩ <;> exact ⟨_, _, rfl⟩
def NForm (v : Value) : Prop := (∃ z, v = .iface 87 (.int .i64 z)) ∨ (∃ p, v = .iface 98 (.agg #[p])) ∨ (∃ p, v = .iface 102 (.agg #[p]))
theorem cnum_zero (w : World) : CNum w (.iface 87 (.int .i64 0)) (rz 0) := .inl ⟨0, .inl ⟨rfl, by decide⟩, rfl⟩
theorem makeComplex_any (v1 v2 : Value) (w : World) (h1 : NForm v1) (h2 : NForm v2) :
    Calls Tryz.prog 90 #[v1, v2] w fun e w' => e = .returned (.iface 111 (.agg #[v1, v2])) ∧ Below w.heap.size w w' := by
  rcases h1 with ⟨z, rfl⟩ | ⟨p, rfl⟩ | ⟨p, rfl⟩
  · have m1 := methodKind64
    rcases h2 with ⟨y, rfl⟩ | ⟨q, rfl⟩ | ⟨q, rfl⟩
    · go_enter Tryz.func90, Tryz.ntmps90
      go_wp2_with fail
      refine (kind64_any _ _).mono ?_
      rintro e w1 ⟨rfl, hB1⟩
      go_wp2_with fail
      refine (kind64_any _ _).mono ?_
      rintro e w2 ⟨rfl, hB2⟩
      have hb := Below.then hB1 (Nat.le_refl _) hB2
      go_wp2
      go_ret
      exact ⟨rfl, hb⟩
    · have m2 := methodKindInt
      go_enter Tryz.func90, Tryz.ntmps90
      go_wp2_with fail
      refine (kind64_any _ _).mono ?_
      rintro e w1 ⟨rfl, hB1⟩
      go_wp2_with fail
      refine (kindInt_any _ _).mono ?_
      rintro e w2 ⟨rfl, hB2⟩
      have hb := Below.then hB1 (Nat.le_refl _) hB2
      go_wp2
      go_ret
      exact ⟨rfl, hb⟩
    · have m2 := methodKindRat
      go_enter Tryz.func90, Tryz.ntmps90
      go_wp2_with fail
      refine (kind64_any _ _).mono ?_
      rintro e w1 ⟨rfl, hB1⟩
      go_wp2_with fail
      refine (kindRat_any _ _).mono ?_
      rintro e w2 ⟨rfl, hB2⟩
      have hb := Below.then hB1 (Nat.le_refl _) hB2
      go_wp2
      go_ret
      exact ⟨rfl, hb⟩
  · have m1 := methodKindInt
    rcases h2 with ⟨y, rfl⟩ | ⟨q, rfl⟩ | ⟨q, rfl⟩
    · have m2 := methodKind64
      go_enter Tryz.func90, Tryz.ntmps90
      go_wp2_with fail
      refine (kindInt_any _ _).mono ?_
      rintro e w1 ⟨rfl, hB1⟩
      go_wp2_with fail
      refine (kind64_any _ _).mono ?_
      rintro e w2 ⟨rfl, hB2⟩
      have hb := Below.then hB1 (Nat.le_refl _) hB2
      go_wp2
      go_ret
      exact ⟨rfl, hb⟩
    · go_enter Tryz.func90, Tryz.ntmps90
      go_wp2_with fail
      refine (kindInt_any _ _).mono ?_
      rintro e w1 ⟨rfl, hB1⟩
      go_wp2_with fail
      refine (kindInt_any _ _).mono ?_
      rintro e w2 ⟨rfl, hB2⟩
      have hb := Below.then hB1 (Nat.le_refl _) hB2
      go_wp2
      go_ret
      exact ⟨rfl, hb⟩
    · have m2 := methodKindRat
      go_enter Tryz.func90, Tryz.ntmps90
      go_wp2_with fail
      refine (kindInt_any _ _).mono ?_
      rintro e w1 ⟨rfl, hB1⟩
      go_wp2_with fail
      refine (kindRat_any _ _).mono ?_
      rintro e w2 ⟨rfl, hB2⟩
      have hb := Below.then hB1 (Nat.le_refl _) hB2
      go_wp2
      go_ret
      exact ⟨rfl, hb⟩
  · have m1 := methodKindRat
    rcases h2 with ⟨y, rfl⟩ | ⟨q, rfl⟩ | ⟨q, rfl⟩
    · have m2 := methodKind64
      go_enter Tryz.func90, Tryz.ntmps90
      go_wp2_with fail
      refine (kindRat_any _ _).mono ?_
      rintro e w1 ⟨rfl, hB1⟩
      go_wp2_with fail
      refine (kind64_any _ _).mono ?_
      rintro e w2 ⟨rfl, hB2⟩
      have hb := Below.then hB1 (Nat.le_refl _) hB2
      go_wp2
      go_ret
      exact ⟨rfl, hb⟩
    · have m2 := methodKindInt
      go_enter Tryz.func90, Tryz.ntmps90
      go_wp2_with fail
      refine (kindRat_any _ _).mono ?_
      rintro e w1 ⟨rfl, hB1⟩
      go_wp2_with fail
      refine (kindInt_any _ _).mono ?_
      rintro e w2 ⟨rfl, hB2⟩
      have hb := Below.then hB1 (Nat.le_refl _) hB2
      go_wp2
      go_ret
      exact ⟨rfl, hb⟩
    · go_enter Tryz.func90, Tryz.ntmps90
      go_wp2_with fail
      refine (kindRat_any _ _).mono ?_
      rintro e w1 ⟨rfl, hB1⟩
      go_wp2_with fail
      refine (kindRat_any _ _).mono ?_
      rintro e w2 ⟨rfl, hB2⟩
      have hb := Below.then hB1 (Nat.le_refl _) hB2
      go_wp2
      go_ret
      exact ⟨rfl, hb⟩
theorem CNum.nform {w : World} {v : Value} {r : Rt} (h : CNum w v r) : NForm v := h.form
theorem realCpx_any (t1 t2 : TypeId) (x1 x2 : Value) (w : World) :
    Calls Tryz.prog 55 #[.iface 111 (.agg #[.iface t1 x1, .iface t2 x2])] w fun e w' => e = .returned (.iface t1 x1) ∧ Below w.heap.size w w' := by
  obtain ⟨h1, h2, h3, h4, h5, h6, h7, h8, h9⟩ := ta_complexVal
  have hb := Lib.hid (fun o => Below.alloc' (Below.refl w.heap.size w) o)
  go_enter Tryz.func55, Tryz.ntmps55
  go_wp2
  go_ret
  exact ⟨rfl, hb.out _⟩
theorem imagCpx_any (t1 t2 : TypeId) (x1 x2 : Value) (w : World) :
    Calls Tryz.prog 56 #[.iface 111 (.agg #[.iface t1 x1, .iface t2 x2])] w fun e w' => e = .returned (.iface t2 x2) ∧ Below w.heap.size w w' := by
  obtain ⟨h1, h2, h3, h4, h5, h6, h7, h8, h9⟩ := ta_complexVal
  have hb := Lib.hid (fun o => Below.alloc' (Below.refl w.heap.size w) o)
  go_enter Tryz.func56, Tryz.ntmps56
  go_wp2
  go_ret
  exact ⟨rfl, hb.out _⟩
theorem vtoc_any (t : TypeId) (x : Value) (w : World) :
    Calls Tryz.prog 116 #[.iface t x] w fun e w' => e = .returned (.agg #[.iface t x, .iface 87 (.int .i64 0)]) ∧ Below w.heap.size w w' := by
  have hb := Lib.hid (fun o => Below.alloc' (Below.refl w.heap.size w) o)
  go_enter Tryz.func116, Tryz.ntmps116
  go_wp2
  exact bodyPost_ret (v := .agg #[.iface t x, .iface 87 (.int .i64 0)]) (by simp [results, Tryz.results116, go_sem]) rfl ⟨rfl, hb.out _⟩
theorem toComplex_any (v : Value) (r : Rt) (w : World) (h : CNum w v r) :
    Calls Tryz.prog 44 #[v] w fun e w' => ∃ u, e = .returned u ∧ CCpx w' u r (rz 0) ∧ Below w.heap.size w w' := by
  have HH := Lib.hid h
  have hf := h.nform
  clear h
  rcases hf with ⟨z, rfl⟩ | ⟨p, rfl⟩ | ⟨p, rfl⟩
  · obtain ⟨t1, t2, t3, t4, t5, t6, t7, t8, t9⟩ := ta_int64Val
    go_enter Tryz.func44, Tryz.ntmps44
    go_wp2_with fail
    refine (vtoc_any _ _ _).mono ?_
    rintro e w1 ⟨rfl, hB⟩
    go_wp2
    go_ret
    exact ⟨_, rfl, ⟨_, _, rfl, HH.out.keep hB, cnum_zero _⟩, hB⟩
  · obtain ⟨t1, t2, t3, t4, t5, t6, t7, t8, t9⟩ := ta_intVal
    go_enter Tryz.func44, Tryz.ntmps44
    go_wp2_with fail
    refine (vtoc_any _ _ _).mono ?_
    rintro e w1 ⟨rfl, hB⟩
    go_wp2
    go_ret
    exact ⟨_, rfl, ⟨_, _, rfl, HH.out.keep hB, cnum_zero _⟩, hB⟩
  · obtain ⟨t1, t2, t3, t4, t5, t6, t7, t8, t9⟩ := ta_ratVal
    go_enter Tryz.func44, Tryz.ntmps44
    go_wp2_with fail
    refine (vtoc_any _ _ _).mono ?_
    rintro e w1 ⟨rfl, hB⟩
    go_wp2
    go_ret
    exact ⟨_, rfl, ⟨_, _, rfl, HH.out.keep hB, cnum_zero _⟩, hB⟩
theorem val_top {f : Nat → Nat} {n : Nat} (h : f n ≠ 0) : W64 ^ n ≤ val W64 f (n + 1) := by
  show W64 ^ n ≤ val W64 f n + W64 ^ n * f n
  have : W64 ^ n * 1 ≤ W64 ^ n * f n := Nat.mul_le_mul_left _ (by omega)
  omega
theorem hasW_len {f : Nat → Nat} {n N L : Nat} (h : hasW f n N = true) (hN : N < W64 ^ L) : n ≤ L := by
  unfold hasW at h
  simp only [decide_eq_true_eq] at h
  obtain ⟨rfl, h0 | h0⟩ := h
  · omega
  · by_cases hn : n = 0
    · omega
    · obtain ⟨m, rfl⟩ : ∃ m, n = m + 1 := ⟨n - 1, by omega⟩
      have h1 := val_top (f := f) (n := m) (by simpa using h0)
      have := (Nat.pow_lt_pow_iff_right W64_gt).1 (Nat.lt_of_le_of_lt h1 hN)
      omega
theorem intB_len {x : Vl} {L : Nat} (h : intB x = true) (hN : val W64 x.wf x.wn < W64 ^ L) : x.wn ≤ L := by
  unfold intB isNumB at h
  simp only [Bool.and_eq_true] at h
  exact hasW_len h.1.1.2.2 hN
theorem toldZ_any (v : Value) (z : Int) (w : World) (h : CInt w v z) (L : Nat) (hL : L ≤ 100000) (hz : z.natAbs < W64 ^ L) :
    Calls Tryz.prog 36 #[v] w (GivesV (IsZ z L) w) := by
  refine (toldInt_any v z w h L hL hz).mono ?_
  rintro e w1 ⟨x, rfl, h1, h2, h3, h4, h5⟩
  exact ⟨x, rfl, h1, ⟨h2, h3, h4, intB_len h2 (by rw [h4]; exact hz)⟩, h5⟩
theorem givesV_end {w w3 : World} {g : Nat} {T : TypeId} {P : Vl → Prop} {y : Vl} (hR : BlkAt w3 g #[.int .i64 0, .bool false, .string ⟨#[]⟩, .bool false, .slice none 0 0, .slice none 0 0, .bool false, .slice none 0 0, .slice none 0 0] T) (hg : w.heap.size ≤ g) (hb : Below w.heap.size w w3) (hy : VlAt w3 y) (hP : P y) :
    GivesV P w (.returned (.agg #[.int .i64 y.kind, .bool y.truth, .string y.text, .bool y.neg, .slice y.wa y.wn y.wc, .slice y.da y.dn y.dc, .bool y.ineg, .slice y.ia y.inn y.ic, .slice y.ea y.en y.ec])) (((((((((w3.setCell ⟨g, 0, none⟩ (.int .i64 y.kind)).setCell ⟨g, 1, none⟩ (.bool y.truth)).setCell ⟨g, 2, none⟩ (.string y.text)).setCell ⟨g, 3, none⟩ (.bool y.neg)).setCell ⟨g, 4, none⟩ (.slice y.wa y.wn y.wc)).setCell ⟨g, 5, none⟩ (.slice y.da y.dn y.dc)).setCell ⟨g, 6, none⟩ (.bool y.ineg)).setCell ⟨g, 7, none⟩ (.slice y.ia y.inn y.ic)).setCell ⟨g, 8, none⟩ (.slice y.ea y.en y.ec)) := by
  have hU : Upd (· = g) w3 (((((((((w3.setCell ⟨g, 0, none⟩ (.int .i64 y.kind)).setCell ⟨g, 1, none⟩ (.bool y.truth)).setCell ⟨g, 2, none⟩ (.string y.text)).setCell ⟨g, 3, none⟩ (.bool y.neg)).setCell ⟨g, 4, none⟩ (.slice y.wa y.wn y.wc)).setCell ⟨g, 5, none⟩ (.slice y.da y.dn y.dc)).setCell ⟨g, 6, none⟩ (.bool y.ineg)).setCell ⟨g, 7, none⟩ (.slice y.ia y.inn y.ic)).setCell ⟨g, 8, none⟩ (.slice y.ea y.en y.ec)) := by
    iterate 9 refine Upd.setCell ?_ (by exact rfl) _
    exact Upd.refl _ _
  have hS : ∀ k, k = g → NoU w3 k := fun k e => by subst e; exact noU_of_blk hR (noU_vals _)
  exact ⟨y, rfl, ⟨hy.ws.updU hU hS, hy.ds.updU hU hS, hy.is.updU hU hS, hy.es.updU hU hS, hy.text, hy.kind⟩, hP, hU.below hb (Nat.le_trans hb.size (Nat.le_refl _)) (fun k _ e => by subst e; exact hg)⟩
def virt (v : Vl) : Rt := frt v.ineg v.jf v.inn v.ef v.en
def pairB (v : Vl) : Bool := decide (v.kind = 5) && !v.truth && v.text.toList.isEmpty && fracB v.neg v.wf v.wn v.df v.dn && fracB v.ineg v.jf v.inn v.ef v.en
theorem pair_any (v : Vl) (L : Nat) (w : World) (h : VlAt w v) (hn : 4 * v.wn ≤ L) (hd : 4 * v.dn ≤ L) (hi : 4 * v.inn ≤ L) (he : 4 * v.en ≤ L) (hL : L ≤ 4000) :
    Calls Tryz.prog 27 #[.agg #[.int .i64 v.kind, .bool v.truth, .string v.text, .bool v.neg, .slice v.wa v.wn v.wc, .slice v.da v.dn v.dc, .bool v.ineg, .slice v.ia v.inn v.ic, .slice v.ea v.en v.ec]] w (Reads2 (pairB v) (vrt v) (virt v) L w) := by
  obtain ⟨W0, hW0⟩ : ∃ W0, W0 = ((w.alloc (.cells #[.int .i64 v.kind, .bool v.truth, .string v.text, .bool v.neg, .slice v.wa v.wn v.wc, .slice v.da v.dn v.dc, .bool v.ineg, .slice v.ia v.inn v.ic, .slice v.ea v.en v.ec] 26)).alloc (.cells #[.bool false, .slice none 0 0, .slice none 0 0] 31)).alloc (.cells #[.bool false, .slice none 0 0, .slice none 0 0] 31) := ⟨_, rfl⟩
  have HW := Lib.hid hW0
  have hb0 : Below w.heap.size w W0 := by rw [hW0]; exact Below.alloc' (Below.alloc' (Below.alloc' (Below.refl _ _) _) _) _
  have R1 : ResBlk W0 (w.heap.size + 1) := by rw [hW0]; exact (ResBlk.new _ _ (by simp)).alloc1 _
  have R2 : ResBlk W0 (w.heap.size + 1 + 1) := by rw [hW0]; exact ResBlk.new _ _ (by simp)
  have X : Box9 W0 w.heap.size v := by rw [hW0]; exact ((Box9.new w v _ rfl).alloc _).alloc _
  have HX := Lib.hid (h.keep hb0)
  clear hW0 h
  go_enter Tryz.func27, Tryz.ntmps27
  go_upto_region 1 with fail
  rw [← HW.out]
  by_cases hp : v.kind = 5 ∧ v.truth = false ∧ v.text.toList = []
  case neg =>
    have HI := Lib.hid (show pairB v = false from by
      unfold pairB
      by_cases h1 : v.kind = 5
      · cases h2 : v.truth
        · by_cases h3 : v.text.toList = []
          · exact absurd ⟨h1, h2, h3⟩ hp
          · simp [h3]
        · simp
      · simp [h1])
    have HB := Lib.hid hb0
    obtain ⟨xc0, xc1, xc2, xc3, xc4, xc5, xc6, xc7, xc8⟩ := (X).all
    obtain ⟨⟨u0, r0⟩, ⟨u1, r1⟩, ⟨u2, r2⟩⟩ := R1.cells
    have f0 := R1.frozen 0
    have f1 := R1.frozen 1
    have f2 := R1.frozen 2
    obtain ⟨⟨z0, q0⟩, ⟨z1, q1⟩, ⟨z2, q2⟩⟩ := R2.cells
    have g0 := R2.frozen 0
    have g1 := R2.frozen 1
    have g2 := R2.frozen 2
    have hlt := R1.lt
    clear hb0
    by_cases hk : v.kind = 5
    · have hkb : (v.kind != 5) = false := by rw [hk]; rfl
      cases ht : v.truth
      · have hx : ¬ v.text.toList = [] := fun h3 => hp ⟨hk, ht, h3⟩
        have hx2 : (!v.text.toList.isEmpty) = true := by simpa using hx
        have hx3 : v.text.toList.isEmpty = false := by simpa using hx
        clear hp
        go_wp2
        exact bodyPost_ret (v := .tuple #[.agg #[.bool false, .slice none 0 0, .slice none 0 0], .agg #[.bool false, .slice none 0 0, .slice none 0 0], .bool false]) (by simp [results, Tryz.results27, go_sem, r0, r1, r2, q0, q1, q2]) rfl
          ⟨_, _, _, _, _, _, _, _, _, _, _, _, _, _, by rw [HI.out], fun h => (by rw [HI.out] at h; cases h), (((((HB.out.setCell (Nat.le_add_right _ 1) _).setCell (Nat.le_add_right _ 1) _).setCell (Nat.le_add_right _ 1) _).setCell (Nat.le_add_right _ 2) _).setCell (Nat.le_add_right _ 2) _).setCell (Nat.le_add_right _ 2) _⟩
      · clear hp
        go_wp2
        exact bodyPost_ret (v := .tuple #[.agg #[.bool false, .slice none 0 0, .slice none 0 0], .agg #[.bool false, .slice none 0 0, .slice none 0 0], .bool false]) (by simp [results, Tryz.results27, go_sem, r0, r1, r2, q0, q1, q2]) rfl
          ⟨_, _, _, _, _, _, _, _, _, _, _, _, _, _, by rw [HI.out], fun h => (by rw [HI.out] at h; cases h), (((((HB.out.setCell (Nat.le_add_right _ 1) _).setCell (Nat.le_add_right _ 1) _).setCell (Nat.le_add_right _ 1) _).setCell (Nat.le_add_right _ 2) _).setCell (Nat.le_add_right _ 2) _).setCell (Nat.le_add_right _ 2) _⟩
    · have hkb : (v.kind != 5) = true := by simp; exact hk
      clear hp hk
      go_wp2
      exact bodyPost_ret (v := .tuple #[.agg #[.bool false, .slice none 0 0, .slice none 0 0], .agg #[.bool false, .slice none 0 0, .slice none 0 0], .bool false]) (by simp [results, Tryz.results27, go_sem, r0, r1, r2, q0, q1, q2]) rfl
        ⟨_, _, _, _, _, _, _, _, _, _, _, _, _, _, by rw [HI.out], fun h => (by rw [HI.out] at h; cases h), (((((HB.out.setCell (Nat.le_add_right _ 1) _).setCell (Nat.le_add_right _ 1) _).setCell (Nat.le_add_right _ 1) _).setCell (Nat.le_add_right _ 2) _).setCell (Nat.le_add_right _ 2) _).setCell (Nat.le_add_right _ 2) _⟩
  case pos =>
    obtain ⟨hk, ht, hx⟩ := hp
    have HI := Lib.hid (show pairB v = (fracB v.neg v.wf v.wn v.df v.dn && fracB v.ineg v.jf v.inn v.ef v.en) from by unfold pairB; simp [hk, ht, hx])
    have hkb : (v.kind != 5) = false := by rw [hk]; rfl
    have hx2 : (!v.text.toList.isEmpty) = false := by simp [hx]
    have hx3 : v.text.toList.isEmpty = true := by simp [hx]
    obtain ⟨xc0, xc1, xc2, xc3, xc4, xc5, xc6, xc7, xc8⟩ := (X).all
    go_upto_region 3 with fail
    go_wp2_with fail
    refine (fraction_any v.neg v.wa v.wn v.wc v.wf v.da v.dn v.dc v.df L _ HX.out.ws HX.out.ds hn hd hL).mono ?_
    rintro e w1 ⟨sA, aA, nA, cA, aB, nB, cB, rfl, hA, hB1⟩
    clear hkb hx2 hx3 hk ht hx
    clear xc0 xc1 xc2 xc3 xc4 xc5 xc6 xc7 xc8
    obtain ⟨W1, hW1⟩ : ∃ W1, W1 = w1.alloc (.cells #[.bool sA, .slice aA nA cA, .slice aB nB cB] 31) := ⟨_, rfl⟩
    have hb1 : Below W0.heap.size W0 W1 := by rw [hW1]; exact Below.alloc' hB1 _
    have A1 : RtBlk W1 w1.heap.size sA aA nA cA aB nB cB := by rw [hW1]; exact RtBlk.new _ _ rfl _ _ _ _ _ _ _
    have A2 := Lib.hid (show fracB v.neg v.wf v.wn v.df v.dn = true → RtAt W1 sA aA nA cA aB nB cB (vrt v) L from by
      intro hb; rw [hW1]
      exact (hA hb).keep ((Below.refl _ _).alloc (Nat.le_refl _) _))
    have HW1 := Lib.hid hW1
    have R1' := R1.below R1.lt hb1
    have R2' := R2.below R2.lt hb1
    have Y1 := X.keep hb1
    have HY1 := Lib.hid (HX.out.keep hb1)
    clear hW1 hA
    go_upto_region 4 with fail
    rw [← HW1.out]
    obtain ⟨yc0, yc1, yc2, yc3, yc4, yc5, yc6, yc7, yc8⟩ := (Y1).all
    go_wp2_with fail
    refine (fraction_any v.ineg v.ia v.inn v.ic v.jf v.ea v.en v.ec v.ef L _ HY1.out.is HY1.out.es hi he hL).mono ?_
    rintro e w2 ⟨sC, aC, nC, cC, aD, nD, cD, rfl, hC, hB2⟩
    clear yc0 yc1 yc2 yc3 yc4 yc5 yc6 yc7 yc8
    obtain ⟨W2, hW2⟩ : ∃ W2, W2 = w2.alloc (.cells #[.bool sC, .slice aC nC cC, .slice aD nD cD] 31) := ⟨_, rfl⟩
    have hb2 : Below W1.heap.size W1 W2 := by rw [hW2]; exact Below.alloc' hB2 _
    have A3 := A1.keep hb2
    have C1 : RtBlk W2 w2.heap.size sC aC nC cC aD nD cD := by rw [hW2]; exact RtBlk.new _ _ rfl _ _ _ _ _ _ _
    have A4 := Lib.hid (show fracB v.neg v.wf v.wn v.df v.dn = true → RtAt W2 sA aA nA cA aB nB cB (vrt v) L from fun hb => (A2.out hb).keep hb2)
    have C2 := Lib.hid (show fracB v.ineg v.jf v.inn v.ef v.en = true → RtAt W2 sC aC nC cC aD nD cD (virt v) L from by
      intro hb; rw [hW2]
      exact (hC hb).keep ((Below.refl _ _).alloc (Nat.le_refl _) _))
    have HW2 := Lib.hid hW2
    have Q1 := R1'.below R1'.lt hb2
    have Q2 := R2'.below R2'.lt hb2
    have hbf := Below.then (Below.then hb0 (Nat.le_refl _) hb1) (Nat.le_refl _) hb2
    have hlt1 := A3.lt
    have hg1 : w.heap.size + 1 + 1 < w1.heap.size := Nat.lt_of_lt_of_le R2.lt hB1.size
    have hg2 : w.heap.size + 1 + 1 < w2.heap.size := Nat.lt_of_lt_of_le R2'.lt hB2.size
    clear hW2 hC hB1 hB2 R1 R2 R1' R2' hb0 hb1 hb2 HX HY1 A2 A1 X Y1
    go_upto_region 5 with fail
    rw [← HW2.out]
    obtain ⟨a0, a1, a2⟩ := A3
    obtain ⟨d0, d1, d2⟩ := C1
    obtain ⟨⟨u0, r0⟩, ⟨u1, r1⟩, ⟨u2, r2⟩⟩ := Q1.cells
    have f0 := Q1.frozen 0
    have f1 := Q1.frozen 1
    have f2 := Q1.frozen 2
    obtain ⟨⟨z0, q0⟩, ⟨z1, q1⟩, ⟨z2, q2⟩⟩ := Q2.cells
    have g0 := Q2.frozen 0
    have g1 := Q2.frozen 1
    have g2 := Q2.frozen 2
    generalize hv : fracB v.neg v.wf v.wn v.df v.dn = bv at *
    generalize hu : fracB v.ineg v.jf v.inn v.ef v.en = bu at *
    cases bv
    · go_region
      all_goals go_wp2
      refine bodyPost_ret (v := .tuple #[.agg #[.bool sA, .slice aA nA cA, .slice aB nB cB], .agg #[.bool sC, .slice aC nC cC, .slice aD nD cD], .bool false]) (by simp [results, Tryz.results27, go_sem, r0, r1, r2, q0, q1, q2]) rfl ⟨_, _, _, _, _, _, _, _, _, _, _, _, _, _, by rw [HI.out]; rfl, ?_, ?_⟩
      · rw [HI.out]; simp
      · exact below33 hbf (by omega) (by omega) _ _ _ _ _ _
    · go_region
      all_goals go_wp2
      refine bodyPost_ret (v := .tuple #[.agg #[.bool sA, .slice aA nA cA, .slice aB nB cB], .agg #[.bool sC, .slice aC nC cC, .slice aD nD cD], .bool bu]) (by simp [results, Tryz.results27, go_sem, r0, r1, r2, q0, q1, q2]) rfl ⟨_, _, _, _, _, _, _, _, _, _, _, _, _, _, by rw [HI.out]; rfl, ?_, ?_⟩
      · intro hb
        rw [HI.out] at hb
        exact ⟨RtAt.drew (stored33 Q1.noInt Q2.noInt (A4.out (by simp))), RtAt.drew (stored33 Q1.noInt Q2.noInt (C2.out (by simpa using hb)))⟩
      · exact below33 hbf (by omega) (by omega) _ _ _ _ _ _
theorem isPair_any (x : Vl) (t : Bool) (a2 : Option Addr) (n2 c2 : Nat) (a2' : Option Addr) (n2' c2' : Nat) (q : Rt) (t3 : Bool) (a3 : Option Addr) (n3 c3 : Nat) (a3' : Option Addr) (n3' c3' : Nat) (q3 : Rt) (L : Nat) (w : World)
    (h1 : VlAt w x) (h2 : RtAt w t a2 n2 c2 a2' n2' c2' q L) (h3 : RtAt w t3 a3 n3 c3 a3' n3' c3' q3 L) (hL : L ≤ 100000) (hn : x.wn ≤ 1000) (hd : x.dn ≤ 1000) (hi : x.inn ≤ 1000) (he : x.en ≤ 1000) :
    Calls Tryz.prog 14 #[.agg #[.int .i64 x.kind, .bool x.truth, .string x.text, .bool x.neg, .slice x.wa x.wn x.wc, .slice x.da x.dn x.dc, .bool x.ineg, .slice x.ia x.inn x.ic, .slice x.ea x.en x.ec], .agg #[.bool t, .slice a2 n2 c2, .slice a2' n2' c2'], .agg #[.bool t3, .slice a3 n3 c3, .slice a3' n3' c3']] w fun e w' => e = .returned (.bool (pairB x && sameB (vrt x) q && sameB (virt x) q3)) ∧ Below w.heap.size w w' := by
  obtain ⟨W0, hW0⟩ : ∃ W0, W0 = ((w.alloc (.cells #[.int .i64 x.kind, .bool x.truth, .string x.text, .bool x.neg, .slice x.wa x.wn x.wc, .slice x.da x.dn x.dc, .bool x.ineg, .slice x.ia x.inn x.ic, .slice x.ea x.en x.ec] 26)).alloc (.cells #[.bool t, .slice a2 n2 c2, .slice a2' n2' c2'] 31)).alloc (.cells #[.bool t3, .slice a3 n3 c3, .slice a3' n3' c3'] 31) := ⟨_, rfl⟩
  have HW := Lib.hid hW0
  have hb0 : Below w.heap.size w W0 := by rw [hW0]; exact Below.alloc' (Below.alloc' (Below.alloc' (Below.refl _ _) _) _) _
  have X : Box9 W0 w.heap.size x := by rw [hW0]; exact ((Box9.new w x _ rfl).alloc _).alloc _
  have C : RtBlk W0 (w.heap.size + 1) t a2 n2 c2 a2' n2' c2' := by rw [hW0]; exact (RtBlk.new _ _ (by simp) _ _ _ _ _ _ _).keep ((Below.refl _ _).alloc (Nat.le_refl _) _)
  have E : RtBlk W0 (w.heap.size + 1 + 1) t3 a3 n3 c3 a3' n3' c3' := by rw [hW0]; exact RtBlk.new _ _ (by simp) _ _ _ _ _ _ _
  have HX := Lib.hid (h1.keep hb0)
  have HC := Lib.hid (h2.keep hb0)
  have HE := Lib.hid (h3.keep hb0)
  clear hW0 h1 h2 h3
  go_enter Tryz.func14, Tryz.ntmps14
  go_upto_region 1 with fail
  rw [← HW.out]
  obtain ⟨xc0, xc1, xc2, xc3, xc4, xc5, xc6, xc7, xc8⟩ := (X).all
  go_wp2_with fail
  refine (pair_any x 4000 _ HX.out (by omega) (by omega) (by omega) (by omega) (by omega)).mono ?_
  rintro e w1 ⟨sV, aV, nV, cV, aE, nE, cE, sU, aU, nU, cU, aF, nF, cF, rfl, hR, hB1⟩
  clear xc0 xc1 xc2 xc3 xc4 xc5 xc6 xc7 xc8
  go_upto_region 2 with fail
  obtain ⟨W1, hW1⟩ : ∃ W1, W1 = (w1.alloc (.cells #[.bool sV, .slice aV nV cV, .slice aE nE cE] 31)).alloc (.cells #[.bool sU, .slice aU nU cU, .slice aF nF cF] 31) := ⟨_, rfl⟩
  rw [← hW1]
  have hb1 : Below W0.heap.size W0 W1 := by rw [hW1]; exact Below.alloc' (Below.alloc' hB1 _) _
  have V1 : RtBlk W1 w1.heap.size sV aV nV cV aE nE cE := by rw [hW1]; exact (RtBlk.new _ _ rfl _ _ _ _ _ _ _).keep ((Below.refl _ _).alloc (Nat.le_refl _) _)
  have U1 : RtBlk W1 (w1.heap.size + 1) sU aU nU cU aF nF cF := by rw [hW1]; exact RtBlk.new _ _ (by simp) _ _ _ _ _ _ _
  have R1 := Lib.hid (show pairB x = true → RtAt W1 sV aV nV cV aE nE cE (vrt x) 4000 ∧ RtAt W1 sU aU nU cU aF nF cF (virt x) 4000 from fun hb => by
    rw [hW1]
    have hk : Below w1.heap.size w1 ((w1.alloc (.cells #[.bool sV, .slice aV nV cV, .slice aE nE cE] 31)).alloc (.cells #[.bool sU, .slice aU nU cU, .slice aF nF cF] 31)) := Below.alloc' (Below.alloc' (Below.refl _ _) _) _
    exact ⟨(hR hb).1.keep hk, (hR hb).2.keep hk⟩)
  have C1 := C.keep hb1
  have E1 := E.keep hb1
  have HC1 := Lib.hid (HC.out.keep hb1)
  have HE1 := Lib.hid (HE.out.keep hb1)
  have hbf := Below.then hb0 (Nat.le_refl _) hb1
  clear hW1 hR hB1 C HC E HE X HX hb1
  obtain ⟨v0, v1, v2⟩ := V1
  obtain ⟨y0, y1, y2⟩ := C1
  cases hb : pairB x
  · go_wp2
    go_ret
    exact ⟨ret_bool (by rw [hb]; rfl), hbf⟩
  · obtain ⟨HR, HU⟩ := R1.out hb
    have HBB := Lib.hid hb
    have HR := Lib.hid HR
    have HU := Lib.hid HU
    clear hb R1
    cases hs : sameB (vrt x) q
    · have HS := Lib.hid hs
      clear hs
      go_wp2_with fail
      refine (same_any sV t aV nV cV aE nE cE a2 n2 c2 a2' n2' c2' (vrt x) q (L + 4000) _ (HR.out.mono (by omega)) (HC1.out.mono (by omega)) (by omega)).mono ?_
      rintro e w2 ⟨rfl, hB2⟩
      rw [HS.out]
      have hbg := Below.then hbf (Nat.le_refl _) hB2
      go_wp2
      go_ret
      exact ⟨ret_bool (by rw [HBB.out, HS.out]; rfl), hbg⟩
    · have HS := Lib.hid hs
      clear hs
      go_wp2_with fail
      refine (same_any sV t aV nV cV aE nE cE a2 n2 c2 a2' n2' c2' (vrt x) q (L + 4000) _ (HR.out.mono (by omega)) (HC1.out.mono (by omega)) (by omega)).mono ?_
      rintro e w2 ⟨rfl, hB2⟩
      rw [HS.out]
      have hbg := Below.then hbf (Nat.le_refl _) hB2
      have U2 := U1.keep hB2
      have E2 := E1.keep hB2
      have HU2 := Lib.hid (HU.out.keep hB2)
      have HE2 := Lib.hid (HE1.out.keep hB2)
      clear v0 v1 v2 y0 y1 y2 hB2 U1 E1
      obtain ⟨v0, v1, v2⟩ := U2
      obtain ⟨y0, y1, y2⟩ := E2
      go_wp2_with fail
      refine (same_any sU t3 aU nU cU aF nF cF a3 n3 c3 a3' n3' c3' (virt x) q3 (L + 4000) _ (HU2.out.mono (by omega)) (HE2.out.mono (by omega)) (by omega)).mono ?_
      rintro e w3 ⟨rfl, hB3⟩
      have hbh := Below.then hbg (Nat.le_refl _) hB3
      go_wp2
      go_ret
      exact ⟨ret_bool (by rw [HBB.out, HS.out]; rfl), hbh⟩
def IsC (r q : Rt) (L : Nat) (x : Vl) : Prop := pairB x = true ∧ vrt x = r ∧ virt x = q ∧ x.wn ≤ L ∧ x.dn ≤ L ∧ x.inn ≤ L ∧ x.en ≤ L
theorem toldCpx_end {w w3 w4 : World} {r q : Rt} {L : Nat} {S : Nat → Prop} {a : Option Addr} {n c : Nat} {a' : Option Addr} {n' c' : Nat} {i : Option Addr} {m d : Nat} {i' : Option Addr} {m' d' : Nat} (hN : r.num < W64 ^ L) (hD : r.den < W64 ^ L) (hN2 : q.num < W64 ^ L) (hD2 : q.den < W64 ^ L) (hr : ROk r) (hq : ROk q)
    (hP : PlainAt w3 a n c r.num) (hQ : PlainAt w3 a' n' c' r.den) (hI : PlainAt w3 i m d q.num) (hJ : PlainAt w3 i' m' d' q.den) (hu : Upd S w3 w4) (hS : ∀ k, S k → NoU w3 k) (hb : Below w.heap.size w w4) :
    GivesV (IsC r q L) w (.returned (.agg #[.int .i64 5, .bool false, .string ⟨#[]⟩, .bool r.neg, .slice a n c, .slice a' n' c', .bool q.neg, .slice i m d, .slice i' m' d'])) w4 := by
  have hf := told_fracB hr hP hQ
  have hg := told_fracB hq hI hJ
  refine ⟨⟨5, false, ⟨#[]⟩, r.neg, a, n, c, dg W64 r.num, a', n', c', dg W64 r.den, q.neg, i, m, d, dg W64 q.num, i', m', d', dg W64 q.den⟩, rfl, ⟨hP.ws.updU hu hS, hQ.ws.updU hu hS, hI.ws.updU hu hS, hJ.ws.updU hu hS, Nat.zero_le _, by simp⟩, ⟨?_, hf.2, hg.2, plain_le hP hN, plain_le hQ hD, plain_le hI hN2, plain_le hJ hD2⟩, hb⟩
  unfold pairB
  rw [hf.1, hg.1]
  simp
theorem toldCpx_any (v : Value) (r q : Rt) (w : World) (h : CCpx w v r q) (hr : ROk r) (hq : ROk q) (L : Nat) (hL1 : 1 ≤ L) (hL : L ≤ 100000) (hN : r.num < W64 ^ L) (hD : r.den < W64 ^ L) (hN2 : q.num < W64 ^ L) (hD2 : q.den < W64 ^ L) :
    Calls Tryz.prog 36 #[v] w (GivesV (IsC r q L) w) := by
  have HN := Lib.hid hN
  have HD := Lib.hid hD
  have HN2 := Lib.hid hN2
  have HD2 := Lib.hid hD2
  have HR := Lib.hid hr
  have HQR := Lib.hid hq
  clear hN hD hN2 hD2 hr hq
  obtain ⟨v1, v2, rfl, hv1, hv2⟩ := h
  obtain ⟨t1, x1, rfl⟩ := hv1.iface
  obtain ⟨t2, x2, rfl⟩ := hv2.iface
  have H1 := Lib.hid hv1
  have H2 := Lib.hid hv2
  clear hv1 hv2
  have hm := methodKindCpx
  have hb0 : Below w.heap.size w (w.alloc (.cells #[.int .i64 0, .bool false, .string ⟨#[]⟩, .bool false, .slice none 0 0, .slice none 0 0, .bool false, .slice none 0 0, .slice none 0 0] 26)) := Below.alloc' (Below.refl _ _) _
  have hR0 := BlkAt.new w #[.int .i64 0, .bool false, .string ⟨#[]⟩, .bool false, .slice none 0 0, .slice none 0 0, .bool false, .slice none 0 0, .slice none 0 0] 26
  go_enter Tryz.func36, Tryz.ntmps36
  go_wp2_with fail
  refine (kindCpx_any _ _ _).mono ?_
  rintro e w1 ⟨rfl, hB1⟩
  have hR1 := (hR0.keep hB1).keep ((Below.refl _ _).alloc (Nat.le_refl _) (.cells #[.int .i64 5, .bool false, .string ⟨#[]⟩, .bool false, .slice none 0 0, .slice none 0 0, .bool false, .slice none 0 0, .slice none 0 0] 26))
  have hO1 := BlkAt.new w1 #[.int .i64 5, .bool false, .string ⟨#[]⟩, .bool false, .slice none 0 0, .slice none 0 0, .bool false, .slice none 0 0, .slice none 0 0] 26
  have hb1 := Below.alloc' (Below.then hb0 (Nat.le_refl _) hB1) (.cells #[.int .i64 5, .bool false, .string ⟨#[]⟩, .bool false, .slice none 0 0, .slice none 0 0, .bool false, .slice none 0 0, .slice none 0 0] 26)
  have hlt1 := (hR0.keep hB1).lt
  clear hR0 hb0 hB1
  go_wp2_with fail
  refine (kindCpx_any _ _ _).mono ?_
  rintro e w2 ⟨rfl, hB2⟩
  have hR2 := hR1.keep hB2
  have hO2 := hO1.keep hB2
  have hb2 := Below.then hb1 (Nat.le_refl _) hB2
  clear hR1 hO1 hb1 hB2
  go_wp2_with fail
  refine (realCpx_any t1 t2 x1 x2 _).mono ?_
  rintro e w3 ⟨rfl, hB3⟩
  have hR3 := hR2.keep hB3
  have hO3 := hO2.keep hB3
  have hb3 := Below.then hb2 (Nat.le_refl _) hB3
  clear hR2 hO2 hb2 hB3
  go_wp2_with fail
  refine (partsNum_any (.iface t1 x1) r _ (H1.out.keep hb3) L hL1 hL HN.out HD.out).mono ?_
  rintro e w4 ⟨a, n, c, a', n', c', rfl, hP, hQ, hB4⟩
  have hR4 := hR3.keep hB4
  have hO4 := hO3.keep hB4
  have hb4 := Below.then hb3 (Nat.le_refl _) hB4
  clear hR3 hO3 hb3 hB4
  have hO5 := ((hO4.set 3 (.bool r.neg)).set 4 (.slice a n c)).set 5 (.slice a' n' c')
  have hne : w.heap.size ≠ w1.heap.size := Nat.ne_of_lt hlt1
  have hU5 : Upd (· = w1.heap.size) w4 (((w4.setCell ⟨w1.heap.size, 3, none⟩ (.bool r.neg)).setCell ⟨w1.heap.size, 4, none⟩ (.slice a n c)).setCell ⟨w1.heap.size, 5, none⟩ (.slice a' n' c')) := by
    iterate 3 refine Upd.setCell ?_ (by exact rfl) _
    exact Upd.refl _ _
  have hR5 := hU5.blk hR4 hne
  have hNO4 := noU_of_blk hO4 (noU_vals _)
  have hS5 : ∀ k, k = w1.heap.size → NoU w4 k := fun k e => by subst e; exact hNO4
  have HP5 := Lib.hid (hP.updU hU5 hS5)
  have HQ5 := Lib.hid (hQ.updU hU5 hS5)
  have hb5 := hU5.below hb4 hb4.size (fun k _ e => by subst e; exact Nat.le_of_lt hlt1)
  have oc0 := (hO4).cell 0; have oc1 := (hO4).cell 1; have oc2 := (hO4).cell 2; have oc3 := (hO4).cell 3; have oc4 := (hO4).cell 4; have oc5 := (hO4).cell 5; have oc6 := (hO4).cell 6; have oc7 := (hO4).cell 7; have oc8 := (hO4).cell 8; simp only [List.getElem?_toArray, List.getElem?_cons_zero, List.getElem?_cons_succ] at oc0 oc1 oc2 oc3 oc4 oc5 oc6 oc7 oc8
  have of0 := (hO4).frozen 0; have of1 := (hO4).frozen 1; have of2 := (hO4).frozen 2; have of3 := (hO4).frozen 3; have of4 := (hO4).frozen 4; have of5 := (hO4).frozen 5; have of6 := (hO4).frozen 6; have of7 := (hO4).frozen 7; have of8 := (hO4).frozen 8
  obtain ⟨W5, hW5⟩ : ∃ W5, W5 = (((w4.setCell ⟨w1.heap.size, 3, none⟩ (.bool r.neg)).setCell ⟨w1.heap.size, 4, none⟩ (.slice a n c)).setCell ⟨w1.heap.size, 5, none⟩ (.slice a' n' c')) := ⟨_, rfl⟩
  rw [← hW5] at hO5 hR5 HP5 HQ5 hb5
  have HW5 := Lib.hid hW5
  clear hW5 hO4 hR4 hb4 hU5 hNO4 hS5 hP hQ
  go_upto_region 13 with fail
  rw [← HW5.out]
  clear oc0 oc1 oc2 oc3 oc4 oc5 oc6 oc7 oc8 of0 of1 of2 of3 of4 of5 of6 of7 of8
  go_wp2_with fail
  refine (imagCpx_any t1 t2 x1 x2 _).mono ?_
  rintro e w6 ⟨rfl, hB6⟩
  have hR6 := hR5.keep hB6
  have hO6 := hO5.keep hB6
  have hb6 := Below.then hb5 (Nat.le_refl _) hB6
  have HP6 := Lib.hid (HP5.out.keep hB6)
  have HQ6 := Lib.hid (HQ5.out.keep hB6)
  clear hR5 hO5 hb5 hB6
  go_wp2_with fail
  refine (partsNum_any (.iface t2 x2) q _ (H2.out.keep hb6) L hL1 hL HN2.out HD2.out).mono ?_
  rintro e w7 ⟨i, m, d, i', m', d', rfl, hI, hJ, hB7⟩
  have hR7 := hR6.keep hB7
  have hO7 := hO6.keep hB7
  have hb7 := Below.then hb6 (Nat.le_refl _) hB7
  have HP7 := Lib.hid (HP6.out.keep hB7)
  have HQ7 := Lib.hid (HQ6.out.keep hB7)
  clear hR6 hO6 hb6 hB7
  simp only [List.setIfInBounds_toArray, List.set_cons_zero, List.set_cons_succ] at hO7
  have oc0 := (hO7).cell 0; have oc1 := (hO7).cell 1; have oc2 := (hO7).cell 2; have oc3 := (hO7).cell 3; have oc4 := (hO7).cell 4; have oc5 := (hO7).cell 5; have oc6 := (hO7).cell 6; have oc7 := (hO7).cell 7; have oc8 := (hO7).cell 8; simp only [List.getElem?_toArray, List.getElem?_cons_zero, List.getElem?_cons_succ] at oc0 oc1 oc2 oc3 oc4 oc5 oc6 oc7 oc8
  have of0 := (hO7).frozen 0; have of1 := (hO7).frozen 1; have of2 := (hO7).frozen 2; have of3 := (hO7).frozen 3; have of4 := (hO7).frozen 4; have of5 := (hO7).frozen 5; have of6 := (hO7).frozen 6; have of7 := (hO7).frozen 7; have of8 := (hO7).frozen 8
  have rc0 := (hR7).cell 0; have rc1 := (hR7).cell 1; have rc2 := (hR7).cell 2; have rc3 := (hR7).cell 3; have rc4 := (hR7).cell 4; have rc5 := (hR7).cell 5; have rc6 := (hR7).cell 6; have rc7 := (hR7).cell 7; have rc8 := (hR7).cell 8; simp only [List.getElem?_toArray, List.getElem?_cons_zero, List.getElem?_cons_succ] at rc0 rc1 rc2 rc3 rc4 rc5 rc6 rc7 rc8
  have rf0 := (hR7).frozen 0; have rf1 := (hR7).frozen 1; have rf2 := (hR7).frozen 2; have rf3 := (hR7).frozen 3; have rf4 := (hR7).frozen 4; have rf5 := (hR7).frozen 5; have rf6 := (hR7).frozen 6; have rf7 := (hR7).frozen 7; have rf8 := (hR7).frozen 8
  have HNO := Lib.hid (noU_of_blk hO7 (noU_vals3 5 r.neg false a a' none none n n' 0 0 c c' 0 0))
  have HNR := Lib.hid (noU_of_blk hR7 (noU_vals _))
  have HI := Lib.hid hI
  have HJ := Lib.hid hJ
  have HB7 := Lib.hid hb7
  clear hm hI hJ hb7 hO7 hR7
  go_wp2
  refine bodyPost_ret (v := .agg #[.int .i64 5, .bool false, .string ⟨#[]⟩, .bool r.neg, .slice a n c, .slice a' n' c', .bool q.neg, .slice i m d, .slice i' m' d']) (by simp [results, Tryz.results36, go_sem, rc0, rc1, rc2, rc3, rc4, rc5, rc6, rc7, rc8]) rfl ?_
  refine toldCpx_end HN.out HD.out HN2.out HD2.out HR.out HQR.out HP7.out HQ7.out HI.out HJ.out (S := fun k => k = w1.heap.size ∨ k = w.heap.size) ?_ ?_ ?_
  · iterate 12 refine Upd.setCell ?_ (by first | exact Or.inl rfl | exact Or.inr rfl) _
    exact Upd.refl _ _
  · rintro k (rfl | rfl)
    · exact HNO.out
    · exact HNR.out
  · iterate 12 refine Below.setCell ?_ (by first | exact Nat.le_refl _ | exact Nat.le_of_lt hlt1) _
    exact HB7.out
theorem rok_rz (z : Int) : ROk (rz z) := ⟨by simp [rz], by simp [rz]; omega, by simp [rz]⟩
structure NumV (x : Vl) (r : Rt) : Prop where
  form : (x.kind = 3 ∧ r = rz (sg x.neg (val W64 x.wf x.wn))) ∨ (x.kind = 4 ∧ 0 < val W64 x.df x.dn ∧ r = mrt x)
  wn : x.wn ≤ 63
  dn : x.dn ≤ 63
  ok : ROk r
theorem NumV.lt {w : World} {x : Vl} {r : Rt} (h : NumV x r) (hx : VlAt w x) : r.num < W64 ^ 63 ∧ r.den < W64 ^ 63 := by
  have h1 : val W64 x.wf x.wn < W64 ^ 63 := Nat.lt_of_lt_of_le (val_lt hx.ws.lt) (Nat.pow_le_pow_right W64_pos h.wn)
  have h2 : val W64 x.df x.dn < W64 ^ 63 := Nat.lt_of_lt_of_le (val_lt hx.ds.lt) (Nat.pow_le_pow_right W64_pos h.dn)
  rcases h.form with ⟨_, rfl⟩ | ⟨_, _, rfl⟩
  · refine ⟨?_, ?_⟩
    · show (sg x.neg (val W64 x.wf x.wn)).natAbs < _
      rw [sg_nat]; exact h1
    · show 1 < _
      exact Nat.lt_of_lt_of_le W64_gt (by rw [show (63 : Nat) = 62 + 1 from rfl, Nat.pow_succ]; exact Nat.le_mul_of_pos_left _ (Nat.pow_pos W64_pos))
  · exact ⟨h1, h2⟩
theorem madeNum_any (x : Vl) (r : Rt) (w : World) (h : VlAt w x) (hm : NumV x r) :
    Calls Tryz.prog 38 #[.agg #[.int .i64 x.kind, .bool x.truth, .string x.text, .bool x.neg, .slice x.wa x.wn x.wc, .slice x.da x.dn x.dc, .bool x.ineg, .slice x.ia x.inn x.ic, .slice x.ea x.en x.ec]] w fun e w' => ∃ u, e = .returned u ∧ CNum w' u r ∧ Below w.heap.size w w' := by
  have hwn := hm.wn
  have hdn := hm.dn
  rcases hm.form with ⟨hk, rfl⟩ | ⟨hk, hd, rfl⟩
  · refine (madeInt_any x w h hk (by omega)).mono ?_
    rintro e w1 ⟨u, rfl, hu, hB⟩
    exact ⟨u, rfl, .inl ⟨_, hu, rfl⟩, hB⟩
  · refine (madeRat_any x w h hk hwn hdn hd).mono ?_
    rintro e w1 ⟨u, rfl, hu, hB⟩
    exact ⟨u, rfl, .inr hu, hB⟩
end Go.Proofs.YtgmienggfaahlaaGreatDoor
