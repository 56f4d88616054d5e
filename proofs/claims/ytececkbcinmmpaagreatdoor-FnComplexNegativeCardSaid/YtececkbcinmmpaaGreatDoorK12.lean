/-
  Contracts and lemmas: TolR OpsA TolS OpsB OpsU.
-/
import Derived.Test.YtececkbcinmmpaaGreatDoorK09
import Derived.Test.YtececkbcinmmpaaGreatDoorK10
import Derived.Test.YtececkbcinmmpaaGreatDoorK11
import Derived.WalkMore
set_option linter.unusedSimpArgs false
set_option linter.unusedVariables false
set_option maxRecDepth 100000
set_option maxHeartbeats 8000000
namespace Go.Proofs.YtececkbcinmmpaaGreatDoor
open Go.RowKit Go.Bg Dg
def CNum (w : World) (v : Value) (r : Rt) : Prop := (∃ z, CInt w v z ∧ r = rz z) ∨ CRat w v r
theorem CNum.keep {w w' : World} {v : Value} {r : Rt} (h : CNum w v r) (hb : Below w.heap.size w w') : CNum w' v r := by
  rcases h with ⟨z, h, e⟩ | h
  · exact .inl ⟨z, h.keep hb, e⟩
  · exact .inr (h.keep hb)
theorem valRat_any (b : Nat) (w : World) :
    Calls Tryz.prog 133 #[.iface 106 (.agg #[.pointer (some ⟨b, 0, none⟩)])] w fun e w' => e = .returned (.iface 99 (.pointer (some ⟨b, 0, none⟩))) ∧ Below w.heap.size w w' := by
  obtain ⟨t1, t2, t3, t4, t5, t6, t7, t8, t9⟩ := ta_ratVal
  have hb := Lib.hid (fun o => Below.alloc' (Below.refl w.heap.size w) o)
  go_enter Tryz.func133, Tryz.ntmps133
  go_wp2
  go_ret
  exact ⟨rfl, hb.out _⟩
theorem partsRat_any (v : Value) (r : Rt) (w : World) (h : CRat w v r) (L : Nat) (hL : L ≤ 100000) (hN : r.num < W64 ^ L) (hD : r.den < W64 ^ L) :
    Calls Tryz.prog 72 #[v] w fun e w' => ∃ a n c a' n' c', e = .returned (.tuple #[.agg #[.bool r.neg, .slice a n c], .slice a' n' c']) ∧ PlainAt w' a n c r.num ∧ PlainAt w' a' n' c' r.den ∧ Below w.heap.size w w' := by
  obtain ⟨W0, hW0⟩ : ∃ W0, W0 = w.alloc (.cells #[.bool false, .slice none 0 0] 24) := ⟨_, rfl⟩
  have HW := Lib.hid hW0
  have hb0 : Below w.heap.size w W0 := by rw [hW0]; exact Below.alloc' (Below.refl _ _) _
  have hr : BlkAt W0 w.heap.size #[.bool false, .slice none 0 0] 24 := by rw [hW0]; exact BlkAt.new _ _ _
  obtain ⟨b, s, N, D, rfl, hR, rfl⟩ := h
  have HR := Lib.hid (hR.keep hb0)
  have HN := Lib.hid (show N < W64 ^ L from hN)
  have HD := Lib.hid (show D < W64 ^ L from hD)
  clear hW0 hR hN hD
  go_enter Tryz.func72, Tryz.ntmps72
  go_upto_region 1 with fail
  rw [← HW.out]
  go_wp2_with fail
  refine (valRat_any b _).mono ?_
  rintro e w1 ⟨rfl, hB1⟩
  have hr1 := hr.keep hB1
  have hb1 := Below.then hb0 (Nat.le_refl _) hB1
  have HR1 := Lib.hid (HR.out.keep hB1)
  clear hr hB1
  obtain ⟨t1, t2, t3, t4, t5, t6⟩ := ta_any_pRat
  go_wp2_with fail
  refine (ratNum_any b _).mono ?_
  rintro e w2 ⟨rfl, rfl⟩
  go_wp2_with fail
  refine (number_any b 0 s N _ HR1.out.a L hL HN.out).mono ?_
  rintro e w2 ⟨a, n, c, rfl, hP, hB2⟩
  have hr2 := hr1.keep hB2
  have hb2 := Below.then hb1 (Nat.le_refl _) hB2
  have HR2 := Lib.hid (HR1.out.keep hB2)
  go_wp2_with fail
  refine (ratDenom_any b false D _ HR2.out.d HR2.out.pos).mono ?_
  rintro e w3 ⟨rfl, rfl⟩
  go_wp2_with fail
  refine (plain_any b 2 false D _ HR2.out.d L hL HD.out).mono ?_
  rintro e w3 ⟨a', n', c', rfl, hQ, hB3⟩
  have hr3 := hr2.keep hB3
  have hb3 := Below.then hb2 (Nat.le_refl _) hB3
  have hP3 := hP.keep hB3
  have c0 := hr3.cell 0
  have c1 := hr3.cell 1
  have f0 := hr3.frozen 0
  have f1 := hr3.frozen 1
  simp only [List.getElem?_toArray, List.getElem?_cons_zero, List.getElem?_cons_succ] at c0 c1
  have ni := noInt_of_blk hr3 noInt_num
  go_wp2
  exact bodyPost_ret (v := .tuple #[.agg #[.bool s, .slice a n c], .slice a' n' c']) (by simp [results, Tryz.results72, go_sem, c0, c1]) rfl
    ⟨_, _, _, _, _, _, rfl, (hP3.setCell _ ni).setCell _ (ni.setCell (by intro k n h; cases h)), (hQ.setCell _ ni).setCell _ (ni.setCell (by intro k n h; cases h)), (hb3.setCell (Nat.le_refl _) _).setCell (Nat.le_refl _) _⟩
theorem partsNum_any (v : Value) (r : Rt) (w : World) (h : CNum w v r) (L : Nat) (hL1 : 1 ≤ L) (hL : L ≤ 100000) (hN : r.num < W64 ^ L) (hD : r.den < W64 ^ L) :
    Calls Tryz.prog 72 #[v] w fun e w' => ∃ a n c a' n' c', e = .returned (.tuple #[.agg #[.bool r.neg, .slice a n c], .slice a' n' c']) ∧ PlainAt w' a n c r.num ∧ PlainAt w' a' n' c' r.den ∧ Below w.heap.size w w' := by
  rcases h with ⟨z, h, rfl⟩ | h
  · exact partsInt_any v z w h L hL hN
  · exact partsRat_any v r w h L hL hN hD
theorem PlainAt.updU {w w' : World} {a : Option Addr} {n c N : Nat} {S : Nat → Prop} (h : PlainAt w a n c N) (hu : Upd S w w') (hS : ∀ k, S k → NoU w k) : PlainAt w' a n c N := ⟨h.ws.updU hu hS, h.lt, h.top⟩
theorem plain_hasW {w : World} {a : Option Addr} {n c N : Nat} (h : PlainAt w a n c N) : hasW (dg W64 N) n N = true := by
  have hv := told_val h
  have ht : n = 0 ∨ dg W64 N (n - 1) ≠ 0 := by
    rcases h.top with h0 | h0
    · exact .inl h0
    · by_cases hn : n = 0
      · exact .inl hn
      · right
        have hlt := h.lt
        rw [show n = n - 1 + 1 from by omega, Nat.pow_succ] at hlt
        have hq : N / W64 ^ (n - 1) < W64 := (Nat.div_lt_iff_lt_mul (Nat.pow_pos W64_pos)).2 (by rw [Nat.mul_comm]; exact hlt)
        have hp : 0 < N / W64 ^ (n - 1) := Nat.div_pos h0 (Nat.pow_pos W64_pos)
        rw [dg, Nat.mod_eq_of_lt hq]
        omega
  unfold hasW
  simp only [hv, true_and]
  simpa using ht
structure ROk (r : Rt) : Prop where
  den : 0 < r.den
  sign : r.neg = true → 0 < r.num
  gcd : Nat.gcd r.num r.den = 1
theorem told_fracB {w : World} {r : Rt} (hr : ROk r) {a : Option Addr} {n c : Nat} {a' : Option Addr} {n' c' : Nat} (h : PlainAt w a n c r.num) (h' : PlainAt w a' n' c' r.den) :
    fracB r.neg (dg W64 r.num) n (dg W64 r.den) n' = true ∧ frt r.neg (dg W64 r.num) n (dg W64 r.den) n' = r := by
  have e1 := told_val h
  have e2 := told_val h'
  have w1 := plain_hasW h
  have w2 := plain_hasW h'
  unfold fracB frt isNumB
  rw [e1, e2, w1, w2]
  have hg := hr.gcd
  refine ⟨?_, rfl⟩
  have h1 := hr.den
  cases hs : r.neg
  · simp [h1, hg]
  · have := hr.sign hs
    simp [h1, this, hg]
theorem methodKindRat (x : Value) (w : World) : (method 409 106 x "Kind").run Tryz.prog w = .ok (346, x) w := by kernel_rfl
theorem methodKindCpx (x : Value) (w : World) : (method 409 115 x "Kind").run Tryz.prog w = .ok (355, x) w := by kernel_rfl
theorem kindRat_any (p : Value) (w : World) : Calls Tryz.prog 346 #[.agg #[p]] w fun e w' => e = .returned (.int .i64 4) ∧ Below w.heap.size w w' := by
  have HB := Lib.hid (fun o => (Below.refl w.heap.size w).alloc (Nat.le_refl _) o)
  go_enter Tryz.func346, Tryz.ntmps346
  go_wp2
  go_ret
  exact ⟨rfl, HB.out _⟩
theorem kindCpx_any (p q : Value) (w : World) : Calls Tryz.prog 355 #[.agg #[p, q]] w fun e w' => e = .returned (.int .i64 5) ∧ Below w.heap.size w w' := by
  have HB := Lib.hid (fun o => (Below.refl w.heap.size w).alloc (Nat.le_refl _) o)
  go_enter Tryz.func355, Tryz.ntmps355
  go_wp2
  go_ret
  exact ⟨rfl, HB.out _⟩
def GivesV (P : Vl → Prop) (w : World) (e : Ending) (w' : World) : Prop := ∃ x : Vl, e = .returned (.agg #[.int .i64 x.kind, .bool x.truth, .string x.text, .bool x.neg, .slice x.wa x.wn x.wc, .slice x.da x.dn x.dc, .bool x.ineg, .slice x.ia x.inn x.ic, .slice x.ea x.en x.ec]) ∧ VlAt w' x ∧ P x ∧ Below w.heap.size w w'
theorem GivesV.mono {P Q : Vl → Prop} {w w' : World} {e : Ending} (h : GivesV P w e w') (hPQ : ∀ x, P x → Q x) : GivesV Q w e w' := by
  obtain ⟨x, h1, h2, h3, h4⟩ := h; exact ⟨x, h1, h2, hPQ x h3, h4⟩
def IsZ (z : Int) (L : Nat) (x : Vl) : Prop := intB x = true ∧ x.neg = decide (z < 0) ∧ val W64 x.wf x.wn = z.natAbs ∧ x.wn ≤ L
def IsQ (r : Rt) (L : Nat) (x : Vl) : Prop := ratB x = true ∧ vrt x = r ∧ x.wn ≤ L ∧ x.dn ≤ L
theorem plain_le {w : World} {a : Option Addr} {n c N L : Nat} (h : PlainAt w a n c N) (hN : N < W64 ^ L) : n ≤ L := len_le W64_gt h.top hN
theorem noU_vals3 (k : Int) (b b' : Bool) (a1 a2 a3 a4 : Option Addr) (n1 n2 n3 n4 c1 c2 c3 c4 : Nat) : ∀ (i : Nat) x, (#[.int .i64 k, .bool false, .string ⟨#[]⟩, .bool b, .slice a1 n1 c1, .slice a2 n2 c2, .bool b', .slice a3 n3 c3, .slice a4 n4 c4] : Array Value)[i]? ≠ some (.int .u64 x) := by
  intro i x h
  match i, h with
  | 0, h => simp at h
  | 1, h => simp at h
  | 2, h => simp at h
  | 3, h => simp at h
  | 4, h => simp at h
  | 5, h => simp at h
  | 6, h => simp at h
  | 7, h => simp at h
  | 8, h => simp at h
  | i + 9, h => simp at h
theorem toldRat_end {w w3 w4 : World} {r : Rt} {L : Nat} {S : Nat → Prop} {a : Option Addr} {n c : Nat} {a' : Option Addr} {n' c' : Nat} (hN : r.num < W64 ^ L) (hD : r.den < W64 ^ L) (hr : ROk r) (hP : PlainAt w3 a n c r.num) (hQ : PlainAt w3 a' n' c' r.den)
    (hu : Upd S w3 w4) (hS : ∀ k, S k → NoU w3 k) (hb : Below w.heap.size w w4) :
    GivesV (IsQ r L) w (.returned (.agg #[.int .i64 4, .bool false, .string ⟨#[]⟩, .bool r.neg, .slice a n c, .slice a' n' c', .bool false, .slice none 0 0, .slice none 0 0])) w4 := by
  have hf := told_fracB hr hP hQ
  refine ⟨⟨4, false, ⟨#[]⟩, r.neg, a, n, c, dg W64 r.num, a', n', c', dg W64 r.den, false, none, 0, 0, fun _ => 0, none, 0, 0, fun _ => 0⟩, rfl, ⟨hP.ws.updU hu hS, hQ.ws.updU hu hS, nilWords _, nilWords _, Nat.zero_le _, by simp⟩, ⟨?_, hf.2, plain_le hP hN, plain_le hQ hD⟩, hb⟩
  unfold ratB Vl.restB
  rw [hf.1]
  simp
theorem toldRat_any (v : Value) (r : Rt) (w : World) (h : CRat w v r) (hr : ROk r) (L : Nat) (hL : L ≤ 100000) (hN : r.num < W64 ^ L) (hD : r.den < W64 ^ L) :
    Calls Tryz.prog 47 #[v] w (GivesV (IsQ r L) w) := by
  have HH := Lib.hid h
  have HN := Lib.hid hN
  have HD := Lib.hid hD
  have HR := Lib.hid hr
  clear hN hD hr
  obtain ⟨b, s, N, D, rfl, -, -⟩ := h
  have hm := methodKindRat
  have hb0 : Below w.heap.size w (w.alloc (.cells #[.int .i64 0, .bool false, .string ⟨#[]⟩, .bool false, .slice none 0 0, .slice none 0 0, .bool false, .slice none 0 0, .slice none 0 0] 26)) := Below.alloc' (Below.refl _ _) _
  have hR0 := BlkAt.new w #[.int .i64 0, .bool false, .string ⟨#[]⟩, .bool false, .slice none 0 0, .slice none 0 0, .bool false, .slice none 0 0, .slice none 0 0] 26
  go_enter Tryz.func47, Tryz.ntmps47
  go_wp2_with fail
  refine (kindRat_any _ _).mono ?_
  rintro e w1 ⟨rfl, hB1⟩
  have hR1 := (hR0.keep hB1).keep ((Below.refl _ _).alloc (Nat.le_refl _) (.cells #[.int .i64 4, .bool false, .string ⟨#[]⟩, .bool false, .slice none 0 0, .slice none 0 0, .bool false, .slice none 0 0, .slice none 0 0] 26))
  have hO1 := BlkAt.new w1 #[.int .i64 4, .bool false, .string ⟨#[]⟩, .bool false, .slice none 0 0, .slice none 0 0, .bool false, .slice none 0 0, .slice none 0 0] 26
  have hb1 := Below.alloc' (Below.then hb0 (Nat.le_refl _) hB1) (.cells #[.int .i64 4, .bool false, .string ⟨#[]⟩, .bool false, .slice none 0 0, .slice none 0 0, .bool false, .slice none 0 0, .slice none 0 0] 26)
  have hlt1 := (hR0.keep hB1).lt
  clear hR0 hb0 hB1
  go_wp2_with fail
  refine (kindRat_any _ _).mono ?_
  rintro e w2 ⟨rfl, hB2⟩
  have hR2 := hR1.keep hB2
  have hO2 := hO1.keep hB2
  have hb2 := Below.then hb1 (Nat.le_refl _) hB2
  clear hR1 hO1 hb1 hB2
  go_wp2_with fail
  refine (partsRat_any _ r _ (HH.out.keep hb2) L hL HN.out HD.out).mono ?_
  rintro e w3 ⟨a, n, c, a', n', c', rfl, hP, hQ, hB3⟩
  have hR3 := hR2.keep hB3
  have hO3 := hO2.keep hB3
  have hb3 := Below.then hb2 (Nat.le_refl _) hB3
  have hne : w.heap.size ≠ w1.heap.size := Nat.ne_of_lt hlt1
  clear hR2 hO2 hb2 hB3
  have oc0 := (hO3).cell 0; have oc1 := (hO3).cell 1; have oc2 := (hO3).cell 2; have oc3 := (hO3).cell 3; have oc4 := (hO3).cell 4; have oc5 := (hO3).cell 5; have oc6 := (hO3).cell 6; have oc7 := (hO3).cell 7; have oc8 := (hO3).cell 8; simp only [List.getElem?_toArray, List.getElem?_cons_zero, List.getElem?_cons_succ] at oc0 oc1 oc2 oc3 oc4 oc5 oc6 oc7 oc8
  have of0 := (hO3).frozen 0; have of1 := (hO3).frozen 1; have of2 := (hO3).frozen 2; have of3 := (hO3).frozen 3; have of4 := (hO3).frozen 4; have of5 := (hO3).frozen 5; have of6 := (hO3).frozen 6; have of7 := (hO3).frozen 7; have of8 := (hO3).frozen 8
  have rc0 := (hR3).cell 0; have rc1 := (hR3).cell 1; have rc2 := (hR3).cell 2; have rc3 := (hR3).cell 3; have rc4 := (hR3).cell 4; have rc5 := (hR3).cell 5; have rc6 := (hR3).cell 6; have rc7 := (hR3).cell 7; have rc8 := (hR3).cell 8; simp only [List.getElem?_toArray, List.getElem?_cons_zero, List.getElem?_cons_succ] at rc0 rc1 rc2 rc3 rc4 rc5 rc6 rc7 rc8
  have rf0 := (hR3).frozen 0; have rf1 := (hR3).frozen 1; have rf2 := (hR3).frozen 2; have rf3 := (hR3).frozen 3; have rf4 := (hR3).frozen 4; have rf5 := (hR3).frozen 5; have rf6 := (hR3).frozen 6; have rf7 := (hR3).frozen 7; have rf8 := (hR3).frozen 8
  have HNO := Lib.hid (noU_of_blk hO3 (noU_vals _))
  have HNR := Lib.hid (noU_of_blk hR3 (noU_vals _))
  have HP := Lib.hid hP
  have HQ := Lib.hid hQ
  have HB3 := Lib.hid hb3
  clear hm hP hQ hb3 hO3 hR3
  go_wp2
  refine bodyPost_ret (v := .agg #[.int .i64 4, .bool false, .string ⟨#[]⟩, .bool r.neg, .slice a n c, .slice a' n' c', .bool false, .slice none 0 0, .slice none 0 0]) (by simp [results, Tryz.results47, go_sem, rc0, rc1, rc2, rc3, rc4, rc5, rc6, rc7, rc8]) rfl ?_
  refine toldRat_end HN.out HD.out HR.out HP.out HQ.out (S := fun k => k = w1.heap.size ∨ k = w.heap.size) ?_ ?_ ?_
  · iterate 12 refine Upd.setCell ?_ (by first | exact Or.inl rfl | exact Or.inr rfl) _
    exact Upd.refl _ _
  · rintro k (rfl | rfl)
    · exact HNO.out
    · exact HNR.out
  · iterate 12 refine Below.setCell ?_ (by first | exact Nat.le_refl _ | exact Nat.le_of_lt hlt1) _
    exact HB3.out
def CCpx (w : World) (v : Value) (r q : Rt) : Prop := ∃ v1 v2, v = .iface 115 (.agg #[v1, v2]) ∧ CNum w v1 r ∧ CNum w v2 q
theorem CCpx.keep {w w' : World} {v : Value} {r q : Rt} (h : CCpx w v r q) (hb : Below w.heap.size w w') : CCpx w' v r q := by
  obtain ⟨v1, v2, e, h1, h2⟩ := h; exact ⟨v1, v2, e, h1.keep hb, h2.keep hb⟩
theorem CNum.form {w : World} {v : Value} {r : Rt} (h : CNum w v r) : (∃ z, v = .iface 91 (.int .i64 z)) ∨ (∃ p, v = .iface 102 (.agg #[p])) ∨ (∃ p, v = .iface 106 (.agg #[p])) := by
  rcases h with ⟨z, ⟨rfl, _⟩ | ⟨b, o, s, N, rfl, _, _⟩, _⟩ | ⟨b, s, N, D, rfl, _, _⟩
  · exact .inl ⟨_, rfl⟩
  · exact .inr (.inl ⟨_, rfl⟩)
  · exact .inr (.inr ⟨_, rfl⟩)
theorem CNum.iface {w : World} {v : Value} {r : Rt} (h : CNum w v r) : ∃ t x, v = .iface t x := by
  rcases h.form with ⟨z, rfl⟩ | ⟨p, rfl⟩ | ⟨p, rfl⟩ <;> exact ⟨_, _, rfl⟩
def NForm (v : Value) : Prop := (∃ z, v = .iface 91 (.int .i64 z)) ∨ (∃ p, v = .iface 102 (.agg #[p])) ∨ (∃ p, v = .iface 106 (.agg #[p]))
theorem cnum_zero (w : World) : CNum w (.iface 91 (.int .i64 0)) (rz 0) := .inl ⟨0, .inl ⟨rfl, by decide⟩, rfl⟩
theorem makeComplex_any (v1 v2 : Value) (w : World) (h1 : NForm v1) (h2 : NForm v2) :
    Calls Tryz.prog 106 #[v1, v2] w fun e w' => e = .returned (.iface 115 (.agg #[v1, v2])) ∧ Below w.heap.size w w' := by
  rcases h1 with ⟨z, rfl⟩ | ⟨p, rfl⟩ | ⟨p, rfl⟩
  · have m1 := methodKind64
    rcases h2 with ⟨y, rfl⟩ | ⟨q, rfl⟩ | ⟨q, rfl⟩
    · go_enter Tryz.func106, Tryz.ntmps106
      go_wp2_with fail
      refine (kind64_any _ _).mono ?_
      rintro e w1 ⟨rfl, hB1⟩
      go_wp2_with fail
      refine (kind64_any _ _).mono ?_
      rintro e w2 ⟨rfl, hB2⟩
      have hb := Below.then hB1 (Nat.le_refl _) hB2
      go_wp2
      go_ret
      exact ⟨rfl, hb⟩
    · have m2 := methodKindInt
      go_enter Tryz.func106, Tryz.ntmps106
      go_wp2_with fail
      refine (kind64_any _ _).mono ?_
      rintro e w1 ⟨rfl, hB1⟩
      go_wp2_with fail
      refine (kindInt_any _ _).mono ?_
      rintro e w2 ⟨rfl, hB2⟩
      have hb := Below.then hB1 (Nat.le_refl _) hB2
      go_wp2
      go_ret
      exact ⟨rfl, hb⟩
    · have m2 := methodKindRat
      go_enter Tryz.func106, Tryz.ntmps106
      go_wp2_with fail
      refine (kind64_any _ _).mono ?_
      rintro e w1 ⟨rfl, hB1⟩
      go_wp2_with fail
      refine (kindRat_any _ _).mono ?_
      rintro e w2 ⟨rfl, hB2⟩
      have hb := Below.then hB1 (Nat.le_refl _) hB2
      go_wp2
      go_ret
      exact ⟨rfl, hb⟩
  · have m1 := methodKindInt
    rcases h2 with ⟨y, rfl⟩ | ⟨q, rfl⟩ | ⟨q, rfl⟩
    · have m2 := methodKind64
      go_enter Tryz.func106, Tryz.ntmps106
      go_wp2_with fail
      refine (kindInt_any _ _).mono ?_
      rintro e w1 ⟨rfl, hB1⟩
      go_wp2_with fail
      refine (kind64_any _ _).mono ?_
      rintro e w2 ⟨rfl, hB2⟩
      have hb := Below.then hB1 (Nat.le_refl _) hB2
      go_wp2
      go_ret
      exact ⟨rfl, hb⟩
    · go_enter Tryz.func106, Tryz.ntmps106
      go_wp2_with fail
      refine (kindInt_any _ _).mono ?_
      rintro e w1 ⟨rfl, hB1⟩
      go_wp2_with fail
      refine (kindInt_any _ _).mono ?_
      rintro e w2 ⟨rfl, hB2⟩
      have hb := Below.then hB1 (Nat.le_refl _) hB2
      go_wp2
      go_ret
      exact ⟨rfl, hb⟩
    · have m2 := methodKindRat
      go_enter Tryz.func106, Tryz.ntmps106
      go_wp2_with fail
      refine (kindInt_any _ _).mono ?_
      rintro e w1 ⟨rfl, hB1⟩
      go_wp2_with fail
      refine (kindRat_any _ _).mono ?_
      rintro e w2 ⟨rfl, hB2⟩
      have hb := Below.then hB1 (Nat.le_refl _) hB2
      go_wp2
      go_ret
      exact ⟨rfl, hb⟩
  · have m1 := methodKindRat
    rcases h2 with ⟨y, rfl⟩ | ⟨q, rfl⟩ | ⟨q, rfl⟩
    · have m2 := methodKind64
      go_enter Tryz.func106, Tryz.ntmps106
      go_wp2_with fail
      refine (kindRat_any _ _).mono ?_
      rintro e w1 ⟨rfl, hB1⟩
      go_wp2_with fail
      refine (kind64_any _ _).mono ?_
      rintro e w2 ⟨rfl, hB2⟩
      have hb := Below.then hB1 (Nat.le_refl _) hB2
      go_wp2
      go_ret
      exact ⟨rfl, hb⟩
    · have m2 := methodKindInt
      go_enter Tryz.func106, Tryz.ntmps106
      go_wp2_with fail
      refine (kindRat_any _ _).mono ?_
      rintro e w1 ⟨rfl, hB1⟩
      go_wp2_with fail
      refine (kindInt_any _ _).mono ?_
      rintro e w2 ⟨rfl, hB2⟩
      have hb := Below.then hB1 (Nat.le_refl _) hB2
      go_wp2
      go_ret
      exact ⟨rfl, hb⟩
    · go_enter Tryz.func106, Tryz.ntmps106
      go_wp2_with fail
      refine (kindRat_any _ _).mono ?_
      rintro e w1 ⟨rfl, hB1⟩
      go_wp2_with fail
      refine (kindRat_any _ _).mono ?_
      rintro e w2 ⟨rfl, hB2⟩
      have hb := Below.then hB1 (Nat.le_refl _) hB2
      go_wp2
      go_ret
      exact ⟨rfl, hb⟩
theorem CNum.nform {w : World} {v : Value} {r : Rt} (h : CNum w v r) : NForm v := h.form
theorem makeImag_any (v : Value) (r : Rt) (w : World) (h : CNum w v r) :
    Calls Tryz.prog 59 #[v] w fun e w' => ∃ u, e = .returned u ∧ CCpx w' u (rz 0) r ∧ Below w.heap.size w w' := by
  have HH := Lib.hid h
  have hf := h.nform
  have HF := Lib.hid hf
  clear h
  rcases hf with ⟨z, rfl⟩ | ⟨p, rfl⟩ | ⟨p, rfl⟩
  · obtain ⟨t1, t2, t3, t4, t5, t6, t7, t8, t9⟩ := ta_int64Val
    go_enter Tryz.func59, Tryz.ntmps59
    go_wp2_with fail
    refine (makeComplex_any _ _ _ (.inl ⟨0, rfl⟩) HF.out).mono ?_
    rintro e w1 ⟨rfl, hB⟩
    go_wp2
    go_ret
    exact ⟨_, rfl, ⟨_, _, rfl, cnum_zero _, HH.out.keep hB⟩, hB⟩
  · obtain ⟨t1, t2, t3, t4, t5, t6, t7, t8, t9⟩ := ta_intVal
    go_enter Tryz.func59, Tryz.ntmps59
    go_wp2_with fail
    refine (makeComplex_any _ _ _ (.inl ⟨0, rfl⟩) HF.out).mono ?_
    rintro e w1 ⟨rfl, hB⟩
    go_wp2
    go_ret
    exact ⟨_, rfl, ⟨_, _, rfl, cnum_zero _, HH.out.keep hB⟩, hB⟩
  · obtain ⟨t1, t2, t3, t4, t5, t6, t7, t8, t9⟩ := ta_ratVal
    go_enter Tryz.func59, Tryz.ntmps59
    go_wp2_with fail
    refine (makeComplex_any _ _ _ (.inl ⟨0, rfl⟩) HF.out).mono ?_
    rintro e w1 ⟨rfl, hB⟩
    go_wp2
    go_ret
    exact ⟨_, rfl, ⟨_, _, rfl, cnum_zero _, HH.out.keep hB⟩, hB⟩
theorem realNum_any (v : Value) (w : World) (h : NForm v) :
    Calls Tryz.prog 57 #[v] w fun e w' => e = .returned v ∧ w = w' := by
  rcases h with ⟨z, rfl⟩ | ⟨p, rfl⟩ | ⟨p, rfl⟩
  · obtain ⟨t1, t2, t3, t4, t5, t6, t7, t8, t9⟩ := ta_int64Val
    go_enter Tryz.func57, Tryz.ntmps57
    go_wp2
    go_ret
    exact ⟨rfl, rfl⟩
  · obtain ⟨t1, t2, t3, t4, t5, t6, t7, t8, t9⟩ := ta_intVal
    go_enter Tryz.func57, Tryz.ntmps57
    go_wp2
    go_ret
    exact ⟨rfl, rfl⟩
  · obtain ⟨t1, t2, t3, t4, t5, t6, t7, t8, t9⟩ := ta_ratVal
    go_enter Tryz.func57, Tryz.ntmps57
    go_wp2
    go_ret
    exact ⟨rfl, rfl⟩
theorem realCpx_any (t1 t2 : TypeId) (x1 x2 : Value) (w : World) :
    Calls Tryz.prog 57 #[.iface 115 (.agg #[.iface t1 x1, .iface t2 x2])] w fun e w' => e = .returned (.iface t1 x1) ∧ Below w.heap.size w w' := by
  obtain ⟨h1, h2, h3, h4, h5, h6, h7, h8, h9⟩ := ta_complexVal
  have hb := Lib.hid (fun o => Below.alloc' (Below.refl w.heap.size w) o)
  go_enter Tryz.func57, Tryz.ntmps57
  go_wp2
  go_ret
  exact ⟨rfl, hb.out _⟩
theorem imagNum_any (v : Value) (w : World) (h : NForm v) :
    Calls Tryz.prog 58 #[v] w fun e w' => e = .returned (.iface 91 (.int .i64 0)) ∧ w = w' := by
  rcases h with ⟨z, rfl⟩ | ⟨p, rfl⟩ | ⟨p, rfl⟩
  · obtain ⟨t1, t2, t3, t4, t5, t6, t7, t8, t9⟩ := ta_int64Val
    go_enter Tryz.func58, Tryz.ntmps58
    go_wp2
    go_ret
    exact ⟨rfl, rfl⟩
  · obtain ⟨t1, t2, t3, t4, t5, t6, t7, t8, t9⟩ := ta_intVal
    go_enter Tryz.func58, Tryz.ntmps58
    go_wp2
    go_ret
    exact ⟨rfl, rfl⟩
  · obtain ⟨t1, t2, t3, t4, t5, t6, t7, t8, t9⟩ := ta_ratVal
    go_enter Tryz.func58, Tryz.ntmps58
    go_wp2
    go_ret
    exact ⟨rfl, rfl⟩
theorem imagCpx_any (t1 t2 : TypeId) (x1 x2 : Value) (w : World) :
    Calls Tryz.prog 58 #[.iface 115 (.agg #[.iface t1 x1, .iface t2 x2])] w fun e w' => e = .returned (.iface t2 x2) ∧ Below w.heap.size w w' := by
  obtain ⟨h1, h2, h3, h4, h5, h6, h7, h8, h9⟩ := ta_complexVal
  have hb := Lib.hid (fun o => Below.alloc' (Below.refl w.heap.size w) o)
  go_enter Tryz.func58, Tryz.ntmps58
  go_wp2
  go_ret
  exact ⟨rfl, hb.out _⟩
theorem vtoc_any (t : TypeId) (x : Value) (w : World) :
    Calls Tryz.prog 202 #[.iface t x] w fun e w' => e = .returned (.agg #[.iface t x, .iface 91 (.int .i64 0)]) ∧ Below w.heap.size w w' := by
  have hb := Lib.hid (fun o => Below.alloc' (Below.refl w.heap.size w) o)
  go_enter Tryz.func202, Tryz.ntmps202
  go_wp2
  exact bodyPost_ret (v := .agg #[.iface t x, .iface 91 (.int .i64 0)]) (by simp [results, Tryz.results202, go_sem]) rfl ⟨rfl, hb.out _⟩
theorem val_top {f : Nat → Nat} {n : Nat} (h : f n ≠ 0) : W64 ^ n ≤ val W64 f (n + 1) := by
  show W64 ^ n ≤ val W64 f n + W64 ^ n * f n
  have : W64 ^ n * 1 ≤ W64 ^ n * f n := Nat.mul_le_mul_left _ (by omega)
  omega
theorem hasW_len {f : Nat → Nat} {n N L : Nat} (h : hasW f n N = true) (hN : N < W64 ^ L) : n ≤ L := by
  unfold hasW at h
  simp only [decide_eq_true_eq] at h
  obtain ⟨rfl, h0 | h0⟩ := h
  · omega
  · by_cases hn : n = 0
    · omega
    · obtain ⟨m, rfl⟩ : ∃ m, n = m + 1 := ⟨n - 1, by omega⟩
      have h1 := val_top (f := f) (n := m) (by simpa using h0)
      have := (Nat.pow_lt_pow_iff_right W64_gt).1 (Nat.lt_of_le_of_lt h1 hN)
      omega
theorem intB_len {x : Vl} {L : Nat} (h : intB x = true) (hN : val W64 x.wf x.wn < W64 ^ L) : x.wn ≤ L := by
  unfold intB isNumB at h
  simp only [Bool.and_eq_true] at h
  exact hasW_len h.1.1.2.2 hN
theorem toldZ_any (v : Value) (z : Int) (w : World) (h : CInt w v z) (L : Nat) (hL : L ≤ 100000) (hz : z.natAbs < W64 ^ L) :
    Calls Tryz.prog 47 #[v] w (GivesV (IsZ z L) w) := by
  refine (toldInt_any v z w h L hL hz).mono ?_
  rintro e w1 ⟨x, rfl, h1, h2, h3, h4, h5⟩
  exact ⟨x, rfl, h1, ⟨h2, h3, h4, intB_len h2 (by rw [h4]; exact hz)⟩, h5⟩
theorem givesV_end {w w3 : World} {g : Nat} {T : TypeId} {P : Vl → Prop} {y : Vl} (hR : BlkAt w3 g #[.int .i64 0, .bool false, .string ⟨#[]⟩, .bool false, .slice none 0 0, .slice none 0 0, .bool false, .slice none 0 0, .slice none 0 0] T) (hg : w.heap.size ≤ g) (hb : Below w.heap.size w w3) (hy : VlAt w3 y) (hP : P y) :
    GivesV P w (.returned (.agg #[.int .i64 y.kind, .bool y.truth, .string y.text, .bool y.neg, .slice y.wa y.wn y.wc, .slice y.da y.dn y.dc, .bool y.ineg, .slice y.ia y.inn y.ic, .slice y.ea y.en y.ec])) (((((((((w3.setCell ⟨g, 0, none⟩ (.int .i64 y.kind)).setCell ⟨g, 1, none⟩ (.bool y.truth)).setCell ⟨g, 2, none⟩ (.string y.text)).setCell ⟨g, 3, none⟩ (.bool y.neg)).setCell ⟨g, 4, none⟩ (.slice y.wa y.wn y.wc)).setCell ⟨g, 5, none⟩ (.slice y.da y.dn y.dc)).setCell ⟨g, 6, none⟩ (.bool y.ineg)).setCell ⟨g, 7, none⟩ (.slice y.ia y.inn y.ic)).setCell ⟨g, 8, none⟩ (.slice y.ea y.en y.ec)) := by
  have hU : Upd (· = g) w3 (((((((((w3.setCell ⟨g, 0, none⟩ (.int .i64 y.kind)).setCell ⟨g, 1, none⟩ (.bool y.truth)).setCell ⟨g, 2, none⟩ (.string y.text)).setCell ⟨g, 3, none⟩ (.bool y.neg)).setCell ⟨g, 4, none⟩ (.slice y.wa y.wn y.wc)).setCell ⟨g, 5, none⟩ (.slice y.da y.dn y.dc)).setCell ⟨g, 6, none⟩ (.bool y.ineg)).setCell ⟨g, 7, none⟩ (.slice y.ia y.inn y.ic)).setCell ⟨g, 8, none⟩ (.slice y.ea y.en y.ec)) := by
    iterate 9 refine Upd.setCell ?_ (by exact rfl) _
    exact Upd.refl _ _
  have hS : ∀ k, k = g → NoU w3 k := fun k e => by subst e; exact noU_of_blk hR (noU_vals _)
  exact ⟨y, rfl, ⟨hy.ws.updU hU hS, hy.ds.updU hU hS, hy.is.updU hU hS, hy.es.updU hU hS, hy.text, hy.kind⟩, hP, hU.below hb (Nat.le_trans hb.size (Nat.le_refl _)) (fun k _ e => by subst e; exact hg)⟩
theorem sign_any (k : Nat) (hk : k < 3) (w : World) :
    Calls Tryz.prog 64 #[.int .i64 k] w fun e w' => e = .returned (.tuple #[.int .i64 (if k = 0 then 12 else if k = 1 then 13 else 19), .bool true]) ∧ Below w.heap.size w w' := by
  have HB := Lib.hid (fun (o : Obj) => (Below.alloc' (Below.refl w.heap.size w) o))
  obtain ⟨T, hT⟩ : ∃ T : Int, T = (if k = 0 then 12 else if k = 1 then 13 else 19) := ⟨_, rfl⟩
  rcases (by omega : k = 0 ∨ k = 1 ∨ k = 2) with rfl | rfl | rfl
  all_goals
    go_enter Tryz.func64, Tryz.ntmps64
    go_wp2
    refine bodyPost_ret (v := .tuple #[.int .i64 T, .bool true]) (by rw [hT]; simp [results, Tryz.results64, go_sem]) rfl ⟨by rw [hT]; simp, HB.out _⟩
end Go.Proofs.YtececkbcinmmpaaGreatDoor
