/-
  Contracts and lemmas: DivLP CopR ShC ShL ShR NatC NatD TolD RatB.
-/
import Derived.Test.YtgmienggfaahlaaGreatDoorK14
import Derived.Test.YtgmienggfaahlaaGreatDoorK04
import Derived.Test.YtgmienggfaahlaaGreatDoorK05
import Derived.Test.YtgmienggfaahlaaGreatDoorK15
import Derived.Test.YtgmienggfaahlaaGreatDoorK02
import Derived.Test.YtgmienggfaahlaaGreatDoorK13
import Derived.Test.YtgmienggfaahlaaGreatDoorK06
import Derived.Test.YtgmienggfaahlaaGreatDoorK11
set_option linter.unusedSimpArgs false
set_option linter.unusedVariables false
set_option maxRecDepth 100000
set_option maxHeartbeats 8000000
namespace Go.Bg
open Go.RowKit Dg
theorem top_word {V n : Nat} (hV : V < W64 ^ (n + 1)) : dg W64 V n = V / W64 ^ n := by
  unfold dg
  exact Nat.mod_eq_of_lt ((Nat.div_lt_iff_lt_mul (Nat.pow_pos W64_pos)).2 (by rw [← Nat.pow_succ']; exact hV))
theorem scale_fits {V n s : Nat} (hV : V < W64 ^ (n + 1)) (hs : s ≤ 64) (hy : dg W64 V n * 2 ^ s < W64) : V * 2 ^ s < W64 ^ (n + 1) := by
  rw [top_word hV] at hy
  obtain ⟨t, ht⟩ : ∃ t, s + t = 64 := ⟨64 - s, by omega⟩
  have hW : W64 = 2 ^ t * 2 ^ s := by rw [← Nat.pow_add, Nat.add_comm t, ht]; rfl
  have h1 : V / W64 ^ n < 2 ^ t := by
    have hy' : V / W64 ^ n * 2 ^ s < 2 ^ t * 2 ^ s := by rw [← hW]; exact hy
    exact Nat.lt_of_mul_lt_mul_right hy'
  have h2 : V < 2 ^ t * W64 ^ n := (Nat.div_lt_iff_lt_mul (Nat.pow_pos W64_pos)).1 h1
  have h3 : V * 2 ^ s < 2 ^ t * W64 ^ n * 2 ^ s := Nat.mul_lt_mul_of_pos_right h2 (Nat.pow_pos (by decide))
  have e : 2 ^ t * W64 ^ n * 2 ^ s = W64 ^ (n + 1) := by
    rw [Nat.mul_right_comm, ← hW, Nat.pow_succ']
  rw [← e]; exact h3
theorem scale_top {V n s : Nat} (hV : V < W64 ^ (n + 1)) (hs : V * 2 ^ s < W64 ^ (n + 1)) : dg W64 V n * 2 ^ s ≤ dg W64 (V * 2 ^ s) n := by
  rw [top_word hV, top_word hs]
  refine (Nat.le_div_iff_mul_le (Nat.pow_pos W64_pos)).2 ?_
  rw [Nat.mul_right_comm]
  exact Nat.mul_le_mul_right _ (Nat.div_mul_le_self _ _)
theorem scale_up {U k s : Nat} (hU : U < W64 ^ k) (hs : s ≤ 63) : U * 2 ^ s < W64 ^ (k + 1) ∧ dg W64 (U * 2 ^ s) k < 9223372036854775808 := by
  have h1 : U * 2 ^ s < W64 ^ k * 2 ^ s := Nat.mul_lt_mul_of_pos_right hU (Nat.pow_pos (by decide))
  have h2 : (2 : Nat) ^ s ≤ 9223372036854775808 := by
    have : (2 : Nat) ^ s ≤ 2 ^ 63 := Nat.pow_le_pow_right (by decide) hs
    simpa using this
  have h3 : W64 ^ k * 2 ^ s ≤ W64 ^ k * 9223372036854775808 := Nat.mul_le_mul_left _ h2
  have h4 : U * 2 ^ s < W64 ^ (k + 1) := by
    rw [Nat.pow_succ]
    exact Nat.lt_of_lt_of_le h1 (Nat.le_trans h3 (Nat.mul_le_mul_left _ (by unfold W64; omega)))
  refine ⟨h4, ?_⟩
  rw [top_word h4]
  exact (Nat.div_lt_iff_lt_mul (Nat.pow_pos W64_pos)).2 (by rw [Nat.mul_comm 9223372036854775808]; exact Nat.lt_of_lt_of_le h1 h3)
theorem scale_less {U V n m s : Nat} (hU : U < W64 ^ (m + (n + 1))) (hV : V * 2 ^ s < W64 ^ (n + 1)) (hs : s ≤ 63) (ht : 9223372036854775808 ≤ dg W64 (V * 2 ^ s) n) : U * 2 ^ s < V * 2 ^ s * W64 ^ (m + 1) := by
  have h1 : U * 2 ^ s < W64 ^ (m + (n + 1)) * 2 ^ s := Nat.mul_lt_mul_of_pos_right hU (Nat.pow_pos (by decide))
  have h2 : (2 : Nat) ^ s ≤ 9223372036854775808 := by
    have : (2 : Nat) ^ s ≤ 2 ^ 63 := Nat.pow_le_pow_right (by decide) hs
    simpa using this
  rw [top_word hV] at ht
  have h3 : 9223372036854775808 * W64 ^ n ≤ V * 2 ^ s := Nat.le_trans (Nat.mul_le_mul_right _ ht) (Nat.div_mul_le_self _ _)
  have h4 : 9223372036854775808 * W64 ^ n * W64 ^ (m + 1) ≤ V * 2 ^ s * W64 ^ (m + 1) := Nat.mul_le_mul_right _ h3
  have e : 9223372036854775808 * W64 ^ n * W64 ^ (m + 1) = W64 ^ (m + (n + 1)) * 9223372036854775808 := by
    rw [Nat.mul_assoc, ← Nat.pow_add, Nat.mul_comm, show n + (m + 1) = m + (n + 1) from by omega]
  rw [e] at h4
  exact Nat.lt_of_lt_of_le h1 (Nat.le_trans (Nat.mul_le_mul_left _ h2) h4)
theorem scale_div (U V s : Nat) : U * 2 ^ s / (V * 2 ^ s) = U / V := Nat.mul_div_mul_right _ _ (Nat.pow_pos (by decide))
theorem scale_mod (U V s : Nat) : U * 2 ^ s % (V * 2 ^ s) / 2 ^ s = U % V := by
  rw [Nat.mul_mod_mul_right, Nat.mul_div_cancel _ (Nat.pow_pos (by decide))]
theorem shift_out {U n s t : Nat} (hst : s + t = 64) (hU : U < W64 ^ (n + 1)) (hs : U * 2 ^ s < W64 ^ (n + 2)) : dg W64 U n / 2 ^ t = dg W64 (U * 2 ^ s) (n + 1) := by
  rw [top_word hU, top_word hs]
  have hW : W64 = 2 ^ t * 2 ^ s := by rw [← Nat.pow_add, Nat.add_comm t, hst]; rfl
  rw [Nat.pow_succ, hW, ← Nat.mul_assoc, Nat.mul_div_mul_right _ _ (Nat.pow_pos (by decide)), ← hW, Nat.div_div_eq_div_mul]
end Go.Bg
namespace Go.Proofs.YtgmienggfaahlaaGreatDoor
open Go.RowKit Go.Bg Dg
theorem wpList_copy_words {P : Program} {w : World} {ops : Array Oper} {rest : List Oper} {o : Oper} {a : Act} {Q : Exit → Act → World → Prop} (hgd : o.guard = none) (d s : Operand) (dT sT : TypeId)
    (ho : o.op = .call { callee := .builtin .copy, args := #[d, s], argTypes := #[dT, sT] }) (elem : TypeId) (hu : P.underlying dT = some (.slice elem)) (hsz : (P.info? elem).map (·.size) = some 1)
    (g off n dCap b o1 sCap X : Nat) (hd : a.eval d = .slice (some ⟨g, off, none⟩) n dCap) (hs : a.eval s = .slice (some ⟨b, o1, none⟩) n sCap)
    (cur : Array Value) (T : TypeId) (hg : BlkAt w g cur T) (h1 : WCells w b o1 n (dg W64 X)) (hfit : off + n ≤ cur.size)
    (h : ∀ w', RowUp T w w' g off n cur (dg W64 X) → wpList P ops Q rest (a.put o.dst (goInt n)) w') : wpList P ops Q (o :: rest) a w := by
  have hl := wlf_len X 0 n
  refine wpList_copy_own hgd d s dT sT ho elem hu hsz g off n dCap ⟨b, o1, none⟩ n sCap hd hs cur T hg (wlf X 0 n) (by rw [hl]; exact (Nat.min_self n).symm) ?_ (by rw [hl]; exact hfit) (wlf_one _ _ _) ?_
  · intro j v hj
    have hjn : j < n := by
      have := (List.getElem?_eq_some_iff.1 hj).1
      rwa [hl] at this
    rw [wlf_get hjn] at hj
    rw [← hj, Addr.add_lit, Nat.zero_add]
    exact h1 j hjn
  · rw [hl]
    refine h _ ⟨⟨rfl, rfl, rfl, by simp [World.setRow], fun k hk hn => setRow_other w g k _ hn⟩, _, setRow_heap w g _ _ T _ hg, ?_, ?_, ?_⟩
    · simp [hl]; omega
    · intro i hi
      simp only [List.getElem?_toArray]
      rw [List.getElem?_append_right (by simp; omega), List.getElem?_append_left (by rw [hl]; simp; omega)]
      have e : off + i - (List.take off cur.toList).length = i := by simp; omega
      rw [e, wlf_get hi, Nat.zero_add]
    · intro j hj
      simp only [List.getElem?_toArray]
      rcases hj with hj | hj
      · rw [List.getElem?_append_left (by simp; omega), List.getElem?_take_of_lt hj]
        simp
      · rw [List.getElem?_append_right (by simp; omega), List.getElem?_append_right (by rw [hl]; simp; omega), List.getElem?_drop, hl]
        have e : off + n + (j - (List.take off cur.toList).length - n) = j := by simp; omega
        rw [e]
        simp
theorem make_new (az : Option Addr) (nz cz n : Nat) (w : World) (hc : cz < n) (hn2 : 2 ≤ n) (hn : n ≤ 1000000) (hnz : nz ≤ cz) (hnil : az = none → cz = 0) :
    Calls Tryz.prog 194 #[.slice az nz cz, .int .i64 n] w (MadeIs 155 n w) := by
  have hz : ((n : Int) == 1) = false := by simp; omega
  have hmk : ∀ w : World, (Instr.makeSlice 147 (.int .i64 (n : Int)) (.int .i64 ((n : Int) + 4))).run Tryz.prog w = .ok (.slice (some ⟨w.heap.size, 0, none⟩) n (n + 4)) (w.alloc (.cells (Array.replicate (n + 4) (.int .u64 0)) 155)) :=
    run_make_nat 147 155 Tryz.underlying147 infoWord n (n + 4) (by omega) (by omega)
  have hle : ¬ ((n : Int) ≤ cz) := by omega
  go_enter Tryz.func194, Tryz.ntmps194
  go_wp2
  go_ret
  exact .inr ⟨n + 4, by omega, by omega, by omega, rfl, rfl⟩
end Go.Proofs.YtgmienggfaahlaaGreatDoor
namespace Go.Bg
open Go.RowKit Dg
theorem RowUp.rest {T : TypeId} {w w' : World} {g o k n : Nat} {cur : Array Value} {h : Nat → Nat} (r : RowUp T w w' g o k cur h) (hk : k ≤ n) (hr : ∀ i, k ≤ i → i < n → cur[o + i]? = some (.int .u64 (h i : Nat))) : RowUp T w w' g o n cur h := by
  obtain ⟨cur', h1, h2, h3, h4⟩ := r.blk
  refine ⟨r.upd, cur', h1, h2, fun i hi => ?_, fun j hj => h4 j (by omega)⟩
  by_cases hik : i < k
  · exact h3 i hik
  · rw [h4 _ (by omega)]
    exact hr i (by omega) hi
def NoU (w : World) (s : Nat) : Prop := ∀ o x, w.cell? ⟨s, o, none⟩ ≠ some (.int .u64 x)
theorem noU_of_blk {w : World} {g : Nat} {cur : Array Value} {e : TypeId} (h : BlkAt w g cur e) (hn : ∀ (i : Nat) x, cur[i]? ≠ some (.int .u64 x)) : NoU w g := by
  intro o x hc
  rw [h.cell] at hc
  exact hn o x hc
theorem noU_vals (k : Int) : ∀ (i : Nat) x, (#[.int .i64 k, .bool false, .string ⟨#[]⟩, .bool false, .slice none 0 0, .slice none 0 0, .bool false, .slice none 0 0, .slice none 0 0] : Array Value)[i]? ≠ some (.int .u64 x) := by
  intro i x h
  match i, h with
  | 0, h => simp at h
  | 1, h => simp at h
  | 2, h => simp at h
  | 3, h => simp at h
  | 4, h => simp at h
  | 5, h => simp at h
  | 6, h => simp at h
  | 7, h => simp at h
  | 8, h => simp at h
  | i + 9, h => simp at h
theorem WordsAt.updU {w w' : World} {a : Option Addr} {n c : Nat} {f : Nat → Nat} {S : Nat → Prop} (h : WordsAt w a n c f) (hu : Upd S w w') (hS : ∀ k, S k → NoU w k) : WordsAt w' a n c f := by
  refine ⟨fun hn => ?_, h.lt, h.nc, h.cm, h.nil⟩
  obtain ⟨b, off, rfl, hc⟩ := h.cells hn
  refine ⟨b, off, rfl, fun i hi => ?_⟩
  have h1 := hc i hi
  rw [hu.cell (p := ⟨b, off + i, none⟩) (block_lt h1) (fun s => hS b s _ _ h1)]
  exact h1
theorem nilWords (w : World) : WordsAt w none 0 0 (fun _ => 0) := ⟨fun h => by omega, fun i h => by omega, Nat.le_refl _, by simp [maxLen], fun _ => rfl⟩
end Go.Bg
namespace Go.Proofs.YtgmienggfaahlaaGreatDoor
open Go.RowKit Go.Bg Dg
theorem methodKind64 (x : Value) (w : World) : (method 410 87 x "Kind").run Tryz.prog w = .ok (328, x) w := by kernel_rfl
theorem methodKindInt (x : Value) (w : World) : (method 410 98 x "Kind").run Tryz.prog w = .ok (334, x) w := by kernel_rfl
theorem kind64_any (x : Value) (w : World) : Calls Tryz.prog 328 #[x] w fun e w' => e = .returned (.int .i64 3) ∧ Below w.heap.size w w' := by
  go_enter Tryz.func328, Tryz.ntmps328
  go_wp2
  go_ret
  exact ⟨rfl, Below.refl _ _⟩
theorem kindInt_any (p : Value) (w : World) : Calls Tryz.prog 334 #[.agg #[p]] w fun e w' => e = .returned (.int .i64 3) ∧ Below w.heap.size w w' := by
  have HB := Lib.hid (fun o => (Below.refl w.heap.size w).alloc (Nat.le_refl _) o)
  go_enter Tryz.func334, Tryz.ntmps334
  go_wp2
  go_ret
  exact ⟨rfl, HB.out _⟩
theorem told_val {w : World} {a : Option Addr} {n c N : Nat} (h : PlainAt w a n c N) : val W64 (dg W64 N) n = N := by
  rw [val_dg, Nat.mod_eq_of_lt h.lt]
theorem told_intB {w : World} {z : Int} {a : Option Addr} {n c : Nat} (h : PlainAt w a n c z.natAbs) :
    intB ⟨3, false, ⟨#[]⟩, decide (z < 0), a, n, c, dg W64 z.natAbs, none, 0, 0, fun _ => 0, false, none, 0, 0, fun _ => 0, none, 0, 0, fun _ => 0⟩ = true := by
  have hv := told_val h
  have ht : n = 0 ∨ dg W64 z.natAbs (n - 1) ≠ 0 := by
    rcases h.top with h0 | h0
    · exact .inl h0
    · by_cases hn : n = 0
      · exact .inl hn
      · right
        have hlt := h.lt
        rw [show n = n - 1 + 1 from by omega, Nat.pow_succ] at hlt
        have hq : z.natAbs / W64 ^ (n - 1) < W64 := (Nat.div_lt_iff_lt_mul (Nat.pow_pos W64_pos)).2 (by rw [Nat.mul_comm]; exact hlt)
        have hp : 0 < z.natAbs / W64 ^ (n - 1) := Nat.div_pos h0 (Nat.pow_pos W64_pos)
        rw [dg, Nat.mod_eq_of_lt hq]
        omega
  unfold intB isNumB hasW Vl.restB
  simp only [hv]
  by_cases hz : z < 0
  · have : 0 < z.natAbs := by omega
    simp [hz, this, ht]
  · simp [hz, ht]
theorem toldInt_any (v : Value) (z : Int) (w : World) (h : CInt w v z) (L : Nat) (hL : L ≤ 100000) (hz : z.natAbs < W64 ^ L) :
    Calls Tryz.prog 36 #[v] w fun e w' => ∃ x : Vl, e = .returned (.agg #[.int .i64 x.kind, .bool x.truth, .string x.text, .bool x.neg, .slice x.wa x.wn x.wc, .slice x.da x.dn x.dc, .bool x.ineg, .slice x.ia x.inn x.ic, .slice x.ea x.en x.ec]) ∧ VlAt w' x ∧ intB x = true ∧ x.neg = decide (z < 0) ∧ val W64 x.wf x.wn = z.natAbs ∧ Below w.heap.size w w' := by
  have HH := Lib.hid h
  have HZ := Lib.hid hz
  clear hz
  rcases h with ⟨rfl, _⟩ | ⟨b, o, s, N, rfl, _, _⟩
  · have hm := methodKind64
    have hb0 : Below w.heap.size w (w.alloc (.cells #[.int .i64 0, .bool false, .string ⟨#[]⟩, .bool false, .slice none 0 0, .slice none 0 0, .bool false, .slice none 0 0, .slice none 0 0] 26)) := Below.alloc' (Below.refl _ _) _
    have hR0 := BlkAt.new w #[.int .i64 0, .bool false, .string ⟨#[]⟩, .bool false, .slice none 0 0, .slice none 0 0, .bool false, .slice none 0 0, .slice none 0 0] 26
    go_enter Tryz.func36, Tryz.ntmps36
    go_wp2_with fail
    refine (kind64_any _ _).mono ?_
    rintro e w1 ⟨rfl, hB1⟩
    have hR1 := (hR0.keep hB1).keep ((Below.refl _ _).alloc (Nat.le_refl _) (.cells #[.int .i64 3, .bool false, .string ⟨#[]⟩, .bool false, .slice none 0 0, .slice none 0 0, .bool false, .slice none 0 0, .slice none 0 0] 26))
    have hO1 := BlkAt.new w1 #[.int .i64 3, .bool false, .string ⟨#[]⟩, .bool false, .slice none 0 0, .slice none 0 0, .bool false, .slice none 0 0, .slice none 0 0] 26
    have hb1 := Below.alloc' (Below.then hb0 (Nat.le_refl _) hB1) (.cells #[.int .i64 3, .bool false, .string ⟨#[]⟩, .bool false, .slice none 0 0, .slice none 0 0, .bool false, .slice none 0 0, .slice none 0 0] 26)
    have hlt1 := (hR0.keep hB1).lt
    clear hR0 hb0 hB1
    go_wp2_with fail
    refine (kind64_any _ _).mono ?_
    rintro e w2 ⟨rfl, hB2⟩
    have hR2 := hR1.keep hB2
    have hO2 := hO1.keep hB2
    have hb2 := Below.then hb1 (Nat.le_refl _) hB2
    clear hR1 hO1 hb1 hB2
    go_wp2_with fail
    refine (partsInt_any _ z _ (HH.out.keep hb2) L hL HZ.out).mono ?_
    rintro e w3 ⟨a, n, c, au, nu, cu, rfl, hP, -, hB3⟩
    have hR3 := hR2.keep hB3
    have hO3 := hO2.keep hB3
    have hb3 := Below.then hb2 (Nat.le_refl _) hB3
    have hne : w.heap.size ≠ w1.heap.size := Nat.ne_of_lt hlt1
    clear hR2 hO2 hb2 hB3
    have oc0 := hO3.cell 0
    have oc1 := hO3.cell 1
    have oc2 := hO3.cell 2
    have oc3 := hO3.cell 3
    have oc4 := hO3.cell 4
    have oc5 := hO3.cell 5
    have oc6 := hO3.cell 6
    have oc7 := hO3.cell 7
    have oc8 := hO3.cell 8
    have of0 := hO3.frozen 0
    have of1 := hO3.frozen 1
    have of2 := hO3.frozen 2
    have of3 := hO3.frozen 3
    have of4 := hO3.frozen 4
    have of5 := hO3.frozen 5
    have of6 := hO3.frozen 6
    have of7 := hO3.frozen 7
    have of8 := hO3.frozen 8
    have rc0 := hR3.cell 0
    have rc1 := hR3.cell 1
    have rc2 := hR3.cell 2
    have rc3 := hR3.cell 3
    have rc4 := hR3.cell 4
    have rc5 := hR3.cell 5
    have rc6 := hR3.cell 6
    have rc7 := hR3.cell 7
    have rc8 := hR3.cell 8
    have rf0 := hR3.frozen 0
    have rf1 := hR3.frozen 1
    have rf2 := hR3.frozen 2
    have rf3 := hR3.frozen 3
    have rf4 := hR3.frozen 4
    have rf5 := hR3.frozen 5
    have rf6 := hR3.frozen 6
    have rf7 := hR3.frozen 7
    have rf8 := hR3.frozen 8
    simp only [List.getElem?_toArray, List.getElem?_cons_zero, List.getElem?_cons_succ] at oc0 oc1 oc2 oc3 oc4 oc5 oc6 oc7 oc8 rc0 rc1 rc2 rc3 rc4 rc5 rc6 rc7 rc8
    have HU := Lib.hid ((((((((((((Upd.refl (fun k => k = w1.heap.size ∨ k = w.heap.size) w3).setCell (p := ⟨w1.heap.size, 3, none⟩) (Or.inl rfl) (.bool (decide (z < 0)))).setCell (p := ⟨w1.heap.size, 4, none⟩) (Or.inl rfl) (.slice a n c)).setCell (p := ⟨w.heap.size, 0, none⟩) (Or.inr rfl) (.int .i64 3)).setCell (p := ⟨w.heap.size, 1, none⟩) (Or.inr rfl) (.bool false)).setCell (p := ⟨w.heap.size, 2, none⟩) (Or.inr rfl) (.string ⟨#[]⟩)).setCell (p := ⟨w.heap.size, 3, none⟩) (Or.inr rfl) (.bool (decide (z < 0)))).setCell (p := ⟨w.heap.size, 4, none⟩) (Or.inr rfl) (.slice a n c)).setCell (p := ⟨w.heap.size, 5, none⟩) (Or.inr rfl) (.slice none 0 0)).setCell (p := ⟨w.heap.size, 6, none⟩) (Or.inr rfl) (.bool false)).setCell (p := ⟨w.heap.size, 7, none⟩) (Or.inr rfl) (.slice none 0 0)).setCell (p := ⟨w.heap.size, 8, none⟩) (Or.inr rfl) (.slice none 0 0))
    have HB := Lib.hid ((((((((((((hb3).setCell (p := ⟨w1.heap.size, 3, none⟩) (Nat.le_of_lt hlt1) (.bool (decide (z < 0)))).setCell (p := ⟨w1.heap.size, 4, none⟩) (Nat.le_of_lt hlt1) (.slice a n c)).setCell (p := ⟨w.heap.size, 0, none⟩) (Nat.le_refl _) (.int .i64 3)).setCell (p := ⟨w.heap.size, 1, none⟩) (Nat.le_refl _) (.bool false)).setCell (p := ⟨w.heap.size, 2, none⟩) (Nat.le_refl _) (.string ⟨#[]⟩)).setCell (p := ⟨w.heap.size, 3, none⟩) (Nat.le_refl _) (.bool (decide (z < 0)))).setCell (p := ⟨w.heap.size, 4, none⟩) (Nat.le_refl _) (.slice a n c)).setCell (p := ⟨w.heap.size, 5, none⟩) (Nat.le_refl _) (.slice none 0 0)).setCell (p := ⟨w.heap.size, 6, none⟩) (Nat.le_refl _) (.bool false)).setCell (p := ⟨w.heap.size, 7, none⟩) (Nat.le_refl _) (.slice none 0 0)).setCell (p := ⟨w.heap.size, 8, none⟩) (Nat.le_refl _) (.slice none 0 0))
    have HNO := Lib.hid (noU_of_blk hO3 (noU_vals _))
    have HNR := Lib.hid (noU_of_blk hR3 (noU_vals _))
    have HP := Lib.hid hP
    clear hm hP hb3 hO3 hR3
    go_wp2
    refine bodyPost_ret (v := .agg #[.int .i64 3, .bool false, .string ⟨#[]⟩, .bool (decide (z < 0)), .slice a n c, .slice none 0 0, .bool false, .slice none 0 0, .slice none 0 0]) (by simp [results, Tryz.results36, go_sem, rc0, rc1, rc2, rc3, rc4, rc5, rc6, rc7, rc8]) rfl
      ⟨⟨3, false, ⟨#[]⟩, decide (z < 0), a, n, c, dg W64 z.natAbs, none, 0, 0, fun _ => 0, false, none, 0, 0, fun _ => 0, none, 0, 0, fun _ => 0⟩, rfl, ⟨HP.out.ws.updU HU.out ?_, nilWords _, nilWords _, nilWords _, Nat.zero_le _, by simp⟩, ?_, rfl, ?_, HB.out⟩
    · rintro k (rfl | rfl)
      · exact HNO.out
      · exact HNR.out
    · exact told_intB HP.out
    · exact told_val HP.out
  · have hm := methodKindInt
    have hb0 : Below w.heap.size w (w.alloc (.cells #[.int .i64 0, .bool false, .string ⟨#[]⟩, .bool false, .slice none 0 0, .slice none 0 0, .bool false, .slice none 0 0, .slice none 0 0] 26)) := Below.alloc' (Below.refl _ _) _
    have hR0 := BlkAt.new w #[.int .i64 0, .bool false, .string ⟨#[]⟩, .bool false, .slice none 0 0, .slice none 0 0, .bool false, .slice none 0 0, .slice none 0 0] 26
    go_enter Tryz.func36, Tryz.ntmps36
    go_wp2_with fail
    refine (kindInt_any _ _).mono ?_
    rintro e w1 ⟨rfl, hB1⟩
    have hR1 := (hR0.keep hB1).keep ((Below.refl _ _).alloc (Nat.le_refl _) (.cells #[.int .i64 3, .bool false, .string ⟨#[]⟩, .bool false, .slice none 0 0, .slice none 0 0, .bool false, .slice none 0 0, .slice none 0 0] 26))
    have hO1 := BlkAt.new w1 #[.int .i64 3, .bool false, .string ⟨#[]⟩, .bool false, .slice none 0 0, .slice none 0 0, .bool false, .slice none 0 0, .slice none 0 0] 26
    have hb1 := Below.alloc' (Below.then hb0 (Nat.le_refl _) hB1) (.cells #[.int .i64 3, .bool false, .string ⟨#[]⟩, .bool false, .slice none 0 0, .slice none 0 0, .bool false, .slice none 0 0, .slice none 0 0] 26)
    have hlt1 := (hR0.keep hB1).lt
    clear hR0 hb0 hB1
    go_wp2_with fail
    refine (kindInt_any _ _).mono ?_
    rintro e w2 ⟨rfl, hB2⟩
    have hR2 := hR1.keep hB2
    have hO2 := hO1.keep hB2
    have hb2 := Below.then hb1 (Nat.le_refl _) hB2
    clear hR1 hO1 hb1 hB2
    go_wp2_with fail
    refine (partsInt_any _ z _ (HH.out.keep hb2) L hL HZ.out).mono ?_
    rintro e w3 ⟨a, n, c, au, nu, cu, rfl, hP, -, hB3⟩
    have hR3 := hR2.keep hB3
    have hO3 := hO2.keep hB3
    have hb3 := Below.then hb2 (Nat.le_refl _) hB3
    have hne : w.heap.size ≠ w1.heap.size := Nat.ne_of_lt hlt1
    clear hR2 hO2 hb2 hB3
    have oc0 := hO3.cell 0
    have oc1 := hO3.cell 1
    have oc2 := hO3.cell 2
    have oc3 := hO3.cell 3
    have oc4 := hO3.cell 4
    have oc5 := hO3.cell 5
    have oc6 := hO3.cell 6
    have oc7 := hO3.cell 7
    have oc8 := hO3.cell 8
    have of0 := hO3.frozen 0
    have of1 := hO3.frozen 1
    have of2 := hO3.frozen 2
    have of3 := hO3.frozen 3
    have of4 := hO3.frozen 4
    have of5 := hO3.frozen 5
    have of6 := hO3.frozen 6
    have of7 := hO3.frozen 7
    have of8 := hO3.frozen 8
    have rc0 := hR3.cell 0
    have rc1 := hR3.cell 1
    have rc2 := hR3.cell 2
    have rc3 := hR3.cell 3
    have rc4 := hR3.cell 4
    have rc5 := hR3.cell 5
    have rc6 := hR3.cell 6
    have rc7 := hR3.cell 7
    have rc8 := hR3.cell 8
    have rf0 := hR3.frozen 0
    have rf1 := hR3.frozen 1
    have rf2 := hR3.frozen 2
    have rf3 := hR3.frozen 3
    have rf4 := hR3.frozen 4
    have rf5 := hR3.frozen 5
    have rf6 := hR3.frozen 6
    have rf7 := hR3.frozen 7
    have rf8 := hR3.frozen 8
    simp only [List.getElem?_toArray, List.getElem?_cons_zero, List.getElem?_cons_succ] at oc0 oc1 oc2 oc3 oc4 oc5 oc6 oc7 oc8 rc0 rc1 rc2 rc3 rc4 rc5 rc6 rc7 rc8
    have HU := Lib.hid ((((((((((((Upd.refl (fun k => k = w1.heap.size ∨ k = w.heap.size) w3).setCell (p := ⟨w1.heap.size, 3, none⟩) (Or.inl rfl) (.bool (decide (z < 0)))).setCell (p := ⟨w1.heap.size, 4, none⟩) (Or.inl rfl) (.slice a n c)).setCell (p := ⟨w.heap.size, 0, none⟩) (Or.inr rfl) (.int .i64 3)).setCell (p := ⟨w.heap.size, 1, none⟩) (Or.inr rfl) (.bool false)).setCell (p := ⟨w.heap.size, 2, none⟩) (Or.inr rfl) (.string ⟨#[]⟩)).setCell (p := ⟨w.heap.size, 3, none⟩) (Or.inr rfl) (.bool (decide (z < 0)))).setCell (p := ⟨w.heap.size, 4, none⟩) (Or.inr rfl) (.slice a n c)).setCell (p := ⟨w.heap.size, 5, none⟩) (Or.inr rfl) (.slice none 0 0)).setCell (p := ⟨w.heap.size, 6, none⟩) (Or.inr rfl) (.bool false)).setCell (p := ⟨w.heap.size, 7, none⟩) (Or.inr rfl) (.slice none 0 0)).setCell (p := ⟨w.heap.size, 8, none⟩) (Or.inr rfl) (.slice none 0 0))
    have HB := Lib.hid ((((((((((((hb3).setCell (p := ⟨w1.heap.size, 3, none⟩) (Nat.le_of_lt hlt1) (.bool (decide (z < 0)))).setCell (p := ⟨w1.heap.size, 4, none⟩) (Nat.le_of_lt hlt1) (.slice a n c)).setCell (p := ⟨w.heap.size, 0, none⟩) (Nat.le_refl _) (.int .i64 3)).setCell (p := ⟨w.heap.size, 1, none⟩) (Nat.le_refl _) (.bool false)).setCell (p := ⟨w.heap.size, 2, none⟩) (Nat.le_refl _) (.string ⟨#[]⟩)).setCell (p := ⟨w.heap.size, 3, none⟩) (Nat.le_refl _) (.bool (decide (z < 0)))).setCell (p := ⟨w.heap.size, 4, none⟩) (Nat.le_refl _) (.slice a n c)).setCell (p := ⟨w.heap.size, 5, none⟩) (Nat.le_refl _) (.slice none 0 0)).setCell (p := ⟨w.heap.size, 6, none⟩) (Nat.le_refl _) (.bool false)).setCell (p := ⟨w.heap.size, 7, none⟩) (Nat.le_refl _) (.slice none 0 0)).setCell (p := ⟨w.heap.size, 8, none⟩) (Nat.le_refl _) (.slice none 0 0))
    have HNO := Lib.hid (noU_of_blk hO3 (noU_vals _))
    have HNR := Lib.hid (noU_of_blk hR3 (noU_vals _))
    have HP := Lib.hid hP
    clear hm hP hb3 hO3 hR3
    go_wp2
    refine bodyPost_ret (v := .agg #[.int .i64 3, .bool false, .string ⟨#[]⟩, .bool (decide (z < 0)), .slice a n c, .slice none 0 0, .bool false, .slice none 0 0, .slice none 0 0]) (by simp [results, Tryz.results36, go_sem, rc0, rc1, rc2, rc3, rc4, rc5, rc6, rc7, rc8]) rfl
      ⟨⟨3, false, ⟨#[]⟩, decide (z < 0), a, n, c, dg W64 z.natAbs, none, 0, 0, fun _ => 0, false, none, 0, 0, fun _ => 0, none, 0, 0, fun _ => 0⟩, rfl, ⟨HP.out.ws.updU HU.out ?_, nilWords _, nilWords _, nilWords _, Nat.zero_le _, by simp⟩, ?_, rfl, ?_, HB.out⟩
    · rintro k (rfl | rfl)
      · exact HNO.out
      · exact HNR.out
    · exact told_intB HP.out
    · exact told_val HP.out
theorem rat_setDen {w w' : World} {b : Nat} {s : Bool} {N D0 D : Nat} {e : Ending} (h : RatAt 155 w b s N D0) (hI : IntIs b 2 false D w e w') (hp : 0 < D) : RatAt 155 w' b s N D :=
  ⟨h.a.other h.a.blk hI.2.2 (.inr (.inl (by omega))), hI.2.1, hp⟩
theorem implOver_any (s : Bool) (a : Option Addr) (n c : Nat) (f : Nat → Nat) (a' : Option Addr) (n' c' : Nat) (f' : Nat → Nat) (w : World) (h : WordsAt w a n c f) (h' : WordsAt w a' n' c' f') (hn : n ≤ 100000) (hn' : n' ≤ 100000) (hD : 0 < val W64 f' n') :
    Calls Tryz.prog 95 #[.agg #[.bool s, .slice a n c], .slice a' n' c'] w fun e w' => ∃ b, e = .returned (.pointer (some ⟨b, 0, none⟩)) ∧ RatAt 155 w' b (s && decide (0 < val W64 f n)) (val W64 f n) (val W64 f' n') ∧ Below w.heap.size w w' := by
  obtain ⟨W0, hW0⟩ : ∃ W0, W0 = (w.alloc (.cells #[.bool s, .slice a n c] 24)).alloc (.cells #[.bool false, .slice none 0 0, .bool false, .slice none 0 0] 179) := ⟨_, rfl⟩
  have hs0 : W0.heap.size = w.heap.size + 1 + 1 := by rw [hW0]; simp
  have HW := Lib.hid hW0
  have hb0 : Below w.heap.size w W0 := by rw [hW0]; exact Below.alloc' (Below.alloc' (Below.refl _ _) _) _
  have hz : NewRat W0 (w.heap.size + 1) := by
    rw [hW0]
    have := BlkAt.new (w.alloc (.cells #[.bool s, .slice a n c] 24)) #[.bool false, .slice none 0 0, .bool false, .slice none 0 0] 179
    simpa [NewRat] using this
  have HX := Lib.hid (h.keep hb0)
  have HY := Lib.hid h'
  have HD := Lib.hid hD
  have HL := Lib.hid (show val W64 f n < W64 ^ n from val_lt h.lt)
  clear hW0 h h' hD
  go_enter Tryz.func95, Tryz.ntmps95
  go_wp2_with fail
  rw [← HW.out]
  refine (of_any' s a n c f _ HX.out (by omega)).mono ?_
  rintro e w1 ⟨b1, rfl, hb1, hI, hB1⟩
  have hz1 := hz.keep hB1
  have hbw1 := Below.then hb0 (Nat.le_refl _) hB1
  have HS1 := Lib.hid hB1.size
  clear hB1 hz
  go_wp2_with fail
  refine (ratSetInt_new (w.heap.size + 1) b1 0 _ _ _ hz1 hI (by omega) n (by omega) HL.out).mono ?_
  rintro e w2 ⟨rfl, hR, hU⟩
  have hbw2 := hU.below hbw1 (by have := HS1.out; omega) (by omega)
  have HR := Lib.hid hR
  have HS2 := Lib.hid (show w.heap.size + 1 < w2.heap.size from hR.a.blk.lt)
  clear hz1 hI hU hR hbw1
  go_wp2_with fail
  refine (ratDenom_any (w.heap.size + 1) false 1 _ HR.out.d (by omega)).mono ?_
  rintro e w3 ⟨rfl, rfl⟩
  go_wp2_with fail
  refine (wordsOf_any a' n' c' f' _ (HY.out.keep hbw2) (by omega)).mono ?_
  rintro e w4 ⟨v, rfl, hown, hB4⟩
  obtain ⟨a1, c1, rfl, hbuf, hnc, hcm, hnil, hcells⟩ := buf_of_own hown
  have hw4 := hcells (wv f') (fun i hi => by simp [hi])
  have hR4 := HR.out.keep hB4
  have hbw4 := Below.then hbw2 (by have := HS2.out; omega) hB4
  have HS4 := Lib.hid hB4.size
  clear hown hcells hB4 hbw2
  obtain ⟨aa, nn, cc, p0, p1, _⟩ := hR4.d.val
  go_wp2_with fail
  refine (setBits_any (w.heap.size + 1) 2 a1 n' c1 f' _ hR4.d.blk ⟨_, p0⟩ ⟨_, p1⟩ (by omega) hnc hcm hnil HY.out.lt hw4 hbuf).mono ?_
  rintro e w5 hI5
  have hR5 := rat_setDen hR4 hI5 HD.out
  obtain ⟨rfl, _, hU5⟩ := hI5
  have hbw5 := hU5.upd.below hbw4 (by have := HS2.out; have := HS4.out; omega) (fun k _ e => by subst e; omega)
  go_wp2
  go_ret
  exact ⟨_, rfl, hR5, hbw5⟩
theorem bl_small {N L : Nat} (h : N < W64 ^ L) (hL : L ≤ 63) : decide (bl N < 4096) = true := by
  have h2 : N < 2 ^ (64 * L) := by rw [Nat.pow_mul, ← W64_eq]; exact h
  rcases bl_top N with h0 | h0
  · simp [h0]
  · have : 2 ^ (bl N - 1) < 2 ^ (64 * L) := Nat.lt_of_le_of_lt h0 h2
    have := (Nat.pow_lt_pow_iff_right (by decide : 1 < 2)).1 this
    simp; omega
theorem smallInt_any (b o : Nat) (s : Bool) (N L : Nat) (w : World) (h : BigAt 155 w b o s N) (hN : N < W64 ^ L) (hL : L ≤ 63) :
    Calls Tryz.prog 105 #[.pointer (some ⟨b, o, none⟩)] w fun e w' => e = .returned (.bool true) ∧ w = w' := by
  have HH := Lib.hid h
  have HB := Lib.hid (show decide ((bl N : Int) < 4096) = true from by have := bl_small hN hL; simp at this ⊢; omega)
  have HL := Lib.hid (show N < W64 ^ L from hN)
  clear h hN
  go_enter Tryz.func105, Tryz.ntmps105
  go_wp2_with fail
  refine (intBitLen_any b o s N L _ HH.out HL.out (by omega)).mono ?_
  rintro e w1 ⟨rfl, rfl⟩
  go_wp2
  go_ret
  exact ⟨ret_bool HB.out, rfl⟩
def CRat (w : World) (v : Value) (r : Rt) : Prop := ∃ b s N D, v = .iface 102 (.agg #[.pointer (some ⟨b, 0, none⟩)]) ∧ RatAt 155 w b s N D ∧ r = ⟨s, N, D⟩
theorem CRat.keep {w w' : World} {v : Value} {r : Rt} (h : CRat w v r) (hb : Below w.heap.size w w') : CRat w' v r := by
  obtain ⟨b, s, N, D, rfl, h1, h2⟩ := h; exact ⟨b, s, N, D, rfl, h1.keep hb, h2⟩
theorem makeRat_any (b : Nat) (s : Bool) (N D L : Nat) (w : World) (h : RatAt 155 w b s N D) (hN : N < W64 ^ L) (hD : D < W64 ^ L) (hL : L ≤ 63) :
    Calls Tryz.prog 66 #[.pointer (some ⟨b, 0, none⟩)] w fun e w' => ∃ v, e = .returned v ∧ CRat w' v ⟨s, N, D⟩ ∧ w = w' := by
  have HH := Lib.hid h
  have HN := Lib.hid hN
  have HD := Lib.hid hD
  clear h hN hD
  go_enter Tryz.func66, Tryz.ntmps66
  go_wp2_with fail
  refine (ratNum_any b _).mono ?_
  rintro e w1 ⟨rfl, rfl⟩
  go_wp2_with fail
  refine (ratDenom_any b false D _ HH.out.d HH.out.pos).mono ?_
  rintro e w1 ⟨rfl, rfl⟩
  go_wp2_with fail
  refine (smallInt_any b 0 s N L _ HH.out.a HN.out hL).mono ?_
  rintro e w1 ⟨rfl, rfl⟩
  go_wp2_with fail
  refine (smallInt_any b 2 false D L _ HH.out.d HD.out hL).mono ?_
  rintro e w1 ⟨rfl, rfl⟩
  go_wp2
  go_ret
  exact ⟨_, rfl, ⟨b, s, N, D, rfl, HH.out, rfl⟩, rfl⟩
theorem makeOfRat_any (b : Nat) (s : Bool) (N D L : Nat) (w : World) (h : RatAt 155 w b s N D) (hN : N < W64 ^ L) (hD : D < W64 ^ L) (hL : L ≤ 63) :
    Calls Tryz.prog 93 #[.iface 95 (.pointer (some ⟨b, 0, none⟩))] w fun e w' => ∃ v, e = .returned v ∧ CRat w' v ⟨s, N, D⟩ ∧ w = w' := by
  have HH := Lib.hid h
  have HN := Lib.hid hN
  have HD := Lib.hid hD
  clear h hN hD
  obtain ⟨t1, t2, t3, t4, t5, t6⟩ := ta_any_pRat
  go_enter Tryz.func93, Tryz.ntmps93
  go_wp2_with fail
  refine (makeRat_any b s N D L _ HH.out HN.out HD.out hL).mono ?_
  rintro e w1 ⟨v, rfl, hv, rfl⟩
  have HV := Lib.hid hv
  clear hv
  go_wp2
  go_ret
  exact ⟨_, rfl, HV.out, rfl⟩
def mrt (v : Vl) : Rt := ⟨v.neg && decide (0 < val W64 v.wf v.wn), val W64 v.wf v.wn, val W64 v.df v.dn⟩
theorem madeRat_any (v : Vl) (w : World) (h : VlAt w v) (hk : v.kind = 4) (hn : v.wn ≤ 63) (hd : v.dn ≤ 63) (hD : 0 < val W64 v.df v.dn) :
    Calls Tryz.prog 38 #[.agg #[.int .i64 v.kind, .bool v.truth, .string v.text, .bool v.neg, .slice v.wa v.wn v.wc, .slice v.da v.dn v.dc, .bool v.ineg, .slice v.ia v.inn v.ic, .slice v.ea v.en v.ec]] w fun e w' => ∃ u, e = .returned u ∧ CRat w' u (mrt v) ∧ Below w.heap.size w w' := by
  obtain ⟨W0, hW0⟩ : ∃ W0, W0 = w.alloc (.cells #[.int .i64 v.kind, .bool v.truth, .string v.text, .bool v.neg, .slice v.wa v.wn v.wc, .slice v.da v.dn v.dc, .bool v.ineg, .slice v.ia v.inn v.ic, .slice v.ea v.en v.ec] 26) := ⟨_, rfl⟩
  have HW := Lib.hid hW0
  have hb0 : Below w.heap.size w W0 := by rw [hW0]; exact Below.alloc' (Below.refl _ _) _
  have X : Box9 W0 w.heap.size v := by rw [hW0]; exact Box9.new w v _ rfl
  have HX := Lib.hid (h.keep hb0)
  have HN := Lib.hid (show val W64 v.wf v.wn < W64 ^ 63 from Nat.lt_of_lt_of_le (val_lt h.ws.lt) (Nat.pow_le_pow_right W64_pos hn))
  have HM := Lib.hid (show val W64 v.df v.dn < W64 ^ 63 from Nat.lt_of_lt_of_le (val_lt h.ds.lt) (Nat.pow_le_pow_right W64_pos hd))
  have HD := Lib.hid hD
  clear hW0 h hD
  obtain ⟨xc0, xc1, xc2, xc3, xc4, xc5, xc6, xc7, xc8⟩ := (X).all
  rw [hk] at xc0
  clear hk
  go_enter Tryz.func38, Tryz.ntmps38
  go_upto_region 1 with fail
  rw [← HW.out]
  go_wp2_with fail
  refine (implOver_any v.neg v.wa v.wn v.wc v.wf v.da v.dn v.dc v.df _ HX.out.ws HX.out.ds (by omega) (by omega) HD.out).mono ?_
  rintro e w1 ⟨b, rfl, hR, hB1⟩
  go_wp2_with fail
  refine (makeOfRat_any b _ _ _ 63 _ hR HN.out HM.out (by omega)).mono ?_
  rintro e w2 ⟨u, rfl, hu, rfl⟩
  have hbf := Below.then hb0 (Nat.le_refl _) hB1
  go_wp2
  go_ret
  exact ⟨_, rfl, hu, hbf⟩
end Go.Proofs.YtgmienggfaahlaaGreatDoor
