/-
  Contracts and lemmas: FromA FromB IsZk.
-/
import Derived.Test.YtgmienggfaahlaaGreatDoorK02
import Derived.Test.YtgmienggfaahlaaGreatDoorK00
import Derived.Test.YtgmienggfaahlaaGreatDoorK19
import Derived.Test.YtgmienggfaahlaaGreatDoorK34
set_option linter.unusedSimpArgs false
set_option linter.unusedVariables false
set_option maxRecDepth 100000
set_option maxHeartbeats 8000000
namespace Go.Proofs.YtgmienggfaahlaaGreatDoor
open Go.RowKit Go.Bg Dg
theorem bits_or0 (n : Nat) (hn : n < 256) : bits .or .u64 0 (n : Int) = n := by
  have h2 : (BitVec.ofInt 64 (n : Int)).toNat = n := by
    rw [BitVec.ofInt_natCast, BitVec.toNat_ofNat]; exact Nat.mod_eq_of_lt (by omega)
  show IntKind.u64.wrap (((BitVec.ofInt 64 0) ||| BitVec.ofInt 64 (n : Int)).toNat : Int) = _
  rw [BitVec.toNat_or, h2, IntKind.wrap_u64]
  simp
  omega
theorem makeFromByte_any (g n c : Nat) (w : World) (hn0 : 0 < n) (hn : n < 256) (hc0 : 0 < c) (hcl : w.cell? ⟨g, 0, none⟩ = some (.int .u8 n)) :
    Calls Tryz.prog 45 #[.slice (some ⟨g, 0, none⟩) 1 c] w fun e w' => ∃ v, e = .returned v ∧ CInt w' v n ∧ Below w.heap.size w w' := by
  have hmk : ∀ w : World, (Instr.makeSlice 146 (.int .i64 1) (.int .i64 1)).run Tryz.prog w = .ok (.slice (some ⟨w.heap.size, 0, none⟩) 1 1) (w.alloc (.cells (Array.replicate 1 (.int .u64 0)) 155)) :=
    run_make_nat 146 155 Tryz.underlying146 infoWord 1 1 (Nat.le_refl _) (by omega)
  obtain ⟨W1, hW1⟩ : ∃ W1, W1 = w.alloc (.cells #[.int .u64 0] 155) := ⟨_, rfl⟩
  have HW := Lib.hid hW1
  have hb1 : Below w.heap.size w W1 := by rw [hW1]; exact Below.alloc' (Below.refl _ _) _
  have hk1 : BlkAt W1 w.heap.size #[.int .u64 0] 155 := by rw [hW1]; exact BlkAt.new _ _ _
  have hcl1 : W1.cell? ⟨g, 0, none⟩ = some (.int .u8 n) := cell_keep hcl hb1
  have hbt := bits_or0 n hn
  have hkc := hk1.cell 0
  have hkf := hk1.frozen 0
  have HN := Lib.hid (show ((n : Int) == 0) = false from by simp; omega)
  clear hcl hW1
  go_enter Tryz.func45, Tryz.ntmps45
  go_upto_region 2 with fail
  rw [← HW.out]
  go_upto_region 5 with fail
  go_wp2
  go_loopw [4, 5, 6, 8, 16] (fun i v s _ k wr => i = .int .i64 0 ∧ wr = W1 ∧ ((k = .int .i64 0 ∧ v = .int .u64 0 ∧ s = .int .u64 0) ∨ (k = .int .i64 1 ∧ v = .int .u64 n ∧ s = .int .u64 8)))
    (fun _ _ _ _ k _ => 1 - (intOf k).toNat)
  case atStart =>
    refine ⟨rfl, ?_, .inl ⟨rfl, rfl, rfl⟩⟩
    first | exact trivial | rfl
  case round =>
    obtain ⟨rfl, rfl, ⟨rfl, rfl, rfl⟩ | ⟨rfl, rfl, rfl⟩⟩ := hrel
    · go_wp2
      go_roundw
      case rel => exact ⟨rfl, by first | exact trivial | rfl, .inr ⟨rfl, rfl, rfl⟩⟩
      case measure => simp [intOf]
    · obtain ⟨W2, hW2⟩ : ∃ W2, W2 = wr.setCell ⟨w.heap.size, 0, none⟩ (.int .u64 n) := ⟨_, rfl⟩
      have HW2 := Lib.hid hW2
      have hb2 : Below w.heap.size w W2 := by rw [hW2]; exact hb1.setCell (Nat.le_refl _) _
      have hk2 : BlkAt W2 w.heap.size #[.int .u64 n] 155 := by
        have := hk1.set 0 (.int .u64 n)
        rw [hW2]; simpa using this
      have c2 := hk2.cell 0
      simp only [List.getElem?_toArray, List.getElem?_cons_zero] at c2 hkc
      have hnz := HN.out
      clear hW2
      go_upto_region 19 with fail
      rw [← HW2.out]
      clear hk1 hb1 hkc hkf hcl1
      go_wp2
      go_loopw [4] (fun i wr => i = .int .i64 1 ∧ wr = W2) (fun _ _ => 0)
      case atStart => exact ⟨rfl, rfl⟩
      case round =>
        obtain ⟨rfl, rfl⟩ := hrel
        have HK2 := Lib.hid hk2
        have HB2 := Lib.hid hb2
        clear hk2 hb2
        have hv1 : val W64 (fun _ => n) 1 = n := by simp [val]
        have HV := Lib.hid hv1
        clear hv1
        go_wp2_with fail
        have hd0 : Below wr.heap.size wr wr.drew := (Below.refl _ _).drew
        go_region_held3 (fun _ => True) (exact trivial)
          (first | (go_at_call 60; (with_reducible refine (newInt_any _).mono ?_); rintro e w3 ⟨rfl, hw3⟩; have hb3 : Below wr.heap.size wr w3 := (by rw [hw3]; exact Below.alloc' hd0 _); have hn3 : NewInt w3 wr.heap.size 0 := (by rw [hw3]; exact newInt_is wr.drew); have hk3 := HK2.out.keep hb3; have hcel : Cells w3 (some ⟨w.heap.size, 0, none⟩) 1 (fun i => .int .u64 ((fun _ => n : Nat → Nat) i : Nat)) := (fun _ => ⟨w.heap.size, 0, rfl, fun i hi => (by obtain rfl : i = 0 := (by omega); rw [hk3.cell]; rfl)⟩); have hbuf : Buf 155 w3 (some ⟨w.heap.size, 0, none⟩) 1 := Or.inr ⟨w.heap.size, _, rfl, hk3, by simp⟩; clear hw3) | (go_at_call 117; go_must (with_reducible refine (setBits_any wr.heap.size 0 (some ⟨w.heap.size, 0, none⟩) 1 1 (fun _ => n) _ hn3.blk hn3.c0 ⟨_, hn3.c1⟩ (by omega) (Nat.le_refl _) (by unfold maxLen; omega) (by simp) (fun i _ => by unfold W64; omega) hcel hbuf).mono ?_); go_must (rintro e w4 ⟨rfl, hI, hU⟩)) | (go_at_call 59; (with_reducible refine (makeInt_any _ 0 false (val W64 (fun _ => n) 1) _ hI).mono ?_); rintro e w5 ⟨v, rfl, hv, rfl⟩))
        go_wp2
        go_ret
        rw [HV.out] at hv
        exact ⟨_, rfl, hv, hU.upd.below (Below.then HB2.out (Nat.le_refl _) hb3) (Nat.le_trans HB2.out.size hb3.size) (fun k _ e => by subst e; exact HB2.out.size)⟩
theorem infoU8 : (Tryz.prog.info? 5).map (fun i => (i.zero, i.size, i.bytes)) = some (some (.int .u8 0), 1, 1) := by kernel_rfl
theorem fromByte_any (g n : Nat) (w : World) (hn0 : 0 < n) (hn : n < 256) (hcl : w.cell? ⟨g, 0, none⟩ = some (.int .u8 n)) :
    Calls Tryz.prog 23 #[.slice (some ⟨g, 0, none⟩) 1 1] w (GivesV (IsZ n 1) w) := by
  obtain ⟨i0, hi, hz0, hz1, hz2⟩ := info_parts infoU8
  obtain ⟨W0, hW0⟩ : ∃ W0, W0 = w.alloc (.cells #[.int .i64 0, .bool false, .string ⟨#[]⟩, .bool false, .slice none 0 0, .slice none 0 0, .bool false, .slice none 0 0, .slice none 0 0] 26) := ⟨_, rfl⟩
  have HW := Lib.hid hW0
  have hb0 : Below w.heap.size w W0 := by rw [hW0]; exact Below.alloc' (Below.refl _ _) _
  have hR : BlkAt W0 w.heap.size #[.int .i64 0, .bool false, .string ⟨#[]⟩, .bool false, .slice none 0 0, .slice none 0 0, .bool false, .slice none 0 0, .slice none 0 0] 26 := by rw [hW0]; exact BlkAt.new w _ _
  have HC := Lib.hid (cell_keep hcl hb0)
  have HZ := Lib.hid (show ((n : Int)).natAbs < W64 ^ 1 from by rw [Nat.pow_one]; unfold W64; omega)
  clear hW0 hcl
  go_enter Tryz.func23, Tryz.ntmps23
  go_upto_region 1 with fail
  rw [← HW.out]
  go_wp2_with (at_builtin; refine wpList_append_own _ rfl (.const (.slice none 0 0)) (.tmp 3) 50 rfl W0.heap.size 5 i0 (.int .u8 0) 1 1 Tryz.underlying50 hi hz0 hz1 hz2 rfl (by decide) (.slice none 0 0) 0 [] rfl (World.ownsRow_nil _ _ _ _) ⟨g, 0, none⟩ 1 1 [.int .u8 n] rfl rfl ?_ ?_ (by unfold maxLen; omega) (by omega) (Nat.le_refl _) ?_; (focus (intro j y hj; match j, hj with | 0, hj => (simp at hj; subst hj; simp [Addr.add]; exact HC.out))); (focus (intro y hy; simp at hy; subst hy; rfl)); intro v' w1 hown hg' hnil; have hne := (fun (e : v' = .slice none 0 0) => Nat.one_ne_zero (hnil.1 e).2); clear hnil; obtain ⟨g1, cap, rfl, hg1, hgs, hnc, hcm, hcell⟩ := own_form hown hne)
  have hB1 : Below W0.heap.size W0 w1 := (Below.refl W0.heap.size W0).grown hg' (Nat.le_refl _) (fun k hk => by cases hk)
  have hR1 := hR.keep hB1
  have hb1 := Below.then hb0 (Nat.le_refl _) hB1
  have hc1 : w1.cell? ⟨g1, 0, none⟩ = some (.int .u8 n) := hcell 0 (by omega)
  clear hcell hown hne hg' hB1 hR hb0
  refine (makeFromByte_any g1 n cap _ hn0 hn (by omega) hc1).mono ?_
  rintro e w2 ⟨u, rfl, hu, hB2⟩
  have hb2 := Below.then hb1 (Nat.le_refl _) hB2
  have hR2 := hR1.keep hB2
  clear hc1 hB2 hR1 hb1
  go_wp2_with fail
  refine (toldZ_any u n _ hu 1 (by omega) HZ.out).mono ?_
  rintro e w4 ⟨y, rfl, hy, hP, hB4⟩
  have hb4 := Below.then hb2 (Nat.le_refl _) hB4
  have hR4 := hR2.keep hB4
  have HE := Lib.hid (givesV_end hR4 (Nat.le_refl _) hb4 hy hP)
  have rc0 := (hR4).cell 0; have rc1 := (hR4).cell 1; have rc2 := (hR4).cell 2; have rc3 := (hR4).cell 3; have rc4 := (hR4).cell 4; have rc5 := (hR4).cell 5; have rc6 := (hR4).cell 6; have rc7 := (hR4).cell 7; have rc8 := (hR4).cell 8; simp only [List.getElem?_toArray, List.getElem?_cons_zero, List.getElem?_cons_succ] at rc0 rc1 rc2 rc3 rc4 rc5 rc6 rc7 rc8
  have rf0 := (hR4).frozen 0; have rf1 := (hR4).frozen 1; have rf2 := (hR4).frozen 2; have rf3 := (hR4).frozen 3; have rf4 := (hR4).frozen 4; have rf5 := (hR4).frozen 5; have rf6 := (hR4).frozen 6; have rf7 := (hR4).frozen 7; have rf8 := (hR4).frozen 8
  clear hR2 hR4 hb2 hb4 hB4 hy hP
  go_wp2
  exact bodyPost_ret (v := .agg #[.int .i64 y.kind, .bool y.truth, .string y.text, .bool y.neg, .slice y.wa y.wn y.wc, .slice y.da y.dn y.dc, .bool y.ineg, .slice y.ia y.inn y.ic, .slice y.ea y.en y.ec]) (by simp [results, Tryz.results23, go_sem, rc0, rc1, rc2, rc3, rc4, rc5, rc6, rc7, rc8]) rfl HE.out
theorem field_kind (a0 a1 a2 a3 a4 a5 a6 a7 a8 : Value) (w : World) : (Instr.field 26 (.agg #[a0, a1, a2, a3, a4, a5, a6, a7, a8]) 0).run Tryz.prog w = .ok a0 w := by kernel_rfl
theorem isZ_sg {z : Int} {L : Nat} {y : Vl} (h : IsZ z L y) : sg y.neg (val W64 y.wf y.wn) = z := by
  obtain ⟨h1, h2, h3, _⟩ := h
  rw [h2, h3]
  exact sg_natAbs z
theorem isZ_kind {z : Int} {L : Nat} {y : Vl} (h : IsZ z L y) : y.kind = 3 := by
  have := h.1
  unfold intB at this
  simp only [Bool.and_eq_true, decide_eq_true_eq] at this
  exact this.1.1.1
theorem cmpZ_sub (a b : Int) : cmpZ (a - b) 0 = cmpZ a b := by
  unfold cmpZ
  split <;> split <;> (try split) <;> (try split) <;> omega
theorem cmpZ_bd (a b : Int) : -1 ≤ cmpZ a b ∧ cmpZ a b ≤ 1 := by
  unfold cmpZ
  split
  · omega
  · split <;> omega
end Go.Proofs.YtgmienggfaahlaaGreatDoor
