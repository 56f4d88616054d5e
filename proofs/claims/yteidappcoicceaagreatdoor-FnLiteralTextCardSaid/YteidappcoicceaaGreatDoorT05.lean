/-
  Contracts and lemmas: LitT.
-/
import Derived.Deep.RegionHeld3
import Derived.Deep.DeepCutAuto
import Derived.Test.YteidappcoicceaaGreatDoorT04
set_option linter.unusedSimpArgs false
set_option linter.unusedVariables false
set_option maxRecDepth 100000
set_option maxHeartbeats 8000000
namespace Go.Proofs.YteidappcoicceaaGreatDoor
open Go.RowKit Go.Bg Dg
theorem field_kind (k : Int) (s : ByteArray) (w : World) : (Instr.field 26 (.agg #[.int .i64 k, .bool false, .string s, .bool false, .slice none 0 0, .slice none 0 0, .bool false, .slice none 0 0, .slice none 0 0]) 0).run Tryz.prog w = .ok (.int .i64 k) w := by kernel_rfl
theorem litText_any (s z : ByteArray) (h : LitOk s z) (w : World) :
    Calls Tryz.prog 6 #[.string s, .int .i64 4] w fun e w' => e = .returned (.agg (txt9 z)) ∧ Below w.heap.size w w' := by
  obtain ⟨W1, hW1⟩ : ∃ W1, W1 = (w.alloc (.cells #[.int .i64 0, .bool false, .string ⟨#[]⟩, .bool false, .slice none 0 0, .slice none 0 0, .bool false, .slice none 0 0, .slice none 0 0] 26)).alloc (.cells #[.int .i64 5, .int .i64 6, .int .i64 7, .int .i64 8, .int .i64 9] 39) := ⟨_, rfl⟩
  have hB1 : Below w.heap.size w W1 := by rw [hW1]; exact Below.alloc' (Below.alloc' (Below.refl _ _) _) _
  have hR1 : BlkAt W1 w.heap.size #[.int .i64 0, .bool false, .string ⟨#[]⟩, .bool false, .slice none 0 0, .slice none 0 0, .bool false, .slice none 0 0, .slice none 0 0] 26 := by rw [hW1]; exact (BlkAt.new w #[.int .i64 0, .bool false, .string ⟨#[]⟩, .bool false, .slice none 0 0, .slice none 0 0, .bool false, .slice none 0 0, .slice none 0 0] 26).keep ((Below.refl _ _).alloc (Nat.le_refl _) _)
  have hT4 : W1.cell? ⟨w.heap.size + 1, 4, none⟩ = some (.int .i64 9) := by
    rw [hW1]; simp
  have HW := Lib.hid hW1
  clear hW1
  go_enter Tryz.func6, Tryz.ntmps6
  go_upto_region 2 with fail
  rw [← HW.out]
  go_wp2_with fail
  refine (makeLitText_any s z h _).mono ?_
  rintro e w2 ⟨b, rfl, ht, hlb, hB2⟩
  go_wp2_with fail
  have hlt : w.heap.size < b := Nat.lt_of_lt_of_le (BlkAt.lt hR1) hlb
  refine (toldTxt_any b b z _ ht (Nat.le_refl _)).mono ?_
  rintro e w3 ⟨rfl, hB3⟩
  have hR3 : BlkAt w3 w.heap.size #[.int .i64 0, .bool false, .string ⟨#[]⟩, .bool false, .slice none 0 0, .slice none 0 0, .bool false, .slice none 0 0, .slice none 0 0] 26 := by
    have h2 := hR1.keep hB2
    unfold BlkAt at h2 ⊢
    rw [hB3.block _ hlt]; exact h2
  have HB3 := Lib.hid ((Below.then hB1 (Nat.le_refl _) hB2).trans (hB3.mono (Nat.le_of_lt hlt)))
  clear hB1 hB2 hB3 hR1 ht hlb hlt HW hT4
  unfold txt9
  have rc0 := (hR3).cell 0; have rc1 := (hR3).cell 1; have rc2 := (hR3).cell 2; have rc3 := (hR3).cell 3; have rc4 := (hR3).cell 4; have rc5 := (hR3).cell 5; have rc6 := (hR3).cell 6; have rc7 := (hR3).cell 7; have rc8 := (hR3).cell 8; simp only [List.getElem?_toArray, List.getElem?_cons_zero, List.getElem?_cons_succ] at rc0 rc1 rc2 rc3 rc4 rc5 rc6 rc7 rc8
  have rf0 := (hR3).frozen 0; have rf1 := (hR3).frozen 1; have rf2 := (hR3).frozen 2; have rf3 := (hR3).frozen 3; have rf4 := (hR3).frozen 4; have rf5 := (hR3).frozen 5; have rf6 := (hR3).frozen 6; have rf7 := (hR3).frozen 7; have rf8 := (hR3).frozen 8
  clear hR3
  go_wp2
  refine bodyPost_ret (v := .agg #[.int .i64 2, .bool false, .string z, .bool false, .slice none 0 0, .slice none 0 0, .bool false, .slice none 0 0, .slice none 0 0]) (by simp [results, Tryz.results6, go_sem, rc0, rc1, rc2, rc3, rc4, rc5, rc6, rc7, rc8]) rfl ⟨rfl, ?_⟩
  iterate 9 refine Below.setCell ?_ (by exact Nat.le_refl _) _
  exact HB3.out
theorem litBad_any (s : ByteArray) (te : TypeId) (pe : Value) (w : World) (hE : w.cell? ⟨0, 0, none⟩ = some (.iface te pe)) (hl : s.size ≤ 1000) (hq : ∀ h : 0 < s.size, s[0]'h ≠ 34 ∧ s[0]'h ≠ 96 ∧ s[0]'h ≠ 39) :
    Calls Tryz.prog 6 #[.string s, .int .i64 4] w fun e w' => e = .returned (.agg unk9) ∧ Below w.heap.size w w' := by
  obtain ⟨W1, hW1⟩ : ∃ W1, W1 = (w.alloc (.cells #[.int .i64 0, .bool false, .string ⟨#[]⟩, .bool false, .slice none 0 0, .slice none 0 0, .bool false, .slice none 0 0, .slice none 0 0] 26)).alloc (.cells #[.int .i64 5, .int .i64 6, .int .i64 7, .int .i64 8, .int .i64 9] 39) := ⟨_, rfl⟩
  have hB1 : Below w.heap.size w W1 := by rw [hW1]; exact Below.alloc' (Below.alloc' (Below.refl _ _) _) _
  have hR1 : BlkAt W1 w.heap.size #[.int .i64 0, .bool false, .string ⟨#[]⟩, .bool false, .slice none 0 0, .slice none 0 0, .bool false, .slice none 0 0, .slice none 0 0] 26 := by rw [hW1]; exact (BlkAt.new w #[.int .i64 0, .bool false, .string ⟨#[]⟩, .bool false, .slice none 0 0, .slice none 0 0, .bool false, .slice none 0 0, .slice none 0 0] 26).keep ((Below.refl _ _).alloc (Nat.le_refl _) _)
  have hT4 : W1.cell? ⟨w.heap.size + 1, 4, none⟩ = some (.int .i64 9) := by
    rw [hW1]; simp
  have HW := Lib.hid hW1
  have c := makeLitBad_any s te pe W1 fun w' hb => unquoteErr_any s hl hq te pe w' (cellAt_keep (cellAt_keep hE hB1) hb)
  clear hW1 hE
  go_enter Tryz.func6, Tryz.ntmps6
  go_upto_region 2 with fail
  rw [← HW.out]
  go_wp2_with fail
  refine c.mono ?_
  rintro e w2 ⟨rfl, hB2⟩
  clear c
  go_wp2_with fail
  refine (toldUnk_any _).mono ?_
  rintro e w3 ⟨rfl, hB3⟩
  have hR3 := (hR1.keep hB2).keep hB3
  have HB3 := Lib.hid (Below.then (Below.then hB1 (Nat.le_refl _) hB2) (Nat.le_refl _) hB3)
  clear hB1 hB2 hB3 hR1 HW hT4
  unfold unk9
  have rc0 := (hR3).cell 0; have rc1 := (hR3).cell 1; have rc2 := (hR3).cell 2; have rc3 := (hR3).cell 3; have rc4 := (hR3).cell 4; have rc5 := (hR3).cell 5; have rc6 := (hR3).cell 6; have rc7 := (hR3).cell 7; have rc8 := (hR3).cell 8; simp only [List.getElem?_toArray, List.getElem?_cons_zero, List.getElem?_cons_succ] at rc0 rc1 rc2 rc3 rc4 rc5 rc6 rc7 rc8
  have rf0 := (hR3).frozen 0; have rf1 := (hR3).frozen 1; have rf2 := (hR3).frozen 2; have rf3 := (hR3).frozen 3; have rf4 := (hR3).frozen 4; have rf5 := (hR3).frozen 5; have rf6 := (hR3).frozen 6; have rf7 := (hR3).frozen 7; have rf8 := (hR3).frozen 8
  clear hR3
  go_wp2
  refine bodyPost_ret (v := .agg #[.int .i64 0, .bool false, .string ⟨#[]⟩, .bool false, .slice none 0 0, .slice none 0 0, .bool false, .slice none 0 0, .slice none 0 0]) (by simp [results, Tryz.results6, go_sem, rc0, rc1, rc2, rc3, rc4, rc5, rc6, rc7, rc8]) rfl ⟨rfl, ?_⟩
  iterate 9 refine Below.setCell ?_ (by exact Nat.le_refl _) _
  exact HB3.out
end Go.Proofs.YteidappcoicceaaGreatDoor
