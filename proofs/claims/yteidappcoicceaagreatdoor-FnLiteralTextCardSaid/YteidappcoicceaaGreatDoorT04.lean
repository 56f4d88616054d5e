/-
  Contracts and lemmas: Ta TxT.
-/
import Derived.Test.YteidappcoicceaaGreatDoorT01
import Derived.Test.YteidappcoicceaaGreatDoorT03
import Derived.Test.YteidappcoicceaaGreatDoorT00
set_option linter.unusedSimpArgs false
set_option linter.unusedVariables false
set_option maxRecDepth 100000
set_option maxHeartbeats 8000000
namespace Go.Proofs.YteidappcoicceaaGreatDoor
theorem ta_pstringVal : (∀ (v : Value) (w : World), (Instr.typeAssert (.iface 87 v) 43 78 true).run Tryz.prog w = .ok (.tuple #[.agg #[], .bool false]) w) ∧
    (∀ (v : Value) (w : World), (Instr.typeAssert (.iface 87 v) 43 86 true).run Tryz.prog w = .ok (.tuple #[.bool false, .bool false]) w) ∧
    (∀ (v : Value) (w : World), (Instr.typeAssert (.iface 87 v) 43 63 true).run Tryz.prog w = .ok (.tuple #[.int .i64 0, .bool false]) w) ∧
    (∀ (v : Value) (w : World), (Instr.typeAssert (.iface 87 v) 43 69 true).run Tryz.prog w = .ok (.tuple #[.agg #[.pointer none], .bool false]) w) ∧
    (∀ (v : Value) (w : World), (Instr.typeAssert (.iface 87 v) 43 104 true).run Tryz.prog w = .ok (.tuple #[.agg #[.pointer none], .bool false]) w) ∧
    (∀ (v : Value) (w : World), (Instr.typeAssert (.iface 87 v) 43 106 true).run Tryz.prog w = .ok (.tuple #[.agg #[.pointer none], .bool false]) w) ∧
    (∀ (v : Value) (w : World), (Instr.typeAssert (.iface 87 v) 43 108 true).run Tryz.prog w = .ok (.tuple #[.agg #[.nilIface, .nilIface], .bool false]) w) ∧
    (∀ (v : Value) (w : World), (Instr.typeAssert (.iface 87 v) 43 87 true).run Tryz.prog w = .ok (.tuple #[v, .bool true]) w) ∧
    (∀ (v : Value) (w : World), (Instr.typeAssert (.iface 87 v) 43 87 false).run Tryz.prog w = .ok v w) := by
  refine ⟨?_, ?_, ?_, ?_, ?_, ?_, ?_, ?_, ?_⟩ <;> (intro v w; kernel_rfl)
end Go.Proofs.YteidappcoicceaaGreatDoor
namespace Go.Proofs.YteidappcoicceaaGreatDoor
open Go.RowKit Go.Bg Dg
theorem methodKindUnk (x : Value) (w : World) : (method 442 78 x "Kind").run Tryz.prog w = .ok (296, x) w := by kernel_rfl
theorem methodKindTxt (x : Value) (w : World) : (method 442 87 x "Kind").run Tryz.prog w = .ok (304, x) w := by kernel_rfl
theorem kindUnk_any (w : World) : Calls Tryz.prog 296 #[.agg #[]] w fun e w' => e = .returned (.int .i64 0) ∧ Below w.heap.size w w' := by
  have HB := Lib.hid (fun o => (Below.refl w.heap.size w).alloc (Nat.le_refl _) o)
  go_enter Tryz.func296, Tryz.ntmps296
  go_wp2
  go_ret
  first
    | exact ⟨rfl, HB.out _⟩
    | exact ⟨rfl, Below.refl _ _⟩
theorem kindTxt_any (p : Value) (w : World) : Calls Tryz.prog 304 #[p] w fun e w' => e = .returned (.int .i64 2) ∧ w = w' := by
  go_enter Tryz.func304, Tryz.ntmps304
  go_wp2
  go_ret
  exact ⟨rfl, rfl⟩
theorem makeString_any (s : ByteArray) (w : World) :
    Calls Tryz.prog 31 #[.string s] w fun e w' => ∃ b, e = .returned (.iface 87 (.pointer (some ⟨b, 0, none⟩))) ∧ TextAt w' b s ∧ w.heap.size ≤ b ∧ Below w.heap.size w w' := by
  have HB := Lib.hid (fun o => (Below.refl w.heap.size w).alloc (Nat.le_refl _) o)
  by_cases h0 : s.size = 0
  · have hs : s = ⟨#[]⟩ := by
      obtain ⟨⟨l⟩⟩ := s
      simp [ByteArray.size] at h0
      simp [h0]
    subst hs
    have HN := Lib.hid (BlkAt.new w #[.int .i32 0, .int .u32 0, .string ⟨#[]⟩, .pointer none, .pointer none] 136)
    go_enter Tryz.func31, Tryz.ntmps31
    go_wp2
    go_ret
    exact ⟨_, rfl, HN.out, Nat.le_refl _, HB.out _⟩
  · have hne : s.toList.isEmpty = false := by
      rw [Go.Lib.toList_data]
      cases h : s.data.toList with
      | nil => exact absurd (by rw [Go.Lib.size_eq, h]; rfl) h0
      | cons => rfl
    have HN := Lib.hid (BlkAt.new w #[.int .i32 0, .int .u32 0, .string s, .pointer none, .pointer none] 136)
    go_enter Tryz.func31, Tryz.ntmps31
    go_wp2
    go_ret
    exact ⟨_, rfl, HN.out, Nat.le_refl _, HB.out _⟩
def txt9 (s : ByteArray) : Array Value := #[.int .i64 2, .bool false, .string s, .bool false, .slice none 0 0, .slice none 0 0, .bool false, .slice none 0 0, .slice none 0 0]
def unk9 : Array Value := #[.int .i64 0, .bool false, .string ⟨#[]⟩, .bool false, .slice none 0 0, .slice none 0 0, .bool false, .slice none 0 0, .slice none 0 0]
theorem toldUnk_any (w : World) : Calls Tryz.prog 11 #[.iface 78 (.agg #[])] w fun e w' => e = .returned (.agg unk9) ∧ Below w.heap.size w w' := by
  unfold unk9
  have hm := methodKindUnk
  have hb0 : Below w.heap.size w (w.alloc (.cells #[.int .i64 0, .bool false, .string ⟨#[]⟩, .bool false, .slice none 0 0, .slice none 0 0, .bool false, .slice none 0 0, .slice none 0 0] 26)) := Below.alloc' (Below.refl _ _) _
  have hR0 := BlkAt.new w #[.int .i64 0, .bool false, .string ⟨#[]⟩, .bool false, .slice none 0 0, .slice none 0 0, .bool false, .slice none 0 0, .slice none 0 0] 26
  go_enter Tryz.func11, Tryz.ntmps11
  go_wp2_with fail
  refine (kindUnk_any _).mono ?_
  rintro e w1 ⟨rfl, hB1⟩
  have hR1 := (hR0.keep hB1).keep ((Below.refl _ _).alloc (Nat.le_refl _) (.cells #[.int .i64 0, .bool false, .string ⟨#[]⟩, .bool false, .slice none 0 0, .slice none 0 0, .bool false, .slice none 0 0, .slice none 0 0] 26))
  have hO1 := BlkAt.new w1 #[.int .i64 0, .bool false, .string ⟨#[]⟩, .bool false, .slice none 0 0, .slice none 0 0, .bool false, .slice none 0 0, .slice none 0 0] 26
  have hb1 := Below.alloc' (Below.then hb0 (Nat.le_refl _) hB1) (.cells #[.int .i64 0, .bool false, .string ⟨#[]⟩, .bool false, .slice none 0 0, .slice none 0 0, .bool false, .slice none 0 0, .slice none 0 0] 26)
  have hlt1 := (hR0.keep hB1).lt
  clear hR0 hb0 hB1
  go_wp2_with fail
  refine (kindUnk_any _).mono ?_
  rintro e w2 ⟨rfl, hB2⟩
  have hR2 := hR1.keep hB2
  have hO2 := hO1.keep hB2
  have HB2 := Lib.hid (Below.then hb1 (Nat.le_refl _) hB2)
  have hne : w.heap.size ≠ w1.heap.size := Nat.ne_of_lt hlt1
  clear hR1 hO1 hb1 hB2
  have oc0 := (hO2).cell 0; have oc1 := (hO2).cell 1; have oc2 := (hO2).cell 2; have oc3 := (hO2).cell 3; have oc4 := (hO2).cell 4; have oc5 := (hO2).cell 5; have oc6 := (hO2).cell 6; have oc7 := (hO2).cell 7; have oc8 := (hO2).cell 8; simp only [List.getElem?_toArray, List.getElem?_cons_zero, List.getElem?_cons_succ] at oc0 oc1 oc2 oc3 oc4 oc5 oc6 oc7 oc8
  have of0 := (hO2).frozen 0; have of1 := (hO2).frozen 1; have of2 := (hO2).frozen 2; have of3 := (hO2).frozen 3; have of4 := (hO2).frozen 4; have of5 := (hO2).frozen 5; have of6 := (hO2).frozen 6; have of7 := (hO2).frozen 7; have of8 := (hO2).frozen 8
  have rc0 := (hR2).cell 0; have rc1 := (hR2).cell 1; have rc2 := (hR2).cell 2; have rc3 := (hR2).cell 3; have rc4 := (hR2).cell 4; have rc5 := (hR2).cell 5; have rc6 := (hR2).cell 6; have rc7 := (hR2).cell 7; have rc8 := (hR2).cell 8; simp only [List.getElem?_toArray, List.getElem?_cons_zero, List.getElem?_cons_succ] at rc0 rc1 rc2 rc3 rc4 rc5 rc6 rc7 rc8
  have rf0 := (hR2).frozen 0; have rf1 := (hR2).frozen 1; have rf2 := (hR2).frozen 2; have rf3 := (hR2).frozen 3; have rf4 := (hR2).frozen 4; have rf5 := (hR2).frozen 5; have rf6 := (hR2).frozen 6; have rf7 := (hR2).frozen 7; have rf8 := (hR2).frozen 8
  clear hm hO2 hR2
  go_wp2
  refine bodyPost_ret (v := .agg #[.int .i64 0, .bool false, .string ⟨#[]⟩, .bool false, .slice none 0 0, .slice none 0 0, .bool false, .slice none 0 0, .slice none 0 0]) (by simp [results, Tryz.results11, go_sem, rc0, rc1, rc2, rc3, rc4, rc5, rc6, rc7, rc8]) rfl ⟨rfl, ?_⟩
  iterate 9 refine Below.setCell ?_ (by exact Nat.le_refl _) _
  exact HB2.out
theorem stringVal_any (b : Nat) (s : ByteArray) (w : World) (h : TextAt w b s) :
    Calls Tryz.prog 19 #[.iface 87 (.pointer (some ⟨b, 0, none⟩))] w fun e w' => e = .returned (.string s) ∧ Upd (· = b) w w' := by
  have hta := ta_pstringVal
  obtain ⟨t1, t2, t3, t4, t5, t6, t7, t8, t9⟩ := hta
  have c := stringOf_any b s w h
  clear h
  go_enter Tryz.func19, Tryz.ntmps19
  go_wp2_with (go_at_call 38; refine c.mono ?_; rintro e w2 ⟨rfl, rfl⟩)
  go_ret
  exact ⟨rfl, ((Upd.refl _ _).setCell (by exact rfl) _).setCell (by exact rfl) _⟩
theorem toldTxt_any (b B : Nat) (s : ByteArray) (w : World) (h : TextAt w b s) (hB : B ≤ b) :
    Calls Tryz.prog 11 #[.iface 87 (.pointer (some ⟨b, 0, none⟩))] w fun e w' => e = .returned (.agg (txt9 s)) ∧ Below B w w' := by
  unfold txt9
  have hm := methodKindTxt
  have hlb := BlkAt.lt h
  have hb0 : Below w.heap.size w (w.alloc (.cells #[.int .i64 0, .bool false, .string ⟨#[]⟩, .bool false, .slice none 0 0, .slice none 0 0, .bool false, .slice none 0 0, .slice none 0 0] 26)) := Below.alloc' (Below.refl _ _) _
  have hR0 := BlkAt.new w #[.int .i64 0, .bool false, .string ⟨#[]⟩, .bool false, .slice none 0 0, .slice none 0 0, .bool false, .slice none 0 0, .slice none 0 0] 26
  go_enter Tryz.func11, Tryz.ntmps11
  go_wp2_with fail
  refine (kindTxt_any _ _).mono ?_
  rintro e w1 ⟨rfl, rfl⟩
  obtain ⟨W1, hW1⟩ : ∃ W1, W1 = (w.alloc (.cells #[.int .i64 0, .bool false, .string ⟨#[]⟩, .bool false, .slice none 0 0, .slice none 0 0, .bool false, .slice none 0 0, .slice none 0 0] 26)).alloc (.cells #[.int .i64 2, .bool false, .string ⟨#[]⟩, .bool false, .slice none 0 0, .slice none 0 0, .bool false, .slice none 0 0, .slice none 0 0] 26) := ⟨_, rfl⟩
  have hB1 : Below w.heap.size w W1 := by rw [hW1]; exact Below.alloc' hb0 _
  have hO1 : BlkAt W1 (w.heap.size + 1) #[.int .i64 2, .bool false, .string ⟨#[]⟩, .bool false, .slice none 0 0, .slice none 0 0, .bool false, .slice none 0 0, .slice none 0 0] 26 := by rw [hW1]; have := BlkAt.new (w.alloc (.cells #[.int .i64 0, .bool false, .string ⟨#[]⟩, .bool false, .slice none 0 0, .slice none 0 0, .bool false, .slice none 0 0, .slice none 0 0] 26)) #[.int .i64 2, .bool false, .string ⟨#[]⟩, .bool false, .slice none 0 0, .slice none 0 0, .bool false, .slice none 0 0, .slice none 0 0] 26; simpa using this
  have hR1 : BlkAt W1 w.heap.size #[.int .i64 0, .bool false, .string ⟨#[]⟩, .bool false, .slice none 0 0, .slice none 0 0, .bool false, .slice none 0 0, .slice none 0 0] 26 := by rw [hW1]; exact hR0.keep ((Below.refl _ _).alloc (Nat.le_refl _) _)
  have HW := Lib.hid hW1
  have ht1 : TextAt W1 b s := BlkAt.keep h hB1
  clear hW1 hR0 hb0 h
  go_wp2_with fail
  rw [← HW.out]
  refine (kindTxt_any _ _).mono ?_
  rintro e w1 ⟨rfl, rfl⟩
  have c := stringVal_any b s W1 ht1
  have hne1 : ¬ (w.heap.size = b) := by omega
  have hne2 : ¬ (w.heap.size + 1 = b) := by omega
  go_wp2_with fail
  refine c.mono ?_
  rintro e w2 ⟨rfl, hU2⟩
  have hO2 := hU2.blk hO1 hne2
  have hR2 := hU2.blk hR1 hne1
  have hbs : B ≤ w.heap.size := Nat.le_trans hB (Nat.le_of_lt hlb)
  have hbs1 : B ≤ w.heap.size + 1 := Nat.le_succ_of_le hbs
  have HB2 := Lib.hid (hU2.below (hB1.mono hbs) (Nat.le_trans hbs hB1.size) (fun k hk e => by omega))
  clear hO1 hR1 hU2 c ht1 HW hne1 hne2
  have oc0 := (hO2).cell 0; have oc1 := (hO2).cell 1; have oc2 := (hO2).cell 2; have oc3 := (hO2).cell 3; have oc4 := (hO2).cell 4; have oc5 := (hO2).cell 5; have oc6 := (hO2).cell 6; have oc7 := (hO2).cell 7; have oc8 := (hO2).cell 8; simp only [List.getElem?_toArray, List.getElem?_cons_zero, List.getElem?_cons_succ] at oc0 oc1 oc2 oc3 oc4 oc5 oc6 oc7 oc8
  have of0 := (hO2).frozen 0; have of1 := (hO2).frozen 1; have of2 := (hO2).frozen 2; have of3 := (hO2).frozen 3; have of4 := (hO2).frozen 4; have of5 := (hO2).frozen 5; have of6 := (hO2).frozen 6; have of7 := (hO2).frozen 7; have of8 := (hO2).frozen 8
  have rc0 := (hR2).cell 0; have rc1 := (hR2).cell 1; have rc2 := (hR2).cell 2; have rc3 := (hR2).cell 3; have rc4 := (hR2).cell 4; have rc5 := (hR2).cell 5; have rc6 := (hR2).cell 6; have rc7 := (hR2).cell 7; have rc8 := (hR2).cell 8; simp only [List.getElem?_toArray, List.getElem?_cons_zero, List.getElem?_cons_succ] at rc0 rc1 rc2 rc3 rc4 rc5 rc6 rc7 rc8
  have rf0 := (hR2).frozen 0; have rf1 := (hR2).frozen 1; have rf2 := (hR2).frozen 2; have rf3 := (hR2).frozen 3; have rf4 := (hR2).frozen 4; have rf5 := (hR2).frozen 5; have rf6 := (hR2).frozen 6; have rf7 := (hR2).frozen 7; have rf8 := (hR2).frozen 8
  clear hm hO2 hR2
  go_wp2
  refine bodyPost_ret (v := .agg #[.int .i64 2, .bool false, .string s, .bool false, .slice none 0 0, .slice none 0 0, .bool false, .slice none 0 0, .slice none 0 0]) (by simp [results, Tryz.results11, go_sem, rc0, rc1, rc2, rc3, rc4, rc5, rc6, rc7, rc8]) rfl ⟨rfl, ?_⟩
  iterate 10 refine Below.setCell ?_ (by first | exact hbs | exact hbs1) _
  exact HB2.out
def LitOk (s z : ByteArray) : Prop := ∀ w, Calls Tryz.prog 30 #[.string s] w fun e w' => e = .returned (.tuple #[.string z, .nilIface]) ∧ Below w.heap.size w w'
theorem makeLitText_any (s z : ByteArray) (h : LitOk s z) (w : World) :
    Calls Tryz.prog 12 #[.string s, .int .i64 9, .int .u64 0] w fun e w' => ∃ b, e = .returned (.iface 87 (.pointer (some ⟨b, 0, none⟩))) ∧ TextAt w' b z ∧ w.heap.size ≤ b ∧ Below w.heap.size w w' := by
  go_enter Tryz.func12, Tryz.ntmps12
  go_wp2_with (first
    | (go_at_call 30; refine (h _).mono ?_; rintro e w2 ⟨rfl, hb2⟩)
    | (go_at_call 31; refine (makeString_any z _).mono ?_; rintro e w3 ⟨b, rfl, ht, hlb, hb3⟩))
  go_ret
  exact ⟨b, rfl, ht, Nat.le_trans hb2.size hlb, Below.then hb2 (Nat.le_refl _) hb3⟩
theorem makeLitBad_any (s : ByteArray) (te : TypeId) (pe : Value) (w : World) (h : ∀ w', Below w.heap.size w w' → Calls Tryz.prog 30 #[.string s] w' fun e w2 => e = .returned (.tuple #[.string ⟨#[]⟩, .iface te pe]) ∧ Below w'.heap.size w' w2) :
    Calls Tryz.prog 12 #[.string s, .int .i64 9, .int .u64 0] w fun e w' => e = .returned (.iface 78 (.agg #[])) ∧ Below w.heap.size w w' := by
  have c := h w (Below.refl _ _)
  clear h
  go_enter Tryz.func12, Tryz.ntmps12
  go_wp2_with (go_at_call 30; refine c.mono ?_; rintro e w2 ⟨rfl, hb2⟩)
  go_ret
  exact ⟨rfl, hb2⟩
end Go.Proofs.YteidappcoicceaaGreatDoor
