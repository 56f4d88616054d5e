/-
  What a type assertion answers, by the dynamic type and the asked one (printed by gen_ta.py).
-/
import Derived.Test.YtdepmbpickonoaaGreatDoorKitP
set_option linter.unusedSimpArgs false
set_option linter.unusedVariables false
namespace Go.Proofs.YtdepmbpickonoaaGreatDoor
theorem ta_unknownVal : (∀ (v : Value) (w : World), (Instr.typeAssert (.iface 55 v) 47 55 true).run Tryz.prog w = .ok (.tuple #[v, .bool true]) w) ∧
    (∀ (v : Value) (w : World), (Instr.typeAssert (.iface 55 v) 47 56 true).run Tryz.prog w = .ok (.tuple #[.bool false, .bool false]) w) ∧
    (∀ (v : Value) (w : World), (Instr.typeAssert (.iface 55 v) 47 57 true).run Tryz.prog w = .ok (.tuple #[.int .i64 0, .bool false]) w) ∧
    (∀ (v : Value) (w : World), (Instr.typeAssert (.iface 55 v) 47 60 true).run Tryz.prog w = .ok (.tuple #[.agg #[.pointer none], .bool false]) w) ∧
    (∀ (v : Value) (w : World), (Instr.typeAssert (.iface 55 v) 47 65 true).run Tryz.prog w = .ok (.tuple #[.agg #[.pointer none], .bool false]) w) ∧
    (∀ (v : Value) (w : World), (Instr.typeAssert (.iface 55 v) 47 69 true).run Tryz.prog w = .ok (.tuple #[.agg #[.pointer none], .bool false]) w) ∧
    (∀ (v : Value) (w : World), (Instr.typeAssert (.iface 55 v) 47 72 true).run Tryz.prog w = .ok (.tuple #[.agg #[.nilIface, .nilIface], .bool false]) w) ∧
    (∀ (v : Value) (w : World), (Instr.typeAssert (.iface 55 v) 47 73 true).run Tryz.prog w = .ok (.tuple #[.pointer none, .bool false]) w) ∧
    (∀ (v : Value) (w : World), (Instr.typeAssert (.iface 55 v) 47 55 false).run Tryz.prog w = .ok v w) := by
  refine ⟨?_, ?_, ?_, ?_, ?_, ?_, ?_, ?_, ?_⟩ <;> (intro v w; kernel_rfl)
theorem ta_boolVal : (∀ (v : Value) (w : World), (Instr.typeAssert (.iface 56 v) 47 55 true).run Tryz.prog w = .ok (.tuple #[.agg #[], .bool false]) w) ∧
    (∀ (v : Value) (w : World), (Instr.typeAssert (.iface 56 v) 47 56 true).run Tryz.prog w = .ok (.tuple #[v, .bool true]) w) ∧
    (∀ (v : Value) (w : World), (Instr.typeAssert (.iface 56 v) 47 57 true).run Tryz.prog w = .ok (.tuple #[.int .i64 0, .bool false]) w) ∧
    (∀ (v : Value) (w : World), (Instr.typeAssert (.iface 56 v) 47 60 true).run Tryz.prog w = .ok (.tuple #[.agg #[.pointer none], .bool false]) w) ∧
    (∀ (v : Value) (w : World), (Instr.typeAssert (.iface 56 v) 47 65 true).run Tryz.prog w = .ok (.tuple #[.agg #[.pointer none], .bool false]) w) ∧
    (∀ (v : Value) (w : World), (Instr.typeAssert (.iface 56 v) 47 69 true).run Tryz.prog w = .ok (.tuple #[.agg #[.pointer none], .bool false]) w) ∧
    (∀ (v : Value) (w : World), (Instr.typeAssert (.iface 56 v) 47 72 true).run Tryz.prog w = .ok (.tuple #[.agg #[.nilIface, .nilIface], .bool false]) w) ∧
    (∀ (v : Value) (w : World), (Instr.typeAssert (.iface 56 v) 47 73 true).run Tryz.prog w = .ok (.tuple #[.pointer none, .bool false]) w) ∧
    (∀ (v : Value) (w : World), (Instr.typeAssert (.iface 56 v) 47 56 false).run Tryz.prog w = .ok v w) := by
  refine ⟨?_, ?_, ?_, ?_, ?_, ?_, ?_, ?_, ?_⟩ <;> (intro v w; kernel_rfl)
theorem ta_int64Val : (∀ (v : Value) (w : World), (Instr.typeAssert (.iface 57 v) 47 55 true).run Tryz.prog w = .ok (.tuple #[.agg #[], .bool false]) w) ∧
    (∀ (v : Value) (w : World), (Instr.typeAssert (.iface 57 v) 47 56 true).run Tryz.prog w = .ok (.tuple #[.bool false, .bool false]) w) ∧
    (∀ (v : Value) (w : World), (Instr.typeAssert (.iface 57 v) 47 57 true).run Tryz.prog w = .ok (.tuple #[v, .bool true]) w) ∧
    (∀ (v : Value) (w : World), (Instr.typeAssert (.iface 57 v) 47 60 true).run Tryz.prog w = .ok (.tuple #[.agg #[.pointer none], .bool false]) w) ∧
    (∀ (v : Value) (w : World), (Instr.typeAssert (.iface 57 v) 47 65 true).run Tryz.prog w = .ok (.tuple #[.agg #[.pointer none], .bool false]) w) ∧
    (∀ (v : Value) (w : World), (Instr.typeAssert (.iface 57 v) 47 69 true).run Tryz.prog w = .ok (.tuple #[.agg #[.pointer none], .bool false]) w) ∧
    (∀ (v : Value) (w : World), (Instr.typeAssert (.iface 57 v) 47 72 true).run Tryz.prog w = .ok (.tuple #[.agg #[.nilIface, .nilIface], .bool false]) w) ∧
    (∀ (v : Value) (w : World), (Instr.typeAssert (.iface 57 v) 47 73 true).run Tryz.prog w = .ok (.tuple #[.pointer none, .bool false]) w) ∧
    (∀ (v : Value) (w : World), (Instr.typeAssert (.iface 57 v) 47 57 false).run Tryz.prog w = .ok v w) := by
  refine ⟨?_, ?_, ?_, ?_, ?_, ?_, ?_, ?_, ?_⟩ <;> (intro v w; kernel_rfl)
theorem ta_intVal : (∀ (v : Value) (w : World), (Instr.typeAssert (.iface 60 v) 47 55 true).run Tryz.prog w = .ok (.tuple #[.agg #[], .bool false]) w) ∧
    (∀ (v : Value) (w : World), (Instr.typeAssert (.iface 60 v) 47 56 true).run Tryz.prog w = .ok (.tuple #[.bool false, .bool false]) w) ∧
    (∀ (v : Value) (w : World), (Instr.typeAssert (.iface 60 v) 47 57 true).run Tryz.prog w = .ok (.tuple #[.int .i64 0, .bool false]) w) ∧
    (∀ (v : Value) (w : World), (Instr.typeAssert (.iface 60 v) 47 60 true).run Tryz.prog w = .ok (.tuple #[v, .bool true]) w) ∧
    (∀ (v : Value) (w : World), (Instr.typeAssert (.iface 60 v) 47 65 true).run Tryz.prog w = .ok (.tuple #[.agg #[.pointer none], .bool false]) w) ∧
    (∀ (v : Value) (w : World), (Instr.typeAssert (.iface 60 v) 47 69 true).run Tryz.prog w = .ok (.tuple #[.agg #[.pointer none], .bool false]) w) ∧
    (∀ (v : Value) (w : World), (Instr.typeAssert (.iface 60 v) 47 72 true).run Tryz.prog w = .ok (.tuple #[.agg #[.nilIface, .nilIface], .bool false]) w) ∧
    (∀ (v : Value) (w : World), (Instr.typeAssert (.iface 60 v) 47 73 true).run Tryz.prog w = .ok (.tuple #[.pointer none, .bool false]) w) ∧
    (∀ (v : Value) (w : World), (Instr.typeAssert (.iface 60 v) 47 60 false).run Tryz.prog w = .ok v w) := by
  refine ⟨?_, ?_, ?_, ?_, ?_, ?_, ?_, ?_, ?_⟩ <;> (intro v w; kernel_rfl)
theorem ta_ratVal : (∀ (v : Value) (w : World), (Instr.typeAssert (.iface 65 v) 47 55 true).run Tryz.prog w = .ok (.tuple #[.agg #[], .bool false]) w) ∧
    (∀ (v : Value) (w : World), (Instr.typeAssert (.iface 65 v) 47 56 true).run Tryz.prog w = .ok (.tuple #[.bool false, .bool false]) w) ∧
    (∀ (v : Value) (w : World), (Instr.typeAssert (.iface 65 v) 47 57 true).run Tryz.prog w = .ok (.tuple #[.int .i64 0, .bool false]) w) ∧
    (∀ (v : Value) (w : World), (Instr.typeAssert (.iface 65 v) 47 60 true).run Tryz.prog w = .ok (.tuple #[.agg #[.pointer none], .bool false]) w) ∧
    (∀ (v : Value) (w : World), (Instr.typeAssert (.iface 65 v) 47 65 true).run Tryz.prog w = .ok (.tuple #[v, .bool true]) w) ∧
    (∀ (v : Value) (w : World), (Instr.typeAssert (.iface 65 v) 47 69 true).run Tryz.prog w = .ok (.tuple #[.agg #[.pointer none], .bool false]) w) ∧
    (∀ (v : Value) (w : World), (Instr.typeAssert (.iface 65 v) 47 72 true).run Tryz.prog w = .ok (.tuple #[.agg #[.nilIface, .nilIface], .bool false]) w) ∧
    (∀ (v : Value) (w : World), (Instr.typeAssert (.iface 65 v) 47 73 true).run Tryz.prog w = .ok (.tuple #[.pointer none, .bool false]) w) ∧
    (∀ (v : Value) (w : World), (Instr.typeAssert (.iface 65 v) 47 65 false).run Tryz.prog w = .ok v w) := by
  refine ⟨?_, ?_, ?_, ?_, ?_, ?_, ?_, ?_, ?_⟩ <;> (intro v w; kernel_rfl)
theorem ta_floatVal : (∀ (v : Value) (w : World), (Instr.typeAssert (.iface 69 v) 47 55 true).run Tryz.prog w = .ok (.tuple #[.agg #[], .bool false]) w) ∧
    (∀ (v : Value) (w : World), (Instr.typeAssert (.iface 69 v) 47 56 true).run Tryz.prog w = .ok (.tuple #[.bool false, .bool false]) w) ∧
    (∀ (v : Value) (w : World), (Instr.typeAssert (.iface 69 v) 47 57 true).run Tryz.prog w = .ok (.tuple #[.int .i64 0, .bool false]) w) ∧
    (∀ (v : Value) (w : World), (Instr.typeAssert (.iface 69 v) 47 60 true).run Tryz.prog w = .ok (.tuple #[.agg #[.pointer none], .bool false]) w) ∧
    (∀ (v : Value) (w : World), (Instr.typeAssert (.iface 69 v) 47 65 true).run Tryz.prog w = .ok (.tuple #[.agg #[.pointer none], .bool false]) w) ∧
    (∀ (v : Value) (w : World), (Instr.typeAssert (.iface 69 v) 47 69 true).run Tryz.prog w = .ok (.tuple #[v, .bool true]) w) ∧
    (∀ (v : Value) (w : World), (Instr.typeAssert (.iface 69 v) 47 72 true).run Tryz.prog w = .ok (.tuple #[.agg #[.nilIface, .nilIface], .bool false]) w) ∧
    (∀ (v : Value) (w : World), (Instr.typeAssert (.iface 69 v) 47 73 true).run Tryz.prog w = .ok (.tuple #[.pointer none, .bool false]) w) ∧
    (∀ (v : Value) (w : World), (Instr.typeAssert (.iface 69 v) 47 69 false).run Tryz.prog w = .ok v w) := by
  refine ⟨?_, ?_, ?_, ?_, ?_, ?_, ?_, ?_, ?_⟩ <;> (intro v w; kernel_rfl)
theorem ta_complexVal : (∀ (v : Value) (w : World), (Instr.typeAssert (.iface 72 v) 47 55 true).run Tryz.prog w = .ok (.tuple #[.agg #[], .bool false]) w) ∧
    (∀ (v : Value) (w : World), (Instr.typeAssert (.iface 72 v) 47 56 true).run Tryz.prog w = .ok (.tuple #[.bool false, .bool false]) w) ∧
    (∀ (v : Value) (w : World), (Instr.typeAssert (.iface 72 v) 47 57 true).run Tryz.prog w = .ok (.tuple #[.int .i64 0, .bool false]) w) ∧
    (∀ (v : Value) (w : World), (Instr.typeAssert (.iface 72 v) 47 60 true).run Tryz.prog w = .ok (.tuple #[.agg #[.pointer none], .bool false]) w) ∧
    (∀ (v : Value) (w : World), (Instr.typeAssert (.iface 72 v) 47 65 true).run Tryz.prog w = .ok (.tuple #[.agg #[.pointer none], .bool false]) w) ∧
    (∀ (v : Value) (w : World), (Instr.typeAssert (.iface 72 v) 47 69 true).run Tryz.prog w = .ok (.tuple #[.agg #[.pointer none], .bool false]) w) ∧
    (∀ (v : Value) (w : World), (Instr.typeAssert (.iface 72 v) 47 72 true).run Tryz.prog w = .ok (.tuple #[v, .bool true]) w) ∧
    (∀ (v : Value) (w : World), (Instr.typeAssert (.iface 72 v) 47 73 true).run Tryz.prog w = .ok (.tuple #[.pointer none, .bool false]) w) ∧
    (∀ (v : Value) (w : World), (Instr.typeAssert (.iface 72 v) 47 72 false).run Tryz.prog w = .ok v w) := by
  refine ⟨?_, ?_, ?_, ?_, ?_, ?_, ?_, ?_, ?_⟩ <;> (intro v w; kernel_rfl)
theorem ta_pstringVal : (∀ (v : Value) (w : World), (Instr.typeAssert (.iface 73 v) 47 55 true).run Tryz.prog w = .ok (.tuple #[.agg #[], .bool false]) w) ∧
    (∀ (v : Value) (w : World), (Instr.typeAssert (.iface 73 v) 47 56 true).run Tryz.prog w = .ok (.tuple #[.bool false, .bool false]) w) ∧
    (∀ (v : Value) (w : World), (Instr.typeAssert (.iface 73 v) 47 57 true).run Tryz.prog w = .ok (.tuple #[.int .i64 0, .bool false]) w) ∧
    (∀ (v : Value) (w : World), (Instr.typeAssert (.iface 73 v) 47 60 true).run Tryz.prog w = .ok (.tuple #[.agg #[.pointer none], .bool false]) w) ∧
    (∀ (v : Value) (w : World), (Instr.typeAssert (.iface 73 v) 47 65 true).run Tryz.prog w = .ok (.tuple #[.agg #[.pointer none], .bool false]) w) ∧
    (∀ (v : Value) (w : World), (Instr.typeAssert (.iface 73 v) 47 69 true).run Tryz.prog w = .ok (.tuple #[.agg #[.pointer none], .bool false]) w) ∧
    (∀ (v : Value) (w : World), (Instr.typeAssert (.iface 73 v) 47 72 true).run Tryz.prog w = .ok (.tuple #[.agg #[.nilIface, .nilIface], .bool false]) w) ∧
    (∀ (v : Value) (w : World), (Instr.typeAssert (.iface 73 v) 47 73 true).run Tryz.prog w = .ok (.tuple #[v, .bool true]) w) ∧
    (∀ (v : Value) (w : World), (Instr.typeAssert (.iface 73 v) 47 73 false).run Tryz.prog w = .ok v w) := by
  refine ⟨?_, ?_, ?_, ?_, ?_, ?_, ?_, ?_, ?_⟩ <;> (intro v w; kernel_rfl)
theorem ta_any_bool : (∀ (v : Value) (w : World), (Instr.typeAssert (.iface 4 v) 20 4 true).run Tryz.prog w = .ok (.tuple #[v, .bool true]) w) ∧
    (∀ (v : Value) (w : World), (Instr.typeAssert (.iface 4 v) 20 9 true).run Tryz.prog w = .ok (.tuple #[.string ⟨#[]⟩, .bool false]) w) ∧
    (∀ (v : Value) (w : World), (Instr.typeAssert (.iface 4 v) 20 2 true).run Tryz.prog w = .ok (.tuple #[.int .i64 0, .bool false]) w) ∧
    (∀ (v : Value) (w : World), (Instr.typeAssert (.iface 4 v) 20 58 true).run Tryz.prog w = .ok (.tuple #[.pointer none, .bool false]) w) ∧
    (∀ (v : Value) (w : World), (Instr.typeAssert (.iface 4 v) 20 63 true).run Tryz.prog w = .ok (.tuple #[.pointer none, .bool false]) w) ∧
    (∀ (v : Value) (w : World), (Instr.typeAssert (.iface 4 v) 20 67 true).run Tryz.prog w = .ok (.tuple #[.pointer none, .bool false]) w) := by
  refine ⟨?_, ?_, ?_, ?_, ?_, ?_⟩ <;> (intro v w; kernel_rfl)
theorem ta_any_string : (∀ (v : Value) (w : World), (Instr.typeAssert (.iface 9 v) 20 4 true).run Tryz.prog w = .ok (.tuple #[.bool false, .bool false]) w) ∧
    (∀ (v : Value) (w : World), (Instr.typeAssert (.iface 9 v) 20 9 true).run Tryz.prog w = .ok (.tuple #[v, .bool true]) w) ∧
    (∀ (v : Value) (w : World), (Instr.typeAssert (.iface 9 v) 20 2 true).run Tryz.prog w = .ok (.tuple #[.int .i64 0, .bool false]) w) ∧
    (∀ (v : Value) (w : World), (Instr.typeAssert (.iface 9 v) 20 58 true).run Tryz.prog w = .ok (.tuple #[.pointer none, .bool false]) w) ∧
    (∀ (v : Value) (w : World), (Instr.typeAssert (.iface 9 v) 20 63 true).run Tryz.prog w = .ok (.tuple #[.pointer none, .bool false]) w) ∧
    (∀ (v : Value) (w : World), (Instr.typeAssert (.iface 9 v) 20 67 true).run Tryz.prog w = .ok (.tuple #[.pointer none, .bool false]) w) := by
  refine ⟨?_, ?_, ?_, ?_, ?_, ?_⟩ <;> (intro v w; kernel_rfl)
theorem ta_any_int64 : (∀ (v : Value) (w : World), (Instr.typeAssert (.iface 2 v) 20 4 true).run Tryz.prog w = .ok (.tuple #[.bool false, .bool false]) w) ∧
    (∀ (v : Value) (w : World), (Instr.typeAssert (.iface 2 v) 20 9 true).run Tryz.prog w = .ok (.tuple #[.string ⟨#[]⟩, .bool false]) w) ∧
    (∀ (v : Value) (w : World), (Instr.typeAssert (.iface 2 v) 20 2 true).run Tryz.prog w = .ok (.tuple #[v, .bool true]) w) ∧
    (∀ (v : Value) (w : World), (Instr.typeAssert (.iface 2 v) 20 58 true).run Tryz.prog w = .ok (.tuple #[.pointer none, .bool false]) w) ∧
    (∀ (v : Value) (w : World), (Instr.typeAssert (.iface 2 v) 20 63 true).run Tryz.prog w = .ok (.tuple #[.pointer none, .bool false]) w) ∧
    (∀ (v : Value) (w : World), (Instr.typeAssert (.iface 2 v) 20 67 true).run Tryz.prog w = .ok (.tuple #[.pointer none, .bool false]) w) := by
  refine ⟨?_, ?_, ?_, ?_, ?_, ?_⟩ <;> (intro v w; kernel_rfl)
theorem ta_any_pInt : (∀ (v : Value) (w : World), (Instr.typeAssert (.iface 58 v) 20 4 true).run Tryz.prog w = .ok (.tuple #[.bool false, .bool false]) w) ∧
    (∀ (v : Value) (w : World), (Instr.typeAssert (.iface 58 v) 20 9 true).run Tryz.prog w = .ok (.tuple #[.string ⟨#[]⟩, .bool false]) w) ∧
    (∀ (v : Value) (w : World), (Instr.typeAssert (.iface 58 v) 20 2 true).run Tryz.prog w = .ok (.tuple #[.int .i64 0, .bool false]) w) ∧
    (∀ (v : Value) (w : World), (Instr.typeAssert (.iface 58 v) 20 58 true).run Tryz.prog w = .ok (.tuple #[v, .bool true]) w) ∧
    (∀ (v : Value) (w : World), (Instr.typeAssert (.iface 58 v) 20 63 true).run Tryz.prog w = .ok (.tuple #[.pointer none, .bool false]) w) ∧
    (∀ (v : Value) (w : World), (Instr.typeAssert (.iface 58 v) 20 67 true).run Tryz.prog w = .ok (.tuple #[.pointer none, .bool false]) w) := by
  refine ⟨?_, ?_, ?_, ?_, ?_, ?_⟩ <;> (intro v w; kernel_rfl)
theorem ta_any_pRat : (∀ (v : Value) (w : World), (Instr.typeAssert (.iface 63 v) 20 4 true).run Tryz.prog w = .ok (.tuple #[.bool false, .bool false]) w) ∧
    (∀ (v : Value) (w : World), (Instr.typeAssert (.iface 63 v) 20 9 true).run Tryz.prog w = .ok (.tuple #[.string ⟨#[]⟩, .bool false]) w) ∧
    (∀ (v : Value) (w : World), (Instr.typeAssert (.iface 63 v) 20 2 true).run Tryz.prog w = .ok (.tuple #[.int .i64 0, .bool false]) w) ∧
    (∀ (v : Value) (w : World), (Instr.typeAssert (.iface 63 v) 20 58 true).run Tryz.prog w = .ok (.tuple #[.pointer none, .bool false]) w) ∧
    (∀ (v : Value) (w : World), (Instr.typeAssert (.iface 63 v) 20 63 true).run Tryz.prog w = .ok (.tuple #[v, .bool true]) w) ∧
    (∀ (v : Value) (w : World), (Instr.typeAssert (.iface 63 v) 20 67 true).run Tryz.prog w = .ok (.tuple #[.pointer none, .bool false]) w) := by
  refine ⟨?_, ?_, ?_, ?_, ?_, ?_⟩ <;> (intro v w; kernel_rfl)
theorem ta_any_pFloat : (∀ (v : Value) (w : World), (Instr.typeAssert (.iface 67 v) 20 4 true).run Tryz.prog w = .ok (.tuple #[.bool false, .bool false]) w) ∧
    (∀ (v : Value) (w : World), (Instr.typeAssert (.iface 67 v) 20 9 true).run Tryz.prog w = .ok (.tuple #[.string ⟨#[]⟩, .bool false]) w) ∧
    (∀ (v : Value) (w : World), (Instr.typeAssert (.iface 67 v) 20 2 true).run Tryz.prog w = .ok (.tuple #[.int .i64 0, .bool false]) w) ∧
    (∀ (v : Value) (w : World), (Instr.typeAssert (.iface 67 v) 20 58 true).run Tryz.prog w = .ok (.tuple #[.pointer none, .bool false]) w) ∧
    (∀ (v : Value) (w : World), (Instr.typeAssert (.iface 67 v) 20 63 true).run Tryz.prog w = .ok (.tuple #[.pointer none, .bool false]) w) ∧
    (∀ (v : Value) (w : World), (Instr.typeAssert (.iface 67 v) 20 67 true).run Tryz.prog w = .ok (.tuple #[v, .bool true]) w) := by
  refine ⟨?_, ?_, ?_, ?_, ?_, ?_⟩ <;> (intro v w; kernel_rfl)
end Go.Proofs.YtdepmbpickonoaaGreatDoor
