/-
  For every input the law laws.FnField returns true, and each argument reads afterwards as it read before: its tied card. No condition of mine: the arguments may share memory; the listed variables are as the row lists them.
-/
import Derived.Test.YtgmienggfaahlaaGreatDoorCards
import Derived.Test.YtgmienggfaahlaaGreatDoorTie
import Derived.WalkKit
import Derived.ProofKit
import Derived.OpenShut
import Derived.OpenVars
import Derived.Deep.DeepHandedRow
import Derived.Lib.LaidTab
import Derived.Carry
import Derived.Test.YtgmienggfaahlaaGreatDoorLFnField
import Derived.Test.YtgmienggfaahlaaGreatDoorK35
import Derived.Test.YtgmienggfaahlaaGreatDoorK36
import Derived.Test.YtgmienggfaahlaaGreatDoorK21
set_option linter.unusedSimpArgs false
set_option linter.unusedVariables false
namespace Go.Proofs.YtgmienggfaahlaaGreatDoor.fnField
open Go.ChangeShapes Go.WideShapes Go.ChangeAt Go.RowKit Go.Bg

theorem own : ownKnob Tryz.prog.godebug = none := by kernel_rfl
theorem laidOut : laidOutB Tryz.prog = true := by kernel_rfl

set_option maxRecDepth 100000 in
theorem contract (H : Type) (enc : TypeId × Value → H) (W : World) (base : Nat) (args : Array Value) (ds gs : List (DataW H)) (before : List MemPlace)
    (hval : ∀ (j : Nat) t v, Tryz.f4.params[j]? = some t → args[j]? = some v → Value.okWide Tryz.prog W .any base t v)
    (hW : DataW.Whole enc Tryz.prog Tryz.f4.params.toList Rows.fnFieldSpec.vars false W args.toList ds gs before) (hL : laidMetH Tryz.prog Rows.fnFieldRow.laid W) :
    Calls Tryz.prog 4 args W fun e W' => ∃ v, e = .returned v ∧ Rows.fnFieldSpec.post enc Tryz.prog Tryz.f4 false true false false W args v W' := by
  have hW' := hW
  obtain ⟨p, q, hA0, hV, rfl, hfz, hnd⟩ := hW
  have hA : DataW.TrodAll enc Tryz.prog W 0 (fun _ => true) true Tryz.f4.params.toList args.toList ds p := hA0
  rw [Tryz.params4] at hA hval
  obtain ⟨v0, v1, v2, d0, d1, d2, p0, p1, p2, rfl, rfl, rfl, h0, h1, h2⟩ := trodAll_three hA
  have hlt : ∀ x ∈ p0 ++ p1 ++ p2 ++ q, x.block < W.heap.size := fun x hx => by simpa using hW'.lt x hx
  obtain ⟨g1, g2, g3, g4, rfl⟩ := list4 (trodVars_len hV)
  have k0 := h0
  have k1 := h1
  have k2 := h2
  obtain ⟨x0, rfl, hx0⟩ := open_vl (hval 0 _ v0 rfl rfl) h0
  obtain ⟨x1, rfl, hx1⟩ := open_vl (hval 1 _ v1 rfl rfl) h1
  obtain ⟨x2, rfl, hx2⟩ := open_vl (hval 2 _ v2 rfl rfl) h2
  have hL1 : laidMet Tryz.prog Rows.fnFieldRow.laid W := hL
  obtain ⟨lps, hLV, -, -⟩ := hL1
  have hT : Thr W := laid_lit (n := "loop.example/pub-g03237/pub/bigall.karatsubaThreshold") (by kernel_rfl) (by kernel_rfl) Tryz.underlying3 hLV (by first | exact .head _ | exact .tail _ (.head _) | exact .tail _ (.tail _ (.head _)) | exact .tail _ (.tail _ (.tail _ (.head _))))
  have hD : ThrD W := laid_lit (n := "loop.example/pub-g03237/pub/bigall.divRecursiveThreshold") (by kernel_rfl) (by kernel_rfl) Tryz.underlying3 hLV (by first | exact .head _ | exact .tail _ (.head _) | exact .tail _ (.tail _ (.head _)) | exact .tail _ (.tail _ (.tail _ (.head _))))
  refine (lawFnField_any x0 x1 x2 W hT hD hx0 hx1 hx2).mono fun e W' ⟨he, hB⟩ => ?_
  subst he
  have a0 := Below.trod laidOut (by kernel_rfl) (of_decide_eq_true (by kernel_rfl)) k0 hB (fun z hz => hlt z (by simp [hz]))
  have a1 := Below.trod laidOut (by kernel_rfl) (of_decide_eq_true (by kernel_rfl)) k1 hB (fun z hz => hlt z (by simp [hz]))
  have a2 := Below.trod laidOut (by kernel_rfl) (of_decide_eq_true (by kernel_rfl)) k2 hB (fun z hz => hlt z (by simp [hz]))
  have hvars := Below.trodVars laidOut hB (by kernel_rfl) hV
  exact ⟨_, rfl, ⟨[d0, d1, d2], [g1, g2, g3, g4], _, [], p0 ++ (p1 ++ p2), q, hW', trodAll_mk1 (shut_bool Tryz.underlying4 true), trodAll_mk3 a0 a1 a2, hvars, hB.frame _, fun h => by cases h⟩⟩

/-- a world for the witness: the settled one, the listed variables holding what the text lays -/
def put (n : Int) (w : World) (g : Nat) : World :=
  { w with heap := w.heap.modify g fun
      | .cells _ t frozen => .cells #[.int .i64 n] t frozen
      | o => o }
noncomputable def laidWorld (os : Os) : World := (put 80 (put 12 (put 40 (put 40 (World.holding Tryz.prog os ⟨#[], #[], []⟩) 3) 2) 0) 1)
def zero : Value := .agg #[.int .i64 0, .bool false, .string ⟨#[]⟩, .bool false, .slice none 0 0, .slice none 0 0, .bool false, .slice none 0 0, .slice none 0 0]
def zeroD {H : Type} : DataW H := .agg [.lit (.int .i64 0), .lit (.bool false), .lit (.string []), .agg [.lit (.bool false), .nil], .nil, .agg [.lit (.bool false), .nil], .nil]
theorem laid_met (os : Os) : laidMet Tryz.prog Rows.fnFieldRow.laid ((laidWorld os).forCall (fun _ _ => 0) ⟨#[], #[zero, zero, zero], []⟩).memory :=
  laidMet_of_run' 8 (by kernel_rfl) (by kernel_rfl)
theorem reads (os : Os) {H : Type} (enc : TypeId × Value → H) : ∃ places, DataW.whole enc Tryz.prog ((laidWorld os).forCall (fun _ _ => 0) ⟨#[], #[zero, zero, zero], []⟩).memory Tryz.f4.params.toList Rows.fnFieldSpec.vars false (#[zero, zero, zero] : Array Value).toList 8 = some ([zeroD, zeroD, zeroD], [.lit (.int .i64 40), .lit (.int .i64 40), .lit (.int .i64 12), .lit (.int .i64 80)], places) :=
  ⟨[.cell 3 0, .cell 2 0, .cell 0 0, .cell 1 0], by kernel_rfl⟩

set_option maxRecDepth 100000 in
theorem lifted (os : Os) (started : os.Started) (H : Type) (enc : TypeId × Value → H) (F : Stop.Interp) :
    ReturnsInHanded {} Tryz.checked os 4 .any ((OpenSpec.ofChange Rows.fnFieldSpec).preRow enc Tryz.prog Tryz.f4 Rows.fnFieldRow.domain false Rows.fnFieldRow.laid) (((OpenSpec.ofChange Rows.fnFieldSpec).at F).post enc Tryz.prog Tryz.f4 false true false false) := by
  obtain ⟨places, hx⟩ := reads os enc
  refine returnsInHanded_of_row (C := Tryz.checked) (s := OpenSpec.ofChange Rows.fnFieldSpec) own started (by as_aux_lemma => kernel_rfl) Tryz.func4
    (witness_row_at (enc := enc) (C := Tryz.checked) false (laidWorld os) #[zero, zero, zero] rfl (by kernel_rfl) (by kernel_rfl) (by kernel_rfl)
      (OpenSpec.preRow_of_cond 8 hx (by kernel_rfl) (fun k hk => by cases hk) (by kernel_rfl) (laid_met os))) ?_
  intro W base args ds gs before hval hW _ _ _ hL _ _
  exact contract H enc W base args ds gs before hval hW hL

set_option maxRecDepth 100000 in
set_option maxHeartbeats 4000000 in
theorem closed : joinedFacts Tryz.pinned.checked.prog 4 Tryz.f4 (OpenSpec.ofChange Rows.fnFieldSpec).bare Rows.fnFieldRow = true := by
  unfold joinedFacts
  simp only [Bool.and_eq_true]
  repeat' apply And.intro
  all_goals (as_aux_lemma => kernel_rfl)

set_option maxHeartbeats 4000000 in
theorem said : Rows.FnFieldSaid :=
  OpenClaim.holds_of_cond 4 Tryz.f4 rfl rfl rfl rfl rfl rfl rfl ⟨rfl, rfl, rfl, rfl, rfl⟩ rfl rfl rfl rfl rfl (by as_aux_lemma => kernel_rfl) Tryz.func4 closed
    (of_decide_eq_true (by as_aux_lemma => kernel_rfl)) (by unfold Func.isWrapper; first | (rw [if_pos (by decide +kernel)]; as_aux_lemma => kernel_rfl) | (rw [if_neg (by decide +kernel)]; exact ⟨rfl, rfl⟩))
    (fun os started H enc _ F => by rw [OpenClaim.pre_eq_preRow]; exact lifted os started H enc F)

theorem plain (f : FuncId) (fn : Func) (hf : Tryz.pinned.checked.prog.funcNamed "loop.example/pub-g03237/laws.FnField" = some f) (hfn : Tryz.pinned.checked.prog.funcs[f]? = some fn) :
    true = Tryz.pinned.checked.prog.looks [] ∧ ∀ (j : Nat) t, fn.params[j]? = some t → Tryz.pinned.checked.prog.wantsStandIn t = false := by
  obtain rfl : f = 4 := Option.some.inj ((show Tryz.prog.funcNamed "loop.example/pub-g03237/laws.FnField" = some 4 by kernel_rfl).symm.trans hf) |>.symm
  obtain rfl : fn = Tryz.f4 := (Option.some.inj (Tryz.func4.symm.trans hfn)).symm
  refine ⟨by kernel_rfl, fun j t ht => ?_⟩
  rw [Tryz.params4] at ht
  have hm : t = 26 := by
    have := Array.mem_of_getElem? ht
    simpa using this
  subst hm
  · exact (show Tryz.prog.wantsStandIn 26 = false by kernel_rfl)

theorem card : Rows.FnFieldCardSaid :=
  Claim7.holds_tied_plain_at .later [] _ _ _ _ said (fun _ h => by cases h) (by as_aux_lemma => kernel_rfl) (fun _ h => by cases h) fnField_row_tie rfl ⟨rfl, rfl⟩ (by as_aux_lemma => kernel_rfl) rfl plain (by as_aux_lemma => kernel_rfl)
end Go.Proofs.YtgmienggfaahlaaGreatDoor.fnField
