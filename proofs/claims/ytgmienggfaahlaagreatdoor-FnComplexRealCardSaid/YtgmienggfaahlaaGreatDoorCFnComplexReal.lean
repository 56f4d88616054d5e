/-
  For every input the law laws.FnComplexReal returns true, and each argument reads afterwards as it read before: its tied card. No condition of mine: the arguments may share memory; the listed variables are as the row lists them.
-/
import Derived.Test.YtgmienggfaahlaaGreatDoorCards
import Derived.Test.YtgmienggfaahlaaGreatDoorTie
import Derived.WalkKit
import Derived.ProofKit
import Derived.OpenShut
import Derived.OpenVars
import Derived.Deep.DeepHandedRow
import Derived.Lib.LaidTab
import Derived.Carry
import Derived.Test.YtgmienggfaahlaaGreatDoorLFnComplexReal
import Derived.Test.YtgmienggfaahlaaGreatDoorK35
import Derived.Test.YtgmienggfaahlaaGreatDoorK36
import Derived.Test.YtgmienggfaahlaaGreatDoorK21
set_option linter.unusedSimpArgs false
set_option linter.unusedVariables false
namespace Go.Proofs.YtgmienggfaahlaaGreatDoor.fnComplexReal
open Go.ChangeShapes Go.WideShapes Go.ChangeAt Go.RowKit Go.Bg

theorem own : ownKnob Tryz.prog.godebug = none := by kernel_rfl
theorem laidOut : laidOutB Tryz.prog = true := by kernel_rfl

set_option maxRecDepth 100000 in
theorem contract (H : Type) (enc : TypeId × Value → H) (W : World) (base : Nat) (args : Array Value) (ds gs : List (DataW H)) (before : List MemPlace)
    (hval : ∀ (j : Nat) t v, Tryz.f5.params[j]? = some t → args[j]? = some v → Value.okWide Tryz.prog W .any base t v)
    (hW : DataW.Whole enc Tryz.prog Tryz.f5.params.toList Rows.fnComplexRealSpec.vars false W args.toList ds gs before) (hL : laidMetH Tryz.prog Rows.fnComplexRealRow.laid W) :
    Calls Tryz.prog 5 args W fun e W' => ∃ v, e = .returned v ∧ Rows.fnComplexRealSpec.post enc Tryz.prog Tryz.f5 false true false false W args v W' := by
  have hW' := hW
  obtain ⟨p, q, hA0, hV, rfl, hfz, hnd⟩ := hW
  have hA : DataW.TrodAll enc Tryz.prog W 0 (fun _ => true) true Tryz.f5.params.toList args.toList ds p := hA0
  rw [Tryz.params5] at hA hval
  obtain ⟨v0, d0, rfl, rfl, h0⟩ := trodAll_one hA
  obtain ⟨p0, hp0⟩ : ∃ p0, p0 = p := ⟨_, rfl⟩
  subst hp0
  have hlt : ∀ x ∈ p0 ++ q, x.block < W.heap.size := fun x hx => by simpa using hW'.lt x hx
  obtain ⟨g1, g2, g3, g4, rfl⟩ := list4 (trodVars_len hV)
  have k0 := h0
  obtain ⟨x0, rfl, hx0⟩ := open_vl (hval 0 _ v0 rfl rfl) h0
  have hL1 : laidMet Tryz.prog Rows.fnComplexRealRow.laid W := hL
  obtain ⟨lps, hLV, -, -⟩ := hL1
  have hT : Thr W := laid_lit (n := "loop.example/pub-g03237/pub/bigall.karatsubaThreshold") (by kernel_rfl) (by kernel_rfl) Tryz.underlying3 hLV (by first | exact .head _ | exact .tail _ (.head _) | exact .tail _ (.tail _ (.head _)) | exact .tail _ (.tail _ (.tail _ (.head _))))
  have hD : ThrD W := laid_lit (n := "loop.example/pub-g03237/pub/bigall.divRecursiveThreshold") (by kernel_rfl) (by kernel_rfl) Tryz.underlying3 hLV (by first | exact .head _ | exact .tail _ (.head _) | exact .tail _ (.tail _ (.head _)) | exact .tail _ (.tail _ (.tail _ (.head _))))
  refine (lawFnComplexReal_any x0 W hT hD hx0).mono fun e W' ⟨he, hB⟩ => ?_
  subst he
  have a0 := Below.trod laidOut (by kernel_rfl) (of_decide_eq_true (by kernel_rfl)) k0 hB (fun z hz => hlt z (by simp [hz]))
  have hvars := Below.trodVars laidOut hB (by kernel_rfl) hV
  exact ⟨_, rfl, ⟨[d0], [g1, g2, g3, g4], _, [], p0, q, hW', trodAll_mk1 (shut_bool Tryz.underlying4 true), trodAll_mk1 a0, hvars, hB.frame _, fun h => by cases h⟩⟩

/-- a world for the witness: the settled one, the listed variables holding what the text lays -/
def put (n : Int) (w : World) (g : Nat) : World :=
  { w with heap := w.heap.modify g fun
      | .cells _ t frozen => .cells #[.int .i64 n] t frozen
      | o => o }
def putT (d : DataW Unit) (w : World) (g : Nat) : World :=
  { w with heap := w.heap.modify g fun
      | .cells _ t frozen => .cells (match d with | .agg ps => (ps.map fun | .lit (.int k n) => Value.int k n | _ => .int .i64 0).toArray | _ => #[]) t frozen
      | o => o }
noncomputable def laidWorld (os : Os) : World := (putT Rows.laid_math_bits_deBruijn64tab (putT Rows.laid_math_bits_deBruijn32tab (put 80 (put 12 (put 40 (put 40 (World.holding Tryz.prog os ⟨#[], #[], []⟩) 3) 2) 0) 1) 5) 6)
def zero : Value := .agg #[.int .i64 0, .bool false, .string ⟨#[]⟩, .bool false, .slice none 0 0, .slice none 0 0, .bool false, .slice none 0 0, .slice none 0 0]
def zeroD {H : Type} : DataW H := .agg [.lit (.int .i64 0), .lit (.bool false), .lit (.string []), .agg [.lit (.bool false), .nil], .nil, .agg [.lit (.bool false), .nil], .nil]
theorem laid_met (os : Os) : laidMet Tryz.prog Rows.fnComplexRealRow.laid ((laidWorld os).forCall (fun _ _ => 0) ⟨#[], #[zero], []⟩).memory :=
  laidMet_of_run' 8 (by kernel_rfl) (by kernel_rfl)
theorem reads (os : Os) {H : Type} (enc : TypeId × Value → H) : ∃ places, DataW.whole enc Tryz.prog ((laidWorld os).forCall (fun _ _ => 0) ⟨#[], #[zero], []⟩).memory Tryz.f5.params.toList Rows.fnComplexRealSpec.vars false (#[zero] : Array Value).toList 8 = some ([zeroD], [.lit (.int .i64 40), .lit (.int .i64 40), .lit (.int .i64 12), .lit (.int .i64 80)], places) :=
  ⟨[.cell 3 0, .cell 2 0, .cell 0 0, .cell 1 0], by kernel_rfl⟩

set_option maxRecDepth 100000 in
theorem lifted (os : Os) (started : os.Started) (H : Type) (enc : TypeId × Value → H) (F : Stop.Interp) :
    ReturnsInHanded {} Tryz.checked os 5 .any ((OpenSpec.ofChange Rows.fnComplexRealSpec).preRow enc Tryz.prog Tryz.f5 Rows.fnComplexRealRow.domain false Rows.fnComplexRealRow.laid) (((OpenSpec.ofChange Rows.fnComplexRealSpec).at F).post enc Tryz.prog Tryz.f5 false true false false) := by
  obtain ⟨places, hx⟩ := reads os enc
  refine returnsInHanded_of_row (C := Tryz.checked) (s := OpenSpec.ofChange Rows.fnComplexRealSpec) own started (by as_aux_lemma => kernel_rfl) Tryz.func5
    (witness_row_at (enc := enc) (C := Tryz.checked) false (laidWorld os) #[zero] rfl (by kernel_rfl) (by kernel_rfl) (by kernel_rfl)
      (OpenSpec.preRow_of_cond 8 hx (by kernel_rfl) (fun k hk => by cases hk) (by kernel_rfl) (laid_met os))) ?_
  intro W base args ds gs before hval hW _ _ _ hL _ _
  exact contract H enc W base args ds gs before hval hW hL

set_option maxRecDepth 100000 in
set_option maxHeartbeats 4000000 in
theorem closed : joinedFacts Tryz.pinned.checked.prog 5 Tryz.f5 (OpenSpec.ofChange Rows.fnComplexRealSpec).bare Rows.fnComplexRealRow = true := by
  unfold joinedFacts
  simp only [Bool.and_eq_true]
  repeat' apply And.intro
  all_goals (as_aux_lemma => kernel_rfl)

set_option maxHeartbeats 4000000 in
theorem said : Rows.FnComplexRealSaid :=
  OpenClaim.holds_of_cond 5 Tryz.f5 rfl rfl rfl rfl rfl rfl rfl ⟨rfl, rfl, rfl, rfl, rfl⟩ rfl rfl rfl rfl rfl (by as_aux_lemma => kernel_rfl) Tryz.func5 closed
    (of_decide_eq_true (by as_aux_lemma => kernel_rfl)) (by unfold Func.isWrapper; first | (rw [if_pos (by decide +kernel)]; as_aux_lemma => kernel_rfl) | (rw [if_neg (by decide +kernel)]; exact ⟨rfl, rfl⟩))
    (fun os started H enc _ F => by rw [OpenClaim.pre_eq_preRow]; exact lifted os started H enc F)

theorem plain (f : FuncId) (fn : Func) (hf : Tryz.pinned.checked.prog.funcNamed "loop.example/pub-g03237/laws.FnComplexReal" = some f) (hfn : Tryz.pinned.checked.prog.funcs[f]? = some fn) :
    true = Tryz.pinned.checked.prog.looks [] ∧ ∀ (j : Nat) t, fn.params[j]? = some t → Tryz.pinned.checked.prog.wantsStandIn t = false := by
  obtain rfl : f = 5 := Option.some.inj ((show Tryz.prog.funcNamed "loop.example/pub-g03237/laws.FnComplexReal" = some 5 by kernel_rfl).symm.trans hf) |>.symm
  obtain rfl : fn = Tryz.f5 := (Option.some.inj (Tryz.func5.symm.trans hfn)).symm
  refine ⟨by kernel_rfl, fun j t ht => ?_⟩
  rw [Tryz.params5] at ht
  have hm : t = 26 := by
    have := Array.mem_of_getElem? ht
    simpa using this
  subst hm
  · exact (show Tryz.prog.wantsStandIn 26 = false by kernel_rfl)

theorem card : Rows.FnComplexRealCardSaid :=
  Claim7.holds_tied_plain_at .later [] _ _ _ _ said (fun _ h => by cases h) (by as_aux_lemma => kernel_rfl) (fun _ h => by cases h) fnComplexReal_row_tie rfl ⟨rfl, rfl⟩ (by as_aux_lemma => kernel_rfl) rfl plain (by as_aux_lemma => kernel_rfl)
end Go.Proofs.YtgmienggfaahlaaGreatDoor.fnComplexReal
