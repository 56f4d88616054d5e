/-
  For every input the law laws.FnMixed returns true, and each argument reads afterwards as it read before: its tied card. No condition of mine: the arguments may share memory; the listed variables are as the row lists them.
-/
import Derived.Test.YtececkbcinmmpaaGreatDoorCards
import Derived.Test.YtececkbcinmmpaaGreatDoorTie
import Derived.WalkKit
import Derived.ProofKit
import Derived.OpenShut
import Derived.OpenVars
import Derived.Deep.DeepHandedRow
import Derived.Lib.LaidTab
import Derived.Carry
import Derived.Test.YtececkbcinmmpaaGreatDoorLFnMixed
import Derived.Test.YtececkbcinmmpaaGreatDoorM39
import Derived.Test.YtececkbcinmmpaaGreatDoorM19
set_option linter.unusedSimpArgs false
set_option linter.unusedVariables false
namespace Go.Proofs.YtececkbcinmmpaaGreatDoor.fnMixed
open Go.ChangeShapes Go.WideShapes Go.ChangeAt Go.RowKit Go.Bg

theorem own : ownKnob Tryz.prog.godebug = none := by kernel_rfl
theorem laidOut : laidOutB Tryz.prog = true := by kernel_rfl

set_option maxRecDepth 100000 in
theorem contract (H : Type) (enc : TypeId × Value → H) (W : World) (base : Nat) (args : Array Value) (ds gs : List (DataW H)) (before : List MemPlace)
    (hval : ∀ (j : Nat) t v, Tryz.f6.params[j]? = some t → args[j]? = some v → Value.okWide Tryz.prog W .any base t v)
    (hW : DataW.Whole enc Tryz.prog Tryz.f6.params.toList Rows.fnMixedSpec.vars false W args.toList ds gs before) (hL : laidMetH Tryz.prog Rows.fnMixedRow.laid W) :
    Calls Tryz.prog 6 args W fun e W' => ∃ v, e = .returned v ∧ Rows.fnMixedSpec.post enc Tryz.prog Tryz.f6 false true false false W args v W' := by
  have hW' := hW
  obtain ⟨p, q, hA0, hV, rfl, hfz, hnd⟩ := hW
  have hA : DataW.TrodAll enc Tryz.prog W 0 (fun _ => true) true Tryz.f6.params.toList args.toList ds p := hA0
  rw [Tryz.params6] at hA hval
  obtain ⟨v0, v1, v2, v3, d0, d1, d2, d3, p0, p1, p2, p3, rfl, rfl, rfl, h0, h1, h2, h3⟩ := Go.Bg.trodAll_four hA
  have hlt : ∀ x ∈ p0 ++ p1 ++ p2 ++ p3 ++ q, x.block < W.heap.size := fun x hx => by simpa using hW'.lt x hx
  obtain ⟨g1, g2, g3, g4, rfl⟩ := list4 (trodVars_len hV)
  have k0 := h0
  have k1 := h1
  have k2 := h2
  have k3 := h3
  obtain ⟨n0, rfl, hn0⟩ := open_u8 (hval 0 _ v0 rfl rfl) h0
  obtain ⟨b1, rfl, -, -⟩ := open_bool Tryz.underlying4 (hval 1 _ v1 rfl rfl) h1
  obtain ⟨x2, rfl, hx2⟩ := open_vl (hval 2 _ v2 rfl rfl) h2
  obtain ⟨x3, rfl, hx3⟩ := open_vl (hval 3 _ v3 rfl rfl) h3
  have hL1 : laidMet Tryz.prog Rows.fnMixedRow.laid W := hL
  obtain ⟨lps, hLV, -, -⟩ := hL1
  have hT : Thr W := laid_lit (n := "loop.example/pub-g03237/pub/bigall.karatsubaThreshold") (by kernel_rfl) (by kernel_rfl) Tryz.underlying3 hLV (by first | exact .head _ | exact .tail _ (.head _) | exact .tail _ (.tail _ (.head _)) | exact .tail _ (.tail _ (.tail _ (.head _))))
  have hD : ThrD W := laid_lit (n := "loop.example/pub-g03237/pub/bigall.divRecursiveThreshold") (by kernel_rfl) (by kernel_rfl) Tryz.underlying3 hLV (by first | exact .head _ | exact .tail _ (.head _) | exact .tail _ (.tail _ (.head _)) | exact .tail _ (.tail _ (.tail _ (.head _))))
  refine (lawFnMixed_any n0 hn0 b1 x2 x3 W hT hD hx2 hx3).mono fun e W' ⟨he, hB⟩ => ?_
  subst he
  have a0 := Below.trod laidOut (by kernel_rfl) (of_decide_eq_true (by kernel_rfl)) k0 hB (fun z hz => hlt z (by simp [hz]))
  have a1 := Below.trod laidOut (by kernel_rfl) (of_decide_eq_true (by kernel_rfl)) k1 hB (fun z hz => hlt z (by simp [hz]))
  have a2 := Below.trod laidOut (by kernel_rfl) (of_decide_eq_true (by kernel_rfl)) k2 hB (fun z hz => hlt z (by simp [hz]))
  have a3 := Below.trod laidOut (by kernel_rfl) (of_decide_eq_true (by kernel_rfl)) k3 hB (fun z hz => hlt z (by simp [hz]))
  have hvars := Below.trodVars laidOut hB (by kernel_rfl) hV
  exact ⟨_, rfl, ⟨[d0, d1, d2, d3], [g1, g2, g3, g4], _, [], p0 ++ (p1 ++ (p2 ++ p3)), q, hW', trodAll_mk1 (shut_bool Tryz.underlying4 true), Go.Bg.trodAll_mk4 a0 a1 a2 a3, hvars, hB.frame _, fun h => by cases h⟩⟩

/-- a world for the witness: the settled one, the listed variables holding what the text lays -/
def put (n : Int) (w : World) (g : Nat) : World :=
  { w with heap := w.heap.modify g fun
      | .cells _ t frozen => .cells #[.int .i64 n] t frozen
      | o => o }
noncomputable def laidWorld (os : Os) : World := (put 80 (put 12 (put 40 (put 40 (World.holding Tryz.prog os ⟨#[], #[], []⟩) 3) 2) 0) 1)
def zero : Value := .agg #[.int .i64 0, .bool false, .string ⟨#[]⟩, .bool false, .slice none 0 0, .slice none 0 0, .bool false, .slice none 0 0, .slice none 0 0]
def zeroD {H : Type} : DataW H := .agg [.lit (.int .i64 0), .lit (.bool false), .lit (.string []), .agg [.lit (.bool false), .nil], .nil, .agg [.lit (.bool false), .nil], .nil]
theorem laid_met (os : Os) : laidMet Tryz.prog Rows.fnMixedRow.laid ((laidWorld os).forCall (fun _ _ => 0) ⟨#[], #[.int .u8 0, .bool false, zero, zero], []⟩).memory :=
  laidMet_of_run' 8 (by kernel_rfl) (by kernel_rfl)
theorem reads (os : Os) {H : Type} (enc : TypeId × Value → H) : ∃ places, DataW.whole enc Tryz.prog ((laidWorld os).forCall (fun _ _ => 0) ⟨#[], #[.int .u8 0, .bool false, zero, zero], []⟩).memory Tryz.f6.params.toList Rows.fnMixedSpec.vars false (#[.int .u8 0, .bool false, zero, zero] : Array Value).toList 8 = some ([.lit (.int .u8 0), .lit (.bool false), zeroD, zeroD], [.lit (.int .i64 40), .lit (.int .i64 40), .lit (.int .i64 12), .lit (.int .i64 80)], places) :=
  ⟨[.cell 3 0, .cell 2 0, .cell 0 0, .cell 1 0], by kernel_rfl⟩

set_option maxRecDepth 100000 in
theorem lifted (os : Os) (started : os.Started) (H : Type) (enc : TypeId × Value → H) (F : Stop.Interp) :
    ReturnsInHanded {} Tryz.checked os 6 .any ((OpenSpec.ofChange Rows.fnMixedSpec).preRow enc Tryz.prog Tryz.f6 Rows.fnMixedRow.domain false Rows.fnMixedRow.laid) (((OpenSpec.ofChange Rows.fnMixedSpec).at F).post enc Tryz.prog Tryz.f6 false true false false) := by
  obtain ⟨places, hx⟩ := reads os enc
  refine returnsInHanded_of_row (C := Tryz.checked) (s := OpenSpec.ofChange Rows.fnMixedSpec) own started (by as_aux_lemma => kernel_rfl) Tryz.func6
    (witness_row_at (enc := enc) (C := Tryz.checked) false (laidWorld os) #[.int .u8 0, .bool false, zero, zero] rfl (by kernel_rfl) (by kernel_rfl) (by kernel_rfl)
      (OpenSpec.preRow_of_cond 8 hx (by kernel_rfl) (fun k hk => by cases hk) (by kernel_rfl) (laid_met os))) ?_
  intro W base args ds gs before hval hW _ _ _ hL _ _
  exact contract H enc W base args ds gs before hval hW hL

set_option maxRecDepth 100000 in
set_option maxHeartbeats 4000000 in
theorem closed : joinedFacts Tryz.pinned.checked.prog 6 Tryz.f6 (OpenSpec.ofChange Rows.fnMixedSpec).bare Rows.fnMixedRow = true := by
  unfold joinedFacts
  simp only [Bool.and_eq_true]
  repeat' apply And.intro
  all_goals (as_aux_lemma => kernel_rfl)

set_option maxHeartbeats 4000000 in
theorem said : Rows.FnMixedSaid :=
  OpenClaim.holds_of_cond 6 Tryz.f6 rfl rfl rfl rfl rfl rfl rfl ⟨rfl, rfl, rfl, rfl, rfl⟩ rfl rfl rfl rfl rfl (by as_aux_lemma => kernel_rfl) Tryz.func6 closed
    (of_decide_eq_true (by as_aux_lemma => kernel_rfl)) (by unfold Func.isWrapper; first | (rw [if_pos (by decide +kernel)]; as_aux_lemma => kernel_rfl) | (rw [if_neg (by decide +kernel)]; exact ⟨rfl, rfl⟩))
    (fun os started H enc _ F => by rw [OpenClaim.pre_eq_preRow]; exact lifted os started H enc F)

theorem plain (f : FuncId) (fn : Func) (hf : Tryz.pinned.checked.prog.funcNamed "loop.example/pub-g03237/laws.FnMixed" = some f) (hfn : Tryz.pinned.checked.prog.funcs[f]? = some fn) :
    true = Tryz.pinned.checked.prog.looks [] ∧ ∀ (j : Nat) t, fn.params[j]? = some t → Tryz.pinned.checked.prog.wantsStandIn t = false := by
  obtain rfl : f = 6 := Option.some.inj ((show Tryz.prog.funcNamed "loop.example/pub-g03237/laws.FnMixed" = some 6 by kernel_rfl).symm.trans hf) |>.symm
  obtain rfl : fn = Tryz.f6 := (Option.some.inj (Tryz.func6.symm.trans hfn)).symm
  refine ⟨by kernel_rfl, fun j t ht => ?_⟩
  rw [Tryz.params6] at ht
  have hm : t = 5 ∨ t = 4 ∨ t = 26 := by
    have := Array.mem_of_getElem? ht
    simpa using this
  rcases hm with rfl | rfl | rfl
  · exact (show Tryz.prog.wantsStandIn 5 = false by kernel_rfl)
  · exact (show Tryz.prog.wantsStandIn 4 = false by kernel_rfl)
  · exact (show Tryz.prog.wantsStandIn 26 = false by kernel_rfl)

theorem card : Rows.FnMixedCardSaid :=
  Claim7.holds_tied_plain_at .later [] _ _ _ _ said (fun _ h => by cases h) (by as_aux_lemma => kernel_rfl) (fun _ h => by cases h) fnMixed_row_tie rfl ⟨rfl, rfl⟩ (by as_aux_lemma => kernel_rfl) rfl plain (by as_aux_lemma => kernel_rfl)
end Go.Proofs.YtececkbcinmmpaaGreatDoor.fnMixed
