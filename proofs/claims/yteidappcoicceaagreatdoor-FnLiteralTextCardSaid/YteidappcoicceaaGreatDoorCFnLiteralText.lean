/-
  For every input the law laws.FnLiteralText returns true, and each argument reads afterwards as it read before: its tied card. No condition of mine: the listed variables are as the row lists them.
-/
import Derived.Test.YteidappcoicceaaGreatDoorCards
import Derived.Test.YteidappcoicceaaGreatDoorTie
import Derived.WalkKit
import Derived.ProofKit
import Derived.OpenShut
import Derived.OpenVars
import Derived.Deep.DeepHandedRow
import Derived.Lib.LaidTab
import Derived.Carry
import Derived.Test.YteidappcoicceaaGreatDoorLFnLiteralText
import Derived.Test.YteidappcoicceaaGreatDoorT00
set_option linter.unusedSimpArgs false
set_option linter.unusedVariables false
namespace Go.Proofs.YteidappcoicceaaGreatDoor.fnLiteralText
open Go.ChangeShapes Go.WideShapes Go.ChangeAt Go.RowKit Go.Bg

theorem own : ownKnob Tryz.prog.godebug = none := by kernel_rfl
theorem laidOut : laidOutB Tryz.prog = true := by kernel_rfl

set_option maxRecDepth 100000 in
theorem contract (H : Type) (enc : TypeId × Value → H) (W : World) (base : Nat) (args : Array Value) (ds gs : List (DataW H)) (before : List MemPlace)
    (hval : ∀ (j : Nat) t v, Tryz.f4.params[j]? = some t → args[j]? = some v → Value.okWide Tryz.prog W .any base t v)
    (hW : DataW.Whole enc Tryz.prog Tryz.f4.params.toList Rows.fnLiteralTextSpec.vars false W args.toList ds gs before) (hL : laidMetH Tryz.prog Rows.fnLiteralTextRow.laid W) :
    Calls Tryz.prog 4 args W fun e W' => ∃ v, e = .returned v ∧ Rows.fnLiteralTextSpec.post enc Tryz.prog Tryz.f4 false true false false W args v W' := by
  have hW' := hW
  obtain ⟨p, q, hA0, hV, rfl, hfz, hnd⟩ := hW
  have hA : DataW.TrodAll enc Tryz.prog W 0 (fun _ => true) true Tryz.f4.params.toList args.toList ds p := hA0
  rw [Tryz.params4] at hA hval
  obtain ⟨v0, v1, d0, d1, p0, p1, rfl, rfl, rfl, h0, h1⟩ := trodAll_two hA
  have hlt : ∀ x ∈ p0 ++ p1 ++ q, x.block < W.heap.size := fun x hx => by simpa using hW'.lt x hx
  obtain ⟨g1, g2, g3, g4, g5, g6, g7, rfl⟩ := list7 (trodVars_len hV)
  have k0 := h0
  have k1 := h1
  obtain ⟨s0, rfl, -, -, hs0⟩ := Go.ChangeMaps.open_string Tryz.underlying9 (hval 0 _ v0 rfl rfl) h0
  obtain ⟨b1, rfl, -, -⟩ := open_bool Tryz.underlying4 (hval 1 _ v1 rfl rfl) h1
  have hL1 : laidMet Tryz.prog Rows.fnLiteralTextRow.laid W := hL
  obtain ⟨lps, hLV, -, -⟩ := hL1
  refine (lawFnLiteralText_any s0 b1 W ).mono fun e W' ⟨he, hB⟩ => ?_
  subst he
  have a0 := Below.trod laidOut (by kernel_rfl) (of_decide_eq_true (by kernel_rfl)) k0 hB (fun z hz => hlt z (by simp [hz]))
  have a1 := Below.trod laidOut (by kernel_rfl) (of_decide_eq_true (by kernel_rfl)) k1 hB (fun z hz => hlt z (by simp [hz]))
  have hvars := Below.trodVars laidOut hB (by kernel_rfl) hV
  exact ⟨_, rfl, ⟨[d0, d1], [g1, g2, g3, g4, g5, g6, g7], _, [], p0 ++ p1, q, hW', trodAll_mk1 (shut_bool Tryz.underlying4 true), trodAll_mk2 a0 a1, hvars, hB.frame _, fun h => by cases h⟩⟩

/-- a world for the witness: the settled one, the listed variables holding what the text lays -/
def put (n : Int) (w : World) (g : Nat) : World :=
  { w with heap := w.heap.modify g fun
      | .cells _ t frozen => .cells #[.int .i64 n] t frozen
      | o => o }
def numsOf : List (DataW Unit) → List Value
  | [] => []
  | .lit (.int k n) :: r => .int k n :: numsOf r
  | .agg [.lit (.int k n), .lit (.int l m)] :: r => .int k n :: .int l m :: numsOf r
  | _ :: r => numsOf r
def putT (d : DataW Unit) (w : World) (g : Nat) : World :=
  { w with heap := w.heap.modify g fun
      | .cells _ t frozen => .cells (match d with | .agg ps => (numsOf ps).toArray | _ => #[]) t frozen
      | o => o }
def putE (b : Nat) (w : World) (g : Nat) : World :=
  { w with heap := w.heap.modify g fun
      | .cells _ t frozen => .cells #[.iface 259 (.pointer (some ⟨b, 0, none⟩))] t frozen
      | o => o }
noncomputable def low : Nat := (World.holding Tryz.prog default ⟨#[], #[], []⟩).heap.size
noncomputable def laidWorld (os : Os) : World := (putT Rows.laid_unicode_utf8_first (putT Rows.laid_loop_example_pub_g03237_pub_bigall_pow5tab (putT Rows.laid_unicode_utf8_acceptRanges (putT Rows.laid_internal_strconv_uint64pow10 (putT Rows.laid_math_bits_deBruijn64tab (putT Rows.laid_math_bits_deBruijn32tab (put 80 (put 12 (put 40 (put 40 (putE (low + 4) (putE (low + 3) (putE (low + 2) (putE (low + 1) (putE (low + 0) (World.holding Tryz.prog os ⟨#[.cells #[.string ⟨#[118, 97, 108, 117, 101, 32, 111, 117, 116, 32, 111, 102, 32, 114, 97, 110, 103, 101]⟩] 261, .cells #[.string ⟨#[105, 110, 118, 97, 108, 105, 100, 32, 115, 121, 110, 116, 97, 120]⟩] 261, .cells #[.string ⟨#[69, 79, 70]⟩] 261, .cells #[.string ⟨#[110, 117, 109, 98, 101, 114, 32, 104, 97, 115, 32, 110, 111, 32, 100, 105, 103, 105, 116, 115]⟩] 261, .cells #[.string ⟨#[39, 95, 39, 32, 109, 117, 115, 116, 32, 115, 101, 112, 97, 114, 97, 116, 101, 32, 115, 117, 99, 99, 101, 115, 115, 105, 118, 101, 32, 100, 105, 103, 105, 116, 115]⟩] 261], #[], []⟩) 2) 0) 1) 4) 3) 11) 5) 8) 9) 13) 14) 15) 7) 12) 6)
theorem laid_met (os : Os) : laidMet Tryz.prog Rows.fnLiteralTextRow.laid ((laidWorld os).forCall (fun _ _ => 0) ⟨#[], #[.string ⟨#[]⟩, .bool false], []⟩).memory :=
  laidMet_of_run' 8 (by kernel_rfl) (by kernel_rfl)
theorem whole_map {α β γ : Type} {x : Option (α × β × γ)} {a : α} {b : β} (h : x.map (fun y => (y.1, y.2.1)) = some (a, b)) : ∃ c, x = some (a, b, c) := by
  cases x with
  | none => cases h
  | some y => obtain ⟨u, v, c⟩ := y; simp at h; obtain ⟨rfl, rfl⟩ := h; exact ⟨c, rfl⟩
theorem readsM (os : Os) {H : Type} (enc : TypeId × Value → H) : (DataW.whole enc Tryz.prog ((laidWorld os).forCall (fun _ _ => 0) ⟨#[], #[.string ⟨#[]⟩, .bool false], []⟩).memory Tryz.f4.params.toList Rows.fnLiteralTextSpec.vars false (#[.string ⟨#[]⟩, .bool false] : Array Value).toList 8).map (fun y => (y.1, y.2.1)) = some ([.lit (.string []), .lit (.bool false)], [.held (enc (259, .pointer (some ⟨low + 4, 0, none⟩))), .held (enc (259, .pointer (some ⟨low + 3, 0, none⟩))), Rows.laid_loop_example_pub_g03237_pub_bigall_pow5tab, .lit (.int .i64 12), .lit (.int .i64 80), .lit (.int .i64 40), .lit (.int .i64 40)]) := by kernel_rfl
theorem reads (os : Os) {H : Type} (enc : TypeId × Value → H) : ∃ places, DataW.whole enc Tryz.prog ((laidWorld os).forCall (fun _ _ => 0) ⟨#[], #[.string ⟨#[]⟩, .bool false], []⟩).memory Tryz.f4.params.toList Rows.fnLiteralTextSpec.vars false (#[.string ⟨#[]⟩, .bool false] : Array Value).toList 8 = some ([.lit (.string []), .lit (.bool false)], [.held (enc (259, .pointer (some ⟨low + 4, 0, none⟩))), .held (enc (259, .pointer (some ⟨low + 3, 0, none⟩))), Rows.laid_loop_example_pub_g03237_pub_bigall_pow5tab, .lit (.int .i64 12), .lit (.int .i64 80), .lit (.int .i64 40), .lit (.int .i64 40)], places) := whole_map (readsM os enc)

set_option maxRecDepth 100000 in
theorem lifted (os : Os) (started : os.Started) (H : Type) (enc : TypeId × Value → H) (F : Stop.Interp) :
    ReturnsInHanded {} Tryz.checked os 4 .any ((OpenSpec.ofChange Rows.fnLiteralTextSpec).preRow enc Tryz.prog Tryz.f4 Rows.fnLiteralTextRow.domain false Rows.fnLiteralTextRow.laid) (((OpenSpec.ofChange Rows.fnLiteralTextSpec).at F).post enc Tryz.prog Tryz.f4 false true false false) := by
  obtain ⟨places, hx⟩ := reads os enc
  refine returnsInHanded_of_row (C := Tryz.checked) (s := OpenSpec.ofChange Rows.fnLiteralTextSpec) own started (by as_aux_lemma => kernel_rfl) Tryz.func4
    (witness_row_at (enc := enc) (C := Tryz.checked) false (laidWorld os) #[.string ⟨#[]⟩, .bool false] rfl (by kernel_rfl) (by kernel_rfl) (by kernel_rfl)
      (OpenSpec.preRow_of_cond 8 hx (by kernel_rfl) (fun k hk => by cases hk) (by kernel_rfl) (laid_met os))) ?_
  intro W base args ds gs before hval hW _ _ _ hL _ _
  exact contract H enc W base args ds gs before hval hW hL

set_option maxRecDepth 100000 in
set_option maxHeartbeats 4000000 in
theorem closed : joinedFacts Tryz.pinned.checked.prog 4 Tryz.f4 (OpenSpec.ofChange Rows.fnLiteralTextSpec).bare Rows.fnLiteralTextRow = true := by
  unfold joinedFacts
  simp only [Bool.and_eq_true]
  repeat' apply And.intro
  all_goals (as_aux_lemma => kernel_rfl)

set_option maxHeartbeats 4000000 in
theorem said : Rows.FnLiteralTextSaid :=
  OpenClaim.holds_of_cond 4 Tryz.f4 rfl rfl rfl rfl rfl rfl rfl ⟨rfl, rfl, rfl, rfl, rfl⟩ rfl rfl rfl rfl rfl (by as_aux_lemma => kernel_rfl) Tryz.func4 closed
    (of_decide_eq_true (by as_aux_lemma => kernel_rfl)) (by unfold Func.isWrapper; first | (rw [if_pos (by decide +kernel)]; as_aux_lemma => kernel_rfl) | (rw [if_neg (by decide +kernel)]; exact ⟨rfl, rfl⟩))
    (fun os started H enc _ F => by rw [OpenClaim.pre_eq_preRow]; exact lifted os started H enc F)

theorem plain (f : FuncId) (fn : Func) (hf : Tryz.pinned.checked.prog.funcNamed "loop.example/pub-g03237/laws.FnLiteralText" = some f) (hfn : Tryz.pinned.checked.prog.funcs[f]? = some fn) :
    true = Tryz.pinned.checked.prog.looks [] ∧ ∀ (j : Nat) t, fn.params[j]? = some t → Tryz.pinned.checked.prog.wantsStandIn t = false := by
  obtain rfl : f = 4 := Option.some.inj ((show Tryz.prog.funcNamed "loop.example/pub-g03237/laws.FnLiteralText" = some 4 by kernel_rfl).symm.trans hf) |>.symm
  obtain rfl : fn = Tryz.f4 := (Option.some.inj (Tryz.func4.symm.trans hfn)).symm
  refine ⟨by kernel_rfl, fun j t ht => ?_⟩
  rw [Tryz.params4] at ht
  have hm : t = 9 ∨ t = 4 := by
    have := Array.mem_of_getElem? ht
    simpa using this
  rcases hm with rfl | rfl
  · exact (show Tryz.prog.wantsStandIn 9 = false by kernel_rfl)
  · exact (show Tryz.prog.wantsStandIn 4 = false by kernel_rfl)

theorem card : Rows.FnLiteralTextCardSaid :=
  Claim7.holds_tied_plain_at .later [] _ _ _ _ said (fun _ h => by cases h) (by as_aux_lemma => kernel_rfl) (fun _ h => by cases h) fnLiteralText_row_tie rfl ⟨rfl, rfl⟩ (by as_aux_lemma => kernel_rfl) rfl plain (by as_aux_lemma => kernel_rfl)
end Go.Proofs.YteidappcoicceaaGreatDoor.fnLiteralText
