/-
  Contracts and lemmas: OpenT Open4.
-/
import Derived.Test.YtececkbcinmmpaaGreatDoorK38
import Derived.ChangeShapes
set_option linter.unusedSimpArgs false
set_option linter.unusedVariables false
set_option maxRecDepth 100000
set_option maxHeartbeats 8000000
namespace Go.Bg
open Go.ChangeShapes Go.WideShapes
theorem trodAll_four {H : Type} {enc : TypeId × Value → H} {P : Program} {w : World} {base : Nat} {spare : Nat → Bool} {held : Bool} {t t' t'' t3 : TypeId} {args : Array Value} {ds : List (DataW H)} {ps : List MemPlace} (h : DataW.TrodAll enc P w base spare held [t, t', t'', t3] args.toList ds ps) :
    ∃ v v' v'' v3 d d' d'' d3 p p' p'' p3, args = #[v, v', v'', v3] ∧ ds = [d, d', d'', d3] ∧ ps = p ++ p' ++ p'' ++ p3 ∧ DataW.Trod enc P w base spare held t v d p ∧ DataW.Trod enc P w base spare held t' v' d' p' ∧ DataW.Trod enc P w base spare held t'' v'' d'' p'' ∧ DataW.Trod enc P w base spare held t3 v3 d3 p3 := by
  obtain ⟨v, vs, d, ds', p, q, hargs, rfl, rfl, hd, hrest⟩ := trodAll_cons h
  obtain ⟨v', vs', d', ds'', p', q', rfl, rfl, rfl, hd', hrest'⟩ := trodAll_cons hrest
  obtain ⟨v'', vs'', d'', ds''', p'', q'', rfl, rfl, rfl, hd'', hrest''⟩ := trodAll_cons hrest'
  obtain ⟨v3, vs3, d3, ds4, p3, q3, rfl, rfl, rfl, hd3, hrest3⟩ := trodAll_cons hrest''
  obtain ⟨rfl, rfl, rfl⟩ := trodAll_nil hrest3
  exact ⟨v, v', v'', v3, d, d', d'', d3, p, p', p'', p3, by cases args; simp_all, rfl, by simp, hd, hd', hd'', hd3⟩
theorem trodAll_mk4 {H : Type} {enc : TypeId × Value → H} {P : Program} {w : World} {base : Nat} {spare : Nat → Bool} {held : Bool} {t t' t'' t3 : TypeId} {v v' v'' v3 : Value} {d d' d'' d3 : DataW H} {p p' p'' p3 : List MemPlace} (h : DataW.Trod enc P w base spare held t v d p) (h' : DataW.Trod enc P w base spare held t' v' d' p')
    (h'' : DataW.Trod enc P w base spare held t'' v'' d'' p'') (h3 : DataW.Trod enc P w base spare held t3 v3 d3 p3) : DataW.TrodAll enc P w base spare held [t, t', t'', t3] [v, v', v'', v3] [d, d', d'', d3] (p ++ (p' ++ (p'' ++ p3))) := ⟨p, p' ++ (p'' ++ p3), h, trodAll_mk3 h' h'' h3, rfl⟩
end Go.Bg
