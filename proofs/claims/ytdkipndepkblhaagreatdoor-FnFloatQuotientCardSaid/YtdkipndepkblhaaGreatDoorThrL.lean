/-
  A laid variable's cell; the laid threshold.
-/
import Derived.LaidLaws
import Derived.ChangeArms
import Derived.Test.YtdkipndepkblhaaGreatDoorBuS
set_option linter.unusedSimpArgs false
set_option linter.unusedVariables false
namespace Go.Bg
open Go.RowKit Dg

theorem laid_lit {P : Program} {w : World} {n : String} {k : IntKind} {z : Int} {g : Nat} {t : TypeId} (hg : P.globalNamed n = some g) (ht : (P.globals[g]?).map (·.type) = some t) (hu : P.underlying t = some (.int k)) :
    ∀ {laid : List (String × DataW Unit)} {ps : List MemPlace}, DataW.LaidVars P w laid ps → (n, DataW.lit (.int k z)) ∈ laid → w.cell? ⟨g, 0, none⟩ = some (.int k z)
  | [], _, _, hm => by cases hm
  | (m, d) :: r, _, ⟨g', t', cs, fuel, p, q, hg', ht', hv, hd, hr, _⟩, hm => by
    rcases List.mem_cons.1 hm with e | hm
    · obtain ⟨rfl, rfl⟩ := Prod.mk.inj e
      obtain rfl := Option.some.inj (hg.symm.trans hg')
      obtain rfl := Option.some.inj (ht.symm.trans ht')
      obtain ⟨z', hc, hx, _⟩ := DataW.trod_int hu hd
      obtain rfl : z = z' := by
        have := congrArg Prod.fst hx
        simpa using this
      have h0 := World.var?_cell hg hv 0
      rw [h0, ← Array.getElem?_toList, hc]
      rfl
    · exact laid_lit hg ht hu hr hm
end Go.Bg
