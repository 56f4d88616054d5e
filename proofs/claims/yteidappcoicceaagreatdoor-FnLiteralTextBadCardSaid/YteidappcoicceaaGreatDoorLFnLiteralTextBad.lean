/-
  FnLiteralTextBad walked.
-/
import Derived.Test.YteidappcoicceaaGreatDoorT05
set_option linter.unusedSimpArgs false
set_option linter.unusedVariables false
namespace Go.Proofs.YteidappcoicceaaGreatDoor
open Go.RowKit Go.Bg Dg

theorem litOkNone : LitOk (ByteArray.mk #[34, 34]) (txt []) := fun w => unquoteOk_any (txt [34, 34]) (txt []) w unquoteNone_any

set_option maxRecDepth 100000 in
set_option maxHeartbeats 2000000 in
theorem lawFnLiteralTextBad_any (s : ByteArray) (te : TypeId) (pe : Value) (w : World) (hE : w.cell? ⟨0, 0, none⟩ = some (.iface te pe)) :
    Calls Tryz.prog 3 #[.string s] w fun e w' => e = .returned (.bool true) ∧ Below w.heap.size w w' := by
  by_cases h1 : 2147483647 < s.size
  · go_enter Tryz.func3, Tryz.ntmps3
    go_wp2
    go_ret
    exact ⟨rfl, Below.refl _ _⟩
  by_cases h2 : 60 < s.size
  · go_enter Tryz.func3, Tryz.ntmps3
    go_wp2
    go_ret
    exact ⟨rfl, Below.refl _ _⟩
  have cO := fun w => litText_any (ByteArray.mk #[34, 34]) (txt []) litOkNone w
  unfold txt9 at cO
  have hfk := field_kind
  by_cases h0 : 0 < s.size
  · obtain ⟨x, hx⟩ : ∃ x, s[0]'h0 = x := ⟨_, rfl⟩
    by_cases hq : x = 34 ∨ x = 96 ∨ x = 39
    · have hz : (0 : Int) < (s.size : Int) := by omega
      rcases hq with rfl | rfl | rfl
      all_goals (
        go_enter Tryz.func3, Tryz.ntmps3
        go_wp2
        go_ret
        exact ⟨rfl, Below.refl _ _⟩)
    · have c := fun w (h : w.cell? ⟨0, 0, none⟩ = some (.iface te pe)) => litBad_any s te pe w h (by omega) (fun _ => by rw [hx]; exact ⟨fun e => hq (.inl e), fun e => hq (.inr (.inl e)), fun e => hq (.inr (.inr e))⟩)
      unfold unk9 at c
      have n34 : (((x.toNat : Nat) : Int) == 34) = false := beq_eq_false_iff_ne.2 fun h => hq (.inl (UInt8.toNat_inj.1 (show x.toNat = (34 : UInt8).toNat from by have : (34 : UInt8).toNat = 34 := rfl; omega)))
      have n96 : (((x.toNat : Nat) : Int) == 96) = false := beq_eq_false_iff_ne.2 fun h => hq (.inr (.inl (UInt8.toNat_inj.1 (show x.toNat = (96 : UInt8).toNat from by have : (96 : UInt8).toNat = 96 := rfl; omega))))
      have n39 : (((x.toNat : Nat) : Int) == 39) = false := beq_eq_false_iff_ne.2 fun h => hq (.inr (.inr (UInt8.toNat_inj.1 (show x.toNat = (39 : UInt8).toNat from by have : (39 : UInt8).toNat = 39 := rfl; omega))))
      have c1 := c w hE
      clear hq c
      go_enter Tryz.func3, Tryz.ntmps3
      go_wp2_with fail
      refine c1.mono ?_
      rintro e w2 ⟨rfl, hb2⟩
      clear c1
      go_wp2_with fail
      refine (cO _).mono ?_
      rintro e w3 ⟨rfl, hb3⟩
      go_wp2
      go_ret
      exact ⟨rfl, Below.then hb2 (Nat.le_refl _) hb3⟩
  · have c := fun w (h : w.cell? ⟨0, 0, none⟩ = some (.iface te pe)) => litBad_any s te pe w h (by omega) (fun h => absurd h h0)
    unfold unk9 at c
    have c1 := c w hE
    clear c
    go_enter Tryz.func3, Tryz.ntmps3
    go_wp2_with fail
    refine c1.mono ?_
    rintro e w2 ⟨rfl, hb2⟩
    clear c1
    go_wp2_with fail
    refine (cO _).mono ?_
    rintro e w3 ⟨rfl, hb3⟩
    go_wp2
    go_ret
    exact ⟨rfl, Below.then hb2 (Nat.le_refl _) hb3⟩
end Go.Proofs.YteidappcoicceaaGreatDoor
