/-
  Contracts and lemmas: DivM DivT.
-/
import Derived.Test.YtgmienggfaahlaaGreatDoorK20
import Derived.Test.YtgmienggfaahlaaGreatDoorK02
import Derived.Test.YtgmienggfaahlaaGreatDoorK03
set_option linter.unusedSimpArgs false
set_option linter.unusedVariables false
set_option maxRecDepth 100000
set_option maxHeartbeats 8000000
namespace Go.Proofs.YtgmienggfaahlaaGreatDoor
open Go.RowKit Go.Bg Dg
def GivesQN (Q R : Nat) (w : World) (e : Ending) (w' : World) : Prop :=
  ∃ a n c a' n' c', e = .returned (.tuple #[.slice a n c, .slice a' n' c']) ∧ BigN 155 w' a n c Q ∧ BigN 155 w' a' n' c' R ∧ Below w.heap.size w w'
def GivesDI (az azu : Option Addr) (Q R : Nat) (w : World) (e : Ending) (w' : World) : Prop :=
  ∃ a n c a' n' c', e = .returned (.tuple #[.slice a n c, .slice a' n' c']) ∧ BigN 155 w' a n c Q ∧ BigN 155 w' a' n' c' R ∧ Upd (fun k => InB az k ∨ InB azu k) w w' ∧
    (∀ k, InB a k → (InB az k ∨ w.heap.size ≤ k) ∧ ¬ InB a' k) ∧ (∀ k, InB a' k → InB azu k ∨ w.heap.size ≤ k)
theorem GivesDI.nil {Q R : Nat} {w w' : World} {e : Ending} (h : GivesDI none none Q R w e w') : GivesQN Q R w e w' := by
  obtain ⟨a, n, c, a', n', c', h1, h2, h3, h4, _⟩ := h
  exact ⟨a, n, c, a', n', c', h1, h2, h3, h4.toBelow (fun k _ h => by rcases h with h | h <;> exact inB_none h)⟩
theorem natDiv_word_into (s : Value) (az azu : Option Addr) (nz cz Z nzu czu ZU : Nat) (a1 a2 : Option Addr) (n1 c1 c2 N M : Nat) (w : World) (hz : BigN 155 w az nz cz Z) (hzu : BigN 155 w azu nzu czu ZU) (h1 : BigN 155 w a1 n1 c1 N) (h2 : BigN 155 w a2 1 c2 M) (hb1 : n1 ≤ 900000)
    (hne : ∀ k, InB azu k → ¬ InB az k) (hd : M = 1 → 0 < n1 → ∀ k, InB a1 k → ¬ InB az k) :
    Calls Tryz.prog 145 #[.slice az nz cz, s, .slice azu nzu czu, .slice a1 n1 c1, .slice a2 1 c2] w (GivesDI az azu (N / M) (N % M) w) := by
  have hm2 := h2.num.cm
  have hc2 := h2.num.nc
  unfold maxLen at hm2
  obtain ⟨b2, o2, rfl, hl2⟩ := h2.num.form (by omega)
  have hM : M < 18446744073709551616 := by have := h2.num.lt; rwa [Nat.pow_one] at this
  have hM0 : 0 < M := by
    rcases h2.num.top with h | h
    · omega
    · have h' : 1 ≤ M := by simpa using h
      omega
  have e2 : w.cell? ⟨b2, o2, none⟩ = some (.int .u64 (M : Nat)) := by
    have := h2.num.cell (i := 0) (by omega)
    rw [Nat.add_zero] at this
    rw [this]
    unfold dg
    rw [Nat.pow_zero, Nat.div_one, Nat.mod_eq_of_lt (show M < W64 from hM)]
  have HD := Lib.hid (divW_into az nz cz Z a1 n1 c1 N M w hz h1 hb1 hM0 hM hd)
  have hr : N % M < 18446744073709551616 := Nat.lt_trans (Nat.mod_lt _ hM0) hM
  have HZU := Lib.hid hzu
  have HNE := Lib.hid hne
  have hczum := hzu.num.cm
  have hnczu := hzu.num.nc
  unfold maxLen at hczum
  clear h1 h2 hz hzu hd hne
  generalize N / M = q at *
  generalize N % M = r at *
  go_enter Tryz.func145, Tryz.ntmps145
  go_wp2_with fail
  refine HD.out.mono ?_
  rintro e w1 ⟨a, n, c, rfl, hN, hU, hP⟩
  have HN := Lib.hid hN
  have HU := Lib.hid hU
  have HP := Lib.hid hP
  have hzu1 := HZU.out.apart hU HNE.out
  clear hN hU hP
  go_wp2_with fail
  refine (setWord_into azu nzu czu ZU r hr w1 hzu1).mono ?_
  rintro e w2 ⟨a', n', c', rfl, hN', hU', hP'⟩
  have HE := Lib.hid (show GivesDI az azu q r w (.returned (.tuple #[.slice a n c, .slice a' n' c'])) w2 from by
    have hq : ∀ k, InB a k → ¬ InB azu k := fun k h1 h2 => by
      rcases HP.out k h1 with h | h
      · exact HNE.out k h2 h
      · have := HZU.out.inLt k h2; omega
    refine ⟨_, _, _, _, _, _, rfl, HN.out.apart hU' hq, hN', (HU.out.mono (fun k _ h => .inl h)).trans (hU'.mono (fun k _ h => .inr h)), fun k hk => ⟨HP.out k hk, fun h => ?_⟩, fun k hk => ?_⟩
    · rcases hP' k h with h2 | h2
      · exact hq k hk h2
      · have := HN.out.inLt k hk; omega
    · rcases hP' k hk with h2 | h2
      · exact .inl h2
      · exact .inr (Nat.le_trans HU.out.size h2))
  clear hN' hU' hP' hzu1
  go_wp2
  exact bodyPost_ret (v := .tuple #[.slice a n c, .slice a' n' c']) (by simp [results, Tryz.results145, go_sem]) rfl HE.out
def ThrD (w : World) : Prop := w.cell? ⟨3, 0, none⟩ = some (.int .i64 40)
theorem ThrD.keep {w w' : World} (h : ThrD w) (hb : Below w.heap.size w w') : ThrD w' := cell_keep h hb
end Go.Proofs.YtgmienggfaahlaaGreatDoor
