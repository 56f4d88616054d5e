/-
  Contracts and lemmas: DivN DivM DivT.
-/
import Derived.Test.YtececkbcinmmpaaGreatDoorK25
import Derived.Test.YtececkbcinmmpaaGreatDoorK03
import Derived.Test.YtececkbcinmmpaaGreatDoorK04
set_option linter.unusedSimpArgs false
set_option linter.unusedVariables false
set_option maxRecDepth 100000
set_option maxHeartbeats 8000000
namespace Go.Proofs.YtececkbcinmmpaaGreatDoor
open Go.RowKit Go.Bg Dg
def GivesQI (az : Option Addr) (Q R : Nat) (w : World) (e : Ending) (w' : World) : Prop :=
  ∃ a n c, e = .returned (.tuple #[.slice a n c, .int .u64 (R : Nat)]) ∧ BigN 139 w' a n c Q ∧ Upd (InB az) w w' ∧ ∀ k, InB a k → InB az k ∨ w.heap.size ≤ k
theorem divW_into (az : Option Addr) (nz cz Z : Nat) (a1 : Option Addr) (n1 c1 X y : Nat) (w : World) (h0 : BigN 139 w az nz cz Z) (h : BigN 139 w a1 n1 c1 X) (hb1 : n1 ≤ 900000) (hy0 : 0 < y) (hy : y < 18446744073709551616) (hd : y = 1 → 0 < n1 → ∀ k, InB a1 k → ¬ InB az k) :
    Calls Tryz.prog 215 #[.slice az nz cz, .slice a1 n1 c1, .int .u64 y] w (GivesQI az (X / y) (X % y) w) := by
  have hyz : ((y : Int) == 0) = false := by simp; omega
  have hm1 := h.num.cm
  have hc1 := h.num.nc
  have hczm := h0.num.cm
  have hncz := h0.num.nc
  unfold maxLen at hm1 hczm
  by_cases z0 : n1 = 0
  · subst z0
    have hX : X = 0 := by have := h.num.lt; simpa using this
    subst hX
    have HX := Lib.hid (show 0 / y = 0 ∧ 0 % y = 0 from ⟨Nat.zero_div _, Nat.zero_mod _⟩)
    rw [HX.out.1, HX.out.2]
    have HE := Lib.hid (show GivesQI az 0 0 w (.returned (.tuple #[.slice az 0 cz, .int .u64 0])) w from ⟨_, _, _, rfl, h0.empty, Upd.refl _ _, fun k hk => .inl hk⟩)
    have hgz : ∃ m, Calls Tryz.prog 152 #[.slice az nz cz, .slice a1 0 c1] w m ∧ ∀ e w', m e w' → e = .returned (.slice az 0 cz) ∧ w' = w := by
      refine ⟨_, natSet0_any az nz cz Z a1 c1 w h0, fun e w' hm => hm⟩
    obtain ⟨m, hm, hme⟩ := hgz
    have HM := Lib.hid hm
    have HME := Lib.hid hme
    by_cases y1 : y = 1
    · subst y1
      clear h hm hme
      clear h0
      go_enter Tryz.func215, Tryz.ntmps215
      go_wp2_with fail
      refine HM.out.mono ?_
      intro e w1 hme
      obtain ⟨rfl, rfl⟩ := HME.out e w1 hme
      clear hme
      go_wp2
      exact bodyPost_ret (v := .tuple #[.slice az 0 cz, .int .u64 0]) (by simp [results, Tryz.results215, go_sem]) rfl HE.out
    · have hy1 : ((y : Int) == 1) = false := by simp; omega
      rcases h0.buf with ⟨rfl, rfl⟩ | ⟨g, cur, rfl, _, _⟩
      · obtain rfl : nz = 0 := by omega
        clear h h0 hm hme
        go_enter Tryz.func215, Tryz.ntmps215
        go_wp2
        exact bodyPost_ret (v := .tuple #[.slice none 0 0, .int .u64 0]) (by simp [results, Tryz.results215, go_sem]) rfl HE.out
      · clear h h0 hm hme
        go_enter Tryz.func215, Tryz.ntmps215
        go_wp2
        exact bodyPost_ret (v := .tuple #[.slice (some ⟨g, 0, none⟩) 0 cz, .int .u64 0]) (by simp [results, Tryz.results215, go_sem]) rfl HE.out
  · have hz : ((n1 : Int) == 0) = false := by simpa using z0
    by_cases y1 : y = 1
    · subst y1
      have HS := Lib.hid (natSet_into az nz cz Z a1 n1 c1 X w h0 h.num (by omega) (by omega) (hd rfl (by omega)))
      have HX := Lib.hid (show X / 1 = X ∧ X % 1 = 0 from ⟨Nat.div_one _, Nat.mod_one _⟩)
      rw [HX.out.1, HX.out.2]
      clear h h0 hd
      go_enter Tryz.func215, Tryz.ntmps215
      go_wp2_with fail
      refine HS.out.mono ?_
      rintro e w1 ⟨a, n, c, rfl, hE⟩
      have HE := Lib.hid hE
      clear hE
      go_wp2
      exact bodyPost_ret (v := .tuple #[.slice a n c, .int .u64 0]) (by simp [results, Tryz.results215, go_sem]) rfl ⟨_, _, _, rfl, HE.out⟩
    · have hy1 : ((y : Int) == 1) = false := by simp; omega
      obtain ⟨b1, o1, rfl, hl1⟩ := h.num.form (by omega)
      obtain ⟨ho1, -⟩ := h.start
      subst ho1
      obtain ⟨g, hg, hmk⟩ := make_into az nz cz Z n1 w h0 (by omega) (by omega)
      have HM := Lib.hid hmk
      have HG := Lib.hid hg
      have HLT := Lib.hid (show X / y < W64 ^ n1 from Nat.lt_of_le_of_lt (Nat.div_le_self _ _) h.num.lt)
      have HXL := Lib.hid h.num.lt
      have HH := Lib.hid h
      have hrl : X % y < 18446744073709551616 := Nat.lt_trans (Nat.mod_lt _ hy0) hy
      clear h h0 hmk hg hd
      go_enter Tryz.func215, Tryz.ntmps215
      go_wp2_with fail
      refine HM.out.mono ?_
      rintro e w1 ⟨c, cur, rfl, hb, hsz, hcn1, hcn2, hbd⟩
      have HD1 := Lib.hid (HH.out.num.keep hbd)
      have HBD := Lib.hid hbd
      have hcm2 := hcn2
      unfold maxLen at hcm2
      have HC := Lib.hid (divWVW_any g 0 n1 c b1 0 c1 cur X y w1 hb (by omega) (by omega) (by omega) (by omega) hcn2 (fun i hi => HD1.out.cell (i := i) hi) hc1 (by unfold maxLen; omega) (.inr (Nat.le_refl _)) hy0 hy HXL.out)
      clear hb hbd
      go_wp2_with fail
      refine HC.out.mono ?_
      rintro e w2 ⟨rfl, hR⟩
      have hEE := givesI_row HBD.out HG.out hsz hR hcn1 hcn2 HLT.out
      have HCL := Lib.hid hEE.1
      have HEE := Lib.hid hEE.2
      clear hEE hR hsz
      generalize X % y = r at *
      go_wp2_with fail
      refine (norm_any (some ⟨g, 0, none⟩) n1 c (dg W64 (X / y)) _ (by omega) (by omega) hcn2 (by simp) HCL.out).mono ?_
      rintro e w4 ⟨rfl, rfl⟩
      go_wp2
      refine bodyPost_ret (v := .tuple #[.slice (some ⟨g, 0, none⟩) (tlen (dg W64 (X / y)) n1) c, .int .u64 (r : Nat)]) (by simp [results, Tryz.results215, go_sem]) rfl ?_
      obtain ⟨a', n', c', e, h1, h2, h3⟩ := HEE.out
      injection e with e
      injection e with e1 e2 e3
      subst e1 e2 e3
      exact ⟨_, _, _, rfl, h1, h2, h3⟩
def GivesQN (Q R : Nat) (w : World) (e : Ending) (w' : World) : Prop :=
  ∃ a n c a' n' c', e = .returned (.tuple #[.slice a n c, .slice a' n' c']) ∧ BigN 139 w' a n c Q ∧ BigN 139 w' a' n' c' R ∧ Below w.heap.size w w'
def GivesDI (az azu : Option Addr) (Q R : Nat) (w : World) (e : Ending) (w' : World) : Prop :=
  ∃ a n c a' n' c', e = .returned (.tuple #[.slice a n c, .slice a' n' c']) ∧ BigN 139 w' a n c Q ∧ BigN 139 w' a' n' c' R ∧ Upd (fun k => InB az k ∨ InB azu k) w w' ∧
    (∀ k, InB a k → (InB az k ∨ w.heap.size ≤ k) ∧ ¬ InB a' k) ∧ (∀ k, InB a' k → InB azu k ∨ w.heap.size ≤ k)
theorem GivesDI.nil {Q R : Nat} {w w' : World} {e : Ending} (h : GivesDI none none Q R w e w') : GivesQN Q R w e w' := by
  obtain ⟨a, n, c, a', n', c', h1, h2, h3, h4, _⟩ := h
  exact ⟨a, n, c, a', n', c', h1, h2, h3, h4.toBelow (fun k _ h => by rcases h with h | h <;> exact inB_none h)⟩
theorem natDiv_word_into (s : Value) (az azu : Option Addr) (nz cz Z nzu czu ZU : Nat) (a1 a2 : Option Addr) (n1 c1 c2 N M : Nat) (w : World) (hz : BigN 139 w az nz cz Z) (hzu : BigN 139 w azu nzu czu ZU) (h1 : BigN 139 w a1 n1 c1 N) (h2 : BigN 139 w a2 1 c2 M) (hb1 : n1 ≤ 900000)
    (hne : ∀ k, InB azu k → ¬ InB az k) (hd : M = 1 → 0 < n1 → ∀ k, InB a1 k → ¬ InB az k) :
    Calls Tryz.prog 154 #[.slice az nz cz, s, .slice azu nzu czu, .slice a1 n1 c1, .slice a2 1 c2] w (GivesDI az azu (N / M) (N % M) w) := by
  have hm2 := h2.num.cm
  have hc2 := h2.num.nc
  unfold maxLen at hm2
  obtain ⟨b2, o2, rfl, hl2⟩ := h2.num.form (by omega)
  have hM : M < 18446744073709551616 := by have := h2.num.lt; rwa [Nat.pow_one] at this
  have hM0 : 0 < M := by
    rcases h2.num.top with h | h
    · omega
    · have h' : 1 ≤ M := by simpa using h
      omega
  have e2 : w.cell? ⟨b2, o2, none⟩ = some (.int .u64 (M : Nat)) := by
    have := h2.num.cell (i := 0) (by omega)
    rw [Nat.add_zero] at this
    rw [this]
    unfold dg
    rw [Nat.pow_zero, Nat.div_one, Nat.mod_eq_of_lt (show M < W64 from hM)]
  have HD := Lib.hid (divW_into az nz cz Z a1 n1 c1 N M w hz h1 hb1 hM0 hM hd)
  have hr : N % M < 18446744073709551616 := Nat.lt_trans (Nat.mod_lt _ hM0) hM
  have HZU := Lib.hid hzu
  have HNE := Lib.hid hne
  have hczum := hzu.num.cm
  have hnczu := hzu.num.nc
  unfold maxLen at hczum
  clear h1 h2 hz hzu hd hne
  generalize N / M = q at *
  generalize N % M = r at *
  go_enter Tryz.func154, Tryz.ntmps154
  go_wp2_with fail
  refine HD.out.mono ?_
  rintro e w1 ⟨a, n, c, rfl, hN, hU, hP⟩
  have HN := Lib.hid hN
  have HU := Lib.hid hU
  have HP := Lib.hid hP
  have hzu1 := HZU.out.apart hU HNE.out
  clear hN hU hP
  go_wp2_with fail
  refine (setWord_into azu nzu czu ZU r hr w1 hzu1).mono ?_
  rintro e w2 ⟨a', n', c', rfl, hN', hU', hP'⟩
  have HE := Lib.hid (show GivesDI az azu q r w (.returned (.tuple #[.slice a n c, .slice a' n' c'])) w2 from by
    have hq : ∀ k, InB a k → ¬ InB azu k := fun k h1 h2 => by
      rcases HP.out k h1 with h | h
      · exact HNE.out k h2 h
      · have := HZU.out.inLt k h2; omega
    refine ⟨_, _, _, _, _, _, rfl, HN.out.apart hU' hq, hN', (HU.out.mono (fun k _ h => .inl h)).trans (hU'.mono (fun k _ h => .inr h)), fun k hk => ⟨HP.out k hk, fun h => ?_⟩, fun k hk => ?_⟩
    · rcases hP' k h with h2 | h2
      · exact hq k hk h2
      · have := HN.out.inLt k hk; omega
    · rcases hP' k hk with h2 | h2
      · exact .inl h2
      · exact .inr (Nat.le_trans HU.out.size h2))
  clear hN' hU' hP' hzu1
  go_wp2
  exact bodyPost_ret (v := .tuple #[.slice a n c, .slice a' n' c']) (by simp [results, Tryz.results154, go_sem]) rfl HE.out
def ThrD (w : World) : Prop := w.cell? ⟨3, 0, none⟩ = some (.int .i64 40)
theorem ThrD.keep {w w' : World} (h : ThrD w) (hb : Below w.heap.size w w') : ThrD w' := cell_keep h hb
def NatDiv : Prop := ∀ (a1 a2 : Option Addr) (n1 n2 c1 c2 N M : Nat) (w : World), ThrD w → BigN 139 w a1 n1 c1 N → BigN 139 w a2 n2 c2 M → 0 < M → n1 ≤ 900 → n2 < 40 →
    Calls Tryz.prog 154 #[.slice none 0 0, .pointer none, .slice none 0 0, .slice a1 n1 c1, .slice a2 n2 c2] w (GivesQN (N / M) (N % M) w)
theorem sg_quo (s t : Bool) (N M : Nat) : sg ((s != t) && decide (0 < N / M)) (N / M) = (sg s N).tdiv (sg t M) := by
  have e : ((N / M : Nat) : Int) = (N : Int).tdiv (M : Int) := by rw [Int.tdiv_eq_ediv_of_nonneg (Int.natCast_nonneg N)]; rfl
  by_cases h : 0 < N / M
  · cases s <;> cases t <;> simp [sg, h, Int.neg_tdiv, Int.tdiv_neg, ← e]
  · have z : N / M = 0 := Nat.eq_zero_of_not_pos h
    have e' : (N : Int).tdiv (M : Int) = 0 := by rw [← e, z]; rfl
    cases s <;> cases t <;> simp [sg, z, e', Int.neg_tdiv, Int.tdiv_neg]
theorem sg_rem (s t : Bool) (N M : Nat) : sg (s && decide (0 < N % M)) (N % M) = (sg s N).tmod (sg t M) := by
  have e : ((N % M : Nat) : Int) = (N : Int).tmod (M : Int) := by rw [Int.tmod_eq_emod_of_nonneg (Int.natCast_nonneg N)]; rfl
  by_cases h : 0 < N % M
  · cases s <;> cases t <;> simp [sg, h, Int.neg_tmod, Int.tmod_neg, ← e]
  · have z : N % M = 0 := Nat.eq_zero_of_not_pos h
    have e' : (N : Int).tmod (M : Int) = 0 := by rw [← e, z]; rfl
    cases s <;> cases t <;> simp [sg, z, e', Int.neg_tmod, Int.tmod_neg]
end Go.Proofs.YtececkbcinmmpaaGreatDoor
