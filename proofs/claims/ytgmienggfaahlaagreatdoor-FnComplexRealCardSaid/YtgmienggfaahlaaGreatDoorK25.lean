/-
  Contracts and lemmas: LehP SimP LehU.
-/
import Derived.Test.YtgmienggfaahlaaGreatDoorK00
import Derived.Test.YtgmienggfaahlaaGreatDoorK13
import Derived.Test.YtgmienggfaahlaaGreatDoorK14
import Derived.Test.YtgmienggfaahlaaGreatDoorK15
import Derived.Test.YtgmienggfaahlaaGreatDoorK24
set_option linter.unusedSimpArgs false
set_option linter.unusedVariables false
set_option maxRecDepth 100000
set_option maxHeartbeats 8000000
namespace Go.Bg
open Dg
structure Lh (X Y a1 a2 u1 u2 v1 v2 : Nat) (even : Bool) : Prop where
  det : if even then u2 * v1 = u1 * v2 + 1 else u1 * v2 = u2 * v1 + 1
  ex : a1 * v2 + a2 * v1 = X
  ey : a1 * u2 + a2 * u1 = Y
  le : a2 ≤ a1
  uv : u2 ≤ v2
  st : u1 ≤ v1 ∨ (u1 = 1 ∧ v1 = 0 ∧ u2 = 0 ∧ v2 = 1)
  pos : 1 ≤ v2
theorem Lh.start {X Y : Nat} (h : Y ≤ X) : Lh X Y X Y 1 0 0 1 false := ⟨by simp, by simp, by simp, h, by omega, .inr ⟨rfl, rfl, rfl, rfl⟩, Nat.le_refl _⟩
theorem Lh.step {X Y a1 a2 u1 u2 v1 v2 : Nat} {even : Bool} (l : Lh X Y a1 a2 u1 u2 v1 v2 even) (h2 : 0 < a2) :
    Lh X Y a2 (a1 % a2) u2 (u1 + a1 / a2 * u2) v2 (v1 + a1 / a2 * v2) (!even) := by
  have hq : 1 ≤ a1 / a2 := Nat.div_pos l.le h2
  have hd := Nat.div_add_mod a1 a2
  have hr := Nat.mod_lt a1 h2
  generalize a1 / a2 = q at *
  generalize a1 % a2 = r at *
  obtain ⟨det, ex, ey, le, uv, st, pos⟩ := l
  refine ⟨?_, ?_, ?_, Nat.le_of_lt hr, ?_, .inl uv, ?_⟩
  · cases even
    · simp only [Bool.not_false, if_true, Bool.false_eq_true, if_false] at det ⊢
      grind
    · simp only [Bool.not_true, if_true, Bool.false_eq_true, if_false] at det ⊢
      grind
  · subst hd; rw [← ex]; grind
  · subst hd; rw [← ey]; grind
  · rcases st with h | ⟨h1, h2, h3, h4⟩
    · exact Nat.add_le_add h (Nat.mul_le_mul_left _ uv)
    · subst h1 h2 h3 h4; omega
  · have : 1 * 1 ≤ q * v2 := Nat.mul_le_mul hq pos
    omega
theorem Lh.v2_le {X Y a1 a2 u1 u2 v1 v2 : Nat} {even : Bool} (l : Lh X Y a1 a2 u1 u2 v1 v2 even) (h : 0 < a1) : v2 ≤ X := by
  have h1 : 1 * v2 ≤ a1 * v2 := Nat.mul_le_mul_right _ h
  have := l.ex
  omega
theorem Lh.v12_le {X Y a1 a2 u1 u2 v1 v2 : Nat} {even : Bool} (l : Lh X Y a1 a2 u1 u2 v1 v2 even) (h : 0 < a2) : v1 + v2 ≤ X := by
  have h1 : 1 * v2 ≤ a1 * v2 := Nat.mul_le_mul_right _ (Nat.lt_of_lt_of_le h l.le)
  have h2 : 1 * v1 ≤ a2 * v1 := Nat.mul_le_mul_right _ h
  have := l.ex
  omega
def lsg (even : Bool) : Int := if even then -1 else 1
theorem Lh.take {X Y a1 a2 u1 u2 v1 v2 : Nat} {even : Bool} (l : Lh X Y a1 a2 u1 u2 v1 v2 even) {A B T x y : Nat} (hA : A = X * T + x) (hB : B = Y * T + y) (hx : x < T) (hy : y < T) (c1 : v2 ≤ a2) (c2 : v1 + v2 ≤ a1 - a2) (hu : u1 ≤ v1) :
    ∃ P Q : Nat, (P : Int) = lsg even * (u1 * A - v1 * B) ∧ (Q : Int) = lsg even * (v2 * B - u2 * A) ∧ Q ≤ P ∧ A = v2 * P + v1 * Q ∧ B = u2 * P + u1 * Q := by
  obtain ⟨det, ex, ey, le, uv, st, pos⟩ := l
  have m1 : v2 * T ≤ a2 * T := Nat.mul_le_mul_right _ c1
  have m2 : (v1 + v2) * T ≤ (a1 - a2) * T := Nat.mul_le_mul_right _ c2
  have m2' : (a1 - a2) * T = a1 * T - a2 * T := Nat.sub_mul _ _ _
  have m2'' : a2 * T ≤ a1 * T := Nat.mul_le_mul_right _ le
  have m3 : u2 * x ≤ v2 * T := Nat.mul_le_mul uv (Nat.le_of_lt hx)
  have m4 : v2 * y ≤ v2 * T := Nat.mul_le_mul_left _ (Nat.le_of_lt hy)
  have m5 : v1 * y ≤ v1 * T := Nat.mul_le_mul_left _ (Nat.le_of_lt hy)
  have m6 : u1 * x ≤ v1 * T := Nat.mul_le_mul hu (Nat.le_of_lt hx)
  rw [Nat.add_mul, m2'] at m2
  cases even
  · simp only [Bool.false_eq_true, if_false] at det
    have hP : v1 * y ≤ a1 * T + u1 * x := by omega
    have hQ : u2 * x ≤ a2 * T + v2 * y := by omega
    obtain ⟨P, eP⟩ : ∃ P, P + v1 * y = a1 * T + u1 * x := ⟨a1 * T + u1 * x - v1 * y, by omega⟩
    obtain ⟨Q, eQ⟩ : ∃ Q, Q + u2 * x = a2 * T + v2 * y := ⟨a2 * T + v2 * y - u2 * x, by omega⟩
    have hle : Q ≤ P := by omega
    clear m1 m2 m2' m2'' m3 m4 m5 m6 hP hQ c1 c2 hx hy le uv st pos hu
    have eA : A = v2 * P + v1 * Q := by subst hA ex; grind
    have eB : B = u2 * P + u1 * Q := by subst hB ey; grind
    refine ⟨P, Q, ?_, ?_, hle, eA, eB⟩
    · simp only [lsg, Bool.false_eq_true, if_false]
      have e1 : (A : Int) = v2 * P + v1 * Q := by exact_mod_cast eA
      have e2 : (B : Int) = u2 * P + u1 * Q := by exact_mod_cast eB
      have e3 : (u1 : Int) * v2 = u2 * v1 + 1 := by exact_mod_cast det
      rw [e1, e2]; grind
    · simp only [lsg, Bool.false_eq_true, if_false]
      have e1 : (A : Int) = v2 * P + v1 * Q := by exact_mod_cast eA
      have e2 : (B : Int) = u2 * P + u1 * Q := by exact_mod_cast eB
      have e3 : (u1 : Int) * v2 = u2 * v1 + 1 := by exact_mod_cast det
      rw [e1, e2]; grind
  · simp only [if_true] at det
    have hP : u1 * x ≤ a1 * T + v1 * y := by omega
    have hQ : v2 * y ≤ a2 * T + u2 * x := by omega
    obtain ⟨P, eP⟩ : ∃ P, P + u1 * x = a1 * T + v1 * y := ⟨a1 * T + v1 * y - u1 * x, by omega⟩
    obtain ⟨Q, eQ⟩ : ∃ Q, Q + v2 * y = a2 * T + u2 * x := ⟨a2 * T + u2 * x - v2 * y, by omega⟩
    have m7 : u2 * x ≤ v2 * T := m3
    have hle : Q ≤ P := by omega
    clear m1 m2 m2' m2'' m3 m4 m5 m6 m7 hP hQ c1 c2 hx hy le uv st pos hu
    have eA : A = v2 * P + v1 * Q := by subst hA ex; grind
    have eB : B = u2 * P + u1 * Q := by subst hB ey; grind
    refine ⟨P, Q, ?_, ?_, hle, eA, eB⟩
    · simp only [lsg, if_true]
      have e1 : (A : Int) = v2 * P + v1 * Q := by exact_mod_cast eA
      have e2 : (B : Int) = u2 * P + u1 * Q := by exact_mod_cast eB
      have e3 : (u2 : Int) * v1 = u1 * v2 + 1 := by exact_mod_cast det
      rw [e1, e2]; grind
    · simp only [lsg, if_true]
      have e1 : (A : Int) = v2 * P + v1 * Q := by exact_mod_cast eA
      have e2 : (B : Int) = u2 * P + u1 * Q := by exact_mod_cast eB
      have e3 : (u2 : Int) * v1 = u1 * v2 + 1 := by exact_mod_cast det
      rw [e1, e2]; grind
theorem lh_gcd {A B P Q u1 u2 v1 v2 : Nat} {even : Bool} (hP : (P : Int) = lsg even * (u1 * A - v1 * B)) (hQ : (Q : Int) = lsg even * (v2 * B - u2 * A)) (hA : A = v2 * P + v1 * Q) (hB : B = u2 * P + u1 * Q) : Nat.gcd P Q = Nat.gcd A B := by
  apply Nat.dvd_antisymm
  · refine Nat.dvd_gcd ?_ ?_
    · rw [hA]; exact Nat.dvd_add (Nat.dvd_trans (Nat.gcd_dvd_left _ _) (Nat.dvd_mul_left _ _)) (Nat.dvd_trans (Nat.gcd_dvd_right _ _) (Nat.dvd_mul_left _ _))
    · rw [hB]; exact Nat.dvd_add (Nat.dvd_trans (Nat.gcd_dvd_left _ _) (Nat.dvd_mul_left _ _)) (Nat.dvd_trans (Nat.gcd_dvd_right _ _) (Nat.dvd_mul_left _ _))
  · have dA : ((Nat.gcd A B : Nat) : Int) ∣ (A : Int) := Int.natCast_dvd_natCast.2 (Nat.gcd_dvd_left _ _)
    have dB : ((Nat.gcd A B : Nat) : Int) ∣ (B : Int) := Int.natCast_dvd_natCast.2 (Nat.gcd_dvd_right _ _)
    refine Nat.dvd_gcd ?_ ?_
    · refine Int.natCast_dvd_natCast.1 ?_
      rw [hP]
      exact Int.dvd_mul_of_dvd_right (Int.dvd_sub (Int.dvd_mul_of_dvd_right dA) (Int.dvd_mul_of_dvd_right dB))
    · refine Int.natCast_dvd_natCast.1 ?_
      rw [hQ]
      exact Int.dvd_mul_of_dvd_right (Int.dvd_sub (Int.dvd_mul_of_dvd_right dB) (Int.dvd_mul_of_dvd_right dA))
theorem lh_less {A B P Q u1 u2 v1 v2 : Nat} (hA : A = v2 * P + v1 * Q) (h1 : 1 ≤ v1) (h2 : 1 ≤ v2) (hB : 0 < B) : P + Q < A + B := by
  have m1 : 1 * P ≤ v2 * P := Nat.mul_le_mul_right _ h2
  have m2 : 1 * Q ≤ v1 * Q := Nat.mul_le_mul_right _ h1
  omega
end Go.Bg
namespace Go.Bg
open Go.RowKit Dg
theorem sim_top {A p s t : Nat} (hst : s + t = 64) (hA : A < W64 ^ (p + 2)) (h : dg W64 A (p + 1) * 2 ^ s < W64) :
    (dg W64 A (p + 1) * 2 ^ s % W64) ||| (dg W64 A p / 2 ^ t) = A / (W64 ^ p * 2 ^ t) ∧ A / (W64 ^ p * 2 ^ t) < W64 := by
  have hh := half hst (A / W64 ^ p)
  have e1 : A / W64 ^ p / W64 = dg W64 A (p + 1) := by
    have hl : A / W64 ^ (p + 1) < W64 := (Nat.div_lt_iff_lt_mul (Nat.pow_pos W64_pos)).2 (by rw [Nat.mul_comm, ← Nat.pow_succ]; exact hA)
    rw [Nat.div_div_eq_div_mul, ← Nat.pow_succ]
    unfold dg
    rw [Nat.mod_eq_of_lt hl]
  have hl : dg W64 A (p + 1) < W64 := dg_lt W64_pos _ _
  have e2 : A / W64 ^ p % W64 = dg W64 A p := rfl
  have hlt : A / (W64 ^ p * 2 ^ t) < W64 := by
    refine (Nat.div_lt_iff_lt_mul (Nat.mul_pos (Nat.pow_pos W64_pos) (Nat.pow_pos (by decide)))).2 ?_
    have d1 := Nat.div_add_mod (A / W64 ^ p) W64
    rw [e1] at d1
    have d2 := Nat.div_add_mod A (W64 ^ p)
    have d3 := Nat.mod_lt (A / W64 ^ p) W64_pos
    have d4 := Nat.mod_lt A (Nat.pow_pos (n := p) W64_pos)
    have d5 : dg W64 A (p + 1) + 1 ≤ 2 ^ t := by
      have : dg W64 A (p + 1) < 2 ^ t := by
        have e : W64 = 2 ^ t * 2 ^ s := by rw [← Nat.pow_add, show t + s = 64 from by omega, W64_eq]
        have h' : dg W64 A (p + 1) * 2 ^ s < 2 ^ t * 2 ^ s := by rw [← e]; exact h
        exact Nat.lt_of_mul_lt_mul_right h'
      omega
    generalize dg W64 A (p + 1) = d at *
    have d6 : A / W64 ^ p < W64 * (d + 1) := by rw [Nat.mul_add, Nat.mul_one]; omega
    have d7 : A < W64 ^ p * (W64 * (d + 1)) := by
      have : W64 ^ p * (A / W64 ^ p + 1) ≤ W64 ^ p * (W64 * (d + 1)) := Nat.mul_le_mul_left _ d6
      rw [Nat.mul_add, Nat.mul_one] at this
      omega
    refine Nat.lt_of_lt_of_le d7 ?_
    rw [Nat.mul_comm W64 (W64 ^ p * 2 ^ t), Nat.mul_assoc, Nat.mul_comm W64 (d + 1)]
    exact Nat.mul_le_mul_left _ (Nat.mul_le_mul_right _ d5)
  refine ⟨?_, hlt⟩
  rw [e1, e2, Nat.mod_eq_of_lt hl, Nat.div_div_eq_div_mul, Nat.mod_eq_of_lt hlt] at hh
  exact hh.symm
theorem sim_one {B p t : Nat} (hB : B < W64 ^ (p + 1)) : dg W64 B p / 2 ^ t = B / (W64 ^ p * 2 ^ t) := by
  rw [← Nat.div_div_eq_div_mul]
  unfold dg
  rw [Nat.mod_eq_of_lt ((Nat.div_lt_iff_lt_mul (Nat.pow_pos W64_pos)).2 (by rw [Nat.mul_comm, ← Nat.pow_succ]; exact hB))]
theorem sim_none {B p m t : Nat} (hB : B < W64 ^ m) (hm : m ≤ p) : B / (W64 ^ p * 2 ^ t) = 0 := by
  refine Nat.div_eq_of_lt (Nat.lt_of_lt_of_le hB (Nat.le_trans (Nat.pow_le_pow_right W64_pos hm) ?_))
  exact Nat.le_mul_of_pos_right _ (Nat.pow_pos (by decide))
def SimRes (A B u0 u1 v0 v1 : Nat) (even : Bool) : Prop :=
  u0 < W64 ∧ u1 < W64 ∧ v0 < W64 ∧ v1 < W64 ∧ (0 < v0 → 0 < u1 ∧ ∃ P Q : Nat, (P : Int) = lsg (!even) * (u0 * A - v0 * B) ∧ (Q : Int) = lsg (!even) * (v1 * B - u1 * A) ∧ Q ≤ P ∧ Nat.gcd P Q = Nat.gcd A B ∧ P + Q < A + B ∧ P ≤ A ∧ Q ≤ B)
structure SimAt (X Y a1 a2 u0 u1 u2 v0 v1 v2 : Nat) (even : Bool) : Prop where
  st : Lh X Y a1 a2 u1 u2 v1 v2 even
  bx : X < W64
  lt : u0 < W64 ∧ u1 < W64 ∧ u2 < W64 ∧ v0 < W64 ∧ v1 < W64 ∧ v2 < W64 ∧ a1 < W64
  nz : (u1 = 1 ∧ v1 = 0) ∨ 0 < u2
  old : v0 = 0 ∨ (u0 ≤ v0 ∧ 0 < u1 ∧ ∃ b1 b2, Lh X Y b1 b2 u0 u1 v0 v1 (!even) ∧ v1 ≤ b2 ∧ v0 + v1 ≤ b1 - b2)
theorem SimAt.start {X Y : Nat} (hX : X < W64) (h : Y ≤ X) : SimAt X Y X Y 0 1 0 0 0 1 false :=
  ⟨Lh.start h, hX, by unfold W64 at *; omega, .inl ⟨rfl, rfl⟩, .inl rfl⟩
theorem SimAt.room {X Y a1 a2 u0 u1 u2 v0 v1 v2 : Nat} {even : Bool} (h : SimAt X Y a1 a2 u0 u1 u2 v0 v1 v2 even) (c : v2 ≤ a2) : 0 < a2 ∧ a2 ≤ a1 ∧ v1 + v2 < W64 := by
  have hp := h.st.pos
  have h2 : 0 < a2 := by omega
  have := h.st.v12_le h2
  have := h.bx
  exact ⟨h2, h.st.le, by omega⟩
theorem SimAt.step {X Y a1 a2 u0 u1 u2 v0 v1 v2 : Nat} {even : Bool} (h : SimAt X Y a1 a2 u0 u1 u2 v0 v1 v2 even) (c : v2 ≤ a2) (c2 : v1 + v2 ≤ a1 - a2) :
    SimAt X Y a2 (a1 % a2) u1 u2 (u1 + a1 / a2 * u2) v1 v2 (v1 + a1 / a2 * v2) (!even) ∧ u1 + a1 / a2 * u2 < W64 ∧ v1 + a1 / a2 * v2 < W64 := by
  obtain ⟨h2, hle, -⟩ := h.room c
  have hs := h.st.step h2
  have hv := hs.v2_le h2
  have hb := h.bx
  have huv := hs.uv
  have hu : u1 + a1 / a2 * u2 < W64 := by omega
  have hv' : v1 + a1 / a2 * v2 < W64 := by omega
  have hq : 1 ≤ a1 / a2 := Nat.div_pos hle h2
  obtain ⟨l0, l1, l2, l3, l4, l5, l6⟩ := h.lt
  refine ⟨⟨hs, hb, ⟨l1, l2, hu, l4, l5, hv', by omega⟩, .inr ?_, ?_⟩, hu, hv'⟩
  · rcases h.nz with ⟨h1, _⟩ | h1
    · omega
    · have : 1 * 1 ≤ a1 / a2 * u2 := Nat.mul_le_mul hq h1
      omega
  · rcases Nat.eq_zero_or_pos v1 with h0 | h0
    · exact .inl h0
    · refine .inr ⟨?_, ?_, a1, a2, by rw [Bool.not_not]; exact h.st, c, c2⟩
      · rcases h.st.st with hst | ⟨_, hz, _, _⟩
        · exact hst
        · omega
      · rcases h.nz with ⟨_, h1⟩ | h1
        · omega
        · exact h1
theorem SimAt.done {X Y a1 a2 u0 u1 u2 v0 v1 v2 : Nat} {even : Bool} (h : SimAt X Y a1 a2 u0 u1 u2 v0 v1 v2 even) {A B T : Nat} (hA : X = A / T) (hB : Y = B / T) (hT : 0 < T) (hB0 : 0 < B) : SimRes A B u0 u1 v0 v1 even := by
  obtain ⟨l0, l1, l2, l3, l4, l5, l6⟩ := h.lt
  refine ⟨l0, l1, l3, l4, fun hv => ?_⟩
  rcases h.old with h0 | ⟨h0, hu1, b1, b2, hl, c1, c2⟩
  · omega
  · have eA : A = X * T + A % T := by rw [hA, Nat.mul_comm]; exact (Nat.div_add_mod A T).symm
    have eB : B = Y * T + B % T := by rw [hB, Nat.mul_comm]; exact (Nat.div_add_mod B T).symm
    obtain ⟨P, Q, hP, hQ, hle, e1, e2⟩ := hl.take eA eB (Nat.mod_lt _ hT) (Nat.mod_lt _ hT) c1 c2 h0
    have hg := lh_gcd hP hQ e1 e2
    have hlt := lh_less (u1 := u0) (u2 := u1) e1 hv hl.pos hB0
    have m1 : 1 * P ≤ v1 * P := Nat.mul_le_mul_right _ hl.pos
    have m2 : 1 * P ≤ u1 * P := Nat.mul_le_mul_right _ hu1
    exact ⟨hu1, P, Q, hP, hQ, hle, hg, hlt, by omega, by omega⟩
end Go.Bg
namespace Go.Proofs.YtgmienggfaahlaaGreatDoor
open Go.RowKit Go.Bg Dg
structure Four (B : Nat) (w0 : World) (x y q r : Rg) (w : World) : Prop where
  ax : RA w x
  ay : RA w y
  aq : RA w q
  ar : RA w r
  xy : x.Off y
  xq : x.Off q
  xr : x.Off r
  yq : y.Off q
  yr : y.Off r
  qr : q.Off r
  own : ∀ k, x.S k ∨ y.S k ∨ q.S k ∨ r.S k → B ≤ k
  bel : Below B w0 w
  siz : B ≤ w.heap.size
theorem Four.keep {B : Nat} {w0 : World} {x y q r : Rg} {w w' : World} (h : Four B w0 x y q r w) (hb : Below w.heap.size w w') : Four B w0 x y q r w' :=
  ⟨h.ax.keep hb, h.ay.keep hb, h.aq.keep hb, h.ar.keep hb, h.xy, h.xq, h.xr, h.yq, h.yr, h.qr, h.own, h.bel.trans (hb.mono h.siz), Nat.le_trans h.siz hb.size⟩
theorem Four.setX {B : Nat} {w0 : World} {x x' y q r : Rg} {w w' : World} (h : Four B w0 x y q r w) (t : RTo x x' w w') : Four B w0 x' y q r w' :=
  ⟨t.at', h.ay.other t h.xy.symm, h.aq.other t h.xq.symm, h.ar.other t h.xr.symm, (h.xy.symm.to h.ay t).symm, (h.xq.symm.to h.aq t).symm, (h.xr.symm.to h.ar t).symm, h.yq, h.yr, h.qr,
    fun k hk => by
      rcases hk with hk | hk
      · rcases t.S k hk with h1 | h1
        · exact h.own k (.inl h1)
        · exact Nat.le_trans h.siz h1
      · exact h.own k (.inr hk),
    t.upd.below h.bel h.siz (fun k _ hk => h.own k (.inl hk)), Nat.le_trans h.siz t.upd.size⟩
theorem Four.swapXY {B : Nat} {w0 : World} {x y q r : Rg} {w : World} (h : Four B w0 x y q r w) : Four B w0 y x q r w :=
  ⟨h.ay, h.ax, h.aq, h.ar, h.xy.symm, h.yq, h.yr, h.xq, h.xr, h.qr, fun k hk => h.own k (by rcases hk with h | h | h; exact .inr (.inl h); exact .inl h; exact .inr (.inr h)), h.bel, h.siz⟩
theorem Four.swapXQ {B : Nat} {w0 : World} {x y q r : Rg} {w : World} (h : Four B w0 x y q r w) : Four B w0 q y x r w :=
  ⟨h.aq, h.ay, h.ax, h.ar, h.yq.symm, h.xq.symm, h.qr, h.xy.symm, h.yr, h.xr, fun k hk => h.own k (by rcases hk with h | h | h | h; exact .inr (.inr (.inl h)); exact .inr (.inl h); exact .inl h; exact .inr (.inr (.inr h))), h.bel, h.siz⟩
theorem Four.swapXR {B : Nat} {w0 : World} {x y q r : Rg} {w : World} (h : Four B w0 x y q r w) : Four B w0 r y q x w :=
  ⟨h.ar, h.ay, h.aq, h.ax, h.yr.symm, h.qr.symm, h.xr.symm, h.yq, h.xy.symm, h.xq.symm, fun k hk => h.own k (by rcases hk with h | h | h | h; exact .inr (.inr (.inr h)); exact .inr (.inl h); exact .inr (.inr (.inl h)); exact .inl h), h.bel, h.siz⟩
theorem Four.setY {B : Nat} {w0 : World} {x y y' q r : Rg} {w w' : World} (h : Four B w0 x y q r w) (t : RTo y y' w w') : Four B w0 x y' q r w' := (h.swapXY.setX t).swapXY
theorem Four.setQ {B : Nat} {w0 : World} {x y q q' r : Rg} {w w' : World} (h : Four B w0 x y q r w) (t : RTo q q' w w') : Four B w0 x y q' r w' := (h.swapXQ.setX t).swapXQ
theorem Four.setR {B : Nat} {w0 : World} {x y q r r' : Rg} {w w' : World} (h : Four B w0 x y q r w) (t : RTo r r' w w') : Four B w0 x y q r' w' := (h.swapXR.setX t).swapXR
theorem rg_len {w : World} {x : Rg} {L : Nat} (h : RA w x) (hN : x.N < W64 ^ L) : x.n ≤ L := len_le W64_gt h.num.num.top hN
theorem word_up {N u L : Nat} (hN : N < W64 ^ L) (hu : u < W64) : N * u < W64 ^ (L + 1) := by
  rw [Nat.pow_succ]
  exact Nat.mul_lt_mul_of_lt_of_le hN (Nat.le_of_lt hu) W64_pos
theorem mulW_at (zb xb : Nat) (z x : Rg) (neg : Bool) (y : Nat) (w : World) (ez : z.b = zb) (ex : x.b = xb) (hz : RA w z) (hx : RA w x) (hy : y < W64) (hn : x.n ≤ 900000) :
    Calls Tryz.prog 240 #[.pointer (some ⟨zb, 0, none⟩), .pointer (some ⟨xb, 0, none⟩), .bool neg, .int .u64 y] w fun e w' => e = .returned (.tuple #[]) ∧ ∃ z', RTo z z' w w' ∧ z'.s = (x.s != neg) ∧ z'.N = x.N * y := by
  subst ez ex
  exact mulW_any z x neg y w hz hx hy hn
theorem intAdd_at (zb yb : Nat) (z y : Rg) (w : World) (ez : z.b = zb) (ey : y.b = yb) (hz : RA w z) (hy : RA w y) (ho : y.Off z) (hs : z.s ≠ y.s) (hy0 : 0 < y.N) (hn : z.n ≤ 900000) (hn' : y.n ≤ 900000) :
    Calls Tryz.prog 61 #[.pointer (some ⟨zb, 0, none⟩), .pointer (some ⟨zb, 0, none⟩), .pointer (some ⟨yb, 0, none⟩)] w fun e w' => e = .returned (.pointer (some ⟨zb, 0, none⟩)) ∧ ∃ z', RTo z z' w w' ∧ sg z'.s z'.N = sg z.s z.N + sg y.s y.N ∧ (z'.s = true → 0 < z'.N) := by
  subst ez ey
  exact intAdd_reg z y w hz hy ho hs hy0 hn hn'
theorem sg_lsg (e : Bool) (M : Nat) : sg e M = lsg e * (M : Int) := by cases e <;> simp [sg, lsg]
theorem sg_pos {s : Bool} {N P : Nat} (h : sg s N = (P : Int)) (hz : s = true → 0 < N) : s = false ∧ N = P := by
  cases s
  · simp only [sg, Bool.false_eq_true, if_false] at h; exact ⟨rfl, by omega⟩
  · have := hz rfl; simp only [sg, if_true] at h; omega
theorem upd_sums {even : Bool} {x y u0 u1 v0 v1 P Q : Nat} (hP : (P : Int) = lsg (!even) * (u0 * x - v0 * y)) (hQ : (Q : Int) = lsg (!even) * (v1 * y - u1 * x)) :
    sg (!even) (x * u0) + sg even (y * v0) = (P : Int) ∧ sg (!even) (y * v1) + sg even (x * u1) = (Q : Int) := by
  rw [hP, hQ, sg_lsg, sg_lsg, sg_lsg, sg_lsg]
  cases even <;> simp only [lsg, Bool.not_true, Bool.not_false, Bool.false_eq_true, if_true, if_false, Int.natCast_mul] <;> constructor <;> grind
def Lessened (B : Nat) (w0 : World) (x y q r : Rg) (w' : World) : Prop :=
  ∃ x' y' q' r', Four B w0 x' y' q' r' w' ∧ x'.b = x.b ∧ y'.b = y.b ∧ q'.b = q.b ∧ r'.b = r.b ∧ x'.s = false ∧ y'.s = false ∧ y'.N ≤ x'.N ∧ Nat.gcd x'.N y'.N = Nat.gcd x.N y.N ∧ x'.N + y'.N < x.N + y.N ∧ x'.N ≤ x.N ∧ y'.N ≤ y.N
theorem lehmerUpdate_any (B : Nat) (w0 : World) (x y q r : Rg) (u0 u1 v0 v1 : Nat) (even : Bool) (w : World) (F : Four B w0 x y q r w) (xs : x.s = false) (ys : y.s = false) (hS : SimRes x.N y.N u0 u1 v0 v1 even) (hv : 0 < v0) (hx0 : 0 < x.N) (hy0 : 0 < y.N) (L : Nat) (hL : L ≤ 800000) (hxL : x.N < W64 ^ L) (hyL : y.N < W64 ^ L) :
    Calls Tryz.prog 238 #[.pointer (some ⟨x.b, 0, none⟩), .pointer (some ⟨y.b, 0, none⟩), .pointer (some ⟨q.b, 0, none⟩), .pointer (some ⟨r.b, 0, none⟩), .int .u64 u0, .int .u64 u1, .int .u64 v0, .int .u64 v1, .bool even] w
      fun e w' => e = .returned (.tuple #[]) ∧ Lessened B w0 x y q r w' := by
  obtain ⟨bu0, bu1, bv0, bv1, hS⟩ := hS
  obtain ⟨hu1, P, Q, hP, hQ, hle, hg, hlt, hPx, hQy⟩ := hS hv
  have hs := upd_sums hP hQ
  have HB := Lib.hid (⟨bu0, bu1, bv0, bv1⟩ : u0 < W64 ∧ u1 < W64 ∧ v0 < W64 ∧ v1 < W64)
  have HS := Lib.hid hs
  have HF := Lib.hid F
  have HR := Lib.hid (⟨hle, hg, hlt, hPx, hQy⟩ : Q ≤ P ∧ Nat.gcd P Q = Nat.gcd x.N y.N ∧ P + Q < x.N + y.N ∧ P ≤ x.N ∧ Q ≤ y.N)
  have HL := Lib.hid (⟨hxL, hyL⟩ : x.N < W64 ^ L ∧ y.N < W64 ^ L)
  have HXY := Lib.hid (⟨xs, ys, hx0, hy0, hu1, hv⟩ : x.s = false ∧ y.s = false ∧ 0 < x.N ∧ 0 < y.N ∧ 0 < u1 ∧ 0 < v0)
  have hnx := Nat.le_trans (rg_len F.ax hxL) (show L ≤ 900000 by omega)
  have hny := Nat.le_trans (rg_len F.ay hyL) (show L ≤ 900000 by omega)
  clear bu0 bu1 bv0 bv1 hS hu1 hP hQ hle hg hlt hPx hQy hs F xs ys hx0 hy0 hxL hyL hv
  go_enter Tryz.func238, Tryz.ntmps238
  go_wp2_with fail
  refine (mulW_at q.b y.b q y even v0 _ rfl rfl HF.out.aq HF.out.ay HB.out.2.2.1 hny).mono ?_
  rintro e w1 ⟨rfl, q1, tq, sq, nq1⟩
  have F1 := HF.out.setQ tq
  have EQ := Lib.hid (⟨tq.b, by rw [sq, HXY.out.2.1]; cases even <;> rfl, nq1⟩ : q1.b = q.b ∧ q1.s = even ∧ q1.N = y.N * v0)
  clear tq sq nq1 HF
  have HF1 := Lib.hid F1
  clear F1
  go_wp2_with fail
  refine (mulW_at r.b x.b r x even u1 _ rfl rfl HF1.out.ar HF1.out.ax HB.out.2.1 hnx).mono ?_
  rintro e w2 ⟨rfl, r1, tr, sr, nr1⟩
  have F2 := HF1.out.setR tr
  have ER := Lib.hid (⟨tr.b, by rw [sr, HXY.out.1]; cases even <;> rfl, nr1⟩ : r1.b = r.b ∧ r1.s = even ∧ r1.N = x.N * u1)
  clear tr sr nr1 HF1
  have HF2 := Lib.hid F2
  clear F2
  go_wp2_with fail
  refine (mulW_at x.b x.b x x (!even) u0 _ rfl rfl HF2.out.ax HF2.out.ax HB.out.1 hnx).mono ?_
  rintro e w3 ⟨rfl, x1, tx, sx, nx1⟩
  have F3 := HF2.out.setX tx
  have EX := Lib.hid (⟨tx.b, by rw [sx, HXY.out.1]; cases even <;> rfl, nx1⟩ : x1.b = x.b ∧ x1.s = !even ∧ x1.N = x.N * u0)
  clear tx sx nx1 HF2
  have HF3 := Lib.hid F3
  clear F3
  go_wp2_with fail
  refine (mulW_at y.b y.b y y (!even) v1 _ rfl rfl HF3.out.ay HF3.out.ay HB.out.2.2.2 hny).mono ?_
  rintro e w4 ⟨rfl, y1, ty, sy, ny1⟩
  have F4 := HF3.out.setY ty
  have EY := Lib.hid (⟨ty.b, by rw [sy, HXY.out.2.1]; cases even <;> rfl, ny1⟩ : y1.b = y.b ∧ y1.s = !even ∧ y1.N = y.N * v1)
  clear ty sy ny1 HF3
  have HF4 := Lib.hid F4
  clear F4
  have m1 : x1.n ≤ 900000 := Nat.le_trans (rg_len (L := L + 1) HF4.out.ax (by rw [EX.out.2.2]; exact word_up HL.out.1 HB.out.1)) (by omega)
  have m2 : q1.n ≤ 900000 := Nat.le_trans (rg_len (L := L + 1) HF4.out.aq (by rw [EQ.out.2.2]; exact word_up HL.out.2 HB.out.2.2.1)) (by omega)
  have m3 : y1.n ≤ 900000 := Nat.le_trans (rg_len (L := L + 1) HF4.out.ay (by rw [EY.out.2.2]; exact word_up HL.out.2 HB.out.2.2.2)) (by omega)
  have m4 : r1.n ≤ 900000 := Nat.le_trans (rg_len (L := L + 1) HF4.out.ar (by rw [ER.out.2.2]; exact word_up HL.out.1 HB.out.2.1)) (by omega)
  go_wp2_with fail
  refine (intAdd_at x.b q.b x1 q1 _ EX.out.1 EQ.out.1 HF4.out.ax HF4.out.aq HF4.out.xq.symm (by rw [EX.out.2.1, EQ.out.2.1]; cases even <;> decide) (by rw [EQ.out.2.2]; exact Nat.mul_pos HXY.out.2.2.2.1 HXY.out.2.2.2.2.2) m1 m2).mono ?_
  rintro e w5 ⟨rfl, x2, tx, sx, zx⟩
  have F5 := HF4.out.setX tx
  rw [EX.out.2.1, EX.out.2.2, EQ.out.2.1, EQ.out.2.2, HS.out.1] at sx
  have EX2 := Lib.hid (⟨tx.b.trans EX.out.1, sg_pos sx zx⟩ : x2.b = x.b ∧ x2.s = false ∧ x2.N = P)
  clear tx sx zx HF4
  have HF5 := Lib.hid F5
  clear F5
  go_wp2_with fail
  refine (intAdd_at y.b r.b y1 r1 _ EY.out.1 ER.out.1 HF5.out.ay HF5.out.ar HF5.out.yr.symm (by rw [EY.out.2.1, ER.out.2.1]; cases even <;> decide) (by rw [ER.out.2.2]; exact Nat.mul_pos HXY.out.2.2.1 HXY.out.2.2.2.2.1) m3 m4).mono ?_
  rintro e w6 ⟨rfl, y2, ty, sy, zy⟩
  have F6 := HF5.out.setY ty
  rw [EY.out.2.1, EY.out.2.2, ER.out.2.1, ER.out.2.2, HS.out.2] at sy
  have EY2 := Lib.hid (⟨ty.b.trans EY.out.1, sg_pos sy zy⟩ : y2.b = y.b ∧ y2.s = false ∧ y2.N = Q)
  clear ty sy zy HF5
  have HF6 := Lib.hid F6
  clear F6
  go_wp2
  go_end0
  refine ⟨rfl, x2, y2, q1, r1, HF6.out, EX2.out.1, EY2.out.1, EQ.out.1, ER.out.1, EX2.out.2.1, EY2.out.2.1, ?_, ?_, ?_, ?_, ?_⟩
  · rw [EX2.out.2.2, EY2.out.2.2]; exact HR.out.1
  · rw [EX2.out.2.2, EY2.out.2.2]; exact HR.out.2.1
  · rw [EX2.out.2.2, EY2.out.2.2]; exact HR.out.2.2.1
  · rw [EX2.out.2.2]; exact HR.out.2.2.2.1
  · rw [EY2.out.2.2]; exact HR.out.2.2.2.2
theorem Four.qr' {B : Nat} {w0 : World} {x y q r q' r' : Rg} {w w' : World} (h : Four B w0 x y q r w) (k : QR q r q' r' w w') : Four B w0 x y q' r' w' := by
  have hx : RA w' x := h.ax.apart k.upd (fun j h1 h2 => by rcases h2 with h2 | h2; exact h.xq j h1 h2; exact h.xr j h1 h2)
  have hy : RA w' y := h.ay.apart k.upd (fun j h1 h2 => by rcases h2 with h2 | h2; exact h.yq j h1 h2; exact h.yr j h1 h2)
  have sq : ∀ j, q'.S j → q.S j ∨ w.heap.size ≤ j := by
    rintro j (rfl | hj)
    · rw [k.bz]; exact .inl (.inl rfl)
    · exact (k.rz j hj).imp .inr id
  have sr : ∀ j, r'.S j → r.S j ∨ w.heap.size ≤ j := by
    rintro j (rfl | hj)
    · rw [k.br]; exact .inl (.inl rfl)
    · exact (k.rr j hj).imp .inr id
  refine ⟨hx, hy, k.az, k.ar, h.xy, ?_, ?_, ?_, ?_, k.off, ?_, k.upd.below h.bel h.siz (fun j _ hj => by rcases hj with hj | hj; exact h.own j (.inr (.inr (.inl hj))); exact h.own j (.inr (.inr (.inr hj)))), Nat.le_trans h.siz k.upd.size⟩
  · intro j h1 h2
    rcases sq j h2 with h3 | h3
    · exact h.xq j h1 h3
    · have := h.ax.lt j h1; omega
  · intro j h1 h2
    rcases sr j h2 with h3 | h3
    · exact h.xr j h1 h3
    · have := h.ax.lt j h1; omega
  · intro j h1 h2
    rcases sq j h2 with h3 | h3
    · exact h.yq j h1 h3
    · have := h.ay.lt j h1; omega
  · intro j h1 h2
    rcases sr j h2 with h3 | h3
    · exact h.yr j h1 h3
    · have := h.ay.lt j h1; omega
  · intro j hj
    rcases hj with hj | hj | hj | hj
    · exact h.own j (.inl hj)
    · exact h.own j (.inr (.inl hj))
    · rcases sq j hj with h3 | h3
      · exact h.own j (.inr (.inr (.inl h3)))
      · exact Nat.le_trans h.siz h3
    · rcases sr j hj with h3 | h3
      · exact h.own j (.inr (.inr (.inr h3)))
      · exact Nat.le_trans h.siz h3
def Euclid (B : Nat) (w0 : World) (x y q r : Rg) (w' : World) : Prop :=
  ∃ q' r', Four B w0 y r' q' x w' ∧ q'.b = q.b ∧ r'.b = r.b ∧ r'.s = false ∧ r'.N = x.N % y.N
theorem euclidUpdate_any (B : Nat) (w0 : World) (x y q r : Rg) (w : World) (hK : ThrD w) (hB : 3 < B) (F : Four B w0 x y q r w) (xs : x.s = false) (ys : y.s = false) (hy0 : 0 < y.N) (hle : y.N ≤ x.N) (L : Nat) (hL : L < 40) (hxL : x.N < W64 ^ L) :
    Calls Tryz.prog 239 #[.pointer (some ⟨x.b, 0, none⟩), .pointer (some ⟨y.b, 0, none⟩), .pointer none, .pointer none, .pointer (some ⟨q.b, 0, none⟩), .pointer (some ⟨r.b, 0, none⟩), .bool false] w
      fun e w' => e = .returned (.tuple #[.pointer (some ⟨y.b, 0, none⟩), .pointer (some ⟨r.b, 0, none⟩), .pointer (some ⟨x.b, 0, none⟩), .pointer none, .pointer none]) ∧ Euclid B w0 x y q r w' := by
  have hyL : y.N < W64 ^ L := Nat.lt_of_le_of_lt hle hxL
  have HQ := Lib.hid (intQuoRem_reg q x y r w hK F.aq F.ax F.ay F.ar F.qr F.xq F.xr F.yq F.yr xs ys hy0 hle (Nat.le_trans (rg_len F.ax hxL) (by omega)) (Nat.lt_of_le_of_lt (rg_len F.ay hyL) hL)
    ⟨fun h => by have := F.own _ (.inr (.inr (.inl h))); omega, fun h => by have := F.own _ (.inr (.inr (.inr h))); omega⟩)
  have HF := Lib.hid F
  clear F hK xs ys hy0 hle hxL hyL hB
  go_enter Tryz.func239, Tryz.ntmps239
  go_wp2_with fail
  refine HQ.out.mono ?_
  rintro e w1 ⟨rfl, q', r', hQR, hqs, hrs, hqN, hrN⟩
  have F1 := HF.out.qr' hQR
  have HE := Lib.hid (show Euclid B w0 x y q r w1 from ⟨q', r', F1.swapXR.swapXY, hQR.bz, hQR.br, hrs, hrN⟩)
  clear F1 hQR hqs hrs hqN hrN
  go_wp2
  exact bodyPost_ret (v := .tuple #[.pointer (some ⟨y.b, 0, none⟩), .pointer (some ⟨r.b, 0, none⟩), .pointer (some ⟨x.b, 0, none⟩), .pointer none, .pointer none]) (by simp [results, Tryz.results239, go_sem]) rfl ⟨rfl, HE.out⟩
end Go.Proofs.YtgmienggfaahlaaGreatDoor
