/-
  match of two integers; Compare.
-/
import Derived.Test.YtdepmbpickonoaaGreatDoorBigI
set_option linter.unusedSimpArgs false
set_option linter.unusedVariables false
namespace Go.Proofs.YtdepmbpickonoaaGreatDoor
open Go.RowKit Go.Bg Dg

def CBig (w : World) (v : Value) (z : Int) : Prop := ∃ b o s N, v = .iface 60 (.agg #[.pointer (some ⟨b, o, none⟩)]) ∧ BigAt 143 w b o s N ∧ sg s N = z
theorem CBig.keep {w w' : World} {v : Value} {z : Int} (h : CBig w v z) (hb : Below w.heap.size w w') : CBig w' v z := by
  obtain ⟨b, o, s, N, rfl, h1, h2⟩ := h; exact ⟨b, o, s, N, rfl, h1.keep hb, h2⟩

/-- two integers in one form -/
def CSame (w : World) (u1 : Value) (z1 : Int) (u2 : Value) (z2 : Int) : Prop :=
  (u1 = .iface 57 (.int .i64 z1) ∧ fit64 z1 = true ∧ u2 = .iface 57 (.int .i64 z2) ∧ fit64 z2 = true) ∨ (CBig w u1 z1 ∧ CBig w u2 z2)

theorem fit64_bd {z : Int} (h : fit64 z = true) : -9223372036854775808 ≤ z ∧ z < 9223372036854775808 := by
  unfold fit64 at h; simpa using h

set_option maxRecDepth 100000 in
set_option maxHeartbeats 1000000 in
theorem match0Int_any (x : Int) (hx : fit64 x = true) (v : Value) (z : Int) (w : World) (h : CBig w v z) :
    Calls Tryz.prog 42 #[.iface 57 (.int .i64 x), v] w fun e w' => ∃ u, e = .returned (.tuple #[u, v]) ∧ CBig w' u x ∧ CBig w' v z ∧ Below w.heap.size w w' := by
  obtain ⟨b, o, s, N, rfl, hI, hz⟩ := h
  have HI := Lib.hid hI
  have HX := Lib.hid (fit64_bd hx)
  obtain ⟨_, _, _, t4, _, _, _, _, _⟩ := ta_intVal
  obtain ⟨_, _, u3, _, _, _, _, _, _⟩ := ta_int64Val
  clear hI hx
  go_enter Tryz.func42, Tryz.ntmps42
  go_wp2_with fail
  refine (i64toi_any x HX.out _).mono ?_
  rintro e w1 ⟨b', rfl, hJ, hB⟩
  go_wp2
  exact bodyPost_ret (v := .tuple #[.iface 60 (.agg #[.pointer (some ⟨b', 0, none⟩)]), .iface 60 (.agg #[.pointer (some ⟨b, o, none⟩)])]) (by simp [results, Tryz.results42, go_sem]) rfl
    ⟨_, rfl, ⟨_, _, _, _, rfl, hJ, sg_natAbs x⟩, ⟨_, _, _, _, rfl, HI.out.keep hB, hz⟩, hB⟩

set_option maxRecDepth 100000 in
set_option maxHeartbeats 1000000 in
theorem matchInt_any (v1 v2 : Value) (z1 z2 : Int) (w : World) (h1 : CInt w v1 z1) (h2 : CInt w v2 z2) :
    Calls Tryz.prog 18 #[v1, v2] w fun e w' => ∃ u1 u2, e = .returned (.tuple #[u1, u2]) ∧ CSame w' u1 z1 u2 z2 ∧ Below w.heap.size w w' := by
  have H1 := Lib.hid h1
  have H2 := Lib.hid h2
  rcases h1 with ⟨rfl, f1⟩ | ⟨b1, o1, s1, N1, rfl, k1, e1⟩ <;> rcases h2 with ⟨rfl, f2⟩ | ⟨b2, o2, s2, N2, rfl, k2, e2⟩
  · have F1 := Lib.hid f1
    have F2 := Lib.hid f2
    clear f1 f2
    go_enter Tryz.func18, Tryz.ntmps18
    go_wp2_with fail
    refine (ordInt_any _ z1 _ H1.out).mono ?_
    rintro e w1 ⟨rfl, rfl⟩
    go_wp2_with fail
    refine (ordInt_any _ z2 _ H2.out).mono ?_
    rintro e w1 ⟨rfl, rfl⟩
    simp only [ordOf, if_true]
    go_wp2
    exact bodyPost_ret (v := .tuple #[.iface 57 (.int .i64 z1), .iface 57 (.int .i64 z2)]) (by simp [results, Tryz.results18, go_sem]) rfl
      ⟨_, _, rfl, .inl ⟨rfl, F1.out, rfl, F2.out⟩, Below.refl _ _⟩
  · have F1 := Lib.hid f1
    have K2 := Lib.hid (show CBig w _ z2 from ⟨_, _, _, _, rfl, k2, e2⟩)
    clear f1 k2
    go_enter Tryz.func18, Tryz.ntmps18
    go_wp2_with fail
    refine (ordInt_any _ z1 _ H1.out).mono ?_
    rintro e w1 ⟨rfl, rfl⟩
    go_wp2_with fail
    refine (ordInt_any _ z2 _ H2.out).mono ?_
    rintro e w1 ⟨rfl, rfl⟩
    simp only [ordOf, if_true, if_neg (show ¬ (60 = 57) from by decide)]
    go_wp2_with fail
    refine (match0Int_any z1 F1.out _ z2 _ K2.out).mono ?_
    rintro e w1 ⟨u, rfl, hu, hv, hB⟩
    go_wp2
    exact bodyPost_ret (v := .tuple #[u, .iface 60 (.agg #[.pointer (some ⟨b2, o2, none⟩)])]) (by simp [results, Tryz.results18, go_sem]) rfl
      ⟨_, _, rfl, .inr ⟨hu, hv⟩, hB⟩
  · have F2 := Lib.hid f2
    have K1 := Lib.hid (show CBig w _ z1 from ⟨_, _, _, _, rfl, k1, e1⟩)
    clear f2 k1
    go_enter Tryz.func18, Tryz.ntmps18
    go_wp2_with fail
    refine (ordInt_any _ z1 _ H1.out).mono ?_
    rintro e w1 ⟨rfl, rfl⟩
    go_wp2_with fail
    refine (ordInt_any _ z2 _ H2.out).mono ?_
    rintro e w1 ⟨rfl, rfl⟩
    simp only [ordOf, if_true, if_neg (show ¬ (60 = 57) from by decide)]
    go_wp2_with fail
    refine (match0Int_any z2 F2.out _ z1 _ K1.out).mono ?_
    rintro e w1 ⟨u, rfl, hu, hv, hB⟩
    go_wp2
    exact bodyPost_ret (v := .tuple #[.iface 60 (.agg #[.pointer (some ⟨b1, o1, none⟩)]), u]) (by simp [results, Tryz.results18, go_sem]) rfl
      ⟨_, _, rfl, .inr ⟨hv, hu⟩, hB⟩
  · have K1 := Lib.hid (show CBig w _ z1 from ⟨_, _, _, _, rfl, k1, e1⟩)
    have K2 := Lib.hid (show CBig w _ z2 from ⟨_, _, _, _, rfl, k2, e2⟩)
    clear k1 k2
    go_enter Tryz.func18, Tryz.ntmps18
    go_wp2_with fail
    refine (ordInt_any _ z1 _ H1.out).mono ?_
    rintro e w1 ⟨rfl, rfl⟩
    go_wp2_with fail
    refine (ordInt_any _ z2 _ H2.out).mono ?_
    rintro e w1 ⟨rfl, rfl⟩
    simp only [ordOf, if_neg (show ¬ (60 = 57) from by decide)]
    go_wp2
    exact bodyPost_ret (v := .tuple #[.iface 60 (.agg #[.pointer (some ⟨b1, o1, none⟩)]), .iface 60 (.agg #[.pointer (some ⟨b2, o2, none⟩)])]) (by simp [results, Tryz.results18, go_sem]) rfl
      ⟨_, _, rfl, .inr ⟨K1.out, K2.out⟩, Below.refl _ _⟩
end Go.Proofs.YtdepmbpickonoaaGreatDoor
