/-
  Rat.SetFrac: the fraction of two integers in its lowest terms.
  NewRat: the fraction of two small integers in its lowest terms.
  constant.BinaryOp of integers: the exact quotient.
  impl.Binary of two numbers whose result is a fraction. PRINTED BY wip/gen_opsf.py.
  The reference's fractions: Upside.
-/
import Derived.Test.YtdkipndepkblhaaGreatDoorBuYY
import Derived.Test.YtdkipndepkblhaaGreatDoorBuM
import Derived.Test.YtdkipndepkblhaaGreatDoorBuJ
import Derived.Test.YtdkipndepkblhaaGreatDoorBuV
import Derived.Test.YtdkipndepkblhaaGreatDoorBuH
import Derived.Test.YtdkipndepkblhaaGreatDoorBuU
import Derived.Test.YtdkipndepkblhaaGreatDoorBuD
set_option linter.unusedSimpArgs false
set_option linter.unusedVariables false
namespace Go.Proofs.YtdkipndepkblhaaGreatDoor
open Go.RowKit Go.Bg Dg

set_option maxRecDepth 100000 in
theorem ratNorm_any (zb : Nat) (s : Bool) (a1 a2 : Option Addr) (n1 c1 N n2 c2 D : Nat) (w : World) (hK : ThrD w) (R : RatRaw w zb s a1 n1 c1 N a2 n2 c2 D) (hD0 : 0 < D) (L : Nat) (hL : L < 40) (hN : N < W64 ^ L) (hD : D < W64 ^ L) (hv : zb ≠ 3 ∧ ¬ InB a1 3 ∧ ¬ InB a2 3) :
    Calls Tryz.prog 133 #[.pointer (some ⟨zb, 0, none⟩)] w (NormIs zb s a1 a2 N D w) := by
  rcases Nat.eq_zero_or_pos N with h | h
  · subst h; exact ratNorm_zero zb s a1 a2 n1 c1 n2 c2 D w R hD0
  · exact ratNorm_pos zb s a1 a2 n1 c1 N n2 c2 D w hK R h hD0 L hL hN hD hv

/-- the fraction at zb is what has been asked for -/
def FracIs (zb : Nat) (s : Bool) (N D : Nat) (w : World) (e : Ending) (w' : World) : Prop :=
  e = .returned (.pointer (some ⟨zb, 0, none⟩)) ∧ RatAt 151 w' zb (s && decide (0 < N)) (N / Nat.gcd N D) (D / Nat.gcd N D) ∧ Upd (· = zb) w w'

theorem natSet_none (a : Option Addr) (n c N : Nat) (w : World) (h : NumAt .u64 W64 w a n c N) (hn : n ≤ 1000000) :
    Calls Tryz.prog 132 #[.slice none 0 0, .slice a n c] w (GivesI 151 none N w) := by
  rcases Nat.eq_zero_or_pos n with h0 | h0
  · subst h0
    have hN : N = 0 := by have := h.lt; simpa using this
    subst hN
    refine (natSet0_any none 0 0 0 a c w (BigN.nil _ _)).mono ?_
    rintro e w' ⟨rfl, rfl⟩
    exact ⟨none, 0, 0, rfl, BigN.nil _ _, Upd.refl _ _, fun k h => (inB_none h).elim⟩
  · exact natSet_into none 0 0 0 a n c N w (BigN.nil _ _) h h0 hn (fun _ _ h => inB_none h)

/-- a fraction under way: its words are new -/
structure FracUp (w : World) (zb : Nat) (s : Bool) (N D : Nat) (wx : World) (a1 : Option Addr) (n1 c1 : Nat) (a2 : Option Addr) (n2 c2 : Nat) : Prop where
  raw : RatRaw wx zb s a1 n1 c1 N a2 n2 c2 D
  f1 : ∀ k, InB a1 k → w.heap.size ≤ k
  f2 : ∀ k, InB a2 k → w.heap.size ≤ k
  upd : Upd (· = zb) w wx
theorem FracUp.keep {w wx wy : World} {zb : Nat} {s : Bool} {N D : Nat} {a1 a2 : Option Addr} {n1 c1 n2 c2 : Nat} (h : FracUp w zb s N D wx a1 n1 c1 a2 n2 c2) (hb : Below wx.heap.size wx wy) : FracUp w zb s N D wy a1 n1 c1 a2 n2 c2 :=
  ⟨h.raw.keep hb, h.f1, h.f2, h.upd.then hb⟩
theorem FracUp.start {w : World} {zb : Nat} (h : NewRat w zb) : FracUp w zb false 0 0 w none 0 0 none 0 0 :=
  ⟨⟨h.blk, BlkAt.cell h 0, BlkAt.cell h 1, BlkAt.cell h 2, BlkAt.cell h 3, BigN.nil _ _, BigN.nil _ _, fun k h => (inB_none h).elim⟩, fun k h => (inB_none h).elim, fun k h => (inB_none h).elim, Upd.refl _ _⟩
theorem FracUp.neg {w wx : World} {zb : Nat} {s : Bool} {N D : Nat} {a1 a2 : Option Addr} {n1 c1 n2 c2 : Nat} (h : FracUp w zb s N D wx a1 n1 c1 a2 n2 c2) (t : Bool) : FracUp w zb t N D (wx.setCell ⟨zb, 0, none⟩ (.bool t)) a1 n1 c1 a2 n2 c2 :=
  ⟨h.raw.neg t, h.f1, h.f2, h.upd.setCell (p := ⟨zb, 0, none⟩) rfl _⟩
theorem FracUp.setA {w wx w0 w7 : World} {zb : Nat} {s : Bool} {N D : Nat} {a1 a2 : Option Addr} {n1 c1 n2 c2 : Nat} (h : FracUp w zb s N D wx a1 n1 c1 a2 n2 c2) (hb : Below wx.heap.size wx w0) {a : Option Addr} {n c Q : Nat} (hU : Upd (InB none) w0 w7) (hQ : BigN 151 w7 a n c Q) (hp : ∀ k, InB a k → InB none k ∨ w0.heap.size ≤ k) :
    FracUp w zb s Q D (w7.setCell ⟨zb, 1, none⟩ (.slice a n c)) a n c a2 n2 c2 := by
  have hs := h.upd.size
  have hs0 := hb.size
  have hN : ∀ k, ¬ InB none k := fun k h => inB_none h
  exact ⟨h.raw.setA hb hU (hN _) (fun k _ => hN k) hQ (fun k hk => (hp k hk).imp (fun h => (hN _ h).elim) id), fun k hk => (hp k hk).elim (fun h => (hN _ h).elim) (fun h => by omega), h.f2, (upd_into2 hU (h.upd.then hb) (fun k _ hk => (hN _ hk).elim)).setCell (p := ⟨zb, 1, none⟩) rfl _⟩
theorem FracUp.setD {w wx w0 w7 : World} {zb : Nat} {s : Bool} {N D : Nat} {a1 a2 : Option Addr} {n1 c1 n2 c2 : Nat} (h : FracUp w zb s N D wx a1 n1 c1 a2 n2 c2) (hb : Below wx.heap.size wx w0) {a : Option Addr} {n c Q : Nat} (hU : Upd (InB none) w0 w7) (hQ : BigN 151 w7 a n c Q) (hp : ∀ k, InB a k → InB none k ∨ w0.heap.size ≤ k) :
    FracUp w zb s N Q (w7.setCell ⟨zb, 3, none⟩ (.slice a n c)) a1 n1 c1 a n c := by
  have hs := h.upd.size
  have hs0 := hb.size
  have hN : ∀ k, ¬ InB none k := fun k h => inB_none h
  exact ⟨h.raw.setD hb hU (hN _) (fun k _ => hN k) hQ (fun k hk => (hp k hk).imp (fun h => (hN _ h).elim) id), h.f1, fun k hk => (hp k hk).elim (fun h => (hN _ h).elim) (fun h => by omega), (upd_into2 hU (h.upd.then hb) (fun k _ hk => (hN _ hk).elim)).setCell (p := ⟨zb, 3, none⟩) rfl _⟩
/-- and in its lowest terms -/
theorem FracUp.norm {w wx : World} {zb : Nat} {s : Bool} {N D : Nat} {a1 a2 : Option Addr} {n1 c1 n2 c2 : Nat} (h : FracUp w zb s N D wx a1 n1 c1 a2 n2 c2) (hK : ThrD w) (hv : zb ≠ 3) (hD0 : 0 < D) (L : Nat) (hL : L < 40) (hN : N < W64 ^ L) (hD : D < W64 ^ L) :
    Calls Tryz.prog 133 #[.pointer (some ⟨zb, 0, none⟩)] wx (FracIs zb s N D w) := by
  have hl := block_lt hK
  refine (ratNorm_any zb s a1 a2 n1 c1 N n2 c2 D wx (hK.upd h.upd (fun e => hv e.symm)) h.raw hD0 L hL hN hD ⟨hv, fun h' => Nat.not_le_of_lt hl (h.f1 _ h'), fun h' => Nat.not_le_of_lt hl (h.f2 _ h')⟩).mono ?_
  rintro e w' ⟨rfl, hR, hU⟩
  exact ⟨rfl, hR, upd_into2 hU h.upd (fun k hk hx => by
    rcases hx with h1 | h1 | h1
    · exact h1
    · have := h.f1 k h1; omega
    · have := h.f2 k h1; omega)⟩

set_option maxRecDepth 100000 in
set_option maxHeartbeats 4000000 in
theorem setFrac_new (zb b1 o1 b2 o2 : Nat) (s t : Bool) (N M : Nat) (w : World) (hK : ThrD w) (h : NewRat w zb) (h1 : BigAt 151 w b1 o1 s N) (h2 : BigAt 151 w b2 o2 t M) (hM0 : 0 < M) (ne1 : b1 ≠ zb) (ne2 : b2 ≠ zb) (hv : zb ≠ 3) (L : Nat) (hL : L < 40) (hN : N < W64 ^ L) (hM : M < W64 ^ L) :
    Calls Tryz.prog 71 #[.pointer (some ⟨zb, 0, none⟩), .pointer (some ⟨b1, o1, none⟩), .pointer (some ⟨b2, o2, none⟩)] w (FracIs zb (!(s == t)) N M w) := by
  obtain ⟨a1, n1, c1, p0, p1, hNN⟩ := h1.val
  obtain ⟨a2, n2, c2, q0, q1, hMM⟩ := h2.val
  have hn1 : n1 ≤ 1000000 := Nat.le_trans (len_le W64_gt hNN.num.top hN) (by omega)
  have hn2 : n2 ≤ 1000000 := Nat.le_trans (len_le W64_gt hMM.num.top hM) (by omega)
  have hn0 : ((n2 : Int) == 0) = false := by
    have hp := natAt_pos_len hMM.num
    have : 0 < n2 := by simpa [hM0] using hp
    simp; omega
  have ncm := hNN.num.cm
  have nnc := hNN.num.nc
  have dcm := hMM.num.cm
  have dnc := hMM.num.nc
  unfold maxLen at ncm dcm
  have k0 := BlkAt.cell h 0
  have k1 := BlkAt.cell h 1
  have k3 := BlkAt.cell h 3
  simp only [List.getElem?_toArray, List.getElem?_cons_zero, List.getElem?_cons_succ] at k0 k1 k3
  have f0 := h.blk.frozen 0
  obtain ⟨W1, hW1⟩ : ∃ W1, W1 = (w.setCell ⟨zb, 0, none⟩ (.bool (!(s == t)))).drew := ⟨_, rfl⟩
  have F1 : FracUp w zb (!(s == t)) 0 0 W1 none 0 0 none 0 0 := by rw [hW1]; exact ((FracUp.start h).neg _).keep ((Below.refl _ _).drew)
  have hu1 : Upd (· = zb) w W1 := F1.upd
  obtain ⟨j, hj, hj2⟩ := Option.map_eq_some_iff.1 infoBigIntSize
  obtain ⟨zc, zt, zk, _⟩ := F1.raw.blk
  obtain ⟨yc, yt, yk, _⟩ := h2.blk.upd hu1 (fun e => ne2 e)
  have hq := run_eql_ptr_other (P := Tryz.prog) (a := ⟨zb, 0, none⟩) (b := ⟨b2, o2, none⟩) W1 Tryz.underlying85 hj (by rw [hj2]; decide) (by intro h; injection h with h _ _; exact ne2 h.symm) zk yk
  have e1 : W1.cell? ⟨b1, o1 + 1, none⟩ = some (.slice a1 n1 c1) := by rw [hu1.cell (p := ⟨b1, o1 + 1, none⟩) h1.blk.lt (fun e => ne1 e)]; exact p1
  have e2 : W1.cell? ⟨b2, o2 + 1, none⟩ = some (.slice a2 n2 c2) := by rw [hu1.cell (p := ⟨b2, o2 + 1, none⟩) h2.blk.lt (fun e => ne2 e)]; exact q1
  have HA := Lib.hid (hNN.apart hu1 (fun k hk e => by subst e; exact h.blk.notIn hNN hk))
  have HD := Lib.hid (hMM.apart hu1 (fun k hk e => by subst e; exact h.blk.notIn hMM hk))
  have HF1 := Lib.hid F1
  have HW1 := Lib.hid hW1
  have HK := Lib.hid hK
  have HL := Lib.hid (⟨hN, hM, hM0, hv, hL⟩ : N < W64 ^ L ∧ M < W64 ^ L ∧ 0 < M ∧ zb ≠ 3 ∧ L < 40)
  have z1 := F1.raw.k1
  clear hN hM hM0 hv hL hK hW1 F1 hNN hMM h h1 h2 hu1 k1 k3 ne1 ne2
  go_enter Tryz.func71, Tryz.ntmps71
  go_upto_region 1 with fail
  go_region
  rw [← HW1.out]
  clear p0 p1 q0 q1 k0 f0
  go_wp2_with fail
  refine (alias_cap0 none a2 n2 c2 _).mono ?_
  rintro e w2 ⟨rfl, hm⟩
  have hb2 : Below W1.heap.size W1 w2 := below_of_drewN hm
  have HF2 := Lib.hid (HF1.out.keep hb2)
  have HA2 := Lib.hid (HA.out.keep hb2)
  have HD2 := Lib.hid (HD.out.keep hb2)
  have e1' := cell_keep e1 hb2
  have e2' := cell_keep e2 hb2
  have z1' := cell_keep z1 hb2
  clear e1 e2 z1 HF1 HA HD hm hb2 hq zk yk
  have hd2 : Below w2.heap.size w2 w2.drew := (Below.refl _ _).drew
  have g1 := (HF2.out.raw.blk.keep hd2).frozen 1
  go_upto_region 7 with fail
  go_cut [] from 45 to 58 (fun wx => ∃ a n c, FracUp w zb (!(s == t)) N 0 wx a n c none 0 0 ∧ BigN 151 wx a2 n2 c2 M)
  case first =>
    go_region_with
      ((go_at_call 132; (with_reducible refine (natSet_none a1 n1 c1 N _ (HA2.out.keep hd2).num hn1).mono ?_); rintro e w3 ⟨a, n, c, rfl, hQ, hU, hp⟩; have HF := Lib.hid (HF2.out.setA hd2 hU hQ hp); have HM3 := Lib.hid (((HD2.out.keep hd2).apart hU (fun k _ h => inB_none h)).set (HF2.out.raw.blk.keep hd2 |>.upd hU (fun h => inB_none h)) 1 (.slice a n c)); have zz1 : w3.cell? ⟨zb, 1, none⟩ = some (.slice none 0 0) := (by rw [hU.cell (p := ⟨zb, 1, none⟩) (HF2.out.raw.blk.keep hd2).lt (fun h => inB_none h)]; exact cell_keep z1' hd2); have gg1 := ((HF2.out.raw.blk.keep hd2).upd hU (fun h => inB_none h)).frozen 1; clear hQ hU hp))
    all_goals
      go_wp2_with fail
      go_meet
      exact ⟨_, _, _, HF.out, HM3.out⟩
  case rest =>
    obtain ⟨a, n, c, hF3, hM3⟩ := hcut
    have HF3 := Lib.hid hF3
    have HM3 := Lib.hid hM3
    have z3 := hF3.raw.k3
    clear hF3 hM3 e1' e2' z1' HF2 HA2 HD2 hd2 g1
    go_wp2_with fail
    refine (natSet_none a2 n2 c2 M _ HM3.out.num hn2).mono ?_
    rintro e w4 ⟨b, m, k, rfl, hQ, hU, hp⟩
    have HF4 := Lib.hid (HF3.out.setD (Below.refl _ _) hU hQ hp)
    have z3' : w4.cell? ⟨zb, 3, none⟩ = some (.slice none 0 0) := by rw [hU.cell (p := ⟨zb, 3, none⟩) HF3.out.raw.blk.lt (fun h => inB_none h)]; exact z3
    have g3 := (HF3.out.raw.blk.upd hU (fun h => inB_none h)).frozen 3
    clear hQ hU hp z3
    go_wp2_with fail
    refine (HF4.out.norm HK.out HL.out.2.2.2.1 HL.out.2.2.1 L HL.out.2.2.2.2 HL.out.1 HL.out.2.1).mono ?_
    rintro e w5 ⟨rfl, hR, hU⟩
    go_wp2
    go_ret
    exact ⟨rfl, hR, hU⟩
end Go.Proofs.YtdkipndepkblhaaGreatDoor

set_option linter.unusedSimpArgs false
set_option linter.unusedVariables false
namespace Go.Proofs.YtdkipndepkblhaaGreatDoor
open Go.RowKit Go.Bg Dg

set_option maxRecDepth 100000 in
set_option maxHeartbeats 1000000 in
theorem setUint64_none (x : Nat) (hx : x < 18446744073709551616) (w : World) :
    Calls Tryz.prog 166 #[.slice none 0 0, .int .u64 x] w (GivesI 151 none x w) := by
  have HX := Lib.hid hx
  clear hx
  go_enter Tryz.func166, Tryz.ntmps166
  go_wp2_with fail
  refine (setWord_into none 0 0 0 x HX.out _ (BigN.nil _ _)).mono ?_
  rintro e w1 ⟨a, n, c, rfl, hN, hU, hp⟩
  go_wp2
  go_ret
  exact ⟨_, _, _, rfl, hN, hU, hp⟩

theorem FracUp.int {w w1 : World} {zb : Nat} (h : NewRat w zb) {x : Nat} {a : Option Addr} {n c : Nat} (hQ : BigN 151 w1 a n c x) (hU : Upd (InB none) w w1) (hp : ∀ k, InB a k → InB none k ∨ w.heap.size ≤ k) (s : Bool) :
    FracUp w zb s x 0 ((w1.setCell ⟨zb, 1, none⟩ (.slice a n c)).setCell ⟨zb, 0, none⟩ (.bool s)) a n c none 0 0 :=
  ((FracUp.start h).setA (Below.refl _ _) hU hQ hp).neg s

def IntUp (zb : Nat) (s : Bool) (x : Nat) (w : World) (e : Ending) (w' : World) : Prop :=
  e = .returned (.pointer (some ⟨zb, 0, none⟩)) ∧ ∃ a n c, FracUp w zb s x 0 w' a n c none 0 0

set_option maxRecDepth 100000 in
set_option maxHeartbeats 1000000 in
theorem setInt64_up (zb : Nat) (x : Int) (hx : -9223372036854775808 ≤ x ∧ x < 9223372036854775808) (w : World) (h : NewRat w zb) :
    Calls Tryz.prog 118 #[.pointer (some ⟨zb, 0, none⟩), .int .i64 x] w (IntUp zb (decide (x < 0)) x.natAbs w) := by
  have HH := Lib.hid h
  have h1 := h.a.c1
  rw [Nat.zero_add] at h1
  by_cases hn : x < 0
  · have HX := Lib.hid (show IntKind.u64.wrap (wrap64 (-x)) = (x.natAbs : Int) from by rw [IntKind.wrap_u64]; unfold wrap64; omega)
    have HL := Lib.hid (show x.natAbs < 18446744073709551616 from by omega)
    have hd : decide (x < 0) = true := by simpa using hn
    rw [hd]
    clear hd
    clear h hx
    go_enter Tryz.func118, Tryz.ntmps118
    go_wp2_with fail
    rw [HX.out]
    refine (setUint64_none _ HL.out _).mono ?_
    rintro e w1 ⟨a, n, c, rfl, hN, hU, hp⟩
    have HF := Lib.hid (FracUp.int HH.out hN hU hp true)
    have hB := hU.toBelow (fun k _ h => inB_none h)
    have h' := HH.out.a.keep hB
    obtain ⟨u0, k0⟩ := h'.c0
    have k1 := h'.c1
    rw [Nat.zero_add] at k1
    have f0 := h'.blk.frozen 0
    have f1 := h'.blk.frozen 1
    have k0' : ∀ v, (w1.setCell ⟨zb, 1, none⟩ v).cell? ⟨zb, 0, none⟩ = some u0 := fun v => by
      rw [World.cell?_setCell_other _ _ _ _ (fun hh => by injection hh with _ hh _; omega)]; exact k0
    clear h' hN hB hU hp
    go_wp2
    go_ret
    exact ⟨rfl, _, _, _, HF.out⟩
  · have HX := Lib.hid (show IntKind.u64.wrap x = (x.natAbs : Int) from by rw [IntKind.wrap_u64]; omega)
    have HL := Lib.hid (show x.natAbs < 18446744073709551616 from by omega)
    have hd : decide (x < 0) = false := by simpa using hn
    rw [hd]
    clear hd
    clear h hx
    go_enter Tryz.func118, Tryz.ntmps118
    go_wp2_with fail
    rw [HX.out]
    refine (setUint64_none _ HL.out _).mono ?_
    rintro e w1 ⟨a, n, c, rfl, hN, hU, hp⟩
    have HF := Lib.hid (FracUp.int HH.out hN hU hp false)
    have hB := hU.toBelow (fun k _ h => inB_none h)
    have h' := HH.out.a.keep hB
    obtain ⟨u0, k0⟩ := h'.c0
    have k1 := h'.c1
    rw [Nat.zero_add] at k1
    have f0 := h'.blk.frozen 0
    have f1 := h'.blk.frozen 1
    have k0' : ∀ v, (w1.setCell ⟨zb, 1, none⟩ v).cell? ⟨zb, 0, none⟩ = some u0 := fun v => by
      rw [World.cell?_setCell_other _ _ _ _ (fun hh => by injection hh with _ hh _; omega)]; exact k0
    clear h' hN hB hU hp
    go_wp2
    go_ret
    exact ⟨rfl, _, _, _, HF.out⟩

set_option maxRecDepth 100000 in
set_option maxHeartbeats 2000000 in
theorem setFrac64_new (zb : Nat) (x y : Int) (hx : -9223372036854775808 ≤ x ∧ x < 9223372036854775808) (hy : -9223372036854775808 ≤ y ∧ y < 9223372036854775808) (hy0 : y ≠ 0) (w : World) (hK : ThrD w) (h : NewRat w zb) (hv : zb ≠ 3) :
    Calls Tryz.prog 130 #[.pointer (some ⟨zb, 0, none⟩), .int .i64 x, .int .i64 y] w (FracIs zb (!(decide (x < 0) == decide (y < 0))) x.natAbs y.natAbs w) := by
  have HS := Lib.hid (setInt64_up zb x hx w h)
  have HK := Lib.hid hK
  have HL := Lib.hid (⟨by rw [Nat.pow_one]; unfold W64; omega, by rw [Nat.pow_one]; unfold W64; omega, by omega, hv⟩ : x.natAbs < W64 ^ 1 ∧ y.natAbs < W64 ^ 1 ∧ 0 < y.natAbs ∧ zb ≠ 3)
  clear h hK hv
  by_cases hn : y < 0
  · have HX := Lib.hid (show IntKind.u64.wrap (wrap64 (-y)) = (y.natAbs : Int) from by rw [IntKind.wrap_u64]; unfold wrap64; omega)
    have HY := Lib.hid (show y.natAbs < 18446744073709551616 from by omega)
    have hd : decide (y < 0) = true := by simpa using hn
    rw [hd]
    have HBB := Lib.hid (show ∀ b : Bool, (!(b == true)) = !b from by decide)
    rw [HBB.out]
    generalize decide (x < 0) = sx at *
    generalize x.natAbs = X at *
    clear hd hx hy
    go_enter Tryz.func130, Tryz.ntmps130
    go_wp2_with fail
    refine HS.out.mono ?_
    rintro e w1 ⟨rfl, a, n, c, hF⟩
    have HF1 := Lib.hid (hF.neg (!sx))
    have k0 := hF.raw.k0
    have k3 : ∀ v, (w1.setCell ⟨zb, 0, none⟩ v).cell? ⟨zb, 3, none⟩ = some (.slice none 0 0) := fun v => by rw [cell_other (by decide)]; exact hF.raw.k3
    have f0 := hF.raw.blk.frozen 0
    clear hF
    go_wp2_with fail
    rw [HX.out]
    refine (setUint64_none _ HY.out _).mono ?_
    rintro e w2 ⟨b, m, k, rfl, hQ, hU, hp⟩
    have HF4 := Lib.hid (HF1.out.setD (Below.refl _ _) hU hQ hp)
    have z3 : w2.cell? ⟨zb, 3, none⟩ = some (.slice none 0 0) := by rw [hU.cell (p := ⟨zb, 3, none⟩) HF1.out.raw.blk.lt (fun h => inB_none h)]; exact HF1.out.raw.k3
    have g3 := (HF1.out.raw.blk.upd hU (fun h => inB_none h)).frozen 3
    clear hQ hU hp
    go_wp2_with fail
    refine (HF4.out.norm HK.out HL.out.2.2.2 HL.out.2.2.1 1 (by omega) HL.out.1 HL.out.2.1).mono ?_
    rintro e w5 ⟨rfl, hR, hU⟩
    go_wp2
    go_ret
    exact ⟨rfl, hR, hU⟩
  · have HX := Lib.hid (show IntKind.u64.wrap y = (y.natAbs : Int) from by rw [IntKind.wrap_u64]; omega)
    have HY := Lib.hid (show y.natAbs < 18446744073709551616 from by omega)
    have hd : decide (y < 0) = false := by simpa using hn
    rw [hd]
    have HBB := Lib.hid (show ∀ b : Bool, (!(b == false)) = b from by decide)
    rw [HBB.out]
    generalize decide (x < 0) = sx at *
    generalize x.natAbs = X at *
    clear hd hx hy
    go_enter Tryz.func130, Tryz.ntmps130
    go_wp2_with fail
    refine HS.out.mono ?_
    rintro e w1 ⟨rfl, a, n, c, hF⟩
    have HF1 := Lib.hid hF
    have k3 := hF.raw.k3
    clear hF
    go_wp2_with fail
    rw [HX.out]
    refine (setUint64_none _ HY.out _).mono ?_
    rintro e w2 ⟨b, m, k, rfl, hQ, hU, hp⟩
    have HF4 := Lib.hid (HF1.out.setD (Below.refl _ _) hU hQ hp)
    have z3 : w2.cell? ⟨zb, 3, none⟩ = some (.slice none 0 0) := by rw [hU.cell (p := ⟨zb, 3, none⟩) HF1.out.raw.blk.lt (fun h => inB_none h)]; exact HF1.out.raw.k3
    have g3 := (HF1.out.raw.blk.upd hU (fun h => inB_none h)).frozen 3
    clear hQ hU hp
    go_wp2_with fail
    refine (HF4.out.norm HK.out HL.out.2.2.2 HL.out.2.2.1 1 (by omega) HL.out.1 HL.out.2.1).mono ?_
    rintro e w5 ⟨rfl, hR, hU⟩
    go_wp2
    go_ret
    exact ⟨rfl, hR, hU⟩

set_option maxRecDepth 100000 in
set_option maxHeartbeats 1000000 in
theorem newRat64_any (x y : Int) (hx : -9223372036854775808 ≤ x ∧ x < 9223372036854775808) (hy : -9223372036854775808 ≤ y ∧ y < 9223372036854775808) (hy0 : y ≠ 0) (w : World) (hK : ThrD w) :
    Calls Tryz.prog 69 #[.int .i64 x, .int .i64 y] w fun e w' => e = .returned (.pointer (some ⟨w.heap.size, 0, none⟩)) ∧ RatAt 151 w' w.heap.size ((!(decide (x < 0) == decide (y < 0))) && decide (0 < x.natAbs)) (x.natAbs / Nat.gcd x.natAbs y.natAbs) (y.natAbs / Nat.gcd x.natAbs y.natAbs) ∧ Below w.heap.size w w' := by
  obtain ⟨W1, hW1⟩ : ∃ W1, W1 = w.alloc (.cells #[.bool false, .slice none 0 0, .bool false, .slice none 0 0] 156) := ⟨_, rfl⟩
  have hn : NewRat W1 w.heap.size := by rw [hW1]; exact newRat_is w
  have hb : Below w.heap.size w W1 := by rw [hW1]; exact Below.alloc' (Below.refl _ _) _
  have HS := Lib.hid (setFrac64_new w.heap.size x y hx hy hy0 W1 (hK.keep hb) hn (Nat.ne_of_gt (block_lt hK)))
  have HW := Lib.hid hW1
  have HB := Lib.hid hb
  have s1 : W1.heap.size = w.heap.size + 1 := by rw [hW1]; simp
  have HZ := Lib.hid s1
  clear hn hb hW1 s1 hK hx hy hy0
  go_enter Tryz.func69, Tryz.ntmps69
  go_wp2_with fail
  rw [← HW.out]
  refine HS.out.mono ?_
  rintro e w2 ⟨rfl, hR, hU⟩
  have HF := Lib.hid (hU.below HB.out (by have := HZ.out; omega) (fun k _ e => by subst e; exact Nat.le_refl _))
  clear hU
  go_wp2
  go_ret
  exact ⟨rfl, hR, HF.out⟩
end Go.Proofs.YtdkipndepkblhaaGreatDoor

set_option linter.unusedSimpArgs false
set_option linter.unusedVariables false
namespace Go.Proofs.YtdkipndepkblhaaGreatDoor
open Go.RowKit Go.Bg Dg

theorem quo_rz (z1 z2 : Int) : (rz z1).times (rz z2).upside = Rt.over (decide (z1 < 0) != decide (z2 < 0)) z1.natAbs z2.natAbs := by
  unfold Rt.times Rt.upside rz
  rw [Nat.mul_one, Nat.one_mul]
theorem sg_dec {s : Bool} {N : Nat} (h : s = true → 0 < N) : decide (sg s N < 0) = s := by
  rw [sg_neg]
  cases s
  · rfl
  · simp [h rfl]

set_option maxRecDepth 100000 in
set_option maxHeartbeats 4000000 in
theorem binFrac_any (v1 v2 : Value) (z1 z2 : Int) (w : World) (hK : ThrD w) (h1 : CInt w v1 z1) (h2 : CInt w v2 z2) (h0 : z2 ≠ 0) (L : Nat) (hL : L < 40) (l1 : z1.natAbs < W64 ^ L) (l2 : z2.natAbs < W64 ^ L) :
    Calls Tryz.prog 38 #[v1, .int .i64 15, v2] w fun e w' => ∃ u, e = .returned u ∧ CRat w' u ((rz z1).times (rz z2).upside) ∧ Below w.heap.size w w' := by
  rw [quo_rz]
  have H1 := Lib.hid h1
  have H2 := Lib.hid h2
  have L1 := Lib.hid l1
  have L2 := Lib.hid l2
  have HK := Lib.hid hK
  have H0 := Lib.hid h0
  obtain ⟨q, hq⟩ : ∃ q, q = Rt.over (decide (z1 < 0) != decide (z2 < 0)) z1.natAbs z2.natAbs := ⟨_, rfl⟩
  rw [← hq]
  have HQ := Lib.hid hq
  clear h1 h2 l1 l2 hK h0 hq
  go_enter Tryz.func38, Tryz.ntmps38
  go_wp2
  refine wp_scope_straight ?_
  go_wp2_with fail
  refine (matchInt_any v1 v2 z1 z2 _ H1.out H2.out).mono ?_
  rintro e W ⟨u1, u2, rfl, hS, hB⟩
  have HB := Lib.hid hB
  have HKW := Lib.hid (HK.out.keep hB)
  clear hB
  rcases hS with ⟨rfl, f1, rfl, f2⟩ | ⟨⟨b1, o1, s, N, rfl, hI, e1⟩, ⟨b2, o2, t, M, rfl, hJ, e2⟩⟩
  · obtain ⟨t1, t2, t3, t4, t5, t6, t7, t8, t9⟩ := ta_int64Val
    have HG := Lib.hid (⟨fit64_bd f1, fit64_bd f2⟩ : (-9223372036854775808 ≤ z1 ∧ z1 < 9223372036854775808) ∧ (-9223372036854775808 ≤ z2 ∧ z2 < 9223372036854775808))
    clear f1 f2
    go_wp2_with fail
    refine (newRat64_any z1 z2 HG.out.1 HG.out.2 H0.out _ HKW.out).mono ?_
    rintro e w2 ⟨rfl, hR, hB2⟩
    have HR := Lib.hid hR
    have HB2 := Lib.hid hB2
    clear hR hB2
    go_wp2_with fail
    refine (makeRat_any _ _ _ _ L _ HR.out (Nat.lt_of_le_of_lt (Nat.div_le_self _ _) L1.out) (Nat.lt_of_le_of_lt (Nat.div_le_self _ _) L2.out) (by omega)).mono ?_
    rintro e w3 ⟨u, rfl, hu, rfl⟩
    have HU := Lib.hid hu
    clear hu
    go_wp2
    try rw [Exit.noGoto_ret]
    go_ret
    refine ⟨_, rfl, ?_, Below.then HB.out (Nat.le_refl _) HB2.out⟩
    rw [HQ.out]
    exact HU.out
  · obtain ⟨t1, t2, t3, t4, t5, t6, t7, t8, t9⟩ := ta_intVal
    have hfld := field_intVal
    have LN := Lib.hid (show N < W64 ^ L from by have := L1.out; rw [← e1, sg_nat] at this; exact this)
    have LM := Lib.hid (show M < W64 ^ L from by have := L2.out; rw [← e2, sg_nat] at this; exact this)
    have M0 := Lib.hid (show 0 < M from Nat.pos_of_ne_zero (fun h => H0.out (by rw [← e2, h]; cases t <;> simp [sg])))
    have HE := Lib.hid (show q = Rt.over (s != t) N M from by rw [HQ.out, ← e1, ← e2, sg_nat, sg_nat, sg_dec hI.zero, sg_dec hJ.zero])
    have HI := Lib.hid hI
    have HJ := Lib.hid hJ
    have HL := Lib.hid hL
    clear hI hJ e1 e2 L1 L2 hL HQ
    obtain ⟨W0, hW0⟩ : ∃ W0, W0 = W.alloc (.cells #[.pointer (some ⟨b1, o1, none⟩)] 93) := ⟨_, rfl⟩
    have HW := Lib.hid hW0
    have hb0 : Below W.heap.size W W0 := by rw [hW0]; exact Below.alloc' (Below.refl _ _) _
    have hx : W0.cell? ⟨W.heap.size, 0, none⟩ = some (.pointer (some ⟨b1, o1, none⟩)) := by rw [hW0]; exact alloc_new _ _ _ rfl rfl
    have HI0 := Lib.hid (HI.out.keep hb0)
    have HJ0 := Lib.hid (HJ.out.keep hb0)
    have HK0 := Lib.hid (HKW.out.keep hb0)
    have HB0 := Lib.hid hb0
    clear hW0 HI HJ hb0
    go_upto_region 49 with fail
    rw [← HW.out]
    go_wp2_with fail
    refine (newInt_any _).mono ?_
    rintro e w1 ⟨rfl, hw1⟩
    have hB1 : Below W0.heap.size W0 w1 := by rw [hw1]; exact Below.alloc' (Below.refl _ _) _
    have HB1 := Lib.hid hB1
    clear hw1 hx
    go_wp2_with fail
    refine (newRat_any _).mono ?_
    rintro e w2 ⟨rfl, hw2⟩
    have hB2 : Below w1.heap.size w1 w2 := by rw [hw2]; exact Below.alloc' (Below.refl _ _) _
    have hb12 := Below.then HB1.out (Nat.le_refl _) hB2
    have HS := Lib.hid (setFrac_new w1.heap.size b1 o1 b2 o2 s t N M w2 (HK0.out.keep hb12) (by rw [hw2]; exact newRat_is w1) (HI0.out.keep hb12) (HJ0.out.keep hb12) M0.out
      (Nat.ne_of_lt (Nat.lt_of_lt_of_le HI0.out.blk.lt HB1.out.size)) (Nat.ne_of_lt (Nat.lt_of_lt_of_le HJ0.out.blk.lt HB1.out.size)) (Nat.ne_of_gt (Nat.lt_of_lt_of_le (block_lt HK0.out) HB1.out.size)) L HL.out LN.out LM.out)
    have HB12 := Lib.hid hb12
    have HS2 := Lib.hid (show w2.heap.size = w1.heap.size + 1 from by rw [hw2]; simp)
    clear hw2 hB1 hB2 hb12
    go_wp2_with fail
    refine HS.out.mono ?_
    rintro e w4 ⟨rfl, hR, hU⟩
    have HR := Lib.hid hR
    have HBG := Lib.hid (hU.below HB12.out (by have := HB1.out.size; have := HS2.out; omega) (fun k _ e => by subst e; exact HB1.out.size))
    clear hR hU HS
    go_wp2_with fail
    refine (makeRat_any _ _ _ _ L _ HR.out (Nat.lt_of_le_of_lt (Nat.div_le_self _ _) LN.out) (Nat.lt_of_le_of_lt (Nat.div_le_self _ _) LM.out) (by have := HL.out; omega)).mono ?_
    rintro e w5 ⟨u, rfl, hu, rfl⟩
    have HU := Lib.hid hu
    clear hu
    go_wp2
    try rw [Exit.noGoto_ret]
    go_ret
    refine ⟨_, rfl, ?_, Below.then HB.out (Nat.le_refl _) (Below.then HB0.out (Nat.le_refl _) HBG.out)⟩
    rw [HE.out]
    exact HU.out
end Go.Proofs.YtdkipndepkblhaaGreatDoor

set_option linter.unusedSimpArgs false
set_option linter.unusedVariables false
namespace Go.Proofs.YtdkipndepkblhaaGreatDoor
open Go.RowKit Go.Bg Dg

/-- a fraction in its lowest terms is as the reference wants it -/
theorem rok_over (s : Bool) (N D : Nat) (hD : 0 < D) : ROk (Rt.over s N D) := by
  have hg : 0 < Nat.gcd N D := Nat.gcd_pos_of_pos_right _ hD
  refine ⟨Nat.div_pos (Nat.gcd_le_right _ hD) hg, fun h => ?_, ?_⟩
  · have h' : (s && decide (0 < N)) = true := h
    have hN : 0 < N := by simpa using (Bool.and_eq_true_iff.1 h').2
    exact Nat.div_pos (Nat.gcd_le_left _ hN) hg
  · show Nat.gcd (N / Nat.gcd N D) (D / Nat.gcd N D) = 1
    rw [Nat.gcd_div (Nat.gcd_dvd_left _ _) (Nat.gcd_dvd_right _ _), Nat.div_self hg]
/-- what impl.made makes of the value -/
abbrev MadeAs (x : Vl) (P : World → Value → Prop) : Prop := ∀ w, VlAt w x → Calls Tryz.prog 39 #[.agg #[.int .i64 x.kind, .bool x.truth, .string x.text, .bool x.neg, .slice x.wa x.wn x.wc, .slice x.da x.dn x.dc, .bool x.ineg, .slice x.ia x.inn x.ic, .slice x.ea x.en x.ec]] w fun e w' => ∃ u, e = .returned u ∧ P w' u ∧ Below w.heap.size w w'
theorem over_lt {s : Bool} {N D B : Nat} (hN : N < B) (hD : D < B) : (Rt.over s N D).num < B ∧ (Rt.over s N D).den < B :=
  ⟨Nat.lt_of_le_of_lt (Nat.div_le_self _ _) hN, Nat.lt_of_le_of_lt (Nat.div_le_self _ _) hD⟩

set_option maxRecDepth 100000 in
set_option maxHeartbeats 2000000 in
theorem implBinaryQ_any (k : Nat) (hk : k < 10) (x y : Vl) (P1 P2 : World → Value → Prop) (z : Rt) (L : Nat) (w : World) (h1 : VlAt w x) (h2 : VlAt w y) (k1 : MadeAs x P1) (k2 : MadeAs y P2) (kk : ∀ (w w' : World) v, P1 w v → Below w.heap.size w w' → P1 w' v) (hL : L ≤ 100000) (hz : z.num < W64 ^ L ∧ z.den < W64 ^ L ∧ ROk z)
    (H : ∀ (v1 v2 : Value) (w' : World), Below w.heap.size w w' → P1 w' v1 → P2 w' v2 →
      Calls Tryz.prog 38 #[v1, .int .i64 (opTok k), v2] w' fun e w'' => ∃ u, e = .returned u ∧ CRat w'' u z ∧ Below w'.heap.size w' w'') :
    Calls Tryz.prog 15 #[.int .i64 k, .agg #[.int .i64 x.kind, .bool x.truth, .string x.text, .bool x.neg, .slice x.wa x.wn x.wc, .slice x.da x.dn x.dc, .bool x.ineg, .slice x.ia x.inn x.ic, .slice x.ea x.en x.ec], .agg #[.int .i64 y.kind, .bool y.truth, .string y.text, .bool y.neg, .slice y.wa y.wn y.wc, .slice y.da y.dn y.dc, .bool y.ineg, .slice y.ia y.inn y.ic, .slice y.ea y.en y.ec]] w (GivesV (IsQ z L) w) := by
  obtain ⟨W0, hW0⟩ : ∃ W0, W0 = ((w.alloc (.cells #[.int .i64 x.kind, .bool x.truth, .string x.text, .bool x.neg, .slice x.wa x.wn x.wc, .slice x.da x.dn x.dc, .bool x.ineg, .slice x.ia x.inn x.ic, .slice x.ea x.en x.ec] 26)).alloc (.cells #[.int .i64 y.kind, .bool y.truth, .string y.text, .bool y.neg, .slice y.wa y.wn y.wc, .slice y.da y.dn y.dc, .bool y.ineg, .slice y.ia y.inn y.ic, .slice y.ea y.en y.ec] 26)).alloc (.cells #[.int .i64 0, .bool false, .string ⟨#[]⟩, .bool false, .slice none 0 0, .slice none 0 0, .bool false, .slice none 0 0, .slice none 0 0] 26) := ⟨_, rfl⟩
  have HW := Lib.hid hW0
  have hb0 : Below w.heap.size w W0 := by rw [hW0]; exact Below.alloc' (Below.alloc' (Below.alloc' (Below.refl _ _) _) _) _
  have X : Box9 W0 w.heap.size x := by rw [hW0]; exact ((Box9.new w x _ rfl).alloc _).alloc _
  have Y : Box9 W0 (w.heap.size + 1) y := by rw [hW0]; exact (Box9.new _ y _ (by simp)).alloc _
  have hR : BlkAt W0 (w.heap.size + 1 + 1) #[.int .i64 0, .bool false, .string ⟨#[]⟩, .bool false, .slice none 0 0, .slice none 0 0, .bool false, .slice none 0 0, .slice none 0 0] 26 := by
    rw [hW0]
    have := BlkAt.new ((w.alloc (.cells #[.int .i64 x.kind, .bool x.truth, .string x.text, .bool x.neg, .slice x.wa x.wn x.wc, .slice x.da x.dn x.dc, .bool x.ineg, .slice x.ia x.inn x.ic, .slice x.ea x.en x.ec] 26)).alloc (.cells #[.int .i64 y.kind, .bool y.truth, .string y.text, .bool y.neg, .slice y.wa y.wn y.wc, .slice y.da y.dn y.dc, .bool y.ineg, .slice y.ia y.inn y.ic, .slice y.ea y.en y.ec] 26)) #[.int .i64 0, .bool false, .string ⟨#[]⟩, .bool false, .slice none 0 0, .slice none 0 0, .bool false, .slice none 0 0, .slice none 0 0] 26
    simpa using this
  have HX := Lib.hid (h1.keep hb0)
  have HY := Lib.hid (h2.keep hb0)
  have K1 := Lib.hid k1
  have K2 := Lib.hid k2
  have HZ := Lib.hid hz
  have HH := Lib.hid H
  clear hW0 h1 h2 k1 k2 hz H
  go_enter Tryz.func15, Tryz.ntmps15
  go_upto_region 1 with fail
  rw [← HW.out]
  go_wp2_with fail
  refine (operator_any k hk _).mono ?_
  rintro e w1 ⟨rfl, hB1⟩
  have hb1 := Below.then hb0 (Nat.le_refl _) hB1
  have hR1 := hR.keep hB1
  have X1 := X.keep hB1
  have Y1 := Y.keep hB1
  have HX1 := Lib.hid (HX.out.keep hB1)
  have HY1 := Lib.hid (HY.out.keep hB1)
  go_wp2_with fail
  have hd0 : Below w1.heap.size w1 w1.drew := (Below.refl _ _).drew
  go_region_held3 (fun w' => (w'.cell? ⟨w.heap.size, 0, none⟩ = some (.int .i64 x.kind) ∧ w'.cell? ⟨w.heap.size, 1, none⟩ = some (.bool x.truth) ∧ w'.cell? ⟨w.heap.size, 2, none⟩ = some (.string x.text) ∧ w'.cell? ⟨w.heap.size, 3, none⟩ = some (.bool x.neg) ∧ w'.cell? ⟨w.heap.size, 4, none⟩ = some (.slice x.wa x.wn x.wc) ∧ w'.cell? ⟨w.heap.size, 5, none⟩ = some (.slice x.da x.dn x.dc) ∧ w'.cell? ⟨w.heap.size, 6, none⟩ = some (.bool x.ineg) ∧ w'.cell? ⟨w.heap.size, 7, none⟩ = some (.slice x.ia x.inn x.ic) ∧ w'.cell? ⟨w.heap.size, 8, none⟩ = some (.slice x.ea x.en x.ec)) ∧ (w'.cell? ⟨(w.heap.size + 1), 0, none⟩ = some (.int .i64 y.kind) ∧ w'.cell? ⟨(w.heap.size + 1), 1, none⟩ = some (.bool y.truth) ∧ w'.cell? ⟨(w.heap.size + 1), 2, none⟩ = some (.string y.text) ∧ w'.cell? ⟨(w.heap.size + 1), 3, none⟩ = some (.bool y.neg) ∧ w'.cell? ⟨(w.heap.size + 1), 4, none⟩ = some (.slice y.wa y.wn y.wc) ∧ w'.cell? ⟨(w.heap.size + 1), 5, none⟩ = some (.slice y.da y.dn y.dc) ∧ w'.cell? ⟨(w.heap.size + 1), 6, none⟩ = some (.bool y.ineg) ∧ w'.cell? ⟨(w.heap.size + 1), 7, none⟩ = some (.slice y.ia y.inn y.ic) ∧ w'.cell? ⟨(w.heap.size + 1), 8, none⟩ = some (.slice y.ea y.en y.ec)))
    (first | with_reducible exact ⟨X1.all, Y1.all⟩ | with_reducible exact ⟨(X1.keep (by assumption)).all, (Y1.keep (by assumption)).all⟩ | with_reducible exact ⟨((X1.keep (by assumption)).set9 (by omega) _ _ _ _ _ _ _ _ _).all, ((Y1.keep (by assumption)).set9 (by omega) _ _ _ _ _ _ _ _ _).all⟩)
    (first | (go_at_call 39; (with_reducible refine (K1.out _ ?_).mono ?_); exact HX1.out.keep (by assumption); rintro e w2 ⟨u1, rfl, hu1, hB2⟩; have hb2 := Below.then hd0 (Nat.le_refl _) hB2) | (go_at_call 39; (with_reducible refine (K2.out _ ?_).mono ?_); exact HY1.out.keep (by assumption); rintro e w3 ⟨u2, rfl, hu2, hB3⟩; have hb3 := Below.then hb2 (Nat.le_refl _) hB3) | (go_at_call 38; have q1 := Below.then hb1 (Nat.le_refl _) hb3; have q2 := kk _ _ _ hu1 hB3; (with_reducible refine (HH.out u1 u2 _ q1 q2 hu2).mono ?_); clear q1 q2; rintro e w4 ⟨u, rfl, hu, hB4⟩; have hb4 := Below.then hb3 (Nat.le_refl _) hB4) | (go_at_call 37; (with_reducible refine (toldRat_any u z _ ?_ HZ.out.2.2 L hL HZ.out.1 HZ.out.2.1).mono ?_); exact hu; rintro e w5 ⟨o, rfl, hy, hP, hB5⟩; have hb5 := Below.then hb4 (Nat.le_refl _) hB5; have hR5 := hR1.keep hb5; have HE := Lib.hid (givesV_end hR5 (by omega) (Below.then hb1 (Nat.le_refl _) hb5) hy hP); have oc0 := (hR5).cell 0; have oc1 := (hR5).cell 1; have oc2 := (hR5).cell 2; have oc3 := (hR5).cell 3; have oc4 := (hR5).cell 4; have oc5 := (hR5).cell 5; have oc6 := (hR5).cell 6; have oc7 := (hR5).cell 7; have oc8 := (hR5).cell 8; simp only [List.getElem?_toArray, List.getElem?_cons_zero, List.getElem?_cons_succ] at oc0 oc1 oc2 oc3 oc4 oc5 oc6 oc7 oc8; have of0 := (hR5).frozen 0; have of1 := (hR5).frozen 1; have of2 := (hR5).frozen 2; have of3 := (hR5).frozen 3; have of4 := (hR5).frozen 4; have of5 := (hR5).frozen 5; have of6 := (hR5).frozen 6; have of7 := (hR5).frozen 7; have of8 := (hR5).frozen 8))
  go_wp2
  exact bodyPost_ret (v := .agg #[.int .i64 o.kind, .bool o.truth, .string o.text, .bool o.neg, .slice o.wa o.wn o.wc, .slice o.da o.dn o.dc, .bool o.ineg, .slice o.ia o.inn o.ic, .slice o.ea o.en o.ec]) (by simp [results, Tryz.results15, go_sem, oc0, oc1, oc2, oc3, oc4, oc5, oc6, oc7, oc8]) rfl HE.out

/-- the exact quotient of two integers -/
theorem implFrac_any (x y : Vl) (K : Nat) (w : World) (hT : ThrD w) (h1 : VlAt w x) (h2 : VlAt w y) (k1 : x.kind = 3) (k2 : y.kind = 3) (n1 : x.wn ≤ K) (n2 : y.wn ≤ K) (hK : K < 40) (h0 : sg y.neg (val W64 y.wf y.wn) ≠ 0) :
    Calls Tryz.prog 15 #[.int .i64 3, .agg #[.int .i64 x.kind, .bool x.truth, .string x.text, .bool x.neg, .slice x.wa x.wn x.wc, .slice x.da x.dn x.dc, .bool x.ineg, .slice x.ia x.inn x.ic, .slice x.ea x.en x.ec], .agg #[.int .i64 y.kind, .bool y.truth, .string y.text, .bool y.neg, .slice y.wa y.wn y.wc, .slice y.da y.dn y.dc, .bool y.ineg, .slice y.ia y.inn y.ic, .slice y.ea y.en y.ec]] w (GivesV (IsQ ((rz (sg x.neg (val W64 x.wf x.wn))).times (rz (sg y.neg (val W64 y.wf y.wn))).upside) K) w) := by
  have l1 := vl_lt h1 n1
  have l2 := vl_lt h2 n2
  have hy : 0 < (sg y.neg (val W64 y.wf y.wn)).natAbs := Int.natAbs_pos.2 h0
  have hz := over_lt (s := (decide (sg x.neg (val W64 x.wf x.wn) < 0) != decide (sg y.neg (val W64 y.wf y.wn) < 0))) l1 l2
  refine implBinaryQ_any 3 (by omega) x y (fun w v => CInt w v (sg x.neg (val W64 x.wf x.wn))) (fun w v => CInt w v (sg y.neg (val W64 y.wf y.wn))) _ K w h1 h2 (fun w' h => madeInt_any x w' h k1 (by omega)) (fun w' h => madeInt_any y w' h k2 (by omega)) (fun _ _ _ h hb => h.keep hb) (by omega) ?_
    (fun v1 v2 w' hb c1 c2 => binFrac_any v1 v2 _ _ w' (hT.keep hb) c1 c2 h0 K hK l1 l2)
  rw [quo_rz]
  exact ⟨hz.1, hz.2, rok_over _ _ _ hy⟩
end Go.Proofs.YtdkipndepkblhaaGreatDoor

set_option linter.unusedSimpArgs false
set_option linter.unusedVariables false
namespace Go.Proofs.YtdkipndepkblhaaGreatDoor
open Go.RowKit Go.Bg Dg

set_option maxRecDepth 100000 in
set_option maxHeartbeats 1000000 in
theorem upside_any (s : Bool) (a : Option Addr) (n c : Nat) (a' : Option Addr) (n' c' L : Nat) (r : Rt) (w : World) (h : RtAt w s a n c a' n' c' r L) :
    Calls Tryz.prog 27 #[.agg #[.bool s, .slice a n c, .slice a' n' c']] w (GivesR r.upside L w) := by
  have HH := Lib.hid h
  clear h
  have hb := ((Below.refl w.heap.size w).alloc (Nat.le_refl _) (.cells #[.bool s, .slice a n c, .slice a' n' c'] 31)).alloc (by simp) (.cells #[.bool s, .slice a' n' c', .slice a n c] 31)
  have HB := Lib.hid hb
  clear hb
  go_enter Tryz.func27, Tryz.ntmps27
  go_wp2
  exact bodyPost_ret (v := .agg #[.bool s, .slice a' n' c', .slice a n c]) (by simp [results, Tryz.results27, go_sem]) rfl
    ⟨_, _, _, _, _, _, _, rfl, ⟨HH.out.neg, HH.out.den.keep HB.out, HH.out.num.keep HB.out, HH.out.denL, HH.out.numL⟩, HB.out⟩
end Go.Proofs.YtdkipndepkblhaaGreatDoor
