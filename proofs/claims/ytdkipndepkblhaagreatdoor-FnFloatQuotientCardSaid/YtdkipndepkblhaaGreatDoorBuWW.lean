/-
  Ints of one's own as registers: mulW, Int.Add of other signs, Int.Abs, Int.QuoRem.
  Ints of one's own as registers: Int.Abs into a new one, Int.QuoRem.
  Four registers of one's own: lehmerUpdate, euclidUpdate.
  lehmerGCD: what its walk needs. PRINTED BY wip/gen_lehg.py.
-/
import Derived.Test.YtdkipndepkblhaaGreatDoorBuTT
import Derived.Test.YtdkipndepkblhaaGreatDoorBuQQ
import Derived.Test.YtdkipndepkblhaaGreatDoorBuP
import Derived.BigRegion
import Derived.Deep.CutRange
import Derived.Test.YtdkipndepkblhaaGreatDoorBuVV
set_option linter.unusedSimpArgs false
set_option linter.unusedVariables false
namespace Go.Proofs.YtdkipndepkblhaaGreatDoor
open Go.RowKit Go.Bg Dg

set_option maxRecDepth 100000 in
set_option maxHeartbeats 2000000 in
theorem mulW_any (z x : Rg) (neg : Bool) (y : Nat) (w : World) (hz : RA w z) (hx : RA w x) (hy : y < W64) (hn : x.n ≤ 900000) :
    Calls Tryz.prog 232 #[.pointer (some ⟨z.b, 0, none⟩), .pointer (some ⟨x.b, 0, none⟩), .bool neg, .int .u64 y] w fun e w' => e = .returned (.tuple #[]) ∧ ∃ z', RTo z z' w w' ∧ z'.s = (x.s != neg) ∧ z'.N = x.N * y := by
  have HZ := Lib.hid hz
  have HX := Lib.hid hx
  have HY := Lib.hid hy
  have p1 := hz.c1
  have q1 := hx.c1
  have hzz := hz.notIn hz
  have hxz := hx.notIn hz
  clear hz hx hy
  go_enter Tryz.func232, Tryz.ntmps232
  have hd0 : ∀ q, Below w.heap.size w (w.drewN q) := fun q => below_drewN (Below.refl w.heap.size w) q
  go_upto_region 0 with fail
  go_region_with
    ((go_at_call 221; (with_reducible refine (natMulW_into z.a z.n z.c z.N x.a x.n x.c x.N y _ ?_ ?_ hn HY.out).mono ?_); exact HZ.out.num.keep (hd0 _); exact HX.out.num.keep (hd0 _); rintro e w1 ⟨a2, n2, c2, rfl, hN2, hU2, hP2⟩; have HF := Lib.hid (HZ.out.done (hd0 _) hU2 hN2 hP2 (x.s != neg)); have h' := (HZ.out.blk.keep (hd0 _)).upd hU2 hzz; have k0 : w1.cell? ⟨z.b, 0, none⟩ = some (.bool z.s) := (by rw [hU2.cell (p := ⟨z.b, 0, none⟩) (Nat.lt_of_lt_of_le HZ.out.blk.lt (hd0 _).size) hzz]; exact cell_keep HZ.out.c0 (hd0 _)); have k1 : w1.cell? ⟨z.b, 1, none⟩ = some (.slice z.a z.n z.c) := (by rw [hU2.cell (p := ⟨z.b, 1, none⟩) (Nat.lt_of_lt_of_le HZ.out.blk.lt (hd0 _).size) hzz]; exact cell_keep HZ.out.c1 (hd0 _)); have x0 : w1.cell? ⟨x.b, 0, none⟩ = some (.bool x.s) := (by rw [hU2.cell (p := ⟨x.b, 0, none⟩) (Nat.lt_of_lt_of_le HX.out.blk.lt (hd0 _).size) hxz]; exact cell_keep HX.out.c0 (hd0 _)); have f0 := h'.frozen 0; have f1 := h'.frozen 1; have k0' : ∀ v, (w1.setCell ⟨z.b, 1, none⟩ v).cell? ⟨z.b, 0, none⟩ = some (.bool z.s) := (fun v => by rw [World.cell?_setCell_other _ _ _ _ (fun hh => by injection hh with _ hh _; omega)]; exact k0); have x0' : ∀ v, (w1.setCell ⟨z.b, 1, none⟩ v).cell? ⟨x.b, 0, none⟩ = some (.bool x.s) := (fun v => by rw [World.cell?_setCell_other _ _ _ _ (fun hh => by injection hh with _ hh _; omega)]; exact x0); clear hN2 h' k0 x0 hU2 hP2))
  all_goals
    clear p1 q1
    go_wp2
    go_end0
    exact ⟨rfl, _, HF.out, rfl, rfl⟩

theorem natSub_all (az : Option Addr) (nz cz Z : Nat) (a1 a2 : Option Addr) (n1 n2 c1 c2 N1 N2 : Nat) (w : World) (h0 : BigN 151 w az nz cz Z) (h1 : BigN 151 w a1 n1 c1 N1) (h2 : BigN 151 w a2 n2 c2 N2) (hb1 : n1 ≤ 900000) (hle : N2 ≤ N1) (hd : n2 = 0 → 0 < n1 ∧ ∀ k, InB a1 k → ¬ InB az k) :
    Calls Tryz.prog 126 #[.slice az nz cz, .slice a1 n1 c1, .slice a2 n2 c2] w (GivesI 151 az (N1 - N2) w) := by
  rcases Nat.eq_zero_or_pos n2 with h | h
  · subst h
    have e : N2 = 0 := by have := h2.num.lt; simpa using this
    subst e
    exact natSub0_into az nz cz Z a1 a2 n1 c1 c2 N1 w h0 h1 hb1 (hd rfl).1 (hd rfl).2
  · exact natSub_into az nz cz Z a1 a2 n1 n2 c1 c2 N1 N2 w h0 h1 h2 hb1 hle h

set_option maxRecDepth 100000 in
set_option maxHeartbeats 4000000 in
/-- z += y, of another sign -/
theorem intAdd_reg (z y : Rg) (w : World) (hz : RA w z) (hy : RA w y) (ho : y.Off z) (hs : z.s ≠ y.s) (hy0 : 0 < y.N) (hn : z.n ≤ 900000) (hn' : y.n ≤ 900000) :
    Calls Tryz.prog 63 #[.pointer (some ⟨z.b, 0, none⟩), .pointer (some ⟨z.b, 0, none⟩), .pointer (some ⟨y.b, 0, none⟩)] w fun e w' => e = .returned (.pointer (some ⟨z.b, 0, none⟩)) ∧ ∃ z', RTo z z' w w' ∧ sg z'.s z'.N = sg z.s z.N + sg y.s y.N ∧ (z'.s = true → 0 < z'.N) := by
  have HZ := Lib.hid hz
  have HY := Lib.hid hy
  have HO := Lib.hid ho
  have p0 := hz.c0
  have p1 := hz.c1
  have q0 := hy.c0
  have q1 := hy.c1
  have hzz := hz.notIn hz
  have hsb : (z.s == y.s) = false := by
    cases h1 : z.s <;> cases h2 : y.s <;> simp_all
  have HS := Lib.hid hs
  have hy00 : 0 < y.n := by have := natAt_pos_len hy.num.num; simpa [hy0] using this
  clear hz hy ho hs
  have hd0 : ∀ q, Below w.heap.size w (w.drewN q) := fun q => below_drewN (Below.refl w.heap.size w) q
  by_cases hle : y.N ≤ z.N
  · have hc := cmpK_ge hle
    have HD := Lib.hid (sum_other HS.out hle)
    go_enter Tryz.func63, Tryz.ntmps63
    go_upto_region 2 with fail
    go_quiet (fail)
    go_upto_region 4 with fail
    go_quiet (first | (go_at_call 125; refine quiet_of2 (natCmp_any _ _ _ _ _ _ z.N y.N _ (HZ.out.num.num.drewN _) (HY.out.num.num.drewN _))))
    generalize cmpI z.N y.N = k at *
    go_upto_region 5 with fail
    go_region_with
      ((go_at_call 126; (with_reducible refine (natSub_all z.a z.n z.c z.N z.a y.a z.n y.n z.c y.c z.N y.N _ ?_ ?_ ?_ hn hle (fun h => absurd h (by omega))).mono ?_); exact HZ.out.num.keep (hd0 _); exact HZ.out.num.keep (hd0 _); exact HY.out.num.keep (hd0 _); rintro e w1 ⟨a2, n2, c2, rfl, hN2, hU2, hP2⟩; have HP := Lib.hid (natAt_pos_len hN2.num); have hcm2 := hN2.num.cm; have hnc2 := hN2.num.nc; have HF := Lib.hid (fun s' => HZ.out.done (hd0 _) hU2 hN2 hP2 s'); have h' := (HZ.out.blk.keep (hd0 _)).upd hU2 hzz; have k0 : w1.cell? ⟨z.b, 0, none⟩ = some (.bool z.s) := (by rw [hU2.cell (p := ⟨z.b, 0, none⟩) (Nat.lt_of_lt_of_le HZ.out.blk.lt (hd0 _).size) hzz]; exact cell_keep HZ.out.c0 (hd0 _)); have k1 : w1.cell? ⟨z.b, 1, none⟩ = some (.slice z.a z.n z.c) := (by rw [hU2.cell (p := ⟨z.b, 1, none⟩) (Nat.lt_of_lt_of_le HZ.out.blk.lt (hd0 _).size) hzz]; exact cell_keep HZ.out.c1 (hd0 _)); have f0 := h'.frozen 0; have f1 := h'.frozen 1; have k0' : ∀ v, (w1.setCell ⟨z.b, 1, none⟩ v).cell? ⟨z.b, 0, none⟩ = some (.bool z.s) := (fun v => by rw [World.cell?_setCell_other _ _ _ _ (fun hh => by injection hh with _ hh _; omega)]; exact k0); clear hN2 h' k0 hU2 hP2))
    all_goals
      clear p0 p1 q0 q1
      by_cases hr : 0 < n2
      · go_wp2
        go_ret
        have hp : 0 < (z.N - y.N) := by have := HP.out; simpa [hr] using this.symm
        refine ⟨rfl, _, HF.out _, ?_, fun _ => hp⟩
        have := HD.out
        simpa [hp] using this
      · go_wp2
        go_ret
        have hp : ¬ 0 < (z.N - y.N) := by have := HP.out; simpa [hr] using this
        refine ⟨rfl, _, HF.out false, ?_, fun h => by cases h⟩
        have := HD.out
        simpa [hp] using this
  · have hlt : z.N < y.N := by omega
    have hc := cmpK_lt hlt
    have HD := Lib.hid (sum_other' HS.out hlt)
    go_enter Tryz.func63, Tryz.ntmps63
    go_upto_region 2 with fail
    go_quiet (fail)
    go_upto_region 4 with fail
    go_quiet (first | (go_at_call 125; refine quiet_of2 (natCmp_any _ _ _ _ _ _ z.N y.N _ (HZ.out.num.num.drewN _) (HY.out.num.num.drewN _))))
    generalize cmpI z.N y.N = k at *
    go_upto_region 7 with fail
    go_region_with
      ((go_at_call 126; (with_reducible refine (natSub_all z.a z.n z.c z.N y.a z.a y.n z.n y.c z.c y.N z.N _ ?_ ?_ ?_ hn' (Nat.le_of_lt hlt) (fun _ => ⟨hy00, HO.out.dat⟩)).mono ?_); exact HZ.out.num.keep (hd0 _); exact HY.out.num.keep (hd0 _); exact HZ.out.num.keep (hd0 _); rintro e w1 ⟨a2, n2, c2, rfl, hN2, hU2, hP2⟩; have HP := Lib.hid (natAt_pos_len hN2.num); have hcm2 := hN2.num.cm; have hnc2 := hN2.num.nc; have HF := Lib.hid (fun s' => HZ.out.done (hd0 _) hU2 hN2 hP2 s'); have h' := (HZ.out.blk.keep (hd0 _)).upd hU2 hzz; have k0 : w1.cell? ⟨z.b, 0, none⟩ = some (.bool z.s) := (by rw [hU2.cell (p := ⟨z.b, 0, none⟩) (Nat.lt_of_lt_of_le HZ.out.blk.lt (hd0 _).size) hzz]; exact cell_keep HZ.out.c0 (hd0 _)); have k1 : w1.cell? ⟨z.b, 1, none⟩ = some (.slice z.a z.n z.c) := (by rw [hU2.cell (p := ⟨z.b, 1, none⟩) (Nat.lt_of_lt_of_le HZ.out.blk.lt (hd0 _).size) hzz]; exact cell_keep HZ.out.c1 (hd0 _)); have f0 := h'.frozen 0; have f1 := h'.frozen 1; have k0' : ∀ v, (w1.setCell ⟨z.b, 1, none⟩ v).cell? ⟨z.b, 0, none⟩ = some (.bool z.s) := (fun v => by rw [World.cell?_setCell_other _ _ _ _ (fun hh => by injection hh with _ hh _; omega)]; exact k0); clear hN2 h' k0 hU2 hP2))
    all_goals
      clear p0 p1 q0 q1
      by_cases hr : 0 < n2
      · go_wp2
        go_ret
        have hp : 0 < (y.N - z.N) := by have := HP.out; simpa [hr] using this.symm
        refine ⟨rfl, _, HF.out _, ?_, fun _ => hp⟩
        have := HD.out
        simpa [hp] using this
      · go_wp2
        go_ret
        have hp : ¬ 0 < (y.N - z.N) := by have := HP.out; simpa [hr] using this
        refine ⟨rfl, _, HF.out false, ?_, fun h => by cases h⟩
        have := HD.out
        simpa [hp] using this
end Go.Proofs.YtdkipndepkblhaaGreatDoor

set_option linter.unusedSimpArgs false
set_option linter.unusedVariables false
namespace Go.Proofs.YtdkipndepkblhaaGreatDoor
open Go.RowKit Go.Bg Dg

set_option maxRecDepth 100000 in
set_option maxHeartbeats 1000000 in
theorem intSet_own (b b1 o1 : Nat) (s : Bool) (N : Nat) (w : World) (h : NewInt w b 0) (h1 : BigAt 151 w b1 o1 s N) (hne : b ≠ b1) (h0 : 0 < N) (L : Nat) (hL : L ≤ 1000000) (hN : N < W64 ^ L) :
    Calls Tryz.prog 160 #[.pointer (some ⟨b, 0, none⟩), .pointer (some ⟨b1, o1, none⟩)] w (IntOwn b 0 s N w) := by
  obtain ⟨j, hj, hj2⟩ := Option.map_eq_some_iff.1 infoBigIntSize
  obtain ⟨cur1, e1, k1, _⟩ := h.blk
  obtain ⟨cur2, e2, k2, _⟩ := h1.blk
  have hq := run_neq_ptr_other (P := Tryz.prog) (a := ⟨b, 0, none⟩) (b := ⟨b1, o1, none⟩) w Tryz.underlying85 hj (by rw [hj2]; decide) (by intro h; injection h with h h' _; omega) k1 k2
  obtain ⟨a, n, c, p0, p1, hNN⟩ := h1.val
  have hn : n ≤ 1000000 := Nat.le_trans (len_le W64_gt hNN.num.top hN) hL
  have hn0 : 0 < n := by have := natAt_pos_len hNN.num; simpa [h0] using this
  have HH := Lib.hid h
  have HN := Lib.hid hNN
  have q1 := h.c1
  clear h h1 hNN hN k1 k2 hj2
  have hd0 : Below w.heap.size w w.drew := (Below.refl _ _).drew
  go_enter Tryz.func160, Tryz.ntmps160
  go_upto_region 2 with fail
  go_region_with
    ((go_at_call 132; (with_reducible refine (natSet_into none 0 0 0 a n c N _ (BigN.nil _ _) ?_ hn0 hn (fun k _ h => inB_none h)).mono ?_); exact (HN.out.keep hd0).num; rintro e w1 ⟨a2, n2, c2, rfl, hN2, hU2, hP2⟩; have hB := hU2.toBelow (fun k _ h => inB_none h); have hB1 := Below.then hd0 (Nat.le_refl _) hB; have HF := Lib.hid (HH.out.madeO hB1 hN2 (fun k hk => (hP2 k hk).imp id (Nat.le_trans hd0.size)) h0 (s := s)); have h' := HH.out.keep hB1; obtain ⟨u0, k0⟩ := h'.c0; have k1 := h'.c1; have f0 := h'.blk.frozen 0; have f1 := h'.blk.frozen 1; have p0' : w1.cell? ⟨b1, o1, none⟩ = some (.bool s) := cell_keep p0 hB1; have p0'' : ∀ v, (w1.setCell ⟨b, 1, none⟩ v).cell? ⟨b1, o1, none⟩ = some (.bool s) := (fun v => by
      rw [World.cell?_setCell_other _ _ _ _ (fun hh => by injection hh with hb _ _; exact hne hb)]
      exact p0'); have k0' : ∀ v, (w1.setCell ⟨b, 1, none⟩ v).cell? ⟨b, 0, none⟩ = some u0 := (fun v => by rw [World.cell?_setCell_other _ _ _ _ (fun hh => by injection hh with _ hh _; omega)]; exact k0); clear h' p0' hN2 hU2 hP2 hB hB1))
  all_goals
    clear p0 p1 q1
    go_wp2
    go_ret
    exact HF.out

set_option maxRecDepth 100000 in
set_option maxHeartbeats 1000000 in
theorem intAbs_own (b b1 o1 : Nat) (s : Bool) (N : Nat) (w : World) (h : NewInt w b 0) (h1 : BigAt 151 w b1 o1 s N) (hne : b ≠ b1) (h0 : 0 < N) (L : Nat) (hL : L ≤ 1000000) (hN : N < W64 ^ L) :
    Calls Tryz.prog 228 #[.pointer (some ⟨b, 0, none⟩), .pointer (some ⟨b1, o1, none⟩)] w fun e w' => e = .returned (.pointer (some ⟨b, 0, none⟩)) ∧ Upd (· = b) w w' ∧ ∃ g n c, RA w' ⟨b, false, some ⟨g, 0, none⟩, n, c, N⟩ ∧ w.heap.size ≤ g := by
  have HS := Lib.hid (intSet_own b b1 o1 s N w h h1 hne h0 L hL hN)
  clear h h1
  go_enter Tryz.func228, Tryz.ntmps228
  go_wp2_with fail
  refine HS.out.mono ?_
  rintro e w1 ⟨rfl, hU, g, n, c, hO, hg⟩
  have f0 := hO.blk.frozen 0
  have c0 := hO.c0
  have HR := Lib.hid (show RA (w1.setCell ⟨b, 0, none⟩ (.bool false)) ⟨b, false, some ⟨g, 0, none⟩, n, c, N⟩ from
    ⟨hO.blk.set _ _, World.cell?_setCell_same _ _ _ hO.c0, by rw [World.cell?_setCell_other _ _ _ _ (fun hh => by injection hh with _ hh _; omega)]; exact hO.c1, hO.num.set hO.blk _ _⟩)
  have HU := Lib.hid (hU.trans (Upd.set1 w1 b 0 (.bool false)))
  have HG := Lib.hid hg
  clear hO hU hg
  go_wp2
  go_ret
  exact ⟨rfl, HU.out, g, n, c, HR.out, HG.out⟩

/-- quotient and rest in two registers -/
structure QR (z r z' r' : Rg) (w w' : World) : Prop where
  bz : z'.b = z.b
  br : r'.b = r.b
  az : RA w' z'
  ar : RA w' r'
  upd : Upd (fun k => z.S k ∨ r.S k) w w'
  rz : ∀ k, InB z'.a k → InB z.a k ∨ w.heap.size ≤ k
  rr : ∀ k, InB r'.a k → InB r.a k ∨ w.heap.size ≤ k
  off : z'.Off r'
theorem QR.keep {z r z' r' : Rg} {w w' w'' : World} (h : QR z r z' r' w w') (hb : Below w'.heap.size w' w'') : QR z r z' r' w w'' :=
  ⟨h.bz, h.br, h.az.keep hb, h.ar.keep hb, h.upd.then hb, h.rz, h.rr, h.off⟩

/-- the four stores -/
theorem qr_done {z r : Rg} {w w0 w1 : World} (hz : RA w z) (hr : RA w r) (hne : z.b ≠ r.b) (hb : Below w.heap.size w w0) (hU : Upd (fun k => InB z.a k ∨ InB r.a k) w0 w1) {a a' : Option Addr} {n c n' c' Q R : Nat}
    (hQ : BigN 151 w1 a n c Q) (hR : BigN 151 w1 a' n' c' R) (h1 : ∀ k, InB a k → (InB z.a k ∨ w0.heap.size ≤ k) ∧ ¬ InB a' k) (h2 : ∀ k, InB a' k → InB r.a k ∨ w0.heap.size ≤ k) :
    QR z r ⟨z.b, false, a, n, c, Q⟩ ⟨r.b, false, a', n', c', R⟩ w ((((w1.setCell ⟨z.b, 1, none⟩ (.slice a n c)).setCell ⟨r.b, 1, none⟩ (.slice a' n' c')).setCell ⟨z.b, 0, none⟩ (.bool false)).setCell ⟨r.b, 0, none⟩ (.bool false)) := by
  have hz0 := hz.keep hb
  have hr0 := hr.keep hb
  have nz : ¬ (InB z.a z.b ∨ InB r.a z.b) := by rintro (h | h); exact hz0.notIn hz0 h; exact hz0.notIn hr0 h
  have nr : ¬ (InB z.a r.b ∨ InB r.a r.b) := by rintro (h | h); exact hr0.notIn hz0 h; exact hr0.notIn hr0 h
  have sz := hz0.blk.upd hU nz
  have sr := hr0.blk.upd hU nr
  have z0 : w1.cell? ⟨z.b, 0, none⟩ = some (.bool z.s) := by rw [hU.cell (p := ⟨z.b, 0, none⟩) hz0.blk.lt nz]; exact hz0.c0
  have z1 : w1.cell? ⟨z.b, 1, none⟩ = some (.slice z.a z.n z.c) := by rw [hU.cell (p := ⟨z.b, 1, none⟩) hz0.blk.lt nz]; exact hz0.c1
  have r0 : w1.cell? ⟨r.b, 0, none⟩ = some (.bool r.s) := by rw [hU.cell (p := ⟨r.b, 0, none⟩) hr0.blk.lt nr]; exact hr0.c0
  have r1 : w1.cell? ⟨r.b, 1, none⟩ = some (.slice r.a r.n r.c) := by rw [hU.cell (p := ⟨r.b, 1, none⟩) hr0.blk.lt nr]; exact hr0.c1
  have eb : ∀ (i j : Nat) (v : Value) (w : World), (w.setCell ⟨z.b, i, none⟩ v).cell? ⟨r.b, j, none⟩ = w.cell? ⟨r.b, j, none⟩ := fun i j v w => World.cell?_setCell_other _ _ _ _ (fun hh => by injection hh with hh _ _; exact hne hh)
  have eb' : ∀ (i j : Nat) (v : Value) (w : World), (w.setCell ⟨r.b, i, none⟩ v).cell? ⟨z.b, j, none⟩ = w.cell? ⟨z.b, j, none⟩ := fun i j v w => World.cell?_setCell_other _ _ _ _ (fun hh => by injection hh with hh _ _; exact hne hh.symm)
  have ei : ∀ (b i j : Nat) (v : Value) (w : World), i ≠ j → (w.setCell ⟨b, i, none⟩ v).cell? ⟨b, j, none⟩ = w.cell? ⟨b, j, none⟩ := fun b i j v w h => World.cell?_setCell_other _ _ _ _ (fun hh => by injection hh with _ hh _; exact h hh)
  have az : RA ((((w1.setCell ⟨z.b, 1, none⟩ (.slice a n c)).setCell ⟨r.b, 1, none⟩ (.slice a' n' c')).setCell ⟨z.b, 0, none⟩ (.bool false)).setCell ⟨r.b, 0, none⟩ (.bool false)) ⟨z.b, false, a, n, c, Q⟩ := by
    refine ⟨(((sz.set _ _).set _ _).set _ _).set _ _, ?_, ?_, (((hQ.set sz _ _).set (sr.set _ _) _ _).set ((sz.set _ _).set _ _) _ _).set (((sr.set _ _).set _ _).set _ _) _ _⟩
    · rw [eb']
      refine World.cell?_setCell_same _ _ _ (u := .bool z.s) ?_
      rw [eb', ei _ _ _ _ _ (by decide)]; exact z0
    · rw [eb', ei _ _ _ _ _ (by decide), eb']
      exact World.cell?_setCell_same _ _ _ z1
  have ar : RA ((((w1.setCell ⟨z.b, 1, none⟩ (.slice a n c)).setCell ⟨r.b, 1, none⟩ (.slice a' n' c')).setCell ⟨z.b, 0, none⟩ (.bool false)).setCell ⟨r.b, 0, none⟩ (.bool false)) ⟨r.b, false, a', n', c', R⟩ := by
    refine ⟨(((sr.set _ _).set _ _).set _ _).set _ _, ?_, ?_, (((hR.set sz _ _).set (sr.set _ _) _ _).set ((sz.set _ _).set _ _) _ _).set (((sr.set _ _).set _ _).set _ _) _ _⟩
    · refine World.cell?_setCell_same _ _ _ (u := .bool r.s) ?_
      rw [eb, ei _ _ _ _ _ (by decide), eb]; exact r0
    · rw [ei _ _ _ _ _ (by decide), eb]
      refine World.cell?_setCell_same _ _ _ (u := .slice r.a r.n r.c) ?_
      rw [eb]; exact r1
  refine ⟨rfl, rfl, az, ar, ?_, fun k hk => (h1 k hk).1.imp id (Nat.le_trans hb.size), fun k hk => (h2 k hk).imp id (Nat.le_trans hb.size), ?_⟩
  · exact ((((((Upd.of_below hb).trans (hU.mono (fun k _ hk => hk.imp .inr .inr))).setCell (p := ⟨z.b, 1, none⟩) (.inl (.inl rfl)) _).setCell (p := ⟨r.b, 1, none⟩) (.inr (.inl rfl)) _).setCell (p := ⟨z.b, 0, none⟩) (.inl (.inl rfl)) _).setCell (p := ⟨r.b, 0, none⟩) (.inr (.inl rfl)) _)
  · rintro k (rfl | hk) (hk' | hk')
    · exact hne hk'
    · exact az.notIn ar hk'
    · subst hk'; exact ar.notIn az hk
    · exact (h1 k hk).2 hk'

/-- between the words' stores and the signs' -/
def QRMid (z r x y : Rg) (w wx : World) : Prop :=
  ∃ a2 n2 c2 a3 n3 c3, wx.cell? ⟨z.b, 1, none⟩ = some (.slice a2 n2 c2) ∧ wx.cell? ⟨r.b, 1, none⟩ = some (.slice a3 n3 c3) ∧ wx.cell? ⟨z.b, 0, none⟩ = some (.bool z.s) ∧ wx.cell? ⟨r.b, 0, none⟩ = some (.bool r.s) ∧ wx.cell? ⟨x.b, 0, none⟩ = some (.bool false) ∧ wx.cell? ⟨y.b, 0, none⟩ = some (.bool false) ∧
    wx.frozen? ⟨z.b, 0, none⟩ = false ∧ wx.frozen? ⟨r.b, 0, none⟩ = false ∧ n2 ≤ c2 ∧ c2 ≤ maxLen ∧ n3 ≤ c3 ∧ c3 ≤ maxLen ∧ 0 < n2 ∧
    QR z r ⟨z.b, false, a2, n2, c2, x.N / y.N⟩ ⟨r.b, false, a3, n3, c3, x.N % y.N⟩ w ((wx.setCell ⟨z.b, 0, none⟩ (.bool false)).setCell ⟨r.b, 0, none⟩ (.bool false))

theorem qr_mid {z r x y : Rg} {w w0 w1 : World} (hz : RA w z) (hr : RA w r) (hx : RA w x) (hy : RA w y) (xs : x.s = false) (ys : y.s = false) (hzr : z.b ≠ r.b) (hxz : x.b ≠ z.b) (hxr : x.b ≠ r.b) (hyz : y.b ≠ z.b) (hyr : y.b ≠ r.b) (hb : Below w.heap.size w w0) (hU : Upd (fun k => InB z.a k ∨ InB r.a k) w0 w1) {a a' : Option Addr} {n c n' c' : Nat}
    (hQ : BigN 151 w1 a n c (x.N / y.N)) (hR : BigN 151 w1 a' n' c' (x.N % y.N)) (h1 : ∀ k, InB a k → (InB z.a k ∨ w0.heap.size ≤ k) ∧ ¬ InB a' k) (h2 : ∀ k, InB a' k → InB r.a k ∨ w0.heap.size ≤ k) (hq0 : 0 < x.N / y.N) :
    QRMid z r x y w ((w1.setCell ⟨z.b, 1, none⟩ (.slice a n c)).setCell ⟨r.b, 1, none⟩ (.slice a' n' c')) := by
  have hcl : ∀ (u : Rg) (i : Nat) (v : Value), RA w u → w.cell? ⟨u.b, i, none⟩ = some v → w1.cell? ⟨u.b, i, none⟩ = some v := fun u i v hu hv => by
    rw [hU.cell (p := ⟨u.b, i, none⟩) (Nat.lt_of_lt_of_le hu.blk.lt hb.size) (fun h => by rcases h with h | h; exact hu.notIn hz h; exact hu.notIn hr h)]
    exact cell_keep hv hb
  have fz : ∀ (u : Rg), RA w u → w1.frozen? ⟨u.b, 0, none⟩ = false := fun u hu => ((hu.blk.keep hb).upd hU (fun h => by rcases h with h | h; exact hu.notIn hz h; exact hu.notIn hr h)).frozen 0
  have k1 := hcl z 1 _ hz hz.c1
  have l1 := hcl r 1 _ hr hr.c1
  have kz0 := hcl z 0 _ hz hz.c0
  have kr0 := hcl r 0 _ hr hr.c0
  have kx0 := hcl x 0 _ hx (xs ▸ hx.c0)
  have ky0 := hcl y 0 _ hy (ys ▸ hy.c0)
  have eb : ∀ (i j : Nat) (v : Value) (w : World), (w.setCell ⟨z.b, i, none⟩ v).cell? ⟨r.b, j, none⟩ = w.cell? ⟨r.b, j, none⟩ := fun i j v w => World.cell?_setCell_other _ _ _ _ (fun hh => by injection hh with hh _ _; exact hzr hh)
  have eb' : ∀ (i j : Nat) (v : Value) (w : World), (w.setCell ⟨r.b, i, none⟩ v).cell? ⟨z.b, j, none⟩ = w.cell? ⟨z.b, j, none⟩ := fun i j v w => World.cell?_setCell_other _ _ _ _ (fun hh => by injection hh with hh _ _; exact hzr hh.symm)
  have ei : ∀ (b i j : Nat) (v : Value) (w : World), i ≠ j → (w.setCell ⟨b, i, none⟩ v).cell? ⟨b, j, none⟩ = w.cell? ⟨b, j, none⟩ := fun b i j v w h => World.cell?_setCell_other _ _ _ _ (fun hh => by injection hh with _ hh _; exact h hh)
  refine ⟨a, n, c, a', n', c', ?_, ?_, ?_, ?_, ?_, ?_, ?_, ?_, hQ.num.nc, hQ.num.cm, hR.num.nc, hR.num.cm, ?_, qr_done hz hr hzr hb hU hQ hR h1 h2⟩
  · rw [eb']; exact World.cell?_setCell_same _ _ _ k1
  · refine World.cell?_setCell_same _ _ _ (u := .slice r.a r.n r.c) ?_
    rw [eb]; exact l1
  · rw [eb', ei _ _ _ _ _ (by decide)]; exact kz0
  · rw [ei _ _ _ _ _ (by decide), eb]; exact kr0
  · rw [World.cell?_setCell_other _ _ _ _ (fun hh => by injection hh with hh _ _; exact hxr hh.symm), World.cell?_setCell_other _ _ _ _ (fun hh => by injection hh with hh _ _; exact hxz hh.symm)]; exact kx0
  · rw [World.cell?_setCell_other _ _ _ _ (fun hh => by injection hh with hh _ _; exact hyr hh.symm), World.cell?_setCell_other _ _ _ _ (fun hh => by injection hh with hh _ _; exact hyz hh.symm)]; exact ky0
  · rw [World.frozen?_setCell, World.frozen?_setCell]; exact fz z hz
  · rw [World.frozen?_setCell, World.frozen?_setCell]; exact fz r hr
  · have := natAt_pos_len hQ.num; simpa [hq0] using this

set_option maxRecDepth 100000 in
set_option maxHeartbeats 16000000 in
theorem intQuoRem_reg (z x y r : Rg) (w : World) (hK : ThrD w) (hz : RA w z) (hx : RA w x) (hy : RA w y) (hr : RA w r) (hzr : z.Off r) (hxz : x.Off z) (hxr : x.Off r) (hyz : y.Off z) (hyr : y.Off r) (xs : x.s = false) (ys : y.s = false) (hy0 : 0 < y.N) (hle : y.N ≤ x.N) (hn1 : x.n ≤ 900) (hn40 : y.n < 40)
    (hv : ¬ z.S 3 ∧ ¬ r.S 3) :
    Calls Tryz.prog 265 #[.pointer (some ⟨z.b, 0, none⟩), .pointer (some ⟨x.b, 0, none⟩), .pointer (some ⟨y.b, 0, none⟩), .pointer (some ⟨r.b, 0, none⟩)] w fun e w' => e = .returned (.tuple #[.pointer (some ⟨z.b, 0, none⟩), .pointer (some ⟨r.b, 0, none⟩)]) ∧ ∃ z' r', QR z r z' r' w w' ∧ z'.s = false ∧ r'.s = false ∧ z'.N = x.N / y.N ∧ r'.N = x.N % y.N := by
  have HZ := Lib.hid hz
  have HX := Lib.hid hx
  have HY := Lib.hid hy
  have HR := Lib.hid hr
  have hnzr := hzr.ne
  have hnrz : r.b ≠ z.b := fun e => hnzr e.symm
  have hnzx : z.b ≠ x.b := fun e => hxz.ne e.symm
  have hnzy : z.b ≠ y.b := fun e => hyz.ne e.symm
  have hnrx : r.b ≠ x.b := fun e => hxr.ne e.symm
  have hnry : r.b ≠ y.b := fun e => hyr.ne e.symm
  have HD := Lib.hid (show ∀ w', Below w.heap.size w w' → Calls Tryz.prog 134 #[.slice z.a z.n z.c, .pointer none, .slice r.a r.n r.c, .slice x.a x.n x.c, .slice y.a y.n y.c] w' (GivesDI z.a r.a (x.N / y.N) (x.N % y.N) w') from fun w' hb =>
    natDiv_into z.a r.a z.n z.c z.N r.n r.c r.N x.a y.a x.n y.n x.c y.c x.N y.N w' (hK.keep hb) (hz.keep hb).num (hr.keep hb).num (hx.keep hb).num (hy.keep hb).num hy0 hn1 hn40 hle
      (fun k hk => ⟨fun h => hzr k (.inr h) (.inr hk), fun h => hxr k (.inr h) (.inr hk), fun h => hyr k (.inr h) (.inr hk)⟩) (fun k hk h => hxz k (.inr hk) (.inr h)) ⟨fun h => hv.1 (.inr h), fun h => hv.2 (.inr h)⟩)
  have p1 := hz.c1
  have q1 := hr.c1
  have x1 := hx.c1
  have y1 := hy.c1
  have NI := Lib.hid (show (∀ u : Rg, RA w u → ¬ (InB z.a u.b ∨ InB r.a u.b)) from fun u hu h => by rcases h with h | h; exact hu.notIn hz h; exact hu.notIn hr h)
  have HMD := Lib.hid (fun (w0 w1 : World) (a a' : Option Addr) (n c n' c' : Nat) hb hU hQ hR h1 h2 => qr_mid (w0 := w0) (w1 := w1) (a := a) (n := n) (c := c) (a' := a') (n' := n') (c' := c') hz hr hx hy xs ys hzr.ne hxz.ne hxr.ne hyz.ne hyr.ne hb hU hQ hR h1 h2 (Nat.div_pos hle hy0))
  clear hz hx hy hr hzr hxz hxr hyz hyr xs ys hK hv hle hnrz hnzx hnzy hnrx hnry
  have hd1 : Below w.heap.size w w.drew := (Below.refl _ _).drew
  go_enter Tryz.func265, Tryz.ntmps265
  go_upto_region 1 with fail
  go_cut [] from 10 to 35 (fun wx => QRMid z r x y w wx)
  case first =>
    go_region_with
      ((go_at_call 134; (with_reducible refine (HD.out _ hd1).mono ?_); rintro e w1 ⟨a2, n2, c2, a3, n3, c3, rfl, hN2, hN3, hU, hP2, hP3⟩; have HF := Lib.hid (HMD.out _ w1 a2 a3 n2 c2 n3 c3 hd1 hU hN2 hN3 hP2 hP3); have hcl : ∀ (u : Rg) (i : Nat) (v : Value), RA w u → w.cell? ⟨u.b, i, none⟩ = some v → w1.cell? ⟨u.b, i, none⟩ = some v := (fun u i v hu hv => by rw [hU.cell (p := ⟨u.b, i, none⟩) (Nat.lt_of_lt_of_le hu.blk.lt hd1.size) (NI.out _ hu)]; exact cell_keep hv hd1); have sz := (HZ.out.blk.keep hd1).upd hU (NI.out _ HZ.out); have sr := (HR.out.blk.keep hd1).upd hU (NI.out _ HR.out); have k1 := hcl z 1 _ HZ.out HZ.out.c1; have l1 := hcl r 1 _ HR.out HR.out.c1; have f1 := sz.frozen 1; have g1 := sr.frozen 1; have l1' : ∀ v, (w1.setCell ⟨z.b, 1, none⟩ v).cell? ⟨r.b, 1, none⟩ = some (.slice r.a r.n r.c) := (fun v => by rw [World.cell?_setCell_other _ _ _ _ (fun hh => by injection hh with hh _ _; exact hnzr hh)]; exact l1); clear hN2 hN3 hU hP2 hP3 hcl sz sr))
    all_goals
      go_wp2_with fail
      go_meet
      exact HF.out
  case rest =>
    obtain ⟨a2, n2, c2, a3, n3, c3, cz1, cr1, cz0, cr0, cx0, cy0, fz0, fr0, m1, m2, m3, m4, m5, hF⟩ := hcut
    have HF := Lib.hid hF
    have cr0' : ∀ v, (wc.setCell ⟨z.b, 0, none⟩ v).cell? ⟨r.b, 0, none⟩ = some (.bool r.s) := fun v => by rw [World.cell?_setCell_other _ _ _ _ (fun hh => by injection hh with hh _ _; exact hnzr hh)]; exact cr0
    unfold maxLen at m2 m4
    have hdd : decide (0 < n2) = true := by simpa using m5
    clear hF p1 q1 x1 y1
    by_cases hr3 : 0 < n3
    · have hde : decide (0 < n3) = true := by simpa using hr3
      go_upto_region 2 with fail
      go_region
      all_goals
        go_wp2
        refine bodyPost_ret (v := .tuple #[.pointer (some ⟨z.b, 0, none⟩), .pointer (some ⟨r.b, 0, none⟩)]) (by simp [results, Tryz.results265, go_sem]) rfl ⟨rfl, _, _, HF.out.keep ((Below.refl _ _).drew), rfl, rfl, rfl, rfl⟩
    · have hde : decide (0 < n3) = false := by simpa using hr3
      go_upto_region 2 with fail
      go_region
      all_goals
        go_wp2
        refine bodyPost_ret (v := .tuple #[.pointer (some ⟨z.b, 0, none⟩), .pointer (some ⟨r.b, 0, none⟩)]) (by simp [results, Tryz.results265, go_sem]) rfl ⟨rfl, _, _, HF.out.keep ((Below.refl _ _).drew), rfl, rfl, rfl, rfl⟩
end Go.Proofs.YtdkipndepkblhaaGreatDoor

set_option linter.unusedSimpArgs false
set_option linter.unusedVariables false
namespace Go.Proofs.YtdkipndepkblhaaGreatDoor
open Go.RowKit Go.Bg Dg

/-- four registers, apart from each other, in memory that was not there at w0 -/
structure Four (B : Nat) (w0 : World) (x y q r : Rg) (w : World) : Prop where
  ax : RA w x
  ay : RA w y
  aq : RA w q
  ar : RA w r
  xy : x.Off y
  xq : x.Off q
  xr : x.Off r
  yq : y.Off q
  yr : y.Off r
  qr : q.Off r
  own : ∀ k, x.S k ∨ y.S k ∨ q.S k ∨ r.S k → B ≤ k
  bel : Below B w0 w
  siz : B ≤ w.heap.size

theorem Four.keep {B : Nat} {w0 : World} {x y q r : Rg} {w w' : World} (h : Four B w0 x y q r w) (hb : Below w.heap.size w w') : Four B w0 x y q r w' :=
  ⟨h.ax.keep hb, h.ay.keep hb, h.aq.keep hb, h.ar.keep hb, h.xy, h.xq, h.xr, h.yq, h.yr, h.qr, h.own, h.bel.trans (hb.mono h.siz), Nat.le_trans h.siz hb.size⟩
theorem Four.setX {B : Nat} {w0 : World} {x x' y q r : Rg} {w w' : World} (h : Four B w0 x y q r w) (t : RTo x x' w w') : Four B w0 x' y q r w' :=
  ⟨t.at', h.ay.other t h.xy.symm, h.aq.other t h.xq.symm, h.ar.other t h.xr.symm, (h.xy.symm.to h.ay t).symm, (h.xq.symm.to h.aq t).symm, (h.xr.symm.to h.ar t).symm, h.yq, h.yr, h.qr,
    fun k hk => by
      rcases hk with hk | hk
      · rcases t.S k hk with h1 | h1
        · exact h.own k (.inl h1)
        · exact Nat.le_trans h.siz h1
      · exact h.own k (.inr hk),
    t.upd.below h.bel h.siz (fun k _ hk => h.own k (.inl hk)), Nat.le_trans h.siz t.upd.size⟩
/-- the same registers in another order -/
theorem Four.swapXY {B : Nat} {w0 : World} {x y q r : Rg} {w : World} (h : Four B w0 x y q r w) : Four B w0 y x q r w :=
  ⟨h.ay, h.ax, h.aq, h.ar, h.xy.symm, h.yq, h.yr, h.xq, h.xr, h.qr, fun k hk => h.own k (by rcases hk with h | h | h; exact .inr (.inl h); exact .inl h; exact .inr (.inr h)), h.bel, h.siz⟩
theorem Four.swapXQ {B : Nat} {w0 : World} {x y q r : Rg} {w : World} (h : Four B w0 x y q r w) : Four B w0 q y x r w :=
  ⟨h.aq, h.ay, h.ax, h.ar, h.yq.symm, h.xq.symm, h.qr, h.xy.symm, h.yr, h.xr, fun k hk => h.own k (by rcases hk with h | h | h | h; exact .inr (.inr (.inl h)); exact .inr (.inl h); exact .inl h; exact .inr (.inr (.inr h))), h.bel, h.siz⟩
theorem Four.swapXR {B : Nat} {w0 : World} {x y q r : Rg} {w : World} (h : Four B w0 x y q r w) : Four B w0 r y q x w :=
  ⟨h.ar, h.ay, h.aq, h.ax, h.yr.symm, h.qr.symm, h.xr.symm, h.yq, h.xy.symm, h.xq.symm, fun k hk => h.own k (by rcases hk with h | h | h | h; exact .inr (.inr (.inr h)); exact .inr (.inl h); exact .inr (.inr (.inl h)); exact .inl h), h.bel, h.siz⟩
theorem Four.setY {B : Nat} {w0 : World} {x y y' q r : Rg} {w w' : World} (h : Four B w0 x y q r w) (t : RTo y y' w w') : Four B w0 x y' q r w' := (h.swapXY.setX t).swapXY
theorem Four.setQ {B : Nat} {w0 : World} {x y q q' r : Rg} {w w' : World} (h : Four B w0 x y q r w) (t : RTo q q' w w') : Four B w0 x y q' r w' := (h.swapXQ.setX t).swapXQ
theorem Four.setR {B : Nat} {w0 : World} {x y q r r' : Rg} {w w' : World} (h : Four B w0 x y q r w) (t : RTo r r' w w') : Four B w0 x y q r' w' := (h.swapXR.setX t).swapXR

theorem rg_len {w : World} {x : Rg} {L : Nat} (h : RA w x) (hN : x.N < W64 ^ L) : x.n ≤ L := len_le W64_gt h.num.num.top hN
theorem word_up {N u L : Nat} (hN : N < W64 ^ L) (hu : u < W64) : N * u < W64 ^ (L + 1) := by
  rw [Nat.pow_succ]
  exact Nat.mul_lt_mul_of_lt_of_le hN (Nat.le_of_lt hu) W64_pos

theorem mulW_at (zb xb : Nat) (z x : Rg) (neg : Bool) (y : Nat) (w : World) (ez : z.b = zb) (ex : x.b = xb) (hz : RA w z) (hx : RA w x) (hy : y < W64) (hn : x.n ≤ 900000) :
    Calls Tryz.prog 232 #[.pointer (some ⟨zb, 0, none⟩), .pointer (some ⟨xb, 0, none⟩), .bool neg, .int .u64 y] w fun e w' => e = .returned (.tuple #[]) ∧ ∃ z', RTo z z' w w' ∧ z'.s = (x.s != neg) ∧ z'.N = x.N * y := by
  subst ez ex
  exact mulW_any z x neg y w hz hx hy hn
theorem intAdd_at (zb yb : Nat) (z y : Rg) (w : World) (ez : z.b = zb) (ey : y.b = yb) (hz : RA w z) (hy : RA w y) (ho : y.Off z) (hs : z.s ≠ y.s) (hy0 : 0 < y.N) (hn : z.n ≤ 900000) (hn' : y.n ≤ 900000) :
    Calls Tryz.prog 63 #[.pointer (some ⟨zb, 0, none⟩), .pointer (some ⟨zb, 0, none⟩), .pointer (some ⟨yb, 0, none⟩)] w fun e w' => e = .returned (.pointer (some ⟨zb, 0, none⟩)) ∧ ∃ z', RTo z z' w w' ∧ sg z'.s z'.N = sg z.s z.N + sg y.s y.N ∧ (z'.s = true → 0 < z'.N) := by
  subst ez ey
  exact intAdd_reg z y w hz hy ho hs hy0 hn hn'

theorem sg_lsg (e : Bool) (M : Nat) : sg e M = lsg e * (M : Int) := by cases e <;> simp [sg, lsg]
theorem sg_pos {s : Bool} {N P : Nat} (h : sg s N = (P : Int)) (hz : s = true → 0 < N) : s = false ∧ N = P := by
  cases s
  · simp only [sg, Bool.false_eq_true, if_false] at h; exact ⟨rfl, by omega⟩
  · have := hz rfl; simp only [sg, if_true] at h; omega
/-- what the two sums are -/
theorem upd_sums {even : Bool} {x y u0 u1 v0 v1 P Q : Nat} (hP : (P : Int) = lsg (!even) * (u0 * x - v0 * y)) (hQ : (Q : Int) = lsg (!even) * (v1 * y - u1 * x)) :
    sg (!even) (x * u0) + sg even (y * v0) = (P : Int) ∧ sg (!even) (y * v1) + sg even (x * u1) = (Q : Int) := by
  rw [hP, hQ, sg_lsg, sg_lsg, sg_lsg, sg_lsg]
  cases even <;> simp only [lsg, Bool.not_true, Bool.not_false, Bool.false_eq_true, if_true, if_false, Int.natCast_mul] <;> constructor <;> grind

/-- the registers behind one step: smaller numbers with the same greatest common divisor -/
def Lessened (B : Nat) (w0 : World) (x y q r : Rg) (w' : World) : Prop :=
  ∃ x' y' q' r', Four B w0 x' y' q' r' w' ∧ x'.b = x.b ∧ y'.b = y.b ∧ q'.b = q.b ∧ r'.b = r.b ∧ x'.s = false ∧ y'.s = false ∧ y'.N ≤ x'.N ∧ Nat.gcd x'.N y'.N = Nat.gcd x.N y.N ∧ x'.N + y'.N < x.N + y.N ∧ x'.N ≤ x.N ∧ y'.N ≤ y.N

set_option maxRecDepth 100000 in
set_option maxHeartbeats 2000000 in
theorem lehmerUpdate_any (B : Nat) (w0 : World) (x y q r : Rg) (u0 u1 v0 v1 : Nat) (even : Bool) (w : World) (F : Four B w0 x y q r w) (xs : x.s = false) (ys : y.s = false) (hS : SimRes x.N y.N u0 u1 v0 v1 even) (hv : 0 < v0) (hx0 : 0 < x.N) (hy0 : 0 < y.N) (L : Nat) (hL : L ≤ 800000) (hxL : x.N < W64 ^ L) (hyL : y.N < W64 ^ L) :
    Calls Tryz.prog 230 #[.pointer (some ⟨x.b, 0, none⟩), .pointer (some ⟨y.b, 0, none⟩), .pointer (some ⟨q.b, 0, none⟩), .pointer (some ⟨r.b, 0, none⟩), .int .u64 u0, .int .u64 u1, .int .u64 v0, .int .u64 v1, .bool even] w
      fun e w' => e = .returned (.tuple #[]) ∧ Lessened B w0 x y q r w' := by
  obtain ⟨bu0, bu1, bv0, bv1, hS⟩ := hS
  obtain ⟨hu1, P, Q, hP, hQ, hle, hg, hlt, hPx, hQy⟩ := hS hv
  have hs := upd_sums hP hQ
  have HB := Lib.hid (⟨bu0, bu1, bv0, bv1⟩ : u0 < W64 ∧ u1 < W64 ∧ v0 < W64 ∧ v1 < W64)
  have HS := Lib.hid hs
  have HF := Lib.hid F
  have HR := Lib.hid (⟨hle, hg, hlt, hPx, hQy⟩ : Q ≤ P ∧ Nat.gcd P Q = Nat.gcd x.N y.N ∧ P + Q < x.N + y.N ∧ P ≤ x.N ∧ Q ≤ y.N)
  have HL := Lib.hid (⟨hxL, hyL⟩ : x.N < W64 ^ L ∧ y.N < W64 ^ L)
  have HXY := Lib.hid (⟨xs, ys, hx0, hy0, hu1, hv⟩ : x.s = false ∧ y.s = false ∧ 0 < x.N ∧ 0 < y.N ∧ 0 < u1 ∧ 0 < v0)
  have hnx := Nat.le_trans (rg_len F.ax hxL) (show L ≤ 900000 by omega)
  have hny := Nat.le_trans (rg_len F.ay hyL) (show L ≤ 900000 by omega)
  clear bu0 bu1 bv0 bv1 hS hu1 hP hQ hle hg hlt hPx hQy hs F xs ys hx0 hy0 hxL hyL hv
  go_enter Tryz.func230, Tryz.ntmps230
  go_wp2_with fail
  refine (mulW_at q.b y.b q y even v0 _ rfl rfl HF.out.aq HF.out.ay HB.out.2.2.1 hny).mono ?_
  rintro e w1 ⟨rfl, q1, tq, sq, nq1⟩
  have F1 := HF.out.setQ tq
  have EQ := Lib.hid (⟨tq.b, by rw [sq, HXY.out.2.1]; cases even <;> rfl, nq1⟩ : q1.b = q.b ∧ q1.s = even ∧ q1.N = y.N * v0)
  clear tq sq nq1 HF
  have HF1 := Lib.hid F1
  clear F1
  go_wp2_with fail
  refine (mulW_at r.b x.b r x even u1 _ rfl rfl HF1.out.ar HF1.out.ax HB.out.2.1 hnx).mono ?_
  rintro e w2 ⟨rfl, r1, tr, sr, nr1⟩
  have F2 := HF1.out.setR tr
  have ER := Lib.hid (⟨tr.b, by rw [sr, HXY.out.1]; cases even <;> rfl, nr1⟩ : r1.b = r.b ∧ r1.s = even ∧ r1.N = x.N * u1)
  clear tr sr nr1 HF1
  have HF2 := Lib.hid F2
  clear F2
  go_wp2_with fail
  refine (mulW_at x.b x.b x x (!even) u0 _ rfl rfl HF2.out.ax HF2.out.ax HB.out.1 hnx).mono ?_
  rintro e w3 ⟨rfl, x1, tx, sx, nx1⟩
  have F3 := HF2.out.setX tx
  have EX := Lib.hid (⟨tx.b, by rw [sx, HXY.out.1]; cases even <;> rfl, nx1⟩ : x1.b = x.b ∧ x1.s = !even ∧ x1.N = x.N * u0)
  clear tx sx nx1 HF2
  have HF3 := Lib.hid F3
  clear F3
  go_wp2_with fail
  refine (mulW_at y.b y.b y y (!even) v1 _ rfl rfl HF3.out.ay HF3.out.ay HB.out.2.2.2 hny).mono ?_
  rintro e w4 ⟨rfl, y1, ty, sy, ny1⟩
  have F4 := HF3.out.setY ty
  have EY := Lib.hid (⟨ty.b, by rw [sy, HXY.out.2.1]; cases even <;> rfl, ny1⟩ : y1.b = y.b ∧ y1.s = !even ∧ y1.N = y.N * v1)
  clear ty sy ny1 HF3
  have HF4 := Lib.hid F4
  clear F4
  have m1 : x1.n ≤ 900000 := Nat.le_trans (rg_len (L := L + 1) HF4.out.ax (by rw [EX.out.2.2]; exact word_up HL.out.1 HB.out.1)) (by omega)
  have m2 : q1.n ≤ 900000 := Nat.le_trans (rg_len (L := L + 1) HF4.out.aq (by rw [EQ.out.2.2]; exact word_up HL.out.2 HB.out.2.2.1)) (by omega)
  have m3 : y1.n ≤ 900000 := Nat.le_trans (rg_len (L := L + 1) HF4.out.ay (by rw [EY.out.2.2]; exact word_up HL.out.2 HB.out.2.2.2)) (by omega)
  have m4 : r1.n ≤ 900000 := Nat.le_trans (rg_len (L := L + 1) HF4.out.ar (by rw [ER.out.2.2]; exact word_up HL.out.1 HB.out.2.1)) (by omega)
  go_wp2_with fail
  refine (intAdd_at x.b q.b x1 q1 _ EX.out.1 EQ.out.1 HF4.out.ax HF4.out.aq HF4.out.xq.symm (by rw [EX.out.2.1, EQ.out.2.1]; cases even <;> decide) (by rw [EQ.out.2.2]; exact Nat.mul_pos HXY.out.2.2.2.1 HXY.out.2.2.2.2.2) m1 m2).mono ?_
  rintro e w5 ⟨rfl, x2, tx, sx, zx⟩
  have F5 := HF4.out.setX tx
  rw [EX.out.2.1, EX.out.2.2, EQ.out.2.1, EQ.out.2.2, HS.out.1] at sx
  have EX2 := Lib.hid (⟨tx.b.trans EX.out.1, sg_pos sx zx⟩ : x2.b = x.b ∧ x2.s = false ∧ x2.N = P)
  clear tx sx zx HF4
  have HF5 := Lib.hid F5
  clear F5
  go_wp2_with fail
  refine (intAdd_at y.b r.b y1 r1 _ EY.out.1 ER.out.1 HF5.out.ay HF5.out.ar HF5.out.yr.symm (by rw [EY.out.2.1, ER.out.2.1]; cases even <;> decide) (by rw [ER.out.2.2]; exact Nat.mul_pos HXY.out.2.2.1 HXY.out.2.2.2.2.1) m3 m4).mono ?_
  rintro e w6 ⟨rfl, y2, ty, sy, zy⟩
  have F6 := HF5.out.setY ty
  rw [EY.out.2.1, EY.out.2.2, ER.out.2.1, ER.out.2.2, HS.out.2] at sy
  have EY2 := Lib.hid (⟨ty.b.trans EY.out.1, sg_pos sy zy⟩ : y2.b = y.b ∧ y2.s = false ∧ y2.N = Q)
  clear ty sy zy HF5
  have HF6 := Lib.hid F6
  clear F6
  go_wp2
  go_end0
  refine ⟨rfl, x2, y2, q1, r1, HF6.out, EX2.out.1, EY2.out.1, EQ.out.1, ER.out.1, EX2.out.2.1, EY2.out.2.1, ?_, ?_, ?_, ?_, ?_⟩
  · rw [EX2.out.2.2, EY2.out.2.2]; exact HR.out.1
  · rw [EX2.out.2.2, EY2.out.2.2]; exact HR.out.2.1
  · rw [EX2.out.2.2, EY2.out.2.2]; exact HR.out.2.2.1
  · rw [EX2.out.2.2]; exact HR.out.2.2.2.1
  · rw [EY2.out.2.2]; exact HR.out.2.2.2.2

theorem Four.qr' {B : Nat} {w0 : World} {x y q r q' r' : Rg} {w w' : World} (h : Four B w0 x y q r w) (k : QR q r q' r' w w') : Four B w0 x y q' r' w' := by
  have hx : RA w' x := h.ax.apart k.upd (fun j h1 h2 => by rcases h2 with h2 | h2; exact h.xq j h1 h2; exact h.xr j h1 h2)
  have hy : RA w' y := h.ay.apart k.upd (fun j h1 h2 => by rcases h2 with h2 | h2; exact h.yq j h1 h2; exact h.yr j h1 h2)
  have sq : ∀ j, q'.S j → q.S j ∨ w.heap.size ≤ j := by
    rintro j (rfl | hj)
    · rw [k.bz]; exact .inl (.inl rfl)
    · exact (k.rz j hj).imp .inr id
  have sr : ∀ j, r'.S j → r.S j ∨ w.heap.size ≤ j := by
    rintro j (rfl | hj)
    · rw [k.br]; exact .inl (.inl rfl)
    · exact (k.rr j hj).imp .inr id
  refine ⟨hx, hy, k.az, k.ar, h.xy, ?_, ?_, ?_, ?_, k.off, ?_, k.upd.below h.bel h.siz (fun j _ hj => by rcases hj with hj | hj; exact h.own j (.inr (.inr (.inl hj))); exact h.own j (.inr (.inr (.inr hj)))), Nat.le_trans h.siz k.upd.size⟩
  · intro j h1 h2
    rcases sq j h2 with h3 | h3
    · exact h.xq j h1 h3
    · have := h.ax.lt j h1; omega
  · intro j h1 h2
    rcases sr j h2 with h3 | h3
    · exact h.xr j h1 h3
    · have := h.ax.lt j h1; omega
  · intro j h1 h2
    rcases sq j h2 with h3 | h3
    · exact h.yq j h1 h3
    · have := h.ay.lt j h1; omega
  · intro j h1 h2
    rcases sr j h2 with h3 | h3
    · exact h.yr j h1 h3
    · have := h.ay.lt j h1; omega
  · intro j hj
    rcases hj with hj | hj | hj | hj
    · exact h.own j (.inl hj)
    · exact h.own j (.inr (.inl hj))
    · rcases sq j hj with h3 | h3
      · exact h.own j (.inr (.inr (.inl h3)))
      · exact Nat.le_trans h.siz h3
    · rcases sr j hj with h3 | h3
      · exact h.own j (.inr (.inr (.inr h3)))
      · exact Nat.le_trans h.siz h3

/-- B, r, A behind a step of Euclid's -/
def Euclid (B : Nat) (w0 : World) (x y q r : Rg) (w' : World) : Prop :=
  ∃ q' r', Four B w0 y r' q' x w' ∧ q'.b = q.b ∧ r'.b = r.b ∧ r'.s = false ∧ r'.N = x.N % y.N

set_option maxRecDepth 100000 in
set_option maxHeartbeats 1000000 in
theorem euclidUpdate_any (B : Nat) (w0 : World) (x y q r : Rg) (w : World) (hK : ThrD w) (hB : 3 < B) (F : Four B w0 x y q r w) (xs : x.s = false) (ys : y.s = false) (hy0 : 0 < y.N) (hle : y.N ≤ x.N) (L : Nat) (hL : L < 40) (hxL : x.N < W64 ^ L) :
    Calls Tryz.prog 231 #[.pointer (some ⟨x.b, 0, none⟩), .pointer (some ⟨y.b, 0, none⟩), .pointer none, .pointer none, .pointer (some ⟨q.b, 0, none⟩), .pointer (some ⟨r.b, 0, none⟩), .bool false] w
      fun e w' => e = .returned (.tuple #[.pointer (some ⟨y.b, 0, none⟩), .pointer (some ⟨r.b, 0, none⟩), .pointer (some ⟨x.b, 0, none⟩), .pointer none, .pointer none]) ∧ Euclid B w0 x y q r w' := by
  have hyL : y.N < W64 ^ L := Nat.lt_of_le_of_lt hle hxL
  have HQ := Lib.hid (intQuoRem_reg q x y r w hK F.aq F.ax F.ay F.ar F.qr F.xq F.xr F.yq F.yr xs ys hy0 hle (Nat.le_trans (rg_len F.ax hxL) (by omega)) (Nat.lt_of_le_of_lt (rg_len F.ay hyL) hL)
    ⟨fun h => by have := F.own _ (.inr (.inr (.inl h))); omega, fun h => by have := F.own _ (.inr (.inr (.inr h))); omega⟩)
  have HF := Lib.hid F
  clear F hK xs ys hy0 hle hxL hyL hB
  go_enter Tryz.func231, Tryz.ntmps231
  go_wp2_with fail
  refine HQ.out.mono ?_
  rintro e w1 ⟨rfl, q', r', hQR, hqs, hrs, hqN, hrN⟩
  have F1 := HF.out.qr' hQR
  have HE := Lib.hid (show Euclid B w0 x y q r w1 from ⟨q', r', F1.swapXR.swapXY, hQR.bz, hQR.br, hrs, hrN⟩)
  clear F1 hQR hqs hrs hqN hrN
  go_wp2
  exact bodyPost_ret (v := .tuple #[.pointer (some ⟨y.b, 0, none⟩), .pointer (some ⟨r.b, 0, none⟩), .pointer (some ⟨x.b, 0, none⟩), .pointer none, .pointer none]) (by simp [results, Tryz.results231, go_sem]) rfl ⟨rfl, HE.out⟩
end Go.Proofs.YtdkipndepkblhaaGreatDoor

set_option linter.unusedSimpArgs false
set_option linter.unusedVariables false
namespace Go.Proofs.YtdkipndepkblhaaGreatDoor
open Go.RowKit Go.Bg Dg

theorem intOwn_below {d p : Nat} {s : Bool} {R : Nat} {w W w' : World} {e : Ending} (hb : Below w.heap.size w W) (h : IntOwn d p s R W e w') : IntOwn d p s R w e w' := by
  obtain ⟨h1, h2, g, n, c, h3, h4⟩ := h
  exact ⟨h1, (Upd.of_below hb).trans h2, g, n, c, h3, Nat.le_trans hb.size h4⟩
theorem rg_at {w : World} {x : Rg} (h : RA w x) (hs : x.s = false) : BigAt 151 w x.b 0 false x.N := hs ▸ h.big (fun h' => by rw [hs] at h'; cases h')
theorem rg_form {w : World} {x : Rg} (h : RA w x) (hn : 0 < x.n) : ∃ g, x.a = some ⟨g, 0, none⟩ := by
  rcases h.num.buf with ⟨h1, h2⟩ | ⟨g, cur, h1, _⟩
  · have := h.num.num.nc; omega
  · exact ⟨g, h1⟩
theorem rg_pos {w : World} {x : Rg} (h : RA w x) (h0 : 0 < x.N) : 0 < x.n := by have := natAt_pos_len h.num.num; simpa [h0] using this
theorem rg_zero {w : World} {x : Rg} (h : RA w x) (h0 : x.n = 0) : x.N = 0 := by have := h.num.num.lt; rw [h0] at this; simpa using this
theorem rg_some {w : World} {x : Rg} (h : RA w x) (h0 : 0 < x.n) : 0 < x.N := by
  rcases h.num.num.top with h1 | h1
  · omega
  · exact Nat.lt_of_lt_of_le (Nat.pow_pos W64_pos) h1
theorem rg_word {w : World} {x : Rg} (h : RA w x) (h1 : x.n = 1) : x.N < 18446744073709551616 := by have := h.num.num.lt; rw [h1, Nat.pow_one] at this; exact this
theorem rg_cell {w : World} {x : Rg} {g : Nat} (h : RA w x) (h1 : x.n = 1) (ha : x.a = some ⟨g, 0, none⟩) : w.cell? ⟨g, 0, none⟩ = some (.int .u64 (x.N : Nat)) := by
  have h2 := h.num.num
  rw [ha] at h2
  have h3 := h2.cell (i := 0) (by omega)
  rw [Nat.add_zero] at h3
  rw [h3]
  unfold dg
  rw [Nat.pow_zero, Nat.div_one, Nat.mod_eq_of_lt (show x.N < W64 from rg_word h h1)]
/-- one word of one's own, stored anew -/
theorem rg_store {w : World} {x : Rg} {g G : Nat} (h : RA w x) (h1 : x.n = 1) (ha : x.a = some ⟨g, 0, none⟩) (hG0 : 0 < G) (hG : G < 18446744073709551616) :
    RTo x ⟨x.b, x.s, x.a, 1, x.c, G⟩ w (w.setCell ⟨g, 0, none⟩ (.int .u64 (G : Nat))) := by
  have hgb : x.b ≠ g := fun e => h.notIn h (by rw [ha, e]; exact inB_is _ _ _)
  have hc := h.num.num.nc
  have hcm := h.num.num.cm
  rcases h.num.buf with ⟨h2, h3⟩ | ⟨g', cur, h2, hb, hs⟩
  · rw [ha] at h2; cases h2
  · rw [ha] at h2
    injection h2 with h2
    injection h2 with h2 _ _
    subst h2
    have hset := hb.set 0 (.int .u64 (G : Nat))
    refine ⟨rfl, ⟨h.blk.upd (Upd.set1 w g 0 _) hgb, ?_, ?_, ?_⟩, (Upd.set1 w g 0 _).mono (fun k _ hk => .inr (by rw [hk, ha]; exact inB_is _ _ _)), fun k hk => .inl hk⟩
    · rw [cell?_setCell_ne hgb]; exact h.c0
    · rw [cell?_setCell_ne hgb]
      have hc1 := h.c1
      rw [h1] at hc1
      exact hc1
    · refine ⟨⟨by rw [Nat.pow_one]; exact hG, .inr (by simp; omega), by rw [← h1]; exact hc, hcm, fun _ => ⟨g, 0, ha, fun i hi => ?_⟩⟩, .inr ⟨g, _, ha, hset, by simpa using hs⟩⟩
      have hi1 : i < 1 := hi
      obtain rfl : i = 0 := by omega
      have e : dg W64 G 0 = G := by unfold dg; rw [Nat.pow_zero, Nat.div_one]; exact Nat.mod_eq_of_lt (show G < W64 from hG)
      rw [Nat.zero_add, hset.cell, Array.getElem?_setIfInBounds, if_pos rfl, if_pos (by omega)]
      show some (Value.int .u64 (G : Nat)) = some (Value.int .u64 (dg W64 G 0 : Nat))
      rw [e]
/-- the four registers at the start -/
theorem four_start {w W1 w2 W3 w4 W6 : World} {N M g1 n1 c1 g2 n2 c2 : Nat} (hW1 : W1 = w.alloc (.cells #[.bool false, .slice none 0 0] 143)) (hU2 : Upd (· = w.heap.size) W1 w2) (hA : RA w2 ⟨w.heap.size, false, some ⟨g1, 0, none⟩, n1, c1, N⟩) (hg1 : W1.heap.size ≤ g1)
    (hW3 : W3 = w2.alloc (.cells #[.bool false, .slice none 0 0] 143)) (hU4 : Upd (· = w2.heap.size) W3 w4) (hB : RA w4 ⟨w2.heap.size, false, some ⟨g2, 0, none⟩, n2, c2, M⟩) (hg2 : W3.heap.size ≤ g2)
    (hW6 : W6 = (w4.alloc (.cells #[.bool false, .slice none 0 0] 143)).alloc (.cells #[.bool false, .slice none 0 0] 143)) :
    Four w.heap.size w ⟨w.heap.size, false, some ⟨g1, 0, none⟩, n1, c1, N⟩ ⟨w2.heap.size, false, some ⟨g2, 0, none⟩, n2, c2, M⟩ ⟨w4.heap.size, false, none, 0, 0, 0⟩ ⟨w4.heap.size + 1, false, none, 0, 0, 0⟩ W6 := by
  have s1 : W1.heap.size = w.heap.size + 1 := by rw [hW1]; simp
  have s3 : W3.heap.size = w2.heap.size + 1 := by rw [hW3]; simp
  have s6 : W6.heap.size = w4.heap.size + 1 + 1 := by rw [hW6]; simp
  have hs2 := hU2.size
  have hs4 := hU4.size
  have g1l : g1 < w2.heap.size := hA.num.inLt g1 (inB_is _ _ _)
  have g2l : g2 < w4.heap.size := hB.num.inLt g2 (inB_is _ _ _)
  have b3 : Below w2.heap.size w2 W3 := by rw [hW3]; exact Below.alloc' (Below.refl _ _) _
  have b6 : Below w4.heap.size w4 W6 := by rw [hW6]; exact Below.alloc' (Below.alloc' (Below.refl _ _) _) _
  have b1 : Below w.heap.size w W1 := by rw [hW1]; exact Below.alloc' (Below.refl _ _) _
  have hA4 : RA w4 ⟨w.heap.size, false, some ⟨g1, 0, none⟩, n1, c1, N⟩ := (hA.keep b3).apart hU4 (by
    rintro k (rfl | hk) h
    · show False; have h : w.heap.size = w2.heap.size := h; omega
    · have := inB_some hk; have h : k = w2.heap.size := h; omega)
  have hq : RA W6 ⟨w4.heap.size, false, none, 0, 0, 0⟩ := by
    have h := (newInt_is w4).keep (show Below (w4.alloc (.cells #[.bool false, .slice none 0 0] 143)).heap.size _ W6 from by rw [hW6]; exact Below.alloc' (Below.refl _ _) _)
    have hb := BlkAt.keep (BlkAt.new w4 #[.bool false, .slice none 0 0] 143) (show Below (w4.alloc (.cells #[.bool false, .slice none 0 0] 143)).heap.size _ W6 from by rw [hW6]; exact Below.alloc' (Below.refl _ _) _)
    exact ⟨h.blk, hb.cell 0, hb.cell 1, BigN.nil _ _⟩
  have hr : RA W6 ⟨w4.heap.size + 1, false, none, 0, 0, 0⟩ := by
    have hb : BlkAt W6 (w4.heap.size + 1) #[.bool false, .slice none 0 0] 143 := by
      rw [hW6]
      have := BlkAt.new (w4.alloc (.cells #[.bool false, .slice none 0 0] 143)) #[.bool false, .slice none 0 0] 143
      simpa using this
    exact ⟨⟨_, _, hb, by decide⟩, hb.cell 0, hb.cell 1, BigN.nil _ _⟩
  have bel : Below w.heap.size w W6 := by
    have h2 := hU2.below b1 (by omega) (fun k _ e => by subst e; exact Nat.le_refl _)
    have h3 := h2.trans (b3.mono (by omega))
    have h4 := hU4.below h3 (by omega) (fun k _ e => by subst e; omega)
    exact h4.trans (b6.mono (by omega))
  refine ⟨hA4.keep b6, hB.keep b6, hq, hr, ?_, ?_, ?_, ?_, ?_, ?_, ?_, bel, by omega⟩
  · rintro k (h1 | h1) (h2 | h2)
    · have h1 : k = w.heap.size := h1; have h2 : k = w2.heap.size := h2; omega
    · have h1 : k = w.heap.size := h1; have := inB_some h2; omega
    · have := inB_some h1; have h2 : k = w2.heap.size := h2; omega
    · have := inB_some h1; have := inB_some h2; omega
  · rintro k (h1 | h1) (h2 | h2)
    · have h1 : k = w.heap.size := h1; have h2 : k = w4.heap.size := h2; omega
    · exact inB_none h2
    · have := inB_some h1; have h2 : k = w4.heap.size := h2; omega
    · exact inB_none h2
  · rintro k (h1 | h1) (h2 | h2)
    · have h1 : k = w.heap.size := h1; have h2 : k = w4.heap.size + 1 := h2; omega
    · exact inB_none h2
    · have := inB_some h1; have h2 : k = w4.heap.size + 1 := h2; omega
    · exact inB_none h2
  · rintro k (h1 | h1) (h2 | h2)
    · have h1 : k = w2.heap.size := h1; have h2 : k = w4.heap.size := h2; omega
    · exact inB_none h2
    · have := inB_some h1; have h2 : k = w4.heap.size := h2; omega
    · exact inB_none h2
  · rintro k (h1 | h1) (h2 | h2)
    · have h1 : k = w2.heap.size := h1; have h2 : k = w4.heap.size + 1 := h2; omega
    · exact inB_none h2
    · have := inB_some h1; have h2 : k = w4.heap.size + 1 := h2; omega
    · exact inB_none h2
  · rintro k (h1 | h1) (h2 | h2)
    · have h1 : k = w4.heap.size := h1; have h2 : k = w4.heap.size + 1 := h2; omega
    · exact inB_none h2
    · exact (inB_none h1).elim
    · exact inB_none h2
  · rintro k ((h1 | h1) | (h1 | h1) | (h1 | h1) | (h1 | h1))
    · have h1 : k = w.heap.size := h1; omega
    · have := inB_some h1; omega
    · have h1 : k = w2.heap.size := h1; omega
    · have := inB_some h1; omega
    · have h1 : k = w4.heap.size := h1; omega
    · exact (inB_none h1).elim
    · have h1 : k = w4.heap.size + 1 := h1; omega
    · exact (inB_none h1).elim
end Go.Proofs.YtdkipndepkblhaaGreatDoor
