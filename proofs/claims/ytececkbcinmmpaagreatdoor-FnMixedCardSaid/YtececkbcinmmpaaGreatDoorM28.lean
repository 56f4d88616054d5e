/-
  Contracts and lemmas: LehQ LehP SimP.
-/
import Derived.BigRegion
import Derived.Deep.CutRange
import Derived.Test.YtececkbcinmmpaaGreatDoorM26
import Derived.Test.YtececkbcinmmpaaGreatDoorM27
import Derived.Test.YtececkbcinmmpaaGreatDoorM00
import Derived.Test.YtececkbcinmmpaaGreatDoorM15
import Derived.Test.YtececkbcinmmpaaGreatDoorM16
import Derived.Test.YtececkbcinmmpaaGreatDoorM18
set_option linter.unusedSimpArgs false
set_option linter.unusedVariables false
set_option maxRecDepth 100000
set_option maxHeartbeats 8000000
namespace Go.Proofs.YtececkbcinmmpaaGreatDoor
open Go.RowKit Go.Bg Dg
theorem intSet_own (b b1 o1 : Nat) (s : Bool) (N : Nat) (w : World) (h : NewInt w b 0) (h1 : BigAt 139 w b1 o1 s N) (hne : b ≠ b1) (h0 : 0 < N) (L : Nat) (hL : L ≤ 1000000) (hN : N < W64 ^ L) :
    Calls Tryz.prog 182 #[.pointer (some ⟨b, 0, none⟩), .pointer (some ⟨b1, o1, none⟩)] w (IntOwn b 0 s N w) := by
  obtain ⟨j, hj, hj2⟩ := Option.map_eq_some_iff.1 infoBigIntSize
  obtain ⟨cur1, e1, k1, _⟩ := h.blk
  obtain ⟨cur2, e2, k2, _⟩ := h1.blk
  have hq := run_neq_ptr_other (P := Tryz.prog) (a := ⟨b, 0, none⟩) (b := ⟨b1, o1, none⟩) w Tryz.underlying94 hj (by rw [hj2]; decide) (by intro h; injection h with h h' _; omega) k1 k2
  obtain ⟨a, n, c, p0, p1, hNN⟩ := h1.val
  have hn : n ≤ 1000000 := Nat.le_trans (len_le W64_gt hNN.num.top hN) hL
  have hn0 : 0 < n := by have := natAt_pos_len hNN.num; simpa [h0] using this
  have HH := Lib.hid h
  have HN := Lib.hid hNN
  have q1 := h.c1
  clear h h1 hNN hN k1 k2 hj2
  have hd0 : Below w.heap.size w w.drew := (Below.refl _ _).drew
  go_enter Tryz.func182, Tryz.ntmps182
  go_upto_region 2 with fail
  go_region_with
    ((go_at_call 152; (with_reducible refine (natSet_into none 0 0 0 a n c N _ (BigN.nil _ _) ?_ hn0 hn (fun k _ h => inB_none h)).mono ?_); exact (HN.out.keep hd0).num; rintro e w1 ⟨a2, n2, c2, rfl, hN2, hU2, hP2⟩; have hB := hU2.toBelow (fun k _ h => inB_none h); have hB1 := Below.then hd0 (Nat.le_refl _) hB; have HF := Lib.hid (HH.out.madeO hB1 hN2 (fun k hk => (hP2 k hk).imp id (Nat.le_trans hd0.size)) h0 (s := s)); have h' := HH.out.keep hB1; obtain ⟨u0, k0⟩ := h'.c0; have k1 := h'.c1; have f0 := h'.blk.frozen 0; have f1 := h'.blk.frozen 1; have p0' : w1.cell? ⟨b1, o1, none⟩ = some (.bool s) := cell_keep p0 hB1; have p0'' : ∀ v, (w1.setCell ⟨b, 1, none⟩ v).cell? ⟨b1, o1, none⟩ = some (.bool s) := (fun v => by
      rw [World.cell?_setCell_other _ _ _ _ (fun hh => by injection hh with hb _ _; exact hne hb)]
      exact p0'); have k0' : ∀ v, (w1.setCell ⟨b, 1, none⟩ v).cell? ⟨b, 0, none⟩ = some u0 := (fun v => by rw [World.cell?_setCell_other _ _ _ _ (fun hh => by injection hh with _ hh _; omega)]; exact k0); clear h' p0' hN2 hU2 hP2 hB hB1))
  all_goals
    clear p0 p1 q1
    go_wp2
    go_ret
    exact HF.out
theorem intAbs_own (b b1 o1 : Nat) (s : Bool) (N : Nat) (w : World) (h : NewInt w b 0) (h1 : BigAt 139 w b1 o1 s N) (hne : b ≠ b1) (h0 : 0 < N) (L : Nat) (hL : L ≤ 1000000) (hN : N < W64 ^ L) :
    Calls Tryz.prog 244 #[.pointer (some ⟨b, 0, none⟩), .pointer (some ⟨b1, o1, none⟩)] w fun e w' => e = .returned (.pointer (some ⟨b, 0, none⟩)) ∧ Upd (· = b) w w' ∧ ∃ g n c, RA w' ⟨b, false, some ⟨g, 0, none⟩, n, c, N⟩ ∧ w.heap.size ≤ g := by
  have HS := Lib.hid (intSet_own b b1 o1 s N w h h1 hne h0 L hL hN)
  clear h h1
  go_enter Tryz.func244, Tryz.ntmps244
  go_wp2_with fail
  refine HS.out.mono ?_
  rintro e w1 ⟨rfl, hU, g, n, c, hO, hg⟩
  have f0 := hO.blk.frozen 0
  have c0 := hO.c0
  have HR := Lib.hid (show RA (w1.setCell ⟨b, 0, none⟩ (.bool false)) ⟨b, false, some ⟨g, 0, none⟩, n, c, N⟩ from
    ⟨hO.blk.set _ _, World.cell?_setCell_same _ _ _ hO.c0, by rw [World.cell?_setCell_other _ _ _ _ (fun hh => by injection hh with _ hh _; omega)]; exact hO.c1, hO.num.set hO.blk _ _⟩)
  have HU := Lib.hid (hU.trans (Upd.set1 w1 b 0 (.bool false)))
  have HG := Lib.hid hg
  clear hO hU hg
  go_wp2
  go_ret
  exact ⟨rfl, HU.out, g, n, c, HR.out, HG.out⟩
structure QR (z r z' r' : Rg) (w w' : World) : Prop where
  bz : z'.b = z.b
  br : r'.b = r.b
  az : RA w' z'
  ar : RA w' r'
  upd : Upd (fun k => z.S k ∨ r.S k) w w'
  rz : ∀ k, InB z'.a k → InB z.a k ∨ w.heap.size ≤ k
  rr : ∀ k, InB r'.a k → InB r.a k ∨ w.heap.size ≤ k
  off : z'.Off r'
theorem QR.keep {z r z' r' : Rg} {w w' w'' : World} (h : QR z r z' r' w w') (hb : Below w'.heap.size w' w'') : QR z r z' r' w w'' :=
  ⟨h.bz, h.br, h.az.keep hb, h.ar.keep hb, h.upd.then hb, h.rz, h.rr, h.off⟩
theorem qr_done {z r : Rg} {w w0 w1 : World} (hz : RA w z) (hr : RA w r) (hne : z.b ≠ r.b) (hb : Below w.heap.size w w0) (hU : Upd (fun k => InB z.a k ∨ InB r.a k) w0 w1) {a a' : Option Addr} {n c n' c' Q R : Nat}
    (hQ : BigN 139 w1 a n c Q) (hR : BigN 139 w1 a' n' c' R) (h1 : ∀ k, InB a k → (InB z.a k ∨ w0.heap.size ≤ k) ∧ ¬ InB a' k) (h2 : ∀ k, InB a' k → InB r.a k ∨ w0.heap.size ≤ k) :
    QR z r ⟨z.b, false, a, n, c, Q⟩ ⟨r.b, false, a', n', c', R⟩ w ((((w1.setCell ⟨z.b, 1, none⟩ (.slice a n c)).setCell ⟨r.b, 1, none⟩ (.slice a' n' c')).setCell ⟨z.b, 0, none⟩ (.bool false)).setCell ⟨r.b, 0, none⟩ (.bool false)) := by
  have hz0 := hz.keep hb
  have hr0 := hr.keep hb
  have nz : ¬ (InB z.a z.b ∨ InB r.a z.b) := by rintro (h | h); exact hz0.notIn hz0 h; exact hz0.notIn hr0 h
  have nr : ¬ (InB z.a r.b ∨ InB r.a r.b) := by rintro (h | h); exact hr0.notIn hz0 h; exact hr0.notIn hr0 h
  have sz := hz0.blk.upd hU nz
  have sr := hr0.blk.upd hU nr
  have z0 : w1.cell? ⟨z.b, 0, none⟩ = some (.bool z.s) := by rw [hU.cell (p := ⟨z.b, 0, none⟩) hz0.blk.lt nz]; exact hz0.c0
  have z1 : w1.cell? ⟨z.b, 1, none⟩ = some (.slice z.a z.n z.c) := by rw [hU.cell (p := ⟨z.b, 1, none⟩) hz0.blk.lt nz]; exact hz0.c1
  have r0 : w1.cell? ⟨r.b, 0, none⟩ = some (.bool r.s) := by rw [hU.cell (p := ⟨r.b, 0, none⟩) hr0.blk.lt nr]; exact hr0.c0
  have r1 : w1.cell? ⟨r.b, 1, none⟩ = some (.slice r.a r.n r.c) := by rw [hU.cell (p := ⟨r.b, 1, none⟩) hr0.blk.lt nr]; exact hr0.c1
  have eb : ∀ (i j : Nat) (v : Value) (w : World), (w.setCell ⟨z.b, i, none⟩ v).cell? ⟨r.b, j, none⟩ = w.cell? ⟨r.b, j, none⟩ := fun i j v w => World.cell?_setCell_other _ _ _ _ (fun hh => by injection hh with hh _ _; exact hne hh)
  have eb' : ∀ (i j : Nat) (v : Value) (w : World), (w.setCell ⟨r.b, i, none⟩ v).cell? ⟨z.b, j, none⟩ = w.cell? ⟨z.b, j, none⟩ := fun i j v w => World.cell?_setCell_other _ _ _ _ (fun hh => by injection hh with hh _ _; exact hne hh.symm)
  have ei : ∀ (b i j : Nat) (v : Value) (w : World), i ≠ j → (w.setCell ⟨b, i, none⟩ v).cell? ⟨b, j, none⟩ = w.cell? ⟨b, j, none⟩ := fun b i j v w h => World.cell?_setCell_other _ _ _ _ (fun hh => by injection hh with _ hh _; exact h hh)
  have az : RA ((((w1.setCell ⟨z.b, 1, none⟩ (.slice a n c)).setCell ⟨r.b, 1, none⟩ (.slice a' n' c')).setCell ⟨z.b, 0, none⟩ (.bool false)).setCell ⟨r.b, 0, none⟩ (.bool false)) ⟨z.b, false, a, n, c, Q⟩ := by
    refine ⟨(((sz.set _ _).set _ _).set _ _).set _ _, ?_, ?_, (((hQ.set sz _ _).set (sr.set _ _) _ _).set ((sz.set _ _).set _ _) _ _).set (((sr.set _ _).set _ _).set _ _) _ _⟩
    · rw [eb']
      refine World.cell?_setCell_same _ _ _ (u := .bool z.s) ?_
      rw [eb', ei _ _ _ _ _ (by decide)]; exact z0
    · rw [eb', ei _ _ _ _ _ (by decide), eb']
      exact World.cell?_setCell_same _ _ _ z1
  have ar : RA ((((w1.setCell ⟨z.b, 1, none⟩ (.slice a n c)).setCell ⟨r.b, 1, none⟩ (.slice a' n' c')).setCell ⟨z.b, 0, none⟩ (.bool false)).setCell ⟨r.b, 0, none⟩ (.bool false)) ⟨r.b, false, a', n', c', R⟩ := by
    refine ⟨(((sr.set _ _).set _ _).set _ _).set _ _, ?_, ?_, (((hR.set sz _ _).set (sr.set _ _) _ _).set ((sz.set _ _).set _ _) _ _).set (((sr.set _ _).set _ _).set _ _) _ _⟩
    · refine World.cell?_setCell_same _ _ _ (u := .bool r.s) ?_
      rw [eb, ei _ _ _ _ _ (by decide), eb]; exact r0
    · rw [ei _ _ _ _ _ (by decide), eb]
      refine World.cell?_setCell_same _ _ _ (u := .slice r.a r.n r.c) ?_
      rw [eb]; exact r1
  refine ⟨rfl, rfl, az, ar, ?_, fun k hk => (h1 k hk).1.imp id (Nat.le_trans hb.size), fun k hk => (h2 k hk).imp id (Nat.le_trans hb.size), ?_⟩
  · exact ((((((Upd.of_below hb).trans (hU.mono (fun k _ hk => hk.imp .inr .inr))).setCell (p := ⟨z.b, 1, none⟩) (.inl (.inl rfl)) _).setCell (p := ⟨r.b, 1, none⟩) (.inr (.inl rfl)) _).setCell (p := ⟨z.b, 0, none⟩) (.inl (.inl rfl)) _).setCell (p := ⟨r.b, 0, none⟩) (.inr (.inl rfl)) _)
  · rintro k (rfl | hk) (hk' | hk')
    · exact hne hk'
    · exact az.notIn ar hk'
    · subst hk'; exact ar.notIn az hk
    · exact (h1 k hk).2 hk'
def QRMid (z r x y : Rg) (w wx : World) : Prop :=
  ∃ a2 n2 c2 a3 n3 c3, wx.cell? ⟨z.b, 1, none⟩ = some (.slice a2 n2 c2) ∧ wx.cell? ⟨r.b, 1, none⟩ = some (.slice a3 n3 c3) ∧ wx.cell? ⟨z.b, 0, none⟩ = some (.bool z.s) ∧ wx.cell? ⟨r.b, 0, none⟩ = some (.bool r.s) ∧ wx.cell? ⟨x.b, 0, none⟩ = some (.bool false) ∧ wx.cell? ⟨y.b, 0, none⟩ = some (.bool false) ∧
    wx.frozen? ⟨z.b, 0, none⟩ = false ∧ wx.frozen? ⟨r.b, 0, none⟩ = false ∧ n2 ≤ c2 ∧ c2 ≤ maxLen ∧ n3 ≤ c3 ∧ c3 ≤ maxLen ∧ 0 < n2 ∧
    QR z r ⟨z.b, false, a2, n2, c2, x.N / y.N⟩ ⟨r.b, false, a3, n3, c3, x.N % y.N⟩ w ((wx.setCell ⟨z.b, 0, none⟩ (.bool false)).setCell ⟨r.b, 0, none⟩ (.bool false))
theorem qr_mid {z r x y : Rg} {w w0 w1 : World} (hz : RA w z) (hr : RA w r) (hx : RA w x) (hy : RA w y) (xs : x.s = false) (ys : y.s = false) (hzr : z.b ≠ r.b) (hxz : x.b ≠ z.b) (hxr : x.b ≠ r.b) (hyz : y.b ≠ z.b) (hyr : y.b ≠ r.b) (hb : Below w.heap.size w w0) (hU : Upd (fun k => InB z.a k ∨ InB r.a k) w0 w1) {a a' : Option Addr} {n c n' c' : Nat}
    (hQ : BigN 139 w1 a n c (x.N / y.N)) (hR : BigN 139 w1 a' n' c' (x.N % y.N)) (h1 : ∀ k, InB a k → (InB z.a k ∨ w0.heap.size ≤ k) ∧ ¬ InB a' k) (h2 : ∀ k, InB a' k → InB r.a k ∨ w0.heap.size ≤ k) (hq0 : 0 < x.N / y.N) :
    QRMid z r x y w ((w1.setCell ⟨z.b, 1, none⟩ (.slice a n c)).setCell ⟨r.b, 1, none⟩ (.slice a' n' c')) := by
  have hcl : ∀ (u : Rg) (i : Nat) (v : Value), RA w u → w.cell? ⟨u.b, i, none⟩ = some v → w1.cell? ⟨u.b, i, none⟩ = some v := fun u i v hu hv => by
    rw [hU.cell (p := ⟨u.b, i, none⟩) (Nat.lt_of_lt_of_le hu.blk.lt hb.size) (fun h => by rcases h with h | h; exact hu.notIn hz h; exact hu.notIn hr h)]
    exact cell_keep hv hb
  have fz : ∀ (u : Rg), RA w u → w1.frozen? ⟨u.b, 0, none⟩ = false := fun u hu => ((hu.blk.keep hb).upd hU (fun h => by rcases h with h | h; exact hu.notIn hz h; exact hu.notIn hr h)).frozen 0
  have k1 := hcl z 1 _ hz hz.c1
  have l1 := hcl r 1 _ hr hr.c1
  have kz0 := hcl z 0 _ hz hz.c0
  have kr0 := hcl r 0 _ hr hr.c0
  have kx0 := hcl x 0 _ hx (xs ▸ hx.c0)
  have ky0 := hcl y 0 _ hy (ys ▸ hy.c0)
  have eb : ∀ (i j : Nat) (v : Value) (w : World), (w.setCell ⟨z.b, i, none⟩ v).cell? ⟨r.b, j, none⟩ = w.cell? ⟨r.b, j, none⟩ := fun i j v w => World.cell?_setCell_other _ _ _ _ (fun hh => by injection hh with hh _ _; exact hzr hh)
  have eb' : ∀ (i j : Nat) (v : Value) (w : World), (w.setCell ⟨r.b, i, none⟩ v).cell? ⟨z.b, j, none⟩ = w.cell? ⟨z.b, j, none⟩ := fun i j v w => World.cell?_setCell_other _ _ _ _ (fun hh => by injection hh with hh _ _; exact hzr hh.symm)
  have ei : ∀ (b i j : Nat) (v : Value) (w : World), i ≠ j → (w.setCell ⟨b, i, none⟩ v).cell? ⟨b, j, none⟩ = w.cell? ⟨b, j, none⟩ := fun b i j v w h => World.cell?_setCell_other _ _ _ _ (fun hh => by injection hh with _ hh _; exact h hh)
  refine ⟨a, n, c, a', n', c', ?_, ?_, ?_, ?_, ?_, ?_, ?_, ?_, hQ.num.nc, hQ.num.cm, hR.num.nc, hR.num.cm, ?_, qr_done hz hr hzr hb hU hQ hR h1 h2⟩
  · rw [eb']; exact World.cell?_setCell_same _ _ _ k1
  · refine World.cell?_setCell_same _ _ _ (u := .slice r.a r.n r.c) ?_
    rw [eb]; exact l1
  · rw [eb', ei _ _ _ _ _ (by decide)]; exact kz0
  · rw [ei _ _ _ _ _ (by decide), eb]; exact kr0
  · rw [World.cell?_setCell_other _ _ _ _ (fun hh => by injection hh with hh _ _; exact hxr hh.symm), World.cell?_setCell_other _ _ _ _ (fun hh => by injection hh with hh _ _; exact hxz hh.symm)]; exact kx0
  · rw [World.cell?_setCell_other _ _ _ _ (fun hh => by injection hh with hh _ _; exact hyr hh.symm), World.cell?_setCell_other _ _ _ _ (fun hh => by injection hh with hh _ _; exact hyz hh.symm)]; exact ky0
  · rw [World.frozen?_setCell, World.frozen?_setCell]; exact fz z hz
  · rw [World.frozen?_setCell, World.frozen?_setCell]; exact fz r hr
  · have := natAt_pos_len hQ.num; simpa [hq0] using this
theorem intQuoRem_reg (z x y r : Rg) (w : World) (hK : ThrD w) (hz : RA w z) (hx : RA w x) (hy : RA w y) (hr : RA w r) (hzr : z.Off r) (hxz : x.Off z) (hxr : x.Off r) (hyz : y.Off z) (hyr : y.Off r) (xs : x.s = false) (ys : y.s = false) (hy0 : 0 < y.N) (hle : y.N ≤ x.N) (hn1 : x.n ≤ 900) (hn40 : y.n < 40)
    (hv : ¬ z.S 3 ∧ ¬ r.S 3) :
    Calls Tryz.prog 281 #[.pointer (some ⟨z.b, 0, none⟩), .pointer (some ⟨x.b, 0, none⟩), .pointer (some ⟨y.b, 0, none⟩), .pointer (some ⟨r.b, 0, none⟩)] w fun e w' => e = .returned (.tuple #[.pointer (some ⟨z.b, 0, none⟩), .pointer (some ⟨r.b, 0, none⟩)]) ∧ ∃ z' r', QR z r z' r' w w' ∧ z'.s = false ∧ r'.s = false ∧ z'.N = x.N / y.N ∧ r'.N = x.N % y.N := by
  have HZ := Lib.hid hz
  have HX := Lib.hid hx
  have HY := Lib.hid hy
  have HR := Lib.hid hr
  have hnzr := hzr.ne
  have hnrz : r.b ≠ z.b := fun e => hnzr e.symm
  have hnzx : z.b ≠ x.b := fun e => hxz.ne e.symm
  have hnzy : z.b ≠ y.b := fun e => hyz.ne e.symm
  have hnrx : r.b ≠ x.b := fun e => hxr.ne e.symm
  have hnry : r.b ≠ y.b := fun e => hyr.ne e.symm
  have HD := Lib.hid (show ∀ w', Below w.heap.size w w' → Calls Tryz.prog 154 #[.slice z.a z.n z.c, .pointer none, .slice r.a r.n r.c, .slice x.a x.n x.c, .slice y.a y.n y.c] w' (GivesDI z.a r.a (x.N / y.N) (x.N % y.N) w') from fun w' hb =>
    natDiv_into z.a r.a z.n z.c z.N r.n r.c r.N x.a y.a x.n y.n x.c y.c x.N y.N w' (hK.keep hb) (hz.keep hb).num (hr.keep hb).num (hx.keep hb).num (hy.keep hb).num hy0 hn1 hn40 hle
      (fun k hk => ⟨fun h => hzr k (.inr h) (.inr hk), fun h => hxr k (.inr h) (.inr hk), fun h => hyr k (.inr h) (.inr hk)⟩) (fun k hk h => hxz k (.inr hk) (.inr h)) ⟨fun h => hv.1 (.inr h), fun h => hv.2 (.inr h)⟩)
  have p1 := hz.c1
  have q1 := hr.c1
  have x1 := hx.c1
  have y1 := hy.c1
  have NI := Lib.hid (show (∀ u : Rg, RA w u → ¬ (InB z.a u.b ∨ InB r.a u.b)) from fun u hu h => by rcases h with h | h; exact hu.notIn hz h; exact hu.notIn hr h)
  have HMD := Lib.hid (fun (w0 w1 : World) (a a' : Option Addr) (n c n' c' : Nat) hb hU hQ hR h1 h2 => qr_mid (w0 := w0) (w1 := w1) (a := a) (n := n) (c := c) (a' := a') (n' := n') (c' := c') hz hr hx hy xs ys hzr.ne hxz.ne hxr.ne hyz.ne hyr.ne hb hU hQ hR h1 h2 (Nat.div_pos hle hy0))
  clear hz hx hy hr hzr hxz hxr hyz hyr xs ys hK hv hle hnrz hnzx hnzy hnrx hnry
  have hd1 : Below w.heap.size w w.drew := (Below.refl _ _).drew
  go_enter Tryz.func281, Tryz.ntmps281
  go_upto_region 1 with fail
  go_cut [] from 10 to 35 (fun wx => QRMid z r x y w wx)
  case first =>
    go_region_with
      ((go_at_call 154; (with_reducible refine (HD.out _ hd1).mono ?_); rintro e w1 ⟨a2, n2, c2, a3, n3, c3, rfl, hN2, hN3, hU, hP2, hP3⟩; have HF := Lib.hid (HMD.out _ w1 a2 a3 n2 c2 n3 c3 hd1 hU hN2 hN3 hP2 hP3); have hcl : ∀ (u : Rg) (i : Nat) (v : Value), RA w u → w.cell? ⟨u.b, i, none⟩ = some v → w1.cell? ⟨u.b, i, none⟩ = some v := (fun u i v hu hv => by rw [hU.cell (p := ⟨u.b, i, none⟩) (Nat.lt_of_lt_of_le hu.blk.lt hd1.size) (NI.out _ hu)]; exact cell_keep hv hd1); have sz := (HZ.out.blk.keep hd1).upd hU (NI.out _ HZ.out); have sr := (HR.out.blk.keep hd1).upd hU (NI.out _ HR.out); have k1 := hcl z 1 _ HZ.out HZ.out.c1; have l1 := hcl r 1 _ HR.out HR.out.c1; have f1 := sz.frozen 1; have g1 := sr.frozen 1; have l1' : ∀ v, (w1.setCell ⟨z.b, 1, none⟩ v).cell? ⟨r.b, 1, none⟩ = some (.slice r.a r.n r.c) := (fun v => by rw [World.cell?_setCell_other _ _ _ _ (fun hh => by injection hh with hh _ _; exact hnzr hh)]; exact l1); clear hN2 hN3 hU hP2 hP3 hcl sz sr))
    all_goals
      go_wp2_with fail
      go_meet
      exact HF.out
  case rest =>
    obtain ⟨a2, n2, c2, a3, n3, c3, cz1, cr1, cz0, cr0, cx0, cy0, fz0, fr0, m1, m2, m3, m4, m5, hF⟩ := hcut
    have HF := Lib.hid hF
    have cr0' : ∀ v, (wc.setCell ⟨z.b, 0, none⟩ v).cell? ⟨r.b, 0, none⟩ = some (.bool r.s) := fun v => by rw [World.cell?_setCell_other _ _ _ _ (fun hh => by injection hh with hh _ _; exact hnzr hh)]; exact cr0
    unfold maxLen at m2 m4
    have hdd : decide (0 < n2) = true := by simpa using m5
    clear hF p1 q1 x1 y1
    by_cases hr3 : 0 < n3
    · have hde : decide (0 < n3) = true := by simpa using hr3
      go_upto_region 2 with fail
      go_region
      all_goals
        go_wp2
        refine bodyPost_ret (v := .tuple #[.pointer (some ⟨z.b, 0, none⟩), .pointer (some ⟨r.b, 0, none⟩)]) (by simp [results, Tryz.results281, go_sem]) rfl ⟨rfl, _, _, HF.out.keep ((Below.refl _ _).drew), rfl, rfl, rfl, rfl⟩
    · have hde : decide (0 < n3) = false := by simpa using hr3
      go_upto_region 2 with fail
      go_region
      all_goals
        go_wp2
        refine bodyPost_ret (v := .tuple #[.pointer (some ⟨z.b, 0, none⟩), .pointer (some ⟨r.b, 0, none⟩)]) (by simp [results, Tryz.results281, go_sem]) rfl ⟨rfl, _, _, HF.out.keep ((Below.refl _ _).drew), rfl, rfl, rfl, rfl⟩
end Go.Proofs.YtececkbcinmmpaaGreatDoor
namespace Go.Bg
open Dg
structure Lh (X Y a1 a2 u1 u2 v1 v2 : Nat) (even : Bool) : Prop where
  det : if even then u2 * v1 = u1 * v2 + 1 else u1 * v2 = u2 * v1 + 1
  ex : a1 * v2 + a2 * v1 = X
  ey : a1 * u2 + a2 * u1 = Y
  le : a2 ≤ a1
  uv : u2 ≤ v2
  st : u1 ≤ v1 ∨ (u1 = 1 ∧ v1 = 0 ∧ u2 = 0 ∧ v2 = 1)
  pos : 1 ≤ v2
theorem Lh.start {X Y : Nat} (h : Y ≤ X) : Lh X Y X Y 1 0 0 1 false := ⟨by simp, by simp, by simp, h, by omega, .inr ⟨rfl, rfl, rfl, rfl⟩, Nat.le_refl _⟩
theorem Lh.step {X Y a1 a2 u1 u2 v1 v2 : Nat} {even : Bool} (l : Lh X Y a1 a2 u1 u2 v1 v2 even) (h2 : 0 < a2) :
    Lh X Y a2 (a1 % a2) u2 (u1 + a1 / a2 * u2) v2 (v1 + a1 / a2 * v2) (!even) := by
  have hq : 1 ≤ a1 / a2 := Nat.div_pos l.le h2
  have hd := Nat.div_add_mod a1 a2
  have hr := Nat.mod_lt a1 h2
  generalize a1 / a2 = q at *
  generalize a1 % a2 = r at *
  obtain ⟨det, ex, ey, le, uv, st, pos⟩ := l
  refine ⟨?_, ?_, ?_, Nat.le_of_lt hr, ?_, .inl uv, ?_⟩
  · cases even
    · simp only [Bool.not_false, if_true, Bool.false_eq_true, if_false] at det ⊢
      grind
    · simp only [Bool.not_true, if_true, Bool.false_eq_true, if_false] at det ⊢
      grind
  · subst hd; rw [← ex]; grind
  · subst hd; rw [← ey]; grind
  · rcases st with h | ⟨h1, h2, h3, h4⟩
    · exact Nat.add_le_add h (Nat.mul_le_mul_left _ uv)
    · subst h1 h2 h3 h4; omega
  · have : 1 * 1 ≤ q * v2 := Nat.mul_le_mul hq pos
    omega
theorem Lh.v2_le {X Y a1 a2 u1 u2 v1 v2 : Nat} {even : Bool} (l : Lh X Y a1 a2 u1 u2 v1 v2 even) (h : 0 < a1) : v2 ≤ X := by
  have h1 : 1 * v2 ≤ a1 * v2 := Nat.mul_le_mul_right _ h
  have := l.ex
  omega
theorem Lh.v12_le {X Y a1 a2 u1 u2 v1 v2 : Nat} {even : Bool} (l : Lh X Y a1 a2 u1 u2 v1 v2 even) (h : 0 < a2) : v1 + v2 ≤ X := by
  have h1 : 1 * v2 ≤ a1 * v2 := Nat.mul_le_mul_right _ (Nat.lt_of_lt_of_le h l.le)
  have h2 : 1 * v1 ≤ a2 * v1 := Nat.mul_le_mul_right _ h
  have := l.ex
  omega
def lsg (even : Bool) : Int := if even then -1 else 1
theorem Lh.take {X Y a1 a2 u1 u2 v1 v2 : Nat} {even : Bool} (l : Lh X Y a1 a2 u1 u2 v1 v2 even) {A B T x y : Nat} (hA : A = X * T + x) (hB : B = Y * T + y) (hx : x < T) (hy : y < T) (c1 : v2 ≤ a2) (c2 : v1 + v2 ≤ a1 - a2) (hu : u1 ≤ v1) :
    ∃ P Q : Nat, (P : Int) = lsg even * (u1 * A - v1 * B) ∧ (Q : Int) = lsg even * (v2 * B - u2 * A) ∧ Q ≤ P ∧ A = v2 * P + v1 * Q ∧ B = u2 * P + u1 * Q := by
  obtain ⟨det, ex, ey, le, uv, st, pos⟩ := l
  have m1 : v2 * T ≤ a2 * T := Nat.mul_le_mul_right _ c1
  have m2 : (v1 + v2) * T ≤ (a1 - a2) * T := Nat.mul_le_mul_right _ c2
  have m2' : (a1 - a2) * T = a1 * T - a2 * T := Nat.sub_mul _ _ _
  have m2'' : a2 * T ≤ a1 * T := Nat.mul_le_mul_right _ le
  have m3 : u2 * x ≤ v2 * T := Nat.mul_le_mul uv (Nat.le_of_lt hx)
  have m4 : v2 * y ≤ v2 * T := Nat.mul_le_mul_left _ (Nat.le_of_lt hy)
  have m5 : v1 * y ≤ v1 * T := Nat.mul_le_mul_left _ (Nat.le_of_lt hy)
  have m6 : u1 * x ≤ v1 * T := Nat.mul_le_mul hu (Nat.le_of_lt hx)
  rw [Nat.add_mul, m2'] at m2
  cases even
  · simp only [Bool.false_eq_true, if_false] at det
    have hP : v1 * y ≤ a1 * T + u1 * x := by omega
    have hQ : u2 * x ≤ a2 * T + v2 * y := by omega
    obtain ⟨P, eP⟩ : ∃ P, P + v1 * y = a1 * T + u1 * x := ⟨a1 * T + u1 * x - v1 * y, by omega⟩
    obtain ⟨Q, eQ⟩ : ∃ Q, Q + u2 * x = a2 * T + v2 * y := ⟨a2 * T + v2 * y - u2 * x, by omega⟩
    have hle : Q ≤ P := by omega
    clear m1 m2 m2' m2'' m3 m4 m5 m6 hP hQ c1 c2 hx hy le uv st pos hu
    have eA : A = v2 * P + v1 * Q := by subst hA ex; grind
    have eB : B = u2 * P + u1 * Q := by subst hB ey; grind
    refine ⟨P, Q, ?_, ?_, hle, eA, eB⟩
    · simp only [lsg, Bool.false_eq_true, if_false]
      have e1 : (A : Int) = v2 * P + v1 * Q := by exact_mod_cast eA
      have e2 : (B : Int) = u2 * P + u1 * Q := by exact_mod_cast eB
      have e3 : (u1 : Int) * v2 = u2 * v1 + 1 := by exact_mod_cast det
      rw [e1, e2]; grind
    · simp only [lsg, Bool.false_eq_true, if_false]
      have e1 : (A : Int) = v2 * P + v1 * Q := by exact_mod_cast eA
      have e2 : (B : Int) = u2 * P + u1 * Q := by exact_mod_cast eB
      have e3 : (u1 : Int) * v2 = u2 * v1 + 1 := by exact_mod_cast det
      rw [e1, e2]; grind
  · simp only [if_true] at det
    have hP : u1 * x ≤ a1 * T + v1 * y := by omega
    have hQ : v2 * y ≤ a2 * T + u2 * x := by omega
    obtain ⟨P, eP⟩ : ∃ P, P + u1 * x = a1 * T + v1 * y := ⟨a1 * T + v1 * y - u1 * x, by omega⟩
    obtain ⟨Q, eQ⟩ : ∃ Q, Q + v2 * y = a2 * T + u2 * x := ⟨a2 * T + u2 * x - v2 * y, by omega⟩
    have m7 : u2 * x ≤ v2 * T := m3
    have hle : Q ≤ P := by omega
    clear m1 m2 m2' m2'' m3 m4 m5 m6 m7 hP hQ c1 c2 hx hy le uv st pos hu
    have eA : A = v2 * P + v1 * Q := by subst hA ex; grind
    have eB : B = u2 * P + u1 * Q := by subst hB ey; grind
    refine ⟨P, Q, ?_, ?_, hle, eA, eB⟩
    · simp only [lsg, if_true]
      have e1 : (A : Int) = v2 * P + v1 * Q := by exact_mod_cast eA
      have e2 : (B : Int) = u2 * P + u1 * Q := by exact_mod_cast eB
      have e3 : (u2 : Int) * v1 = u1 * v2 + 1 := by exact_mod_cast det
      rw [e1, e2]; grind
    · simp only [lsg, if_true]
      have e1 : (A : Int) = v2 * P + v1 * Q := by exact_mod_cast eA
      have e2 : (B : Int) = u2 * P + u1 * Q := by exact_mod_cast eB
      have e3 : (u2 : Int) * v1 = u1 * v2 + 1 := by exact_mod_cast det
      rw [e1, e2]; grind
theorem lh_gcd {A B P Q u1 u2 v1 v2 : Nat} {even : Bool} (hP : (P : Int) = lsg even * (u1 * A - v1 * B)) (hQ : (Q : Int) = lsg even * (v2 * B - u2 * A)) (hA : A = v2 * P + v1 * Q) (hB : B = u2 * P + u1 * Q) : Nat.gcd P Q = Nat.gcd A B := by
  apply Nat.dvd_antisymm
  · refine Nat.dvd_gcd ?_ ?_
    · rw [hA]; exact Nat.dvd_add (Nat.dvd_trans (Nat.gcd_dvd_left _ _) (Nat.dvd_mul_left _ _)) (Nat.dvd_trans (Nat.gcd_dvd_right _ _) (Nat.dvd_mul_left _ _))
    · rw [hB]; exact Nat.dvd_add (Nat.dvd_trans (Nat.gcd_dvd_left _ _) (Nat.dvd_mul_left _ _)) (Nat.dvd_trans (Nat.gcd_dvd_right _ _) (Nat.dvd_mul_left _ _))
  · have dA : ((Nat.gcd A B : Nat) : Int) ∣ (A : Int) := Int.natCast_dvd_natCast.2 (Nat.gcd_dvd_left _ _)
    have dB : ((Nat.gcd A B : Nat) : Int) ∣ (B : Int) := Int.natCast_dvd_natCast.2 (Nat.gcd_dvd_right _ _)
    refine Nat.dvd_gcd ?_ ?_
    · refine Int.natCast_dvd_natCast.1 ?_
      rw [hP]
      exact Int.dvd_mul_of_dvd_right (Int.dvd_sub (Int.dvd_mul_of_dvd_right dA) (Int.dvd_mul_of_dvd_right dB))
    · refine Int.natCast_dvd_natCast.1 ?_
      rw [hQ]
      exact Int.dvd_mul_of_dvd_right (Int.dvd_sub (Int.dvd_mul_of_dvd_right dB) (Int.dvd_mul_of_dvd_right dA))
theorem lh_less {A B P Q u1 u2 v1 v2 : Nat} (hA : A = v2 * P + v1 * Q) (h1 : 1 ≤ v1) (h2 : 1 ≤ v2) (hB : 0 < B) : P + Q < A + B := by
  have m1 : 1 * P ≤ v2 * P := Nat.mul_le_mul_right _ h2
  have m2 : 1 * Q ≤ v1 * Q := Nat.mul_le_mul_right _ h1
  omega
end Go.Bg
namespace Go.Bg
open Go.RowKit Dg
theorem sim_top {A p s t : Nat} (hst : s + t = 64) (hA : A < W64 ^ (p + 2)) (h : dg W64 A (p + 1) * 2 ^ s < W64) :
    (dg W64 A (p + 1) * 2 ^ s % W64) ||| (dg W64 A p / 2 ^ t) = A / (W64 ^ p * 2 ^ t) ∧ A / (W64 ^ p * 2 ^ t) < W64 := by
  have hh := half hst (A / W64 ^ p)
  have e1 : A / W64 ^ p / W64 = dg W64 A (p + 1) := by
    have hl : A / W64 ^ (p + 1) < W64 := (Nat.div_lt_iff_lt_mul (Nat.pow_pos W64_pos)).2 (by rw [Nat.mul_comm, ← Nat.pow_succ]; exact hA)
    rw [Nat.div_div_eq_div_mul, ← Nat.pow_succ]
    unfold dg
    rw [Nat.mod_eq_of_lt hl]
  have hl : dg W64 A (p + 1) < W64 := dg_lt W64_pos _ _
  have e2 : A / W64 ^ p % W64 = dg W64 A p := rfl
  have hlt : A / (W64 ^ p * 2 ^ t) < W64 := by
    refine (Nat.div_lt_iff_lt_mul (Nat.mul_pos (Nat.pow_pos W64_pos) (Nat.pow_pos (by decide)))).2 ?_
    have d1 := Nat.div_add_mod (A / W64 ^ p) W64
    rw [e1] at d1
    have d2 := Nat.div_add_mod A (W64 ^ p)
    have d3 := Nat.mod_lt (A / W64 ^ p) W64_pos
    have d4 := Nat.mod_lt A (Nat.pow_pos (n := p) W64_pos)
    have d5 : dg W64 A (p + 1) + 1 ≤ 2 ^ t := by
      have : dg W64 A (p + 1) < 2 ^ t := by
        have e : W64 = 2 ^ t * 2 ^ s := by rw [← Nat.pow_add, show t + s = 64 from by omega, W64_eq]
        have h' : dg W64 A (p + 1) * 2 ^ s < 2 ^ t * 2 ^ s := by rw [← e]; exact h
        exact Nat.lt_of_mul_lt_mul_right h'
      omega
    generalize dg W64 A (p + 1) = d at *
    have d6 : A / W64 ^ p < W64 * (d + 1) := by rw [Nat.mul_add, Nat.mul_one]; omega
    have d7 : A < W64 ^ p * (W64 * (d + 1)) := by
      have : W64 ^ p * (A / W64 ^ p + 1) ≤ W64 ^ p * (W64 * (d + 1)) := Nat.mul_le_mul_left _ d6
      rw [Nat.mul_add, Nat.mul_one] at this
      omega
    refine Nat.lt_of_lt_of_le d7 ?_
    rw [Nat.mul_comm W64 (W64 ^ p * 2 ^ t), Nat.mul_assoc, Nat.mul_comm W64 (d + 1)]
    exact Nat.mul_le_mul_left _ (Nat.mul_le_mul_right _ d5)
  refine ⟨?_, hlt⟩
  rw [e1, e2, Nat.mod_eq_of_lt hl, Nat.div_div_eq_div_mul, Nat.mod_eq_of_lt hlt] at hh
  exact hh.symm
theorem sim_one {B p t : Nat} (hB : B < W64 ^ (p + 1)) : dg W64 B p / 2 ^ t = B / (W64 ^ p * 2 ^ t) := by
  rw [← Nat.div_div_eq_div_mul]
  unfold dg
  rw [Nat.mod_eq_of_lt ((Nat.div_lt_iff_lt_mul (Nat.pow_pos W64_pos)).2 (by rw [Nat.mul_comm, ← Nat.pow_succ]; exact hB))]
theorem sim_none {B p m t : Nat} (hB : B < W64 ^ m) (hm : m ≤ p) : B / (W64 ^ p * 2 ^ t) = 0 := by
  refine Nat.div_eq_of_lt (Nat.lt_of_lt_of_le hB (Nat.le_trans (Nat.pow_le_pow_right W64_pos hm) ?_))
  exact Nat.le_mul_of_pos_right _ (Nat.pow_pos (by decide))
def SimRes (A B u0 u1 v0 v1 : Nat) (even : Bool) : Prop :=
  u0 < W64 ∧ u1 < W64 ∧ v0 < W64 ∧ v1 < W64 ∧ (0 < v0 → 0 < u1 ∧ ∃ P Q : Nat, (P : Int) = lsg (!even) * (u0 * A - v0 * B) ∧ (Q : Int) = lsg (!even) * (v1 * B - u1 * A) ∧ Q ≤ P ∧ Nat.gcd P Q = Nat.gcd A B ∧ P + Q < A + B ∧ P ≤ A ∧ Q ≤ B)
structure SimAt (X Y a1 a2 u0 u1 u2 v0 v1 v2 : Nat) (even : Bool) : Prop where
  st : Lh X Y a1 a2 u1 u2 v1 v2 even
  bx : X < W64
  lt : u0 < W64 ∧ u1 < W64 ∧ u2 < W64 ∧ v0 < W64 ∧ v1 < W64 ∧ v2 < W64 ∧ a1 < W64
  nz : (u1 = 1 ∧ v1 = 0) ∨ 0 < u2
  old : v0 = 0 ∨ (u0 ≤ v0 ∧ 0 < u1 ∧ ∃ b1 b2, Lh X Y b1 b2 u0 u1 v0 v1 (!even) ∧ v1 ≤ b2 ∧ v0 + v1 ≤ b1 - b2)
theorem SimAt.start {X Y : Nat} (hX : X < W64) (h : Y ≤ X) : SimAt X Y X Y 0 1 0 0 0 1 false :=
  ⟨Lh.start h, hX, by unfold W64 at *; omega, .inl ⟨rfl, rfl⟩, .inl rfl⟩
theorem SimAt.room {X Y a1 a2 u0 u1 u2 v0 v1 v2 : Nat} {even : Bool} (h : SimAt X Y a1 a2 u0 u1 u2 v0 v1 v2 even) (c : v2 ≤ a2) : 0 < a2 ∧ a2 ≤ a1 ∧ v1 + v2 < W64 := by
  have hp := h.st.pos
  have h2 : 0 < a2 := by omega
  have := h.st.v12_le h2
  have := h.bx
  exact ⟨h2, h.st.le, by omega⟩
theorem SimAt.step {X Y a1 a2 u0 u1 u2 v0 v1 v2 : Nat} {even : Bool} (h : SimAt X Y a1 a2 u0 u1 u2 v0 v1 v2 even) (c : v2 ≤ a2) (c2 : v1 + v2 ≤ a1 - a2) :
    SimAt X Y a2 (a1 % a2) u1 u2 (u1 + a1 / a2 * u2) v1 v2 (v1 + a1 / a2 * v2) (!even) ∧ u1 + a1 / a2 * u2 < W64 ∧ v1 + a1 / a2 * v2 < W64 := by
  obtain ⟨h2, hle, -⟩ := h.room c
  have hs := h.st.step h2
  have hv := hs.v2_le h2
  have hb := h.bx
  have huv := hs.uv
  have hu : u1 + a1 / a2 * u2 < W64 := by omega
  have hv' : v1 + a1 / a2 * v2 < W64 := by omega
  have hq : 1 ≤ a1 / a2 := Nat.div_pos hle h2
  obtain ⟨l0, l1, l2, l3, l4, l5, l6⟩ := h.lt
  refine ⟨⟨hs, hb, ⟨l1, l2, hu, l4, l5, hv', by omega⟩, .inr ?_, ?_⟩, hu, hv'⟩
  · rcases h.nz with ⟨h1, _⟩ | h1
    · omega
    · have : 1 * 1 ≤ a1 / a2 * u2 := Nat.mul_le_mul hq h1
      omega
  · rcases Nat.eq_zero_or_pos v1 with h0 | h0
    · exact .inl h0
    · refine .inr ⟨?_, ?_, a1, a2, by rw [Bool.not_not]; exact h.st, c, c2⟩
      · rcases h.st.st with hst | ⟨_, hz, _, _⟩
        · exact hst
        · omega
      · rcases h.nz with ⟨_, h1⟩ | h1
        · omega
        · exact h1
theorem SimAt.done {X Y a1 a2 u0 u1 u2 v0 v1 v2 : Nat} {even : Bool} (h : SimAt X Y a1 a2 u0 u1 u2 v0 v1 v2 even) {A B T : Nat} (hA : X = A / T) (hB : Y = B / T) (hT : 0 < T) (hB0 : 0 < B) : SimRes A B u0 u1 v0 v1 even := by
  obtain ⟨l0, l1, l2, l3, l4, l5, l6⟩ := h.lt
  refine ⟨l0, l1, l3, l4, fun hv => ?_⟩
  rcases h.old with h0 | ⟨h0, hu1, b1, b2, hl, c1, c2⟩
  · omega
  · have eA : A = X * T + A % T := by rw [hA, Nat.mul_comm]; exact (Nat.div_add_mod A T).symm
    have eB : B = Y * T + B % T := by rw [hB, Nat.mul_comm]; exact (Nat.div_add_mod B T).symm
    obtain ⟨P, Q, hP, hQ, hle, e1, e2⟩ := hl.take eA eB (Nat.mod_lt _ hT) (Nat.mod_lt _ hT) c1 c2 h0
    have hg := lh_gcd hP hQ e1 e2
    have hlt := lh_less (u1 := u0) (u2 := u1) e1 hv hl.pos hB0
    have m1 : 1 * P ≤ v1 * P := Nat.mul_le_mul_right _ hl.pos
    have m2 : 1 * P ≤ u1 * P := Nat.mul_le_mul_right _ hu1
    exact ⟨hu1, P, Q, hP, hQ, hle, hg, hlt, by omega, by omega⟩
end Go.Bg
