/-
  Contracts and lemmas: FrB RcmpB MatF MadF OpsW Bin0 BinAdd IntS BinSub OpsX RatT RatG BinMul BinFrac OpsF CmpR MadR BinRat.
-/
import Derived.Test.YtececkbcinmmpaaGreatDoorM34
import Derived.Test.YtececkbcinmmpaaGreatDoorM20
import Derived.Test.YtececkbcinmmpaaGreatDoorM11
import Derived.Test.YtececkbcinmmpaaGreatDoorM10
import Derived.Test.YtececkbcinmmpaaGreatDoorM12
import Derived.Test.YtececkbcinmmpaaGreatDoorM09
import Derived.WalkMore
import Derived.Test.YtececkbcinmmpaaGreatDoorM27
import Derived.Test.YtececkbcinmmpaaGreatDoorM13
set_option linter.unusedSimpArgs false
set_option linter.unusedVariables false
set_option maxRecDepth 100000
set_option maxHeartbeats 8000000
namespace Go.Bg
open Go.RowKit Dg
def IntFr (T : TypeId) (b o : Nat) (s : Bool) (R : Nat) (w w' : World) : Prop :=
  ∃ a n c w1, BigN T w1 a n c R ∧ Below w.heap.size w w1 ∧ (∀ k, InB a k → w.heap.size ≤ k) ∧ (s = true → 0 < R) ∧
    Below ((w1.setCell ⟨b, o + 1, none⟩ (.slice a n c)).setCell ⟨b, o, none⟩ (.bool s)).heap.size ((w1.setCell ⟨b, o + 1, none⟩ (.slice a n c)).setCell ⟨b, o, none⟩ (.bool s)) w'
theorem IntFr.then {T : TypeId} {b o : Nat} {s : Bool} {R : Nat} {w w' w'' : World} (h : IntFr T b o s R w w') (hb : Below w'.heap.size w' w'') : IntFr T b o s R w w'' := by
  obtain ⟨a, n, c, w1, h1, h2, h3, h4, h5⟩ := h
  exact ⟨a, n, c, w1, h1, h2, h3, h4, Below.then h5 (Nat.le_refl _) hb⟩
end Go.Bg
namespace Go.Proofs.YtececkbcinmmpaaGreatDoor
open Go.RowKit Go.Bg Dg
def IntFrE (b o : Nat) (s : Bool) (R : Nat) (w : World) (e : Ending) (w' : World) : Prop := e = .returned (.pointer (some ⟨b, o, none⟩)) ∧ IntFr 139 b o s R w w'
theorem NewInt.madeF {w w1 : World} {b o : Nat} (h : NewInt w b o) (hb : Below w.heap.size w w1) {a : Option Addr} {n c N : Nat} {s : Bool} (hN : BigN 139 w1 a n c N) (hf : ∀ k, InB a k → w.heap.size ≤ k) (hz : s = true → 0 < N) :
    IntFrE b o s N w (.returned (.pointer (some ⟨b, o, none⟩))) ((w1.setCell ⟨b, o + 1, none⟩ (.slice a n c)).setCell ⟨b, o, none⟩ (.bool s)) :=
  ⟨rfl, a, n, c, w1, hN, hb, hf, hz, Below.refl _ _⟩
theorem intFr_z {b o : Nat} {s : Bool} {R : Nat} {z : Int} {w : World} {e : Ending} {w' : World} (h : IntFrE b o s R w e w') (hz : sg s R = z) : IntFrE b o (decide (z < 0)) z.natAbs w e w' := by
  obtain ⟨_, _, _, _, _, _, _, h4, _⟩ := h.2
  obtain ⟨e1, e2⟩ := sg_abs h4
  rw [hz] at e1 e2
  rw [e1, e2]; exact h
theorem intFr_set {b o : Nat} {s : Bool} {R : Nat} {z : Int} {w : World} {e : Ending} {w' : World} (h : IntFrE b o s R w e w') (hz : sg s R = z) : (Ending.returned (.tuple #[]) = .returned (.tuple #[])) ∧ IntFr 139 b o (decide (z < 0)) z.natAbs w w'.drew :=
  ⟨rfl, (intFr_z h hz).2.then ((Below.refl _ _).drew)⟩
theorem IntFr.own {b o : Nat} {s : Bool} {R : Nat} {w w' : World} (h : IntFr 139 b o s R w w') (hn : NewInt w b o) : (∃ a n c, OwnI 139 w' b o s a n c R ∧ ∀ k, InB a k → w.heap.size ≤ k) ∧ Upd (· = b) w w' ∧ (s = true → 0 < R) := by
  obtain ⟨a, n, c, w1, h1, h2, h3, h4, h5⟩ := h
  have h' := hn.keep h2
  exact ⟨⟨a, n, c, (OwnI.stored h'.blk h'.c0 ⟨_, h'.c1⟩ h1).keep h5, h3⟩, (((Upd.of_below (S := (· = b)) h2).setCell (p := ⟨b, o + 1, none⟩) rfl _).setCell (p := ⟨b, o, none⟩) rfl _).then h5, h4⟩
theorem IntFr.frac {zb : Nat} {s : Bool} {R : Nat} {w w' : World} (h : IntFr 139 zb 0 s R w w') (hn : NewRat w zb) : ∃ a n c, FracUp w zb s R 0 w' a n c none 0 0 := by
  obtain ⟨a, n, c, w1, h1, h2, h3, h4, h5⟩ := h
  exact ⟨a, n, c, (((FracUp.start hn).setA (Below.refl _ _) (Upd.of_below h2) h1 (fun k hk => .inr (h3 k hk))).neg s).keep h5⟩
theorem scaleDenomF (d p b o : Nat) (s : Bool) (N : Nat) (af : Option Addr) (nf cf F : Nat) (q : Value) (w : World) (hK : Thr w) (h : NewInt w d p) (h1 : BigAt 139 w b o s N) (h2 : BigN 139 w af nf cf F) (hF : 0 < F) (hne : b ≠ d) (L : Nat) (hL : L < 40) (hN : N < W64 ^ L) (hFL : F < W64 ^ L) :
    Calls Tryz.prog 162 #[.pointer (some ⟨d, p, none⟩), q, .pointer (some ⟨b, o, none⟩), .slice af nf cf] w fun e w' => e = .returned (.tuple #[]) ∧ IntFr 139 d p s (N * F) w w' := by
  obtain ⟨a, n, c, p0, p1, hNN⟩ := h1.val
  have hn : n ≤ L := len_le W64_gt hNN.num.top hN
  have hnf : nf ≤ L := len_le W64_gt h2.num.top hFL
  have hnf0 : ((nf : Int) == 0) = false := by
    have hp := natAt_pos_len h2.num
    have : 0 < nf := by simpa [hF] using hp
    simp; omega
  have hcm := h2.num.cm
  have hnc := h2.num.nc
  have HZ := Lib.hid (show s = true → 0 < N * F from fun hs => Nat.mul_pos (h1.zero hs) hF)
  have HH := Lib.hid h
  have HN := Lib.hid hNN
  have H2 := Lib.hid h2
  have HK := Lib.hid hK
  have HP0 := Lib.hid p0
  have k1 := h.c1
  clear h h1 hNN hN p0 h2 hK
  go_enter Tryz.func162, Tryz.ntmps162
  go_upto_region 2 with fail
  have hd0 : ∀ q, Below w.heap.size w (w.drewN q) := fun q => below_drewN (Below.refl w.heap.size w) q
  go_region_with
    ((go_at_call 209; (with_reducible refine (natMulF a af n nf c cf N F _ ?_ ?_ ?_ (by omega) (by omega) (.inl (by omega)) q).mono ?_); exact HK.out.keep (hd0 _); exact HN.out.keep (hd0 _); exact H2.out.keep (hd0 _); rintro e w1 ⟨a2, n2, c2, rfl, hN2, hB, hf⟩; have hB1 := Below.then (hd0 _) (Nat.le_refl _) hB; have hf1 := (fun k hk => Nat.le_trans (hd0 _).size (hf k hk) : ∀ k, InB a2 k → w.heap.size ≤ k); have HF := Lib.hid (HH.out.madeF hB1 (s := s) hN2 hf1 HZ.out); have h' := HH.out.keep hB1; obtain ⟨u0, k0⟩ := h'.c0; have k1' := h'.c1; have f0 := h'.blk.frozen p; have f1 := h'.blk.frozen (p + 1); have k0' : ∀ v, (w1.setCell ⟨d, p + 1, none⟩ v).cell? ⟨d, p, none⟩ = some u0 := (fun v => by rw [World.cell?_setCell_other _ _ _ _ (fun hh => by injection hh with _ hh _; omega)]; exact k0); have x0' : ∀ v, (w1.setCell ⟨d, p + 1, none⟩ v).cell? ⟨b, o, none⟩ = some (.bool s) := (fun v => by rw [World.cell?_setCell_other _ _ _ _ (fun hh => by injection hh with hh _ _; exact hne hh.symm)]; exact cell_keep HP0.out hB1); clear hN2 h' hf hf1))
  all_goals
    clear p1 k1
    go_wp2
    go_end0
    exact ⟨rfl, HF.out.2⟩
theorem NewInt.updU {w w1 : World} {b o d : Nat} (h : NewInt w b o) (hu : Upd (· = d) w w1) (hne : b ≠ d) : NewInt w1 b o := by
  obtain ⟨u, h0⟩ := h.c0
  exact ⟨h.blk.upd hu hne, ⟨u, by rw [hu.cell (p := ⟨b, o, none⟩) (block_lt h0) hne]; exact h0⟩, by rw [hu.cell (p := ⟨b, o + 1, none⟩) (block_lt h.c1) hne]; exact h.c1⟩
def At (v : Value) (b : Nat) : Prop := ∀ b' o', v = .iface 102 (.agg #[.pointer (some ⟨b', o', none⟩)]) → b' = b
theorem at_big (b o : Nat) : At (.iface 102 (.agg #[.pointer (some ⟨b, o, none⟩)])) b := by
  intro b' o' h
  injection h with _ h
  injection h with h
  injection h with h
  injection h with h _
  injection h with h
  injection h with h
  injection h with h _ _
  exact h.symm
theorem CInt.block {w : World} {v : Value} {z : Int} (h : CInt w v z) : ∀ b o, v = .iface 102 (.agg #[.pointer (some ⟨b, o, none⟩)]) → b < w.heap.size := by
  intro b o e
  rcases h with ⟨rfl, _⟩ | ⟨b1, o1, s, N, rfl, hI, _⟩
  · injection e with h _
    exact absurd h (by decide)
  · have := at_big b1 o1 b o e
    subst this
    exact hI.blk.lt
end Go.Proofs.YtececkbcinmmpaaGreatDoor
namespace Go.Bg
open Go.RowKit Dg
theorem Box9.set9 {w : World} {b g : Nat} {x : Vl} (h : Box9 w b x) (hg : b ≠ g) (v0 v1 v2 v3 v4 v5 v6 v7 v8 : Value) :
    Box9 (((((((((w.setCell ⟨g, 0, none⟩ v0).setCell ⟨g, 1, none⟩ v1).setCell ⟨g, 2, none⟩ v2).setCell ⟨g, 3, none⟩ v3).setCell ⟨g, 4, none⟩ v4).setCell ⟨g, 5, none⟩ v5).setCell ⟨g, 6, none⟩ v6).setCell ⟨g, 7, none⟩ v7).setCell ⟨g, 8, none⟩ v8) b x := by
  have e : ∀ (i j : Nat) (v : Value) (w : World), (w.setCell ⟨g, i, none⟩ v).cell? ⟨b, j, none⟩ = w.cell? ⟨b, j, none⟩ := fun i j v w => World.cell?_setCell_other _ _ _ _ (fun hh => hg (by injection hh with hh; exact hh.symm))
  refine ⟨?_, ?_, ?_, ?_, ?_, ?_, ?_, ?_, ?_⟩ <;> (simp only [e])
  · exact h.c0
  · exact h.c1
  · exact h.c2
  · exact h.c3
  · exact h.c4
  · exact h.c5
  · exact h.c6
  · exact h.c7
  · exact h.c8
end Go.Bg
namespace Go.Proofs.YtececkbcinmmpaaGreatDoor
open Go.RowKit Go.Bg Dg
def opTok (k : Nat) : Int := if k = 0 then 12 else if k = 1 then 13 else if k = 2 then 14 else if k = 3 then 15 else if k = 4 then 26 else if k = 5 then 16 else if k = 6 then 17 else if k = 7 then 18 else if k = 8 then 19 else 22
theorem operator_any (k : Nat) (hk : k < 10) (w : World) :
    Calls Tryz.prog 46 #[.int .i64 k] w fun e w' => e = .returned (.tuple #[.int .i64 (opTok k), .bool true]) ∧ Below w.heap.size w w' := by
  have HB := Lib.hid (fun (o : Obj) => (Below.alloc' (Below.refl w.heap.size w) o))
  obtain ⟨T, hT⟩ : ∃ T, T = opTok k := ⟨_, rfl⟩
  rcases (by omega : k = 0 ∨ k = 1 ∨ k = 2 ∨ k = 3 ∨ k = 4 ∨ k = 5 ∨ k = 6 ∨ k = 7 ∨ k = 8 ∨ k = 9) with rfl | rfl | rfl | rfl | rfl | rfl | rfl | rfl | rfl | rfl
  all_goals
    go_enter Tryz.func46, Tryz.ntmps46
    go_wp2
    refine bodyPost_ret (v := .tuple #[.int .i64 T, .bool true]) (by rw [hT]; simp [results, Tryz.results46, go_sem, opTok]) rfl ⟨by rw [hT], HB.out _⟩
theorem pow_step (K : Nat) : W64 ^ K + W64 ^ K ≤ W64 ^ (K + 1) := by
  rw [Nat.pow_succ]
  have : 2 ≤ W64 := W64_gt
  have := Nat.mul_le_mul_left (W64 ^ K) this
  omega
theorem mulDenomF (p : Value) (a1 a2 : Option Addr) (n1 n2 c1 c2 D E : Nat) (w : World) (hK : Thr w) (h1 : BigN 139 w a1 n1 c1 D) (h2 : BigN 139 w a2 n2 c2 E) (hD : 0 < D) (hE : 0 < E) (hn1 : n1 < 40) (hn2 : n2 < 40) :
    Calls Tryz.prog 163 #[p, .slice none 0 0, .slice a1 n1 c1, .slice a2 n2 c2] w (GivesF 139 (D * E) w) := by
  have z1 : ((n1 : Int) == 0) = false := by
    have := natAt_pos_len h1.num
    have : 0 < n1 := by simpa [hD] using this
    simp; omega
  have z2 : ((n2 : Int) == 0) = false := by
    have := natAt_pos_len h2.num
    have : 0 < n2 := by simpa [hE] using this
    simp; omega
  have hm1 := h1.num.cm
  have hc1 := h1.num.nc
  have hm2 := h2.num.cm
  have hc2 := h2.num.nc
  unfold maxLen at hm1 hm2
  have HM := Lib.hid (natMulF a1 a2 n1 n2 c1 c2 D E w hK h1 h2 (by omega) (by omega) (.inl hn1) p)
  clear h1 h2 hK
  go_enter Tryz.func163, Tryz.ntmps163
  go_wp2_with fail
  refine HM.out.mono ?_
  rintro e w1 ⟨a, n, c, rfl, hN, hB, hf⟩
  go_wp2
  go_ret
  exact ⟨_, _, _, rfl, hN, hB, hf⟩
structure TwoS (w : World) (s t : Bool) (X Y : Nat) (wx : World) (a1 : Option Addr) (n1 c1 : Nat) (a2 : Option Addr) (n2 c2 : Nat) : Prop where
  a : OwnI 139 wx (w.heap.size + 1) 0 s a1 n1 c1 X
  d : OwnI 139 wx (w.heap.size + 1 + 1) 0 t a2 n2 c2 Y
  f1 : ∀ k, InB a1 k → w.heap.size ≤ k
  f2 : ∀ k, InB a2 k → w.heap.size ≤ k
  off : ∀ k, InB a1 k → ¬ InB a2 k
  stk : BlkAt wx w.heap.size #[.pointer none] 225
  bel : Below w.heap.size w wx
theorem two_done {w W3 w4 w5 : World} {s t : Bool} {X Y : Nat} (hW : W3 = ((w.alloc (.cells #[.pointer none] 225)).alloc (.cells #[.bool false, .slice none 0 0] 155)).alloc (.cells #[.bool false, .slice none 0 0] 155))
    (h4 : IntFr 139 (w.heap.size + 1) 0 s X W3.drew w4) (h5 : IntFr 139 (w.heap.size + 1 + 1) 0 t Y w4.drew w5) :
    ∃ a1 n1 c1 a2 n2 c2, TwoS w s t X Y w5 a1 n1 c1 a2 n2 c2 ∧ (s = true → 0 < X) ∧ (t = true → 0 < Y) := by
  have hB3 : Below w.heap.size w W3 := by rw [hW]; exact Below.alloc' (Below.alloc' (Below.alloc' (Below.refl _ _) _) _) _
  have hS3 : W3.heap.size = w.heap.size + 1 + 1 + 1 := by rw [hW]; simp
  have A3 : NewInt W3 (w.heap.size + 1) 0 := by rw [hW]; have := newInt_is (w.alloc (.cells #[.pointer none] 225)); simp at this; exact this.keep (Below.alloc' (Below.refl _ _) _)
  have B3 : NewInt W3 (w.heap.size + 1 + 1) 0 := by rw [hW]; simpa using newInt_is ((w.alloc (.cells #[.pointer none] 225)).alloc (.cells #[.bool false, .slice none 0 0] 155))
  have S3 : BlkAt W3 w.heap.size #[.pointer none] 225 := by rw [hW]; exact BlkAt.keep (BlkAt.new _ _ _) (Below.alloc' (Below.alloc' (Below.refl _ _) _) _)
  have hd3 : Below W3.heap.size W3 W3.drew := (Below.refl _ _).drew
  obtain ⟨⟨a1, n1, c1, hA, hf1⟩, hU4, z4⟩ := IntFr.own h4 (A3.keep hd3)
  have hd4 : Below w4.heap.size w4 w4.drew := (Below.refl _ _).drew
  have B4 : NewInt w4 (w.heap.size + 1 + 1) 0 := NewInt.updU (B3.keep hd3) hU4 (Nat.succ_ne_self _)
  obtain ⟨⟨a2, n2, c2, hD, hf2⟩, hU5, z5⟩ := IntFr.own h5 (B4.keep hd4)
  have s3 := hd3.size
  have s4 := hU4.size
  have s5 := hd4.size
  have la := hA.num.inLt
  have hp5 : ∀ k, InB a1 k → ¬ k = w.heap.size + 1 + 1 := fun k hk e => by
    subst e
    exact (B4.blk.notIn hA.num) hk
  refine ⟨a1, n1, c1, a2, n2, c2, ⟨(hA.keep hd4).apart hU5 (by omega) hp5, hD, fun k hk => by have := hf1 k hk; omega, fun k hk => by have := hf2 k hk; omega, fun k hk hk' => by have := la k hk; have := hf2 k hk'; omega, ?_, ?_⟩, z4, z5⟩
  · exact hU5.blk (BlkAt.keep (hU4.blk (BlkAt.keep S3 hd3) (by omega)) hd4) (by omega)
  · exact hU5.below (Below.then (hU4.below (Below.then hB3 (Nat.le_refl _) hd3) (by omega) (fun k _ e => by omega)) (Nat.le_refl _) hd4) (by omega) (fun k _ e => by omega)
theorem FracUp.int {w w1 : World} {zb : Nat} (h : NewRat w zb) {x : Nat} {a : Option Addr} {n c : Nat} (hQ : BigN 139 w1 a n c x) (hU : Upd (InB none) w w1) (hp : ∀ k, InB a k → InB none k ∨ w.heap.size ≤ k) (s : Bool) :
    FracUp w zb s x 0 ((w1.setCell ⟨zb, 1, none⟩ (.slice a n c)).setCell ⟨zb, 0, none⟩ (.bool s)) a n c none 0 0 :=
  ((FracUp.start h).setA (Below.refl _ _) hU hQ hp).neg s
theorem rok_over (s : Bool) (N D : Nat) (hD : 0 < D) : ROk (Rt.over s N D) := by
  have hg : 0 < Nat.gcd N D := Nat.gcd_pos_of_pos_right _ hD
  refine ⟨Nat.div_pos (Nat.gcd_le_right _ hD) hg, fun h => ?_, ?_⟩
  · have h' : (s && decide (0 < N)) = true := h
    have hN : 0 < N := by simpa using (Bool.and_eq_true_iff.1 h').2
    exact Nat.div_pos (Nat.gcd_le_left _ hN) hg
  · show Nat.gcd (N / Nat.gcd N D) (D / Nat.gcd N D) = 1
    rw [Nat.gcd_div (Nat.gcd_dvd_left _ _) (Nat.gcd_dvd_right _ _), Nat.div_self hg]
abbrev MadeAs (x : Vl) (P : World → Value → Prop) : Prop := ∀ w, VlAt w x → Calls Tryz.prog 49 #[.agg #[.int .i64 x.kind, .bool x.truth, .string x.text, .bool x.neg, .slice x.wa x.wn x.wc, .slice x.da x.dn x.dc, .bool x.ineg, .slice x.ia x.inn x.ic, .slice x.ea x.en x.ec]] w fun e w' => ∃ u, e = .returned u ∧ P w' u ∧ Below w.heap.size w w'
theorem over_lt {s : Bool} {N D B : Nat} (hN : N < B) (hD : D < B) : (Rt.over s N D).num < B ∧ (Rt.over s N D).den < B :=
  ⟨Nat.lt_of_le_of_lt (Nat.div_le_self _ _) hN, Nat.lt_of_le_of_lt (Nat.div_le_self _ _) hD⟩
theorem implBinaryQ_any (k : Nat) (hk : k < 10) (x y : Vl) (P1 P2 : World → Value → Prop) (z : Rt) (L : Nat) (w : World) (h1 : VlAt w x) (h2 : VlAt w y) (k1 : MadeAs x P1) (k2 : MadeAs y P2) (kk : ∀ (w w' : World) v, P1 w v → Below w.heap.size w w' → P1 w' v) (hL : L ≤ 100000) (hz : z.num < W64 ^ L ∧ z.den < W64 ^ L ∧ ROk z)
    (H : ∀ (v1 v2 : Value) (w' : World), Below w.heap.size w w' → P1 w' v1 → P2 w' v2 →
      Calls Tryz.prog 48 #[v1, .int .i64 (opTok k), v2] w' fun e w'' => ∃ u, e = .returned u ∧ CRat w'' u z ∧ Below w'.heap.size w' w'') :
    Calls Tryz.prog 20 #[.int .i64 k, .agg #[.int .i64 x.kind, .bool x.truth, .string x.text, .bool x.neg, .slice x.wa x.wn x.wc, .slice x.da x.dn x.dc, .bool x.ineg, .slice x.ia x.inn x.ic, .slice x.ea x.en x.ec], .agg #[.int .i64 y.kind, .bool y.truth, .string y.text, .bool y.neg, .slice y.wa y.wn y.wc, .slice y.da y.dn y.dc, .bool y.ineg, .slice y.ia y.inn y.ic, .slice y.ea y.en y.ec]] w (GivesV (IsQ z L) w) := by
  obtain ⟨W0, hW0⟩ : ∃ W0, W0 = ((w.alloc (.cells #[.int .i64 x.kind, .bool x.truth, .string x.text, .bool x.neg, .slice x.wa x.wn x.wc, .slice x.da x.dn x.dc, .bool x.ineg, .slice x.ia x.inn x.ic, .slice x.ea x.en x.ec] 26)).alloc (.cells #[.int .i64 y.kind, .bool y.truth, .string y.text, .bool y.neg, .slice y.wa y.wn y.wc, .slice y.da y.dn y.dc, .bool y.ineg, .slice y.ia y.inn y.ic, .slice y.ea y.en y.ec] 26)).alloc (.cells #[.int .i64 0, .bool false, .string ⟨#[]⟩, .bool false, .slice none 0 0, .slice none 0 0, .bool false, .slice none 0 0, .slice none 0 0] 26) := ⟨_, rfl⟩
  have HW := Lib.hid hW0
  have hb0 : Below w.heap.size w W0 := by rw [hW0]; exact Below.alloc' (Below.alloc' (Below.alloc' (Below.refl _ _) _) _) _
  have X : Box9 W0 w.heap.size x := by rw [hW0]; exact ((Box9.new w x _ rfl).alloc _).alloc _
  have Y : Box9 W0 (w.heap.size + 1) y := by rw [hW0]; exact (Box9.new _ y _ (by simp)).alloc _
  have hR : BlkAt W0 (w.heap.size + 1 + 1) #[.int .i64 0, .bool false, .string ⟨#[]⟩, .bool false, .slice none 0 0, .slice none 0 0, .bool false, .slice none 0 0, .slice none 0 0] 26 := by
    rw [hW0]
    have := BlkAt.new ((w.alloc (.cells #[.int .i64 x.kind, .bool x.truth, .string x.text, .bool x.neg, .slice x.wa x.wn x.wc, .slice x.da x.dn x.dc, .bool x.ineg, .slice x.ia x.inn x.ic, .slice x.ea x.en x.ec] 26)).alloc (.cells #[.int .i64 y.kind, .bool y.truth, .string y.text, .bool y.neg, .slice y.wa y.wn y.wc, .slice y.da y.dn y.dc, .bool y.ineg, .slice y.ia y.inn y.ic, .slice y.ea y.en y.ec] 26)) #[.int .i64 0, .bool false, .string ⟨#[]⟩, .bool false, .slice none 0 0, .slice none 0 0, .bool false, .slice none 0 0, .slice none 0 0] 26
    simpa using this
  have HX := Lib.hid (h1.keep hb0)
  have HY := Lib.hid (h2.keep hb0)
  have K1 := Lib.hid k1
  have K2 := Lib.hid k2
  have HZ := Lib.hid hz
  have HH := Lib.hid H
  clear hW0 h1 h2 k1 k2 hz H
  go_enter Tryz.func20, Tryz.ntmps20
  go_upto_region 1 with fail
  rw [← HW.out]
  go_wp2_with fail
  refine (operator_any k hk _).mono ?_
  rintro e w1 ⟨rfl, hB1⟩
  have hb1 := Below.then hb0 (Nat.le_refl _) hB1
  have hR1 := hR.keep hB1
  have X1 := X.keep hB1
  have Y1 := Y.keep hB1
  have HX1 := Lib.hid (HX.out.keep hB1)
  have HY1 := Lib.hid (HY.out.keep hB1)
  go_wp2_with fail
  have hd0 : Below w1.heap.size w1 w1.drew := (Below.refl _ _).drew
  go_region_held3 (fun w' => (w'.cell? ⟨w.heap.size, 0, none⟩ = some (.int .i64 x.kind) ∧ w'.cell? ⟨w.heap.size, 1, none⟩ = some (.bool x.truth) ∧ w'.cell? ⟨w.heap.size, 2, none⟩ = some (.string x.text) ∧ w'.cell? ⟨w.heap.size, 3, none⟩ = some (.bool x.neg) ∧ w'.cell? ⟨w.heap.size, 4, none⟩ = some (.slice x.wa x.wn x.wc) ∧ w'.cell? ⟨w.heap.size, 5, none⟩ = some (.slice x.da x.dn x.dc) ∧ w'.cell? ⟨w.heap.size, 6, none⟩ = some (.bool x.ineg) ∧ w'.cell? ⟨w.heap.size, 7, none⟩ = some (.slice x.ia x.inn x.ic) ∧ w'.cell? ⟨w.heap.size, 8, none⟩ = some (.slice x.ea x.en x.ec)) ∧ (w'.cell? ⟨(w.heap.size + 1), 0, none⟩ = some (.int .i64 y.kind) ∧ w'.cell? ⟨(w.heap.size + 1), 1, none⟩ = some (.bool y.truth) ∧ w'.cell? ⟨(w.heap.size + 1), 2, none⟩ = some (.string y.text) ∧ w'.cell? ⟨(w.heap.size + 1), 3, none⟩ = some (.bool y.neg) ∧ w'.cell? ⟨(w.heap.size + 1), 4, none⟩ = some (.slice y.wa y.wn y.wc) ∧ w'.cell? ⟨(w.heap.size + 1), 5, none⟩ = some (.slice y.da y.dn y.dc) ∧ w'.cell? ⟨(w.heap.size + 1), 6, none⟩ = some (.bool y.ineg) ∧ w'.cell? ⟨(w.heap.size + 1), 7, none⟩ = some (.slice y.ia y.inn y.ic) ∧ w'.cell? ⟨(w.heap.size + 1), 8, none⟩ = some (.slice y.ea y.en y.ec)))
    (first | with_reducible exact ⟨X1.all, Y1.all⟩ | with_reducible exact ⟨(X1.keep (by assumption)).all, (Y1.keep (by assumption)).all⟩ | with_reducible exact ⟨((X1.keep (by assumption)).set9 (by omega) _ _ _ _ _ _ _ _ _).all, ((Y1.keep (by assumption)).set9 (by omega) _ _ _ _ _ _ _ _ _).all⟩)
    (first | (go_at_call 49; (with_reducible refine (K1.out _ ?_).mono ?_); exact HX1.out.keep (by assumption); rintro e w2 ⟨u1, rfl, hu1, hB2⟩; have hb2 := Below.then hd0 (Nat.le_refl _) hB2) | (go_at_call 49; (with_reducible refine (K2.out _ ?_).mono ?_); exact HY1.out.keep (by assumption); rintro e w3 ⟨u2, rfl, hu2, hB3⟩; have hb3 := Below.then hb2 (Nat.le_refl _) hB3) | (go_at_call 48; have q1 := Below.then hb1 (Nat.le_refl _) hb3; have q2 := kk _ _ _ hu1 hB3; (with_reducible refine (HH.out u1 u2 _ q1 q2 hu2).mono ?_); clear q1 q2; rintro e w4 ⟨u, rfl, hu, hB4⟩; have hb4 := Below.then hb3 (Nat.le_refl _) hB4) | (go_at_call 47; (with_reducible refine (toldRat_any u z _ ?_ HZ.out.2.2 L hL HZ.out.1 HZ.out.2.1).mono ?_); exact hu; rintro e w5 ⟨o, rfl, hy, hP, hB5⟩; have hb5 := Below.then hb4 (Nat.le_refl _) hB5; have hR5 := hR1.keep hb5; have HE := Lib.hid (givesV_end hR5 (by omega) (Below.then hb1 (Nat.le_refl _) hb5) hy hP); have oc0 := (hR5).cell 0; have oc1 := (hR5).cell 1; have oc2 := (hR5).cell 2; have oc3 := (hR5).cell 3; have oc4 := (hR5).cell 4; have oc5 := (hR5).cell 5; have oc6 := (hR5).cell 6; have oc7 := (hR5).cell 7; have oc8 := (hR5).cell 8; simp only [List.getElem?_toArray, List.getElem?_cons_zero, List.getElem?_cons_succ] at oc0 oc1 oc2 oc3 oc4 oc5 oc6 oc7 oc8; have of0 := (hR5).frozen 0; have of1 := (hR5).frozen 1; have of2 := (hR5).frozen 2; have of3 := (hR5).frozen 3; have of4 := (hR5).frozen 4; have of5 := (hR5).frozen 5; have of6 := (hR5).frozen 6; have of7 := (hR5).frozen 7; have of8 := (hR5).frozen 8))
  go_wp2
  exact bodyPost_ret (v := .agg #[.int .i64 o.kind, .bool o.truth, .string o.text, .bool o.neg, .slice o.wa o.wn o.wc, .slice o.da o.dn o.dc, .bool o.ineg, .slice o.ia o.inn o.ic, .slice o.ea o.en o.ec]) (by simp [results, Tryz.results20, go_sem, oc0, oc1, oc2, oc3, oc4, oc5, oc6, oc7, oc8]) rfl HE.out
theorem ordRat_any (v : Value) (r : Rt) (w : World) (h : CRat w v r) :
    Calls Tryz.prog 140 #[v] w fun e w' => e = .returned (.int .i64 4) ∧ w = w' := by
  obtain ⟨b, s, N, D, rfl, -, -⟩ := h
  obtain ⟨t1, t2, t3, t4, t5, t6, t7, t8, t9⟩ := ta_ratVal
  go_enter Tryz.func140, Tryz.ntmps140
  go_wp2
  go_ret
  exact ⟨rfl, rfl⟩
theorem match0IR_any (v1 v2 : Value) (z : Int) (r : Rt) (w : World) (h1 : CInt w v1 z) (h2 : CRat w v2 r) (L : Nat) (hL : L ≤ 63) (hz : z.natAbs < W64 ^ L) :
    Calls Tryz.prog 141 #[v1, v2] w fun e w' => ∃ u, e = .returned (.tuple #[u, v2]) ∧ CRat w' u (rz z) ∧ CRat w' v2 r ∧ Below w.heap.size w w' := by
  have H2 := Lib.hid h2
  obtain ⟨b', s', N', D', rfl, -, -⟩ := h2
  obtain ⟨q1, q2, q3, q4, q5, q6, q7, q8, q9⟩ := ta_ratVal
  rcases h1 with ⟨rfl, hf⟩ | ⟨b, o, s, N, rfl, hI, rfl⟩
  · obtain ⟨t1, t2, t3, t4, t5, t6, t7, t8, t9⟩ := ta_int64Val
    have HF := Lib.hid (fit64_bd hf)
    clear hf hz
    go_enter Tryz.func141, Tryz.ntmps141
    go_wp2_with fail
    refine (i64tor_any z HF.out _).mono ?_
    rintro e w1 ⟨b, rfl, hR, hB⟩
    have HR := Lib.hid hR
    have HB := Lib.hid hB
    clear hR hB
    go_wp2
    exact bodyPost_ret (v := .tuple #[.iface 106 (.agg #[.pointer (some ⟨b, 0, none⟩)]), .iface 106 (.agg #[.pointer (some ⟨b', 0, none⟩)])]) (by simp [results, Tryz.results141, go_sem]) rfl
      ⟨_, rfl, ⟨b, _, _, _, rfl, HR.out, rfl⟩, H2.out.keep HB.out, HB.out⟩
  · obtain ⟨t1, t2, t3, t4, t5, t6, t7, t8, t9⟩ := ta_intVal
    have HN := Lib.hid (show N < W64 ^ L from by rwa [sg_nat] at hz)
    obtain ⟨W0, hW0⟩ : ∃ W0, W0 = w.alloc (.cells #[.pointer (some ⟨b, o, none⟩)] 102) := ⟨_, rfl⟩
    have HW := Lib.hid hW0
    have hb0 : Below w.heap.size w W0 := by rw [hW0]; exact Below.alloc' (Below.refl _ _) _
    have hx : W0.cell? ⟨w.heap.size, 0, none⟩ = some (.pointer (some ⟨b, o, none⟩)) := by rw [hW0]; exact alloc_new _ _ _ rfl rfl
    have HH := Lib.hid (hI.keep hb0)
    have HZ := Lib.hid hI.zero
    clear hW0 hI hz
    go_enter Tryz.func141, Tryz.ntmps141
    go_wp2_with fail
    rw [← HW.out]
    refine (itor_any b o s N L _ HH.out (by omega) HN.out).mono ?_
    rintro e w1 ⟨b2, rfl, hR, hB⟩
    have HR := Lib.hid hR
    have HB := Lib.hid (Below.then hb0 (Nat.le_refl _) hB)
    clear hR hB hb0
    go_wp2
    exact bodyPost_ret (v := .tuple #[.iface 106 (.agg #[.pointer (some ⟨b2, 0, none⟩)]), .iface 106 (.agg #[.pointer (some ⟨b', 0, none⟩)])]) (by simp [results, Tryz.results141, go_sem]) rfl
      ⟨_, rfl, ⟨b2, _, _, _, rfl, HR.out, (rz_sg HZ.out).symm⟩, H2.out.keep HB.out, HB.out⟩
theorem ordOf_or {w : World} {v : Value} {z : Int} (h : CInt w v z) : ordOf v = 2 ∨ ordOf v = 3 := by
  rcases h with ⟨rfl, _⟩ | ⟨b, o, s, N, rfl, _, _⟩
  · exact .inl rfl
  · exact .inr rfl
def MatR (r q : Rt) (w : World) (e : Ending) (w' : World) : Prop := ∃ u1 u2, e = .returned (.tuple #[u1, u2]) ∧ CRat w' u1 r ∧ CRat w' u2 q ∧ Below w.heap.size w w'
theorem matchIR_any (v1 v2 : Value) (z : Int) (q : Rt) (w : World) (h1 : CInt w v1 z) (h2 : CRat w v2 q) (L : Nat) (hL : L ≤ 63) (hz : z.natAbs < W64 ^ L) : Calls Tryz.prog 73 #[v1, v2] w (MatR (rz z) q w) := by
  have ho := ordOf_or h1
  have H1 := Lib.hid h1
  have H2 := Lib.hid h2
  have HZ := Lib.hid hz
  clear h1 h2 hz
  go_enter Tryz.func73, Tryz.ntmps73
  go_wp2_with fail
  refine (ordInt_any _ z _ H1.out).mono ?_
  rintro e w1 ⟨rfl, rfl⟩
  go_wp2_with fail
  refine (ordRat_any _ q _ H2.out).mono ?_
  rintro e w1 ⟨rfl, rfl⟩
  generalize ordOf v1 = k at *
  rcases ho with rfl | rfl
  all_goals
    go_wp2_with fail
    refine (match0IR_any v1 v2 z q _ H1.out H2.out L hL HZ.out).mono ?_
    rintro e w1 ⟨u, rfl, hu, hv, hB⟩
    have HU := Lib.hid hu
    have HV := Lib.hid hv
    have HB := Lib.hid hB
    clear hu hv hB
    go_wp2
    exact bodyPost_ret (v := .tuple #[u, v2]) (by simp [results, Tryz.results73, go_sem]) rfl ⟨_, _, rfl, HU.out, HV.out, HB.out⟩
theorem matchRI_any (v1 v2 : Value) (z : Int) (q : Rt) (w : World) (h1 : CInt w v1 z) (h2 : CRat w v2 q) (L : Nat) (hL : L ≤ 63) (hz : z.natAbs < W64 ^ L) : Calls Tryz.prog 73 #[v2, v1] w (MatR q (rz z) w) := by
  have ho := ordOf_or h1
  have H1 := Lib.hid h1
  have H2 := Lib.hid h2
  have HZ := Lib.hid hz
  clear h1 h2 hz
  go_enter Tryz.func73, Tryz.ntmps73
  go_wp2_with fail
  refine (ordRat_any _ q _ H2.out).mono ?_
  rintro e w1 ⟨rfl, rfl⟩
  go_wp2_with fail
  refine (ordInt_any _ z _ H1.out).mono ?_
  rintro e w1 ⟨rfl, rfl⟩
  generalize ordOf v1 = k at *
  rcases ho with rfl | rfl
  all_goals
    go_wp2_with fail
    refine (match0IR_any v1 v2 z q _ H1.out H2.out L hL HZ.out).mono ?_
    rintro e w1 ⟨u, rfl, hu, hv, hB⟩
    have HU := Lib.hid hu
    have HV := Lib.hid hv
    have HB := Lib.hid hB
    clear hu hv hB
    go_wp2
    exact bodyPost_ret (v := .tuple #[v2, u]) (by simp [results, Tryz.results73, go_sem]) rfl ⟨_, _, rfl, HV.out, HU.out, HB.out⟩
theorem field_ratVal (p : Value) (w : World) : (Instr.field 106 (.agg #[p]) 0).run Tryz.prog w = .ok p w := by kernel_rfl
theorem makeRatF_any (b : Nat) (s : Bool) (N D L : Nat) (w : World) (h : RatAt 139 w b s N D) (hN : N < W64 ^ L) (hD : D < W64 ^ L) (hL : L ≤ 63) :
    Calls Tryz.prog 82 #[.pointer (some ⟨b, 0, none⟩)] w fun e w' => e = .returned (.iface 106 (.agg #[.pointer (some ⟨b, 0, none⟩)])) ∧ w = w' := by
  have HH := Lib.hid h
  have HN := Lib.hid hN
  have HD := Lib.hid hD
  clear h hN hD
  go_enter Tryz.func82, Tryz.ntmps82
  go_wp2_with fail
  refine (ratNum_any b _).mono ?_
  rintro e w1 ⟨rfl, rfl⟩
  go_wp2_with fail
  refine (ratDenom_any b false D _ HH.out.d HH.out.pos).mono ?_
  rintro e w1 ⟨rfl, rfl⟩
  go_wp2_with fail
  refine (smallInt_any b 0 s N L _ HH.out.a HN.out hL).mono ?_
  rintro e w1 ⟨rfl, rfl⟩
  go_wp2_with fail
  refine (smallInt_any b 2 false D L _ HH.out.d HD.out hL).mono ?_
  rintro e w1 ⟨rfl, rfl⟩
  go_wp2
  go_ret
  exact ⟨rfl, rfl⟩
def NewQ (lo : Nat) (u : Value) : Prop := ∃ b, u = .iface 106 (.agg #[.pointer (some ⟨b, 0, none⟩)]) ∧ lo ≤ b
theorem over_sg {s : Bool} {X D : Nat} {Z : Int} (h : sg (s && decide (0 < X)) X = Z) : Rt.over (decide (Z < 0)) Z.natAbs D = Rt.over s X D := by
  rw [← h, sg_neg, sg_nat]
  unfold Rt.over
  cases s <;> by_cases h0 : 0 < X <;> simp [h0]
theorem plus_over (s t : Bool) (N D M E : Nat) : Rt.over (decide (sg s (N * E) + sg t (M * D) < 0)) (sg s (N * E) + sg t (M * D)).natAbs (D * E) = Rt.plus ⟨s, N, D⟩ ⟨t, M, E⟩ := by
  unfold Rt.plus
  dsimp only
  by_cases h : s = t
  · subst h
    rw [if_pos rfl]
    exact over_sg (sum_same s _ _)
  · rw [if_neg h]
    by_cases hle : M * D ≤ N * E
    · rw [if_pos hle]
      exact over_sg (sum_other h hle)
    · rw [if_neg hle]
      have ht : (!s) = t := by cases s <;> cases t <;> simp_all
      have := sum_other' h (Nat.lt_of_not_le hle)
      rw [ht] at this
      exact over_sg this
theorem minus_over (s t : Bool) (N D M E : Nat) : Rt.over (decide (sg s (N * E) - sg t (M * D) < 0)) (sg s (N * E) - sg t (M * D)).natAbs (D * E) = Rt.minus ⟨s, N, D⟩ ⟨t, M, E⟩ := by
  unfold Rt.minus Rt.negated
  dsimp only
  rw [← plus_over]
  have h : sg (!t && decide (0 < M)) (M * D) = - sg t (M * D) := by
    rcases Nat.eq_zero_or_pos M with h0 | h0
    · subst h0; rw [Nat.zero_mul]; cases t <;> simp [sg]
    · rw [decide_eq_true h0, Bool.and_true, sg_not]
  rw [h, ← Int.sub_eq_add_neg]
theorem times_over (s t : Bool) (N D M E : Nat) : Rt.over (!(s == t)) (N * E) (M * D) = Rt.times ⟨s, N, D⟩ (Rt.upside ⟨t, M, E⟩) := by
  unfold Rt.times Rt.upside
  rw [Nat.mul_comm M D]
  rfl
end Go.Proofs.YtececkbcinmmpaaGreatDoor
