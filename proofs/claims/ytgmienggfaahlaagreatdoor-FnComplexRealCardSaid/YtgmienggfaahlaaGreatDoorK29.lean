/-
  Contracts and lemmas: RatN RatNP RatF.
-/
import Derived.Deep.CutRange
import Derived.Test.YtgmienggfaahlaaGreatDoorK28
import Derived.Test.YtgmienggfaahlaaGreatDoorK11
import Derived.Test.YtgmienggfaahlaaGreatDoorK12
import Derived.BigRegion
import Derived.Test.YtgmienggfaahlaaGreatDoorK04
set_option linter.unusedSimpArgs false
set_option linter.unusedVariables false
set_option maxRecDepth 100000
set_option maxHeartbeats 8000000
namespace Go.Proofs.YtgmienggfaahlaaGreatDoor
open Go.RowKit Go.Bg Dg
structure RatRaw (w : World) (zb : Nat) (s : Bool) (a1 : Option Addr) (n1 c1 N : Nat) (a2 : Option Addr) (n2 c2 D : Nat) : Prop where
  blk : Strct 155 w zb
  k0 : w.cell? ⟨zb, 0, none⟩ = some (.bool s)
  k1 : w.cell? ⟨zb, 1, none⟩ = some (.slice a1 n1 c1)
  k2 : w.cell? ⟨zb, 2, none⟩ = some (.bool false)
  k3 : w.cell? ⟨zb, 3, none⟩ = some (.slice a2 n2 c2)
  na : BigN 155 w a1 n1 c1 N
  nd : BigN 155 w a2 n2 c2 D
  off : ∀ k, InB a1 k → ¬ InB a2 k
theorem RatRaw.apart {w w' : World} {zb : Nat} {s : Bool} {a1 a2 : Option Addr} {n1 c1 N n2 c2 D : Nat} {S : Nat → Prop} (h : RatRaw w zb s a1 n1 c1 N a2 n2 c2 D) (hu : Upd S w w') (hz : ¬ S zb) (h1 : ∀ k, InB a1 k → ¬ S k) (h2 : ∀ k, InB a2 k → ¬ S k) : RatRaw w' zb s a1 n1 c1 N a2 n2 c2 D :=
  ⟨h.blk.upd hu hz, by rw [hu.cell (p := ⟨zb, 0, none⟩) h.blk.lt hz]; exact h.k0, by rw [hu.cell (p := ⟨zb, 1, none⟩) h.blk.lt hz]; exact h.k1, by rw [hu.cell (p := ⟨zb, 2, none⟩) h.blk.lt hz]; exact h.k2, by rw [hu.cell (p := ⟨zb, 3, none⟩) h.blk.lt hz]; exact h.k3, h.na.apart hu h1, h.nd.apart hu h2, h.off⟩
theorem RatRaw.keep {w w' : World} {zb : Nat} {s : Bool} {a1 a2 : Option Addr} {n1 c1 N n2 c2 D : Nat} (h : RatRaw w zb s a1 n1 c1 N a2 n2 c2 D) (hb : Below w.heap.size w w') : RatRaw w' zb s a1 n1 c1 N a2 n2 c2 D :=
  h.apart (S := fun _ => False) (Upd.of_below hb) (fun x => x) (fun _ _ x => x) (fun _ _ x => x)
theorem cell_other {w : World} {b i j : Nat} {v : Value} (h : i ≠ j) : (w.setCell ⟨b, i, none⟩ v).cell? ⟨b, j, none⟩ = w.cell? ⟨b, j, none⟩ := World.cell?_setCell_other _ _ _ _ (fun hh => by injection hh with _ hh _; exact h hh)
theorem RatRaw.neg {w : World} {zb : Nat} {s : Bool} {a1 a2 : Option Addr} {n1 c1 N n2 c2 D : Nat} (h : RatRaw w zb s a1 n1 c1 N a2 n2 c2 D) (t : Bool) : RatRaw (w.setCell ⟨zb, 0, none⟩ (.bool t)) zb t a1 n1 c1 N a2 n2 c2 D :=
  ⟨h.blk.set _ _, World.cell?_setCell_same _ _ _ h.k0, by rw [cell_other (by decide)]; exact h.k1, by rw [cell_other (by decide)]; exact h.k2, by rw [cell_other (by decide)]; exact h.k3, h.na.set h.blk _ _, h.nd.set h.blk _ _, h.off⟩
theorem RatRaw.neg2 {w : World} {zb : Nat} {s : Bool} {a1 a2 : Option Addr} {n1 c1 N n2 c2 D : Nat} (h : RatRaw w zb s a1 n1 c1 N a2 n2 c2 D) : RatRaw (w.setCell ⟨zb, 2, none⟩ (.bool false)) zb s a1 n1 c1 N a2 n2 c2 D :=
  ⟨h.blk.set _ _, by rw [cell_other (by decide)]; exact h.k0, by rw [cell_other (by decide)]; exact h.k1, World.cell?_setCell_same _ _ _ h.k2, by rw [cell_other (by decide)]; exact h.k3, h.na.set h.blk _ _, h.nd.set h.blk _ _, h.off⟩
theorem RatRaw.setA {w w0 w7 : World} {zb : Nat} {s : Bool} {a1 a2 a : Option Addr} {n1 c1 N n2 c2 D n c Q : Nat} {S : Nat → Prop} (h : RatRaw w zb s a1 n1 c1 N a2 n2 c2 D) (hb : Below w.heap.size w w0) (hu : Upd S w0 w7) (hz : ¬ S zb) (h2 : ∀ k, InB a2 k → ¬ S k) (hQ : BigN 155 w7 a n c Q) (hp : ∀ k, InB a k → InB a1 k ∨ w0.heap.size ≤ k) :
    RatRaw (w7.setCell ⟨zb, 1, none⟩ (.slice a n c)) zb s a n c Q a2 n2 c2 D := by
  have h0 := h.keep hb
  have sb := h0.blk.upd hu hz
  have e : ∀ i, w7.cell? ⟨zb, i, none⟩ = w0.cell? ⟨zb, i, none⟩ := fun i => hu.cell (p := ⟨zb, i, none⟩) h0.blk.lt hz
  refine ⟨sb.set _ _, by rw [cell_other (by decide), e]; exact h0.k0, World.cell?_setCell_same (u := .slice a1 n1 c1) _ _ _ (by rw [e]; exact h0.k1), by rw [cell_other (by decide), e]; exact h0.k2, by rw [cell_other (by decide), e]; exact h0.k3, hQ.set sb _ _, (h0.nd.apart hu h2).set sb _ _, fun k hk h3 => ?_⟩
  rcases hp k hk with h4 | h4
  · exact h.off k h4 h3
  · have := h0.nd.inLt k h3; omega
theorem RatRaw.setD {w w0 w7 : World} {zb : Nat} {s : Bool} {a1 a2 a : Option Addr} {n1 c1 N n2 c2 D n c Q : Nat} {S : Nat → Prop} (h : RatRaw w zb s a1 n1 c1 N a2 n2 c2 D) (hb : Below w.heap.size w w0) (hu : Upd S w0 w7) (hz : ¬ S zb) (h1 : ∀ k, InB a1 k → ¬ S k) (hQ : BigN 155 w7 a n c Q) (hp : ∀ k, InB a k → InB a2 k ∨ w0.heap.size ≤ k) :
    RatRaw (w7.setCell ⟨zb, 3, none⟩ (.slice a n c)) zb s a1 n1 c1 N a n c Q := by
  have h0 := h.keep hb
  have sb := h0.blk.upd hu hz
  have e : ∀ i, w7.cell? ⟨zb, i, none⟩ = w0.cell? ⟨zb, i, none⟩ := fun i => hu.cell (p := ⟨zb, i, none⟩) h0.blk.lt hz
  refine ⟨sb.set _ _, by rw [cell_other (by decide), e]; exact h0.k0, by rw [cell_other (by decide), e]; exact h0.k1, by rw [cell_other (by decide), e]; exact h0.k2, World.cell?_setCell_same (u := .slice a2 n2 c2) _ _ _ (by rw [e]; exact h0.k3), (h0.na.apart hu h1).set sb _ _, hQ.set sb _ _, fun k hk h3 => ?_⟩
  rcases hp k h3 with h4 | h4
  · exact h.off k hk h4
  · have := h0.na.inLt k hk; omega
theorem RatRaw.rat {w : World} {zb : Nat} {s : Bool} {a1 a2 : Option Addr} {n1 c1 N n2 c2 D : Nat} (h : RatRaw w zb s a1 n1 c1 N a2 n2 c2 D) (hs : s = true → 0 < N) (hD : 0 < D) : RatAt 155 w zb s N D :=
  ⟨⟨h.blk, ⟨_, _, _, h.k0, h.k1, h.na⟩, hs⟩, ⟨h.blk, ⟨_, _, _, h.k2, h.k3, h.nd⟩, fun h => by cases h⟩, hD⟩
theorem RatRaw.ints {w : World} {zb : Nat} {a1 a2 : Option Addr} {n1 c1 N n2 c2 D : Nat} (h : RatRaw w zb false a1 n1 c1 N a2 n2 c2 D) : BigAt 155 w zb 0 false N ∧ BigAt 155 w zb 2 false D :=
  ⟨⟨h.blk, ⟨_, _, _, h.k0, h.k1, h.na⟩, fun h => by cases h⟩, ⟨h.blk, ⟨_, _, _, h.k2, h.k3, h.nd⟩, fun h => by cases h⟩⟩
def NormIs (zb : Nat) (s : Bool) (a1 a2 : Option Addr) (N D : Nat) (w : World) (e : Ending) (w' : World) : Prop :=
  e = .returned (.pointer (some ⟨zb, 0, none⟩)) ∧ RatAt 155 w' zb (s && decide (0 < N)) (N / Nat.gcd N D) (D / Nat.gcd N D) ∧ Upd (fun k => k = zb ∨ InB a1 k ∨ InB a2 k) w w'
theorem ratNorm_zero (zb : Nat) (s : Bool) (a1 a2 : Option Addr) (n1 c1 n2 c2 D : Nat) (w : World) (R : RatRaw w zb s a1 n1 c1 0 a2 n2 c2 D) (hD : 0 < D) :
    Calls Tryz.prog 144 #[.pointer (some ⟨zb, 0, none⟩)] w (NormIs zb s a1 a2 0 D w) := by
  have hn : n1 = 0 := by have := natAt_pos_len R.na.num; simpa using this
  subst hn
  have R1 := R.neg false
  have hcm := R.nd.num.cm
  have hnc := R.nd.num.nc
  unfold maxLen at hcm
  have HS := Lib.hid (setWord_into a2 n2 c2 D 1 (by decide) (w.setCell ⟨zb, 0, none⟩ (.bool false)) R1.nd)
  have HR := Lib.hid R
  have HR1 := Lib.hid R1
  have HG := Lib.hid (show (s && decide (0 < 0)) = false ∧ 0 / Nat.gcd 0 D = 0 ∧ D / Nat.gcd 0 D = 1 from ⟨by simp, Nat.zero_div _, by rw [Nat.gcd_zero_left]; exact Nat.div_self hD⟩)
  unfold NormIs
  rw [HG.out.1, HG.out.2.1, HG.out.2.2]
  have c0 := R.k0
  have c1 := R.k1
  have f0 := R.blk.frozen 0
  have f1 := R1.blk.frozen 3
  obtain ⟨W1, hW1⟩ : ∃ W1, W1 = w.setCell ⟨zb, 0, none⟩ (.bool false) := ⟨_, rfl⟩
  have HW1 := Lib.hid hW1
  have d3 : W1.cell? ⟨zb, 3, none⟩ = some (.slice a2 n2 c2) := by rw [hW1]; exact R1.k3
  rw [← hW1] at HS HR1 f1
  clear R R1 hD hW1
  have h11 : ((1 : Nat) : Int) = 1 := rfl
  rw [h11] at HS
  go_enter Tryz.func144, Tryz.ntmps144
  go_upto_region 4 with fail
  rw [← HW1.out]
  clear c0 c1 f0
  go_wp2_with fail
  refine HS.out.mono ?_
  rintro e w2 ⟨a, n, c, rfl, hN, hU, hP⟩
  have hzn : ¬ InB a2 zb := HR1.out.blk.notIn HR1.out.nd
  have HF := Lib.hid (HR1.out.setD (Below.refl _ _) hU hzn (fun k h1 h2 => HR1.out.off k h1 h2) hN hP)
  have k3 : w2.cell? ⟨zb, 3, none⟩ = some (.slice a2 n2 c2) := by rw [hU.cell (p := ⟨zb, 3, none⟩) HR1.out.blk.lt hzn]; exact d3
  have g3 : w2.frozen? ⟨zb, 3, none⟩ = false := (HR1.out.blk.upd hU hzn).frozen 3
  have HU := Lib.hid (show Upd (fun k => k = zb ∨ InB a1 k ∨ InB a2 k) w (w2.setCell ⟨zb, 3, none⟩ (.slice a n c)) from
    (((show Upd (fun k => k = zb ∨ InB a1 k ∨ InB a2 k) w W1 from by rw [HW1.out]; exact (Upd.refl _ _).setCell (p := ⟨zb, 0, none⟩) (.inl rfl) _).trans (hU.mono (fun k _ h => .inr (.inr h)))).setCell (p := ⟨zb, 3, none⟩) (.inl rfl) _))
  clear hN hU hP hzn d3 f1
  go_wp2
  go_ret
  exact ⟨rfl, HF.out.rat (fun h => by cases h) (by omega), HU.out⟩
theorem upd_into2 {S S' : Nat → Prop} {w w0 w7 : World} (h : Upd S' w0 w7) (hb : Upd S w w0) (hS : ∀ k, k < w.heap.size → S' k → S k) : Upd S w w7 :=
  ⟨h.os.trans hb.os, h.tape.trans hb.tape, h.output.trans hb.output, Nat.le_trans hb.size h.size, fun k hk hs => (h.block k (Nat.lt_of_lt_of_le hk hb.size) (fun h' => hs (hS k hk h'))).trans (hb.block k hk hs)⟩
theorem stk_set {w : World} {sb l b i : Nat} {v : Value} {st : Option (Nat × Nat)} (h : StkAt w sb st l) (hz : ¬ StkBlk sb st b) : StkAt (w.setCell ⟨b, i, none⟩ v) sb st l := by
  have hU := Upd.set1 w b i v
  rcases st with _ | ⟨ib, g⟩
  · exact ⟨h.1, hU.blk h.2 (fun e => hz (.inl e.symm))⟩
  · obtain ⟨c, cur, e1, e2, e3, e4⟩ := h
    exact ⟨c, cur, hU.blk e1 (fun e => hz (.inl e.symm)), hU.blk e2 (fun e => hz (.inr ⟨ib, g, rfl, .inl e.symm⟩)), hU.blk e3 (fun e => hz (.inr ⟨ib, g, rfl, .inr e.symm⟩)), e4⟩
structure NM (w : World) (zb sb fb gf nf cf G : Nat) (A1 A2 : Option Addr) (N D : Nat) (wx : World) (a : Option Addr) (n c : Nat) (a' : Option Addr) (n' c' : Nat) (st : Option (Nat × Nat)) : Prop where
  raw : RatRaw wx zb false a n c N a' n' c' D
  own : OwnI 155 wx fb 0 false (some ⟨gf, 0, none⟩) nf cf G
  stk : StkAt wx sb st 0
  sblk : ∀ x, StkBlk sb st x → w.heap.size ≤ x
  ab : ∀ k, InB a k ∨ InB a' k → ¬ StkBlk sb st k
  gs : ¬ StkBlk sb st gf
  fs : ¬ StkBlk sb st fb
  pa : ∀ k, InB a k → InB A1 k ∨ w.heap.size ≤ k
  pd : ∀ k, InB a' k → InB A2 k ∨ w.heap.size ≤ k
  ga : ¬ InB a gf
  gd : ¬ InB a' gf
  upd : Upd (fun k => k = zb ∨ InB A1 k ∨ InB A2 k) w wx
  zw : zb < w.heap.size
  fw : w.heap.size ≤ fb
  gw : w.heap.size ≤ gf
theorem NM.keep {w : World} {zb sb fb gf nf cf G : Nat} {A1 A2 : Option Addr} {N D : Nat} {wx wy : World} {a : Option Addr} {n c : Nat} {a' : Option Addr} {n' c' : Nat} {st : Option (Nat × Nat)} (h : NM w zb sb fb gf nf cf G A1 A2 N D wx a n c a' n' c' st) (hb : Below wx.heap.size wx wy) : NM w zb sb fb gf nf cf G A1 A2 N D wy a n c a' n' c' st :=
  ⟨h.raw.keep hb, h.own.keep hb, h.stk.keep hb, h.sblk, h.ab, h.gs, h.fs, h.pa, h.pd, h.ga, h.gd, h.upd.then hb, h.zw, h.fw, h.gw⟩
theorem NM.stepA {w : World} {zb sb fb gf nf cf G : Nat} {A1 A2 : Option Addr} {N D : Nat} {wx w0 w7 : World} {a : Option Addr} {n c : Nat} {a' : Option Addr} {n' c' : Nat} {st : Option (Nat × Nat)} (h : NM w zb sb fb gf nf cf G A1 A2 N D wx a n c a' n' c' st) (hb : Below wx.heap.size wx w0)
    {b : Option Addr} {m k Q : Nat} {stn : Option (Nat × Nat)} (hQ : BigN 155 w7 b m k Q) (hst : StkAt w7 sb stn 0) (hsb : ∀ x, StkBlk sb stn x → StkBlk sb st x ∨ w0.heap.size ≤ x) (hU : Upd (fun k => InB a k ∨ StkBlk sb st k) w0 w7) (hp : ∀ x, InB b x → (InB a x ∨ w0.heap.size ≤ x) ∧ ¬ StkBlk sb stn x) :
    NM w zb sb fb gf nf cf G A1 A2 Q D (w7.setCell ⟨zb, 1, none⟩ (.slice b m k)) b m k a' n' c' stn := by
  have sz : w.heap.size ≤ wx.heap.size := h.upd.size
  have sz0 : wx.heap.size ≤ w0.heap.size := hb.size
  have h0 := h.keep hb
  have nz : ¬ (InB a zb ∨ StkBlk sb st zb) := by
    rintro (h1 | h1)
    · exact h.raw.blk.notIn h.raw.na h1
    · have := h.sblk _ h1; have := h.zw; omega
  have hfa : ¬ (InB a fb ∨ StkBlk sb st fb) := by
    rintro (h1 | h1)
    · exact h.own.blk.notIn h.raw.na h1
    · exact h.fs h1
  have hga : ¬ (InB a gf ∨ StkBlk sb st gf) := by
    rintro (h1 | h1)
    · exact h.ga h1
    · exact h.gs h1
  have hsb' : ∀ x, StkBlk sb stn x → w.heap.size ≤ x := fun x hx => by
    rcases hsb x hx with h1 | h1
    · exact h.sblk x h1
    · omega
  have hzn : ¬ StkBlk sb stn zb := fun h1 => by have := hsb' _ h1; have := h.zw; omega
  have hfl := h.own.blk.lt
  have hgl := h.own.num.inLt gf (inB_is _ _ _)
  refine ⟨h.raw.setA hb hU nz (fun k h1 h2 => ?_) hQ (fun x hx => (hp x hx).1), ?_, stk_set hst hzn, hsb', ?_, ?_, ?_, ?_, h.pd, ?_, h.gd, ?_, h.zw, h.fw, h.gw⟩
  · rcases h2 with h2 | h2
    · exact h.raw.off k h2 h1
    · exact h.ab k (.inr h1) h2
  · exact (h0.own.apart hU hfa (fun k hk => by rw [← inB_some hk]; exact hga)).apart (Upd.set1 w7 zb 1 _) (fun e => by have := h.fw; have := h.zw; omega) (fun k hk e => by have := inB_some hk; have := h.gw; have := h.zw; omega)
  · rintro k (h1 | h1) h2
    · exact (hp k h1).2 h2
    · rcases hsb k h2 with h3 | h3
      · exact h.ab k (.inr h1) h3
      · have := h.raw.nd.inLt k h1; omega
  · intro h2
    rcases hsb gf h2 with h3 | h3
    · exact h.gs h3
    · omega
  · intro h2
    rcases hsb fb h2 with h3 | h3
    · exact h.fs h3
    · omega
  · intro k hk
    rcases (hp k hk).1 with h1 | h1
    · exact h.pa k h1
    · exact .inr (by omega)
  · intro h1
    rcases (hp gf h1).1 with h2 | h2
    · exact h.ga h2
    · omega
  · refine (upd_into2 hU (h.upd.then hb) (fun k hk h1 => ?_)).setCell (p := ⟨zb, 1, none⟩) (.inl rfl) _
    rcases h1 with h1 | h1
    · rcases h.pa k h1 with h2 | h2
      · exact .inr (.inl h2)
      · omega
    · have := h.sblk k h1; omega
theorem NM.stepD {w : World} {zb sb fb gf nf cf G : Nat} {A1 A2 : Option Addr} {N D : Nat} {wx w0 w7 : World} {a : Option Addr} {n c : Nat} {a' : Option Addr} {n' c' : Nat} {st : Option (Nat × Nat)} (h : NM w zb sb fb gf nf cf G A1 A2 N D wx a n c a' n' c' st) (hb : Below wx.heap.size wx w0)
    {b : Option Addr} {m k Q : Nat} {stn : Option (Nat × Nat)} (hQ : BigN 155 w7 b m k Q) (hst : StkAt w7 sb stn 0) (hsb : ∀ x, StkBlk sb stn x → StkBlk sb st x ∨ w0.heap.size ≤ x) (hU : Upd (fun k => InB a' k ∨ StkBlk sb st k) w0 w7) (hp : ∀ x, InB b x → (InB a' x ∨ w0.heap.size ≤ x) ∧ ¬ StkBlk sb stn x) :
    NM w zb sb fb gf nf cf G A1 A2 N Q (w7.setCell ⟨zb, 3, none⟩ (.slice b m k)) a n c b m k stn := by
  have sz : w.heap.size ≤ wx.heap.size := h.upd.size
  have sz0 : wx.heap.size ≤ w0.heap.size := hb.size
  have h0 := h.keep hb
  have nz : ¬ (InB a' zb ∨ StkBlk sb st zb) := by
    rintro (h1 | h1)
    · exact h.raw.blk.notIn h.raw.nd h1
    · have := h.sblk _ h1; have := h.zw; omega
  have hfa : ¬ (InB a' fb ∨ StkBlk sb st fb) := by
    rintro (h1 | h1)
    · exact h.own.blk.notIn h.raw.nd h1
    · exact h.fs h1
  have hga : ¬ (InB a' gf ∨ StkBlk sb st gf) := by
    rintro (h1 | h1)
    · exact h.gd h1
    · exact h.gs h1
  have hsb' : ∀ x, StkBlk sb stn x → w.heap.size ≤ x := fun x hx => by
    rcases hsb x hx with h1 | h1
    · exact h.sblk x h1
    · omega
  have hzn : ¬ StkBlk sb stn zb := fun h1 => by have := hsb' _ h1; have := h.zw; omega
  have hfl := h.own.blk.lt
  have hgl := h.own.num.inLt gf (inB_is _ _ _)
  refine ⟨h.raw.setD hb hU nz (fun k h1 h2 => ?_) hQ (fun x hx => (hp x hx).1), ?_, stk_set hst hzn, hsb', ?_, ?_, ?_, h.pa, ?_, h.ga, ?_, ?_, h.zw, h.fw, h.gw⟩
  · rcases h2 with h2 | h2
    · exact h.raw.off k h1 h2
    · exact h.ab k (.inl h1) h2
  · exact (h0.own.apart hU hfa (fun k hk => by rw [← inB_some hk]; exact hga)).apart (Upd.set1 w7 zb 3 _) (fun e => by have := h.fw; have := h.zw; omega) (fun k hk e => by have := inB_some hk; have := h.gw; have := h.zw; omega)
  · rintro k (h1 | h1) h2
    · rcases hsb k h2 with h3 | h3
      · exact h.ab k (.inl h1) h3
      · have := h.raw.na.inLt k h1; omega
    · exact (hp k h1).2 h2
  · intro h2
    rcases hsb gf h2 with h3 | h3
    · exact h.gs h3
    · omega
  · intro h2
    rcases hsb fb h2 with h3 | h3
    · exact h.fs h3
    · omega
  · intro k hk
    rcases (hp k hk).1 with h1 | h1
    · exact h.pd k h1
    · exact .inr (by omega)
  · intro h1
    rcases (hp gf h1).1 with h2 | h2
    · exact h.gd h2
    · omega
  · refine (upd_into2 hU (h.upd.then hb) (fun k hk h1 => ?_)).setCell (p := ⟨zb, 3, none⟩) (.inl rfl) _
    rcases h1 with h1 | h1
    · rcases h.pd k h1 with h2 | h2
      · exact .inr (.inr h2)
      · omega
    · have := h.sblk k h1; omega
theorem nm_start {w W1 W2 W3 w4 : World} {zb : Nat} {s : Bool} {a1 a2 : Option Addr} {n1 c1 N n2 c2 D G gf nf cf : Nat} (R : RatRaw w zb s a1 n1 c1 N a2 n2 c2 D) (h1 : W1 = w.alloc (.cells #[.pointer none] 225)) (h2 : W2 = (W1.setCell ⟨zb, 0, none⟩ (.bool false)).setCell ⟨zb, 2, none⟩ (.bool false)) (h3 : W3 = (W2.alloc (.cells #[.bool false, .slice none 0 0] 168)).drew)
    (hU : Upd (· = W2.heap.size) W3 w4) (hO : OwnI 155 w4 W2.heap.size 0 false (some ⟨gf, 0, none⟩) nf cf G) (hg : W3.heap.size ≤ gf) : NM w zb w.heap.size W2.heap.size gf nf cf G a1 a2 N D w4 a1 n1 c1 a2 n2 c2 none := by
  have hb1 : Below w.heap.size w W1 := by rw [h1]; exact Below.alloc' (Below.refl _ _) _
  have s1 : W1.heap.size = w.heap.size + 1 := by rw [h1]; simp
  have s2 : W2.heap.size = W1.heap.size := by rw [h2]; simp
  have R2 : RatRaw W2 zb false a1 n1 c1 N a2 n2 c2 D := by rw [h2]; exact ((R.keep hb1).neg false).neg2
  have hb3 : Below W2.heap.size W2 W3 := by rw [h3]; exact (Below.alloc' (Below.refl _ _) _).drew
  have s3 : W3.heap.size = W2.heap.size + 1 := by rw [h3]; simp
  have lz := R.blk.lt
  have l1 := R.na.inLt
  have l2 := R.nd.inLt
  have hst1 : StkAt W1 w.heap.size none 0 := ⟨rfl, by rw [h1]; exact BlkAt.new _ _ _⟩
  have hzn : ¬ StkBlk w.heap.size none zb := by rintro (h | ⟨_, _, h, _⟩); omega; cases h
  have hst2 : StkAt W2 w.heap.size none 0 := by rw [h2]; exact stk_set (stk_set hst1 hzn) hzn
  have hstk : ∀ x, StkBlk w.heap.size none x → x = w.heap.size := by rintro x (h | ⟨_, _, h, _⟩); exact h; cases h
  have hst4 : StkAt w4 w.heap.size none 0 := ⟨rfl, hU.blk (hst2.keep hb3).2 (by omega)⟩
  have hb12 : Upd (fun k => k = zb ∨ InB a1 k ∨ InB a2 k) w W2 := by
    rw [h2]
    exact ((Upd.of_below hb1).setCell (p := ⟨zb, 0, none⟩) (.inl rfl) _).setCell (p := ⟨zb, 2, none⟩) (.inl rfl) _
  refine ⟨(R2.keep hb3).apart hU (by omega) (fun k hk e => by have := l1 k hk; omega) (fun k hk e => by have := l2 k hk; omega), hO, hst4, fun x hx => by rw [hstk x hx]; exact Nat.le_refl _, ?_, fun h => by have := hstk _ h; omega, fun h => by have := hstk _ h; omega, fun k hk => .inl hk, fun k hk => .inl hk, fun h => by have := l1 _ h; omega, fun h => by have := l2 _ h; omega, ?_, lz, by omega, by omega⟩
  · rintro k (h | h) hx
    · have := l1 k h; have := hstk k hx; omega
    · have := l2 k h; have := hstk k hx; omega
  · exact upd_into2 hU (hb12.then hb3) (fun k hk e => by omega)
theorem nm_done {w wx w4 : World} {zb sb fb gf nf cf G : Nat} {A1 A2 : Option Addr} {X Y : Nat} {a : Option Addr} {n c : Nat} {a' : Option Addr} {n' c' : Nat} {st : Option (Nat × Nat)} {S : Nat → Prop} (h : NM w zb sb fb gf nf cf G A1 A2 X Y wx a n c a' n' c' st) (s : Bool) (hs : s = true → 0 < X) (hY : 0 < Y)
    (hU : Upd S (wx.setCell ⟨zb, 0, none⟩ (.bool s)) w4) (hS : ∀ x, S x → StkBlk sb st x) : RatAt 155 w4 zb s X Y ∧ Upd (fun k => k = zb ∨ InB A1 k ∨ InB A2 k) w w4 := by
  have hz : ¬ S zb := fun h1 => by have := h.sblk _ (hS _ h1); have := h.zw; omega
  exact ⟨((h.raw.neg s).apart hU hz (fun k hk h1 => h.ab k (.inl hk) (hS _ h1)) (fun k hk h1 => h.ab k (.inr hk) (hS _ h1))).rat hs hY,
    upd_into2 hU (h.upd.setCell (p := ⟨zb, 0, none⟩) (.inl rfl) _) (fun k hk h1 => by have := h.sblk _ (hS _ h1); omega)⟩
theorem ratNorm_pos (zb : Nat) (s : Bool) (a1 a2 : Option Addr) (n1 c1 N n2 c2 D : Nat) (w : World) (hK : ThrD w) (R : RatRaw w zb s a1 n1 c1 N a2 n2 c2 D) (hN0 : 0 < N) (hD0 : 0 < D) (L : Nat) (hL : L < 40) (hN : N < W64 ^ L) (hD : D < W64 ^ L) (hv : zb ≠ 3 ∧ ¬ InB a1 3 ∧ ¬ InB a2 3) :
    Calls Tryz.prog 144 #[.pointer (some ⟨zb, 0, none⟩)] w (NormIs zb s a1 a2 N D w) := by
  obtain ⟨G, hG⟩ : ∃ G, G = Nat.gcd N D := ⟨_, rfl⟩
  unfold NormIs
  rw [← hG, decide_eq_true hN0, Bool.and_true]
  have hG0 : 0 < G := by rw [hG]; exact Nat.gcd_pos_of_pos_left _ hN0
  have hGN : G ≤ N := by rw [hG]; exact Nat.gcd_le_left _ hN0
  have hGD : G ≤ D := by rw [hG]; exact Nat.gcd_le_right _ hD0
  have HB := Lib.hid (⟨hN0, hD0, hN, hD, hG0, hGN, hGD⟩ : 0 < N ∧ 0 < D ∧ N < W64 ^ L ∧ D < W64 ^ L ∧ 0 < G ∧ G ≤ N ∧ G ≤ D)
  have HG := Lib.hid hG
  have HV := Lib.hid hv
  have HK := Lib.hid hK
  have HR := Lib.hid R
  have np : 0 < n1 := by have := natAt_pos_len R.na.num; simpa [hN0] using this
  have nq : 0 < n2 := by have := natAt_pos_len R.nd.num; simpa [hD0] using this
  have ncm := R.na.num.cm
  have nnc := R.na.num.nc
  have dcm := R.nd.num.cm
  have dnc := R.nd.num.nc
  unfold maxLen at ncm dcm
  obtain ⟨W1, hW1⟩ : ∃ W1, W1 = w.alloc (.cells #[.pointer none] 225) := ⟨_, rfl⟩
  have hb1 : Below w.heap.size w W1 := by rw [hW1]; exact Below.alloc' (Below.refl _ _) _
  have c1' := (R.keep hb1).k1
  have c2' := (R.keep hb1).k3
  have c0' := (R.keep hb1).k0
  have d1 := R.k1
  have d2 := R.k3
  have f0 := (R.keep hb1).blk.frozen 0
  obtain ⟨W2, hW2⟩ : ∃ W2, W2 = (W1.setCell ⟨zb, 0, none⟩ (.bool false)).setCell ⟨zb, 2, none⟩ (.bool false) := ⟨_, rfl⟩
  have f2 := ((R.keep hb1).neg false).blk.frozen 2
  have k2 := ((R.keep hb1).neg false).k2
  have R2 : RatRaw W2 zb false a1 n1 c1 N a2 n2 c2 D := by rw [hW2]; exact ((R.keep hb1).neg false).neg2
  obtain ⟨W3, hW3⟩ : ∃ W3, W3 = (W2.alloc (.cells #[.bool false, .slice none 0 0] 168)).drew := ⟨_, rfl⟩
  have hb3 : Below W2.heap.size W2 W3 := by rw [hW3]; exact (Below.alloc' (Below.refl _ _) _).drew
  have hn3 : NewInt W3 W2.heap.size 0 := by rw [hW3]; exact (newInt_is W2).keep ((Below.refl _ _).drew)
  have HI := Lib.hid ((⟨R2.ints.1.keep hb3, R2.ints.2.keep hb3⟩) : BigAt 155 W3 zb 0 false N ∧ BigAt 155 W3 zb 2 false D)
  have hthr : ThrD W2 := by
    have h := hK.keep hb1
    rw [hW2]
    exact (h.upd (Upd.set1 W1 zb 0 _) (fun e => hv.1 e.symm)).upd (Upd.set1 _ zb 2 _) (fun e => hv.1 e.symm)
  have HT := Lib.hid (hthr.keep hb3)
  have HLG := Lib.hid (lehmerGCD_any W2.heap.size zb 0 zb 2 false false N D W3 HT.out hn3 HI.out.1 HI.out.2 HB.out.1 HB.out.2.1 L hL HB.out.2.2.1 HB.out.2.2.2.1)
  rw [hW3] at HLG
  have HW3 := Lib.hid hW3
  have HW1 := Lib.hid hW1
  have HW2 := Lib.hid hW2
  have lz := (R.keep hb1).blk.lt
  clear hW3 hb3 hn3 HT HI hN0 hD0 hN hD hG0 hGN hGD hG hv hK R R2 hthr hW1 hW2 hb1
  go_enter_defers Tryz.func144, Tryz.ntmps144
  go_wp2_with fail
  refine (getStack_any _).mono ?_
  rintro e w1 ⟨rfl, hw1⟩
  rw [← HW1.out] at hw1
  subst hw1
  go_upto_region 10 with fail
  rw [← HW2.out]
  go_region_held3 (fun _ => True) (exact trivial)
    (first | (go_at_call 62; (with_reducible refine (newInt0_any _).mono ?_); rintro e w3 ⟨rfl, rfl⟩) | (go_at_call 200; (with_reducible refine HLG.out.mono ?_); rintro e w4 ⟨rfl, hU4, gf, nf, cf, hO4, hg4⟩))
  rw [← HW3.out] at hU4 hg4
  rw [← HG.out] at hO4
  have HM := Lib.hid (nm_start HR.out HW1.out HW2.out HW3.out hU4 hO4 hg4)
  clear hU4 hO4 hg4 c1' c2' c0' d1 d2 f0 f2 k2 HW1 HW2 HW3 HLG
  go_wp2_with fail
  refine (intOne_any _).mono ?_
  rintro e w5 ⟨bo, rfl, hbo, hone, hbel⟩
  have HM5 := Lib.hid (HM.out.keep hbel)
  clear hbel HM
  go_wp2_with fail
  refine (intCmp_any W2.heap.size 0 bo 0 false false G 1 _ (HM5.out.own.toAt (fun h => by cases h)) hone).mono ?_
  rintro e w6 ⟨rfl, hd⟩
  have HM6 := Lib.hid (HM5.out.keep (below_of_drewN hd))
  clear HM5 hone hbo hd
  have HT6 := Lib.hid (HK.out.upd HM6.out.upd (fun h => by rcases h with h | h | h; exact HV.out.1 h.symm; exact HV.out.2.1 h; exact HV.out.2.2 h))
  generalize w6 = W6 at *
  obtain ⟨ck, hck⟩ : ∃ ck, ck = cmpZ (sg false G) (sg false 1) := ⟨_, rfl⟩
  rw [← hck]
  by_cases hG1 : G = 1
  · have hc0 : ck = 0 := by rw [hck, hG1]; decide
    have hcb : (ck != 0) = false := by simp [hc0]
    clear hck
    have kz0 := HM6.out.raw.k0
    have fz0 := HM6.out.raw.blk.frozen 0
    have HSK := Lib.hid (stk_set (i := 0) (v := .bool s) HM6.out.stk (fun h => Nat.not_le_of_lt HM6.out.zw (HM6.out.sblk _ h)))
    go_wp2
    refine leaves_cons (f := 152) (args := #[.pointer (some ⟨w.heap.size, 0, none⟩)]) (by simp) (by simp [go_sem]) ?_
    refine (stkFree_any w.heap.size 0 none .returning _ HSK.out).mono ?_
    rintro e u' w4 ⟨rfl, rfl, hU⟩
    have hF := nm_done HM6.out s (fun _ => HB.out.1) HB.out.2.1 hU (fun x hx => by
      obtain ⟨ib, g, e, h⟩ := hx
      exact .inr ⟨ib, g, e, .inl h⟩)
    have e1 : N / G = N := by rw [hG1, Nat.div_one]
    have e2 : D / G = D := by rw [hG1, Nat.div_one]
    rw [e1, e2]
    exact ⟨_, results_tmp rfl _ _ _, rfl, hF.1, hF.2⟩
  · have hc0 : ck ≠ 0 := by
      rw [hck]
      unfold cmpZ sg
      have := HB.out.2.2.2.2.1
      simp only [if_false, Bool.false_eq_true]
      rw [if_neg (by omega), if_pos (by omega)]
      decide
    have hcb : (ck != 0) = true := by simpa using hc0
    clear hck
    have hlenf : nf < 40 := Nat.lt_of_le_of_lt (len_le W64_gt HM6.out.own.num.num.top (Nat.lt_of_le_of_lt HB.out.2.2.2.2.2.1 HB.out.2.2.1)) hL
    have hlenA : n1 ≤ 900 := Nat.le_trans (len_le W64_gt HM6.out.raw.na.num.top HB.out.2.2.1) (by omega)
    have hdA : Below W6.heap.size W6 W6.drew := (Below.refl _ _).drew
    have hvvA : ¬ InB a1 3 := fun h => by
      rcases HM6.out.pa _ h with h1 | h1
      · exact HV.out.2.1 h1
      · exact Nat.not_le_of_lt (block_lt HK.out) h1
    have HDVA := Lib.hid (show Calls Tryz.prog 145 #[.slice a1 n1 c1, .pointer (some ⟨w.heap.size, 0, none⟩), .slice none 0 0, .slice a1 n1 c1, .slice (some ⟨gf, 0, none⟩) nf cf] W6.drew (DivStk a1 (N / G) w.heap.size none W6.drew) from
      natDiv_stk w.heap.size none a1 n1 c1 N (some ⟨gf, 0, none⟩) nf cf G W6.drew (HT6.out.keep hdA) (HM6.out.stk.keep hdA) (HM6.out.raw.na.keep hdA) (HM6.out.own.num.keep hdA) (by have := HB.out.2.2.2.2.1; omega) HB.out.2.2.2.2.2.1 hlenA hlenf (fun k hk => HM6.out.ab k (.inl hk)) (fun k hk => by rw [← inB_some hk]; exact HM6.out.gs)
        ⟨hvvA, fun h => Nat.not_le_of_lt (block_lt HK.out) (HM6.out.sblk _ h)⟩)
    have kA := HM6.out.raw.k1
    have kfA : W6.cell? ⟨W2.heap.size, 1, none⟩ = some (.slice (some ⟨gf, 0, none⟩) nf cf) := HM6.out.own.c1
    have hzzA : ¬ (InB a1 zb ∨ StkBlk w.heap.size none zb) := by
      rintro (h | h)
      · exact HM6.out.raw.blk.notIn HM6.out.raw.na h
      · have := HM6.out.sblk _ h; have := HM6.out.zw; omega
    go_upto_region 12 with fail
    try rw [hcb]
    go_cut [] from 63 to 85 (fun wx => ∃ a n c a' n' c' st, NM w zb w.heap.size W2.heap.size gf nf cf G a1 a2 (N / G) D wx a n c a' n' c' st)
    case first =>
      refine wp_region_noPanic ?_
      go_region_with
        ((go_at_call 145; (with_reducible refine HDVA.out.mono ?_); rintro e w7 ⟨a, n, c, rr, st', rfl, hQ, hst, hsb, hU, hp⟩; have HF := Lib.hid (HM6.out.stepA hdA hQ hst hsb hU hp); have z1 : w7.cell? ⟨zb, 1, none⟩ = some (.slice a1 n1 c1) := (by rw [hU.cell (p := ⟨zb, 1, none⟩) (HM6.out.raw.blk.keep hdA).lt hzzA]; exact cell_keep kA hdA); have g1 := ((HM6.out.raw.blk.keep hdA).upd hU hzzA).frozen 1; clear hQ hst hsb hU hp))
      all_goals
        refine NoPanic.normal ?_
        go_wp2_with fail
        go_meet
        exact ⟨_, _, _, _, _, _, _, HF.out⟩
    case rest =>
      obtain ⟨a, n, c, a', n', c', st, hcut⟩ := hcut
      have HM7 := Lib.hid hcut
      have HT7 := Lib.hid (HK.out.upd HM7.out.upd (fun h => by rcases h with h | h | h; exact HV.out.1 h.symm; exact HV.out.2.1 h; exact HV.out.2.2 h))
      clear hcut kA kfA hzzA hlenA hvvA HDVA hdA HM6 HT6
      have hlenD : n' ≤ 900 := Nat.le_trans (len_le W64_gt HM7.out.raw.nd.num.top HB.out.2.2.2.1) (by omega)
      have hdD : Below wc.heap.size wc wc.drew := (Below.refl _ _).drew
      have hvvD : ¬ InB a' 3 := fun h => by
        rcases HM7.out.pd _ h with h1 | h1
        · exact HV.out.2.2 h1
        · exact Nat.not_le_of_lt (block_lt HK.out) h1
      have HDVD := Lib.hid (show Calls Tryz.prog 145 #[.slice a' n' c', .pointer (some ⟨w.heap.size, 0, none⟩), .slice none 0 0, .slice a' n' c', .slice (some ⟨gf, 0, none⟩) nf cf] wc.drew (DivStk a' (D / G) w.heap.size st wc.drew) from
        natDiv_stk w.heap.size st a' n' c' D (some ⟨gf, 0, none⟩) nf cf G wc.drew (HT7.out.keep hdD) (HM7.out.stk.keep hdD) (HM7.out.raw.nd.keep hdD) (HM7.out.own.num.keep hdD) (by have := HB.out.2.2.2.2.1; omega) HB.out.2.2.2.2.2.2 hlenD hlenf (fun k hk => HM7.out.ab k (.inr hk)) (fun k hk => by rw [← inB_some hk]; exact HM7.out.gs)
          ⟨hvvD, fun h => Nat.not_le_of_lt (block_lt HK.out) (HM7.out.sblk _ h)⟩)
      have kD := HM7.out.raw.k3
      have kfD : wc.cell? ⟨W2.heap.size, 1, none⟩ = some (.slice (some ⟨gf, 0, none⟩) nf cf) := HM7.out.own.c1
      have hzzD : ¬ (InB a' zb ∨ StkBlk w.heap.size st zb) := by
        rintro (h | h)
        · exact HM7.out.raw.blk.notIn HM7.out.raw.nd h
        · have := HM7.out.sblk _ h; have := HM7.out.zw; omega
      go_upto_region 13 with fail
      skip
      go_cut [] from 86 to 108 (fun wx => ∃ a n c a' n' c' st, NM w zb w.heap.size W2.heap.size gf nf cf G a1 a2 (N / G) (D / G) wx a n c a' n' c' st)
      case first =>
        refine wp_region_noPanic ?_
        go_region_with
          ((go_at_call 145; (with_reducible refine HDVD.out.mono ?_); rintro e w7 ⟨a, n, c, rr, st', rfl, hQ, hst, hsb, hU, hp⟩; have HF := Lib.hid (HM7.out.stepD hdD hQ hst hsb hU hp); have z1 : w7.cell? ⟨zb, 3, none⟩ = some (.slice a' n' c') := (by rw [hU.cell (p := ⟨zb, 3, none⟩) (HM7.out.raw.blk.keep hdD).lt hzzD]; exact cell_keep kD hdD); have g1 := ((HM7.out.raw.blk.keep hdD).upd hU hzzD).frozen 3; clear hQ hst hsb hU hp))
        all_goals
          refine NoPanic.normal ?_
          go_wp2_with fail
          go_meet
          exact ⟨_, _, _, _, _, _, _, HF.out⟩
      case rest =>
        obtain ⟨a, n, c, a', n', c', st, hcut⟩ := hcut
        have HM8 := Lib.hid hcut
        clear hcut kD kfD hzzD hlenD hvvD HDVD hdD HM7 HT7
        have kz0 := HM8.out.raw.k0
        have fz0 := HM8.out.raw.blk.frozen 0
        have HSK := Lib.hid (stk_set (i := 0) (v := .bool s) HM8.out.stk (fun h => Nat.not_le_of_lt HM8.out.zw (HM8.out.sblk _ h)))
        go_wp2
        refine leaves_cons (f := 152) (args := #[.pointer (some ⟨w.heap.size, 0, none⟩)]) (by simp) (by simp [go_sem]) ?_
        refine (stkFree_any w.heap.size 0 st .returning _ HSK.out).mono ?_
        rintro e u' w4 ⟨rfl, rfl, hU⟩
        have hF := nm_done HM8.out s (fun _ => Nat.div_pos HB.out.2.2.2.2.2.1 HB.out.2.2.2.2.1) (Nat.div_pos HB.out.2.2.2.2.2.2 HB.out.2.2.2.2.1) hU (fun x hx => by
          obtain ⟨ib, g, e, h⟩ := hx
          exact .inr ⟨ib, g, e, .inl h⟩)
        exact ⟨_, results_tmp rfl _ _ _, rfl, hF.1, hF.2⟩
theorem ratNorm_any (zb : Nat) (s : Bool) (a1 a2 : Option Addr) (n1 c1 N n2 c2 D : Nat) (w : World) (hK : ThrD w) (R : RatRaw w zb s a1 n1 c1 N a2 n2 c2 D) (hD0 : 0 < D) (L : Nat) (hL : L < 40) (hN : N < W64 ^ L) (hD : D < W64 ^ L) (hv : zb ≠ 3 ∧ ¬ InB a1 3 ∧ ¬ InB a2 3) :
    Calls Tryz.prog 144 #[.pointer (some ⟨zb, 0, none⟩)] w (NormIs zb s a1 a2 N D w) := by
  rcases Nat.eq_zero_or_pos N with h | h
  · subst h; exact ratNorm_zero zb s a1 a2 n1 c1 n2 c2 D w R hD0
  · exact ratNorm_pos zb s a1 a2 n1 c1 N n2 c2 D w hK R h hD0 L hL hN hD hv
def FracIs (zb : Nat) (s : Bool) (N D : Nat) (w : World) (e : Ending) (w' : World) : Prop :=
  e = .returned (.pointer (some ⟨zb, 0, none⟩)) ∧ RatAt 155 w' zb (s && decide (0 < N)) (N / Nat.gcd N D) (D / Nat.gcd N D) ∧ Upd (· = zb) w w'
theorem natSet_none (a : Option Addr) (n c N : Nat) (w : World) (h : NumAt .u64 W64 w a n c N) (hn : n ≤ 1000000) :
    Calls Tryz.prog 143 #[.slice none 0 0, .slice a n c] w (GivesI 155 none N w) := by
  rcases Nat.eq_zero_or_pos n with h0 | h0
  · subst h0
    have hN : N = 0 := by have := h.lt; simpa using this
    subst hN
    refine (natSet0_any none 0 0 0 a c w (BigN.nil _ _)).mono ?_
    rintro e w' ⟨rfl, rfl⟩
    exact ⟨none, 0, 0, rfl, BigN.nil _ _, Upd.refl _ _, fun k h => (inB_none h).elim⟩
  · exact natSet_into none 0 0 0 a n c N w (BigN.nil _ _) h h0 hn (fun _ _ h => inB_none h)
structure FracUp (w : World) (zb : Nat) (s : Bool) (N D : Nat) (wx : World) (a1 : Option Addr) (n1 c1 : Nat) (a2 : Option Addr) (n2 c2 : Nat) : Prop where
  raw : RatRaw wx zb s a1 n1 c1 N a2 n2 c2 D
  f1 : ∀ k, InB a1 k → w.heap.size ≤ k
  f2 : ∀ k, InB a2 k → w.heap.size ≤ k
  upd : Upd (· = zb) w wx
theorem FracUp.keep {w wx wy : World} {zb : Nat} {s : Bool} {N D : Nat} {a1 a2 : Option Addr} {n1 c1 n2 c2 : Nat} (h : FracUp w zb s N D wx a1 n1 c1 a2 n2 c2) (hb : Below wx.heap.size wx wy) : FracUp w zb s N D wy a1 n1 c1 a2 n2 c2 :=
  ⟨h.raw.keep hb, h.f1, h.f2, h.upd.then hb⟩
theorem FracUp.start {w : World} {zb : Nat} (h : NewRat w zb) : FracUp w zb false 0 0 w none 0 0 none 0 0 :=
  ⟨⟨h.blk, BlkAt.cell h 0, BlkAt.cell h 1, BlkAt.cell h 2, BlkAt.cell h 3, BigN.nil _ _, BigN.nil _ _, fun k h => (inB_none h).elim⟩, fun k h => (inB_none h).elim, fun k h => (inB_none h).elim, Upd.refl _ _⟩
theorem FracUp.neg {w wx : World} {zb : Nat} {s : Bool} {N D : Nat} {a1 a2 : Option Addr} {n1 c1 n2 c2 : Nat} (h : FracUp w zb s N D wx a1 n1 c1 a2 n2 c2) (t : Bool) : FracUp w zb t N D (wx.setCell ⟨zb, 0, none⟩ (.bool t)) a1 n1 c1 a2 n2 c2 :=
  ⟨h.raw.neg t, h.f1, h.f2, h.upd.setCell (p := ⟨zb, 0, none⟩) rfl _⟩
theorem FracUp.setA {w wx w0 w7 : World} {zb : Nat} {s : Bool} {N D : Nat} {a1 a2 : Option Addr} {n1 c1 n2 c2 : Nat} (h : FracUp w zb s N D wx a1 n1 c1 a2 n2 c2) (hb : Below wx.heap.size wx w0) {a : Option Addr} {n c Q : Nat} (hU : Upd (InB none) w0 w7) (hQ : BigN 155 w7 a n c Q) (hp : ∀ k, InB a k → InB none k ∨ w0.heap.size ≤ k) :
    FracUp w zb s Q D (w7.setCell ⟨zb, 1, none⟩ (.slice a n c)) a n c a2 n2 c2 := by
  have hs := h.upd.size
  have hs0 := hb.size
  have hN : ∀ k, ¬ InB none k := fun k h => inB_none h
  exact ⟨h.raw.setA hb hU (hN _) (fun k _ => hN k) hQ (fun k hk => (hp k hk).imp (fun h => (hN _ h).elim) id), fun k hk => (hp k hk).elim (fun h => (hN _ h).elim) (fun h => by omega), h.f2, (upd_into2 hU (h.upd.then hb) (fun k _ hk => (hN _ hk).elim)).setCell (p := ⟨zb, 1, none⟩) rfl _⟩
theorem FracUp.setD {w wx w0 w7 : World} {zb : Nat} {s : Bool} {N D : Nat} {a1 a2 : Option Addr} {n1 c1 n2 c2 : Nat} (h : FracUp w zb s N D wx a1 n1 c1 a2 n2 c2) (hb : Below wx.heap.size wx w0) {a : Option Addr} {n c Q : Nat} (hU : Upd (InB none) w0 w7) (hQ : BigN 155 w7 a n c Q) (hp : ∀ k, InB a k → InB none k ∨ w0.heap.size ≤ k) :
    FracUp w zb s N Q (w7.setCell ⟨zb, 3, none⟩ (.slice a n c)) a1 n1 c1 a n c := by
  have hs := h.upd.size
  have hs0 := hb.size
  have hN : ∀ k, ¬ InB none k := fun k h => inB_none h
  exact ⟨h.raw.setD hb hU (hN _) (fun k _ => hN k) hQ (fun k hk => (hp k hk).imp (fun h => (hN _ h).elim) id), h.f1, fun k hk => (hp k hk).elim (fun h => (hN _ h).elim) (fun h => by omega), (upd_into2 hU (h.upd.then hb) (fun k _ hk => (hN _ hk).elim)).setCell (p := ⟨zb, 3, none⟩) rfl _⟩
theorem FracUp.norm {w wx : World} {zb : Nat} {s : Bool} {N D : Nat} {a1 a2 : Option Addr} {n1 c1 n2 c2 : Nat} (h : FracUp w zb s N D wx a1 n1 c1 a2 n2 c2) (hK : ThrD w) (hv : zb ≠ 3) (hD0 : 0 < D) (L : Nat) (hL : L < 40) (hN : N < W64 ^ L) (hD : D < W64 ^ L) :
    Calls Tryz.prog 144 #[.pointer (some ⟨zb, 0, none⟩)] wx (FracIs zb s N D w) := by
  have hl := block_lt hK
  refine (ratNorm_any zb s a1 a2 n1 c1 N n2 c2 D wx (hK.upd h.upd (fun e => hv e.symm)) h.raw hD0 L hL hN hD ⟨hv, fun h' => Nat.not_le_of_lt hl (h.f1 _ h'), fun h' => Nat.not_le_of_lt hl (h.f2 _ h')⟩).mono ?_
  rintro e w' ⟨rfl, hR, hU⟩
  exact ⟨rfl, hR, upd_into2 hU h.upd (fun k hk hx => by
    rcases hx with h1 | h1 | h1
    · exact h1
    · have := h.f1 k h1; omega
    · have := h.f2 k h1; omega)⟩
end Go.Proofs.YtgmienggfaahlaaGreatDoor
