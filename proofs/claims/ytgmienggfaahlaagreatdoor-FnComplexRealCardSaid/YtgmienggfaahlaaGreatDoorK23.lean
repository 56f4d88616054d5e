/-
  Contracts and lemmas: DivD Rg SubS.
-/
import Derived.Test.YtgmienggfaahlaaGreatDoorK22
import Derived.Test.YtgmienggfaahlaaGreatDoorK21
import Derived.Test.YtgmienggfaahlaaGreatDoorK20
import Derived.Test.YtgmienggfaahlaaGreatDoorK17
import Derived.Test.YtgmienggfaahlaaGreatDoorK05
set_option linter.unusedSimpArgs false
set_option linter.unusedVariables false
set_option maxRecDepth 100000
set_option maxHeartbeats 8000000
namespace Go.Proofs.YtgmienggfaahlaaGreatDoor
open Go.RowKit Go.Bg Dg
theorem innerFree_any (ib : Nat) (a : Option Addr) (l c : Nat) (w : World) (h : BlkAt w ib #[.slice a l c] 258) (hlc : l ≤ c) (hc : c ≤ 9223372036854775807) :
    Calls Tryz.prog 204 #[.pointer (some ⟨ib, 0, none⟩)] w fun e w' => e = .returned (.tuple #[]) ∧ w' = w.setCell ⟨ib, 0, none⟩ (.slice a 0 c) := by
  have h0 := h.cell 0
  simp only [List.getElem?_toArray, List.getElem?_cons_zero] at h0
  have f0 := h.frozen 0
  clear h
  go_enter Tryz.func204, Tryz.ntmps204
  go_wp2
  go_end0
  exact ⟨rfl, rfl⟩
theorem stkFree_none_d (sb : Nat) (u : FrameMode) (w : World) (h : w.cell? ⟨sb, 0, none⟩ = some (.pointer none)) :
    CallsD Tryz.prog 152 #[.pointer (some ⟨sb, 0, none⟩)] u w fun e u' w' => u' = u ∧ (e = .returned (.tuple #[]) ∧ w' = w) := free_d sb u w h
theorem stkFree_has_d (sb ib : Nat) (a : Option Addr) (l c : Nat) (u : FrameMode) (w : World) (h : w.cell? ⟨sb, 0, none⟩ = some (.pointer (some ⟨ib, 0, none⟩))) (h2 : BlkAt w ib #[.slice a l c] 258) (hlc : l ≤ c) (hc : c ≤ 9223372036854775807) :
    CallsD Tryz.prog 152 #[.pointer (some ⟨sb, 0, none⟩)] u w fun e u' w' => u' = u ∧ (e = .returned (.tuple #[]) ∧ w' = w.setCell ⟨ib, 0, none⟩ (.slice a 0 c)) := by
  have HR := Lib.hid (innerFree_any ib a l c w h2 hlc hc)
  clear h2
  go_enter_d Tryz.func152, Tryz.ntmps152
  go_wp2_with fail
  refine HR.out.mono ?_
  rintro e w1 ⟨rfl, rfl⟩
  go_wp2
  exact ⟨rfl, _, results_none (by kernel_rfl) _ _ _, rfl, rfl⟩
theorem stkFree_any (sb l : Nat) (st : Option (Nat × Nat)) (u : FrameMode) (w : World) (h : StkAt w sb st l) :
    CallsD Tryz.prog 152 #[.pointer (some ⟨sb, 0, none⟩)] u w fun e u' w' => u' = u ∧ (e = .returned (.tuple #[]) ∧ Upd (fun k => ∃ ib g, st = some (ib, g) ∧ k = ib) w w') := by
  rcases st with _ | ⟨ib, g⟩
  · obtain ⟨rfl, hb⟩ := h
    have h0 := hb.cell 0
    refine (stkFree_none_d sb u w (by simpa using h0)).mono ?_
    rintro e u' w' ⟨rfl, rfl, rfl⟩
    exact ⟨rfl, rfl, Upd.refl _ _⟩
  · obtain ⟨c, cur, e1, e2, e3, e4, e5, e6⟩ := h
    have h0 := e1.cell 0
    refine (stkFree_has_d sb ib _ l c u w (by simpa using h0) e2 e5 (by unfold maxLen at e6; omega)).mono ?_
    rintro e u' w' ⟨rfl, rfl, rfl⟩
    exact ⟨rfl, rfl, (Upd.set1 w ib 0 _).mono (fun k _ hk => ⟨ib, g, rfl, hk⟩)⟩
theorem ThrD.upd {S : Nat → Prop} {w w' : World} (h : ThrD w) (hu : Upd S w w') (hs : ¬ S 3) : ThrD w' := by
  unfold ThrD at *
  rw [hu.cell (p := ⟨3, 0, none⟩) (block_lt h) hs]; exact h
theorem natDiv_great_into (az azu : Option Addr) (nz cz Z nzu czu ZU : Nat) (a1 a2 : Option Addr) (n1 n2 c1 c2 N M : Nat) (w : World) (hK : ThrD w) (hz : BigN 155 w az nz cz Z) (hzu : BigN 155 w azu nzu czu ZU) (h1 : BigN 155 w a1 n1 c1 N) (h2 : BigN 155 w a2 n2 c2 M) (hn2 : 2 ≤ n2) (hn1 : n1 ≤ 900) (hn40 : n2 < 40) (hge : M ≤ N)
    (hne : ∀ k, InB azu k → ¬ InB az k ∧ ¬ InB a1 k ∧ ¬ InB a2 k) (hv : ¬ InB az 3 ∧ ¬ InB azu 3) :
    Calls Tryz.prog 145 #[.slice az nz cz, .pointer none, .slice azu nzu czu, .slice a1 n1 c1, .slice a2 n2 c2] w (GivesDI az azu (N / M) (N % M) w) := by
  have hle : n2 ≤ n1 := len_le W64_gt h2.num.top (Nat.lt_of_le_of_lt hge h1.num.lt)
  have z0 : ((n2 : Int) == 0) = false := by simp; omega
  have z1 : ((n2 : Int) == 1) = false := by simp; omega
  have hm1 := h1.num.cm
  have hc1 := h1.num.nc
  have hm2 := h2.num.cm
  have hc2 := h2.num.nc
  have hczm := hz.num.cm
  have hncz := hz.num.nc
  have hczum := hzu.num.cm
  have hnczu := hzu.num.nc
  unfold maxLen at hm1 hm2 hczm hczum
  have HC := Lib.hid (natCmp_any a1 a2 n1 n2 c1 c2 N M w h1.num h2.num)
  obtain ⟨c0, hc0⟩ : ∃ c0, c0 = cmpI N M := ⟨_, rfl⟩
  have hc0g : ¬ c0 < 0 := by rw [hc0]; exact cmpI_ge hge
  rw [← hc0] at HC
  have H1 := Lib.hid h1
  have H2 := Lib.hid h2
  have HZ := Lib.hid hz
  have HZU := Lib.hid hzu
  have HNE := Lib.hid hne
  have HV := Lib.hid hv
  have HK := Lib.hid hK
  have HLO := Lib.hid (⟨fun p hp => h1.inLt _ ⟨p, hp, rfl⟩, fun p hp => h2.inLt _ ⟨p, hp, rfl⟩⟩ : (∀ p, a1 = some p → p.block < w.heap.size) ∧ (∀ p, a2 = some p → p.block < w.heap.size))
  clear h1 h2 hge hc0 hK hz hzu hne hv
  go_enter_defers Tryz.func145, Tryz.ntmps145
  go_wp2_with fail
  refine HC.out.mono ?_
  rintro e w1 ⟨rfl, m, rfl⟩
  have hb1 : Below w.heap.size w (w.drewN m) := below_drewN (Below.refl _ _) m
  go_wp2_with fail
  refine (getStack_any _).mono ?_
  rintro e w2 ⟨rfl, hw2⟩
  obtain ⟨sb, hsb⟩ : ∃ sb, sb = (w.drewN m).heap.size := ⟨_, rfl⟩
  rw [← hsb]
  have hb2 : Below (w.drewN m).heap.size (w.drewN m) w2 := by rw [hw2]; exact Below.alloc' (Below.refl _ _) _
  have hS2 : StkAt w2 sb none 0 := ⟨rfl, by rw [hw2, hsb]; exact BlkAt.new _ _ _⟩
  have hbb := Below.then hb1 (Nat.le_refl _) hb2
  have hsl : w.heap.size ≤ sb := by rw [hsb]; exact hb1.size
  obtain ⟨S, hS⟩ : ∃ S : Nat → Prop, S = fun k => InB az k ∨ InB azu k ∨ w.heap.size ≤ k := ⟨_, rfl⟩
  have hSv : ¬ S 3 := by
    rw [hS]
    rintro (h | h | h)
    · exact HV.out.1 h
    · exact HV.out.2 h
    · have := block_lt HK.out
      exact absurd h (Nat.not_le_of_lt this)
  have hstk : ∀ x, x < w.heap.size → ¬ StkBlk sb none x := by
    rintro x hx (h | ⟨_, _, h, _⟩)
    · omega
    · cases h
  have HDL := Lib.hid (show Calls Tryz.prog 203 #[.slice az nz cz, .pointer (some ⟨sb, 0, none⟩), .slice azu nzu czu, .slice a1 n1 c1, .slice a2 n2 c2] w2 (DivRes az azu N M sb none 0 S w w2) from
    divLarge_into sb 0 S none az azu a1 a2 nz cz Z nzu czu ZU n1 n2 c1 c2 N M w w2 (fun w' hb => HK.out.upd hb hSv) (H1.out.keep hbb) (H2.out.keep hbb) (HZ.out.keep hbb) (HZU.out.keep hbb)
      (fun k hk => ⟨by rw [hS]; exact .inl hk, hstk k (HZ.out.inLt k hk)⟩)
      (fun k hk => ⟨by rw [hS]; exact .inr (.inl hk), hstk k (HZU.out.inLt k hk), HNE.out k hk⟩) hn2 hle hn1 hn40 hS2 (by omega)
      (by rintro x (rfl | ⟨_, _, h, _⟩); rw [hS]; exact .inr (.inr hsl); cases h)
      (fun p hp => hstk _ (HLO.out.1 p hp)) (fun p hp => hstk _ (HLO.out.2 p hp)) (Upd.of_below hbb) (fun x hx => by rw [hS]; exact .inr (.inr (Nat.le_trans hbb.size hx))))
  have HSL := Lib.hid (⟨hsl, hbb.size, hS⟩ : w.heap.size ≤ sb ∧ w.heap.size ≤ w2.heap.size ∧ S = fun k => InB az k ∨ InB azu k ∨ w.heap.size ≤ k)
  clear hw2 hsb hb1 hb2 hS2 hbb hsl HC hSv hstk hS
  go_wp2_with fail
  refine HDL.out.mono ?_
  rintro e w3 ⟨a, n, c, a', n', c', st', l', rfl, hQ, hR, hst, -, hblk, hbel, hsz, hpa, hpb⟩
  have HQ := Lib.hid hQ
  have HR := Lib.hid hR
  have HE := Lib.hid (⟨hst, hblk, hbel, hpa, hpb⟩ : StkAt w3 sb st' l' ∧ (∀ x, StkBlk sb st' x → StkBlk sb none x ∨ w2.heap.size ≤ x) ∧ Upd S w w3 ∧ (∀ k, InB a k → (InB az k ∨ w2.heap.size ≤ k) ∧ ¬ InB a' k ∧ ¬ StkBlk sb st' k) ∧ (∀ k, InB a' k → (InB azu k ∨ w2.heap.size ≤ k) ∧ ¬ StkBlk sb st' k))
  clear hQ hR hst hblk hbel hsz HDL hpa hpb
  go_wp2
  refine leaves_cons (f := 152) (args := #[.pointer (some ⟨sb, 0, none⟩)]) (by simp) (by simp [go_sem]) ?_
  refine (stkFree_any sb l' st' .returning _ HE.out.1).mono ?_
  rintro e u' w4 ⟨rfl, rfl, hU⟩
  have hS4 : ∀ k, k < w3.heap.size → (∃ ib g, st' = some (ib, g) ∧ k = ib) → Strct 155 w3 k := by
    rintro k _ ⟨ib, g, e, rfl⟩
    subst e
    obtain ⟨c, cur, e1, e2, _⟩ := HE.out.1
    exact ⟨_, _, e2, by decide⟩
  have hup : Upd S w w4 := hU.into HE.out.2.2.1 (fun x _ hx => by
    obtain ⟨ib, g, e, h⟩ := hx
    rw [HSL.out.2.2]
    refine .inr (.inr ?_)
    rcases HE.out.2.1 x (.inr ⟨ib, g, e, .inl h⟩) with (h | ⟨_, _, h, _⟩) | h
    · rw [h]; exact HSL.out.1
    · cases h
    · exact Nat.le_trans HSL.out.2.1 h)
  refine ⟨.tuple #[.slice a n c, .slice a' n' c'], by simp [results, Tryz.results145, go_sem], _, _, _, _, _, _, rfl, HQ.out.upd hU hS4, HR.out.upd hU hS4, hup.mono (fun k hk hx => ?_), fun k hk => ⟨?_, (HE.out.2.2.2.1 k hk).2.1⟩, fun k hk => ?_⟩
  · rw [HSL.out.2.2] at hx
    rcases hx with h | h | h
    · exact .inl h
    · exact .inr h
    · omega
  · rcases (HE.out.2.2.2.1 k hk).1 with h | h
    · exact .inl h
    · exact .inr (Nat.le_trans HSL.out.2.1 h)
  · rcases (HE.out.2.2.2.2 k hk).1 with h | h
    · exact .inl h
    · exact .inr (Nat.le_trans HSL.out.2.1 h)
theorem natDiv_into (az azu : Option Addr) (nz cz Z nzu czu ZU : Nat) (a1 a2 : Option Addr) (n1 n2 c1 c2 N M : Nat) (w : World) (hK : ThrD w) (hz : BigN 155 w az nz cz Z) (hzu : BigN 155 w azu nzu czu ZU) (h1 : BigN 155 w a1 n1 c1 N) (h2 : BigN 155 w a2 n2 c2 M) (hM : 0 < M) (hn1 : n1 ≤ 900) (hn40 : n2 < 40) (hge : M ≤ N)
    (hne : ∀ k, InB azu k → ¬ InB az k ∧ ¬ InB a1 k ∧ ¬ InB a2 k) (hd : ∀ k, InB a1 k → ¬ InB az k) (hv : ¬ InB az 3 ∧ ¬ InB azu 3) :
    Calls Tryz.prog 145 #[.slice az nz cz, .pointer none, .slice azu nzu czu, .slice a1 n1 c1, .slice a2 n2 c2] w (GivesDI az azu (N / M) (N % M) w) := by
  have hp := natAt_pos_len h2.num
  have hn : 0 < n2 := by simpa [hM] using hp
  by_cases e1 : n2 = 1
  · subst e1
    exact natDiv_word_into (.pointer none) az azu nz cz Z nzu czu ZU a1 a2 n1 c1 c2 N M w hz hzu h1 h2 (by omega) (fun k h => (hne k h).1) (fun _ _ => hd)
  · exact natDiv_great_into az azu nz cz Z nzu czu ZU a1 a2 n1 n2 c1 c2 N M w hK hz hzu h1 h2 (by omega) hn1 hn40 hge hne hv
end Go.Proofs.YtgmienggfaahlaaGreatDoor
namespace Go.Bg
open Go.RowKit Dg
structure Rg where
  b : Nat
  s : Bool
  a : Option Addr
  n : Nat
  c : Nat
  N : Nat
structure Rg.At (T : TypeId) (w : World) (x : Rg) : Prop where
  blk : Strct T w x.b
  c0 : w.cell? ⟨x.b, 0, none⟩ = some (.bool x.s)
  c1 : w.cell? ⟨x.b, 1, none⟩ = some (.slice x.a x.n x.c)
  num : BigN T w x.a x.n x.c x.N
def Rg.S (x : Rg) (k : Nat) : Prop := k = x.b ∨ InB x.a k
def Rg.Off (x y : Rg) : Prop := ∀ k, x.S k → ¬ y.S k
structure Rg.To (T : TypeId) (x x' : Rg) (w w' : World) : Prop where
  b : x'.b = x.b
  at' : x'.At T w'
  upd : Upd x.S w w'
  room : ∀ k, InB x'.a k → InB x.a k ∨ w.heap.size ≤ k
theorem Rg.At.lt {T : TypeId} {w : World} {x : Rg} (h : x.At T w) : ∀ k, x.S k → k < w.heap.size := by
  rintro k (rfl | hk)
  · exact h.blk.lt
  · exact h.num.inLt k hk
theorem Rg.At.keep {T : TypeId} {w w' : World} {x : Rg} (h : x.At T w) (hb : Below w.heap.size w w') : x.At T w' :=
  ⟨h.blk.keep hb, cell_keep h.c0 hb, cell_keep h.c1 hb, h.num.keep hb⟩
theorem Rg.At.apart {T : TypeId} {w w' : World} {x : Rg} {S : Nat → Prop} (h : x.At T w) (hu : Upd S w w') (hs : ∀ k, x.S k → ¬ S k) : x.At T w' :=
  ⟨h.blk.upd hu (hs _ (.inl rfl)), by rw [hu.cell (p := ⟨x.b, 0, none⟩) h.blk.lt (hs _ (.inl rfl))]; exact h.c0, by rw [hu.cell (p := ⟨x.b, 1, none⟩) h.blk.lt (hs _ (.inl rfl))]; exact h.c1, h.num.apart hu (fun k hk => hs k (.inr hk))⟩
theorem Rg.Off.symm {x y : Rg} (h : x.Off y) : y.Off x := fun k h1 h2 => h k h2 h1
theorem Rg.Off.ne {x y : Rg} (h : x.Off y) : x.b ≠ y.b := fun e => h x.b (.inl rfl) (.inl e)
theorem Rg.Off.dat {x y : Rg} (h : x.Off y) : ∀ k, InB x.a k → ¬ InB y.a k := fun k h1 h2 => h k (.inr h1) (.inr h2)
theorem Rg.To.S {T : TypeId} {x x' : Rg} {w w' : World} (h : x.To T x' w w') : ∀ k, x'.S k → x.S k ∨ w.heap.size ≤ k := by
  rintro k (rfl | hk)
  · rw [h.b]; exact .inl (.inl rfl)
  · exact (h.room k hk).imp .inr id
theorem Rg.At.other {T : TypeId} {w w' : World} {x x' y : Rg} (h : y.At T w) (ht : x.To T x' w w') (ho : y.Off x) : y.At T w' := h.apart ht.upd ho
theorem Rg.Off.to {T : TypeId} {w w' : World} {x x' y : Rg} (ho : y.Off x) (h : y.At T w) (ht : x.To T x' w w') : y.Off x' := fun k h1 h2 => by
  rcases ht.S k h2 with h3 | h3
  · exact ho k h1 h3
  · have := h.lt k h1; omega
theorem Rg.To.trans {T : TypeId} {w w1 w2 : World} {x y z : Rg} (h : x.To T y w w1) (k : y.To T z w1 w2) : x.To T z w w2 :=
  ⟨k.b.trans h.b, k.at', ⟨k.upd.os.trans h.upd.os, k.upd.tape.trans h.upd.tape, k.upd.output.trans h.upd.output, Nat.le_trans h.upd.size k.upd.size, fun i hi hs => by
    have h1 : ¬ y.S i := fun e => by
      rcases h.S i e with h2 | h2
      · exact hs h2
      · omega
    exact (k.upd.block i (Nat.lt_of_lt_of_le hi h.upd.size) h1).trans (h.upd.block i hi hs)⟩, fun i hi => by
    rcases k.room i hi with h1 | h1
    · exact h.room i h1
    · exact .inr (Nat.le_trans h.upd.size h1)⟩
theorem Rg.At.notIn {T : TypeId} {w : World} {x y : Rg} (h : x.At T w) (k : y.At T w) : ¬ InB y.a x.b := h.blk.notIn k.num
theorem Rg.At.done {T : TypeId} {w w0 w1 : World} {x : Rg} (h : x.At T w) (hb : Below w.heap.size w w0) (hU : Upd (InB x.a) w0 w1) {a : Option Addr} {n c N : Nat} (hN : BigN T w1 a n c N) (hP : ∀ k, InB a k → InB x.a k ∨ w0.heap.size ≤ k) (s : Bool) :
    x.To T ⟨x.b, s, a, n, c, N⟩ w ((w1.setCell ⟨x.b, 1, none⟩ (.slice a n c)).setCell ⟨x.b, 0, none⟩ (.bool s)) := by
  have h0 := h.keep hb
  have hn := h.notIn h
  have hs := h0.blk.upd hU hn
  have c0 : w1.cell? ⟨x.b, 0, none⟩ = some (.bool x.s) := by rw [hU.cell (p := ⟨x.b, 0, none⟩) h0.blk.lt hn]; exact h0.c0
  have c1 : w1.cell? ⟨x.b, 1, none⟩ = some (.slice x.a x.n x.c) := by rw [hU.cell (p := ⟨x.b, 1, none⟩) h0.blk.lt hn]; exact h0.c1
  have ho := OwnI.stored (o := 0) (s := s) hs ⟨_, c0⟩ ⟨_, c1⟩ hN
  refine ⟨rfl, ⟨ho.blk, ho.c0, ho.c1, ho.num⟩, (((Upd.of_below hb).trans (hU.mono (fun k _ hk => .inr hk))).setCell (p := ⟨x.b, 1, none⟩) (.inl rfl) _).setCell (p := ⟨x.b, 0, none⟩) (.inl rfl) _, fun k hk => (hP k hk).imp id (Nat.le_trans hb.size)⟩
theorem Rg.At.big {T : TypeId} {w : World} {x : Rg} (h : x.At T w) (hz : x.s = true → 0 < x.N) : BigAt T w x.b 0 x.s x.N := ⟨h.blk, ⟨_, _, _, h.c0, h.c1, h.num⟩, hz⟩
end Go.Bg
namespace Go.Proofs.YtgmienggfaahlaaGreatDoor
open Go.RowKit Go.Bg Dg
def IntOwn (d p : Nat) (s : Bool) (N : Nat) (w : World) (e : Ending) (w' : World) : Prop :=
  e = .returned (.pointer (some ⟨d, p, none⟩)) ∧ Upd (· = d) w w' ∧ ∃ g n c, OwnI 155 w' d p s (some ⟨g, 0, none⟩) n c N ∧ w.heap.size ≤ g
theorem NewInt.madeO {w w1 : World} {b o : Nat} (h : NewInt w b o) (hb : Below w.heap.size w w1) {a : Option Addr} {n c N : Nat} {s : Bool} (hN : BigN 155 w1 a n c N) (hp : ∀ k, InB a k → InB none k ∨ w.heap.size ≤ k) (h0 : 0 < N) :
    IntOwn b o s N w (.returned (.pointer (some ⟨b, o, none⟩))) ((w1.setCell ⟨b, o + 1, none⟩ (.slice a n c)).setCell ⟨b, o, none⟩ (.bool s)) := by
  have h' := h.keep hb
  have hn : 0 < n := by have := natAt_pos_len hN.num; simpa [h0] using this
  obtain ⟨g, off, rfl, hl⟩ := hN.num.form hn
  obtain ⟨ho, -⟩ := hN.start
  subst ho
  refine ⟨rfl, ((Upd.of_below hb).trans (Upd.set1 _ _ _ _)).trans (Upd.set1 _ _ _ _), g, n, c, OwnI.stored h'.blk h'.c0 ⟨_, h'.c1⟩ hN, ?_⟩
  rcases hp g (inB_is _ _ _) with h | h
  · exact (inB_none h).elim
  · exact h
abbrev RA (w : World) (x : Rg) : Prop := Rg.At 155 w x
abbrev RTo (x x' : Rg) (w w' : World) : Prop := Rg.To 155 x x' w w'
end Go.Proofs.YtgmienggfaahlaaGreatDoor
namespace Go.Bg
open Go.RowKit Dg
theorem step_copy_upd {P : Program} {ops : Array Oper} {o : Oper} {a : Act} {w : World} {K : Act → World → Prop} {Q : Exit → Act → World → Prop} {E : Prop} (hgd : o.guard = none) (d s : Operand) (dT sT : TypeId)
    (ho : o.op = .call { callee := .builtin .copy, args := #[d, s], argTypes := #[dT, sT] }) (elem : TypeId) (hu : P.underlying dT = some (.slice elem)) (hsz : (P.info? elem).map (·.size) = some 1)
    (dp sp : Option Addr) (dLen dCap sLen sCap : Nat) (hd : a.eval d = .slice dp dLen dCap) (hs : a.eval s = .slice sp sLen sCap)
    (g off : Nat) (cur : List Value) (t : TypeId) (hg : w.heap[g]? = some (.cells cur.toArray t (0, 0))) (cs : List Value) (hn : cs.length = Nat.min sLen dLen)
    (hpos : 0 < cs.length → dp = some ⟨g, off, none⟩ ∧ ∃ ad, sp = some ad ∧ ∀ j v, cs[j]? = some v → w.cell? (ad.add j) = some v)
    (hfit : off + cs.length ≤ cur.length) (h1 : ∀ v ∈ cs, v.oneCell' = true) (S : Nat → Prop) (w0 : World) (hb : Upd S w0 w) (hSg : S g)
    (h : ∀ w', Hid (w'.heap[g]? = some (.cells (splice cur off cs).toArray t (0, 0))) → Upd S w0 w' → K (a.put o.dst (goInt cs.length)) w') :
    if Region.wanted o (yielded ops a.tmps) = true then Oper.wp P o a w K Q else E := by
  have hw : Region.wanted o (yielded ops a.tmps) = true := by simp [Region.wanted, hgd]
  rw [if_pos hw]
  by_cases h0 : cs.length = 0
  · obtain rfl : cs = [] := List.eq_nil_of_length_eq_zero h0
    have hrun := run_copy_none (P := P) w dT sT o.type elem dp sp dLen dCap sLen sCap hu hsz (by simpa using hn.symm)
    unfold Oper.wp
    simp [execOp, ho, resolve, invoke, builtin, hd, hs, hrun, Result.andThen]
    exact h w (show _ = _ by simpa [splice] using hg) hb
  · obtain ⟨rfl, ad, rfl, hsrc⟩ := hpos (by omega)
    have hrun := run_copy_row (P := P) w dT sT o.type elem g off dLen dCap ad sLen sCap cur.toArray t cs hu hsz hg hn hsrc (by simpa using hfit) h1
    unfold Oper.wp
    simp [execOp, ho, resolve, invoke, builtin, hd, hs, hrun, Result.andThen]
    exact h _ (show _ = _ by simpa [splice] using setRow_heap w g _ _ t _ hg) (hb.trans ⟨rfl, rfl, rfl, by simp [World.setRow], fun k hk hn => setRow_other w g k _ (fun e => hn (e ▸ hSg))⟩)
theorem rowU_spliced {T : TypeId} {w w2 : World} {g o k n X : Nat} {cur cur' : Array Value} {h : Nat → Nat} (hkn : k ≤ n) (hsz : cur'.size = cur.size) (hfit : o + n ≤ cur.size)
    (h3 : ∀ i, i < k → cur'[o + i]? = some (.int .u64 (h i : Nat))) (h4 : ∀ j, (j < o ∨ o + k ≤ j) → cur'[j]? = cur[j]?)
    (hg : w2.heap[g]? = some (.cells (splice cur'.toList (o + k) (wlf X k (n - k))).toArray T (0, 0))) (hb : Upd (· = g) w w2) (he : ∀ i, k ≤ i → i < n → h i = dg W64 X i) : RowUp T w w2 g o n cur h :=
  ⟨hb, (rowB_spliced (B := 0) (w := w) hkn hsz hfit h3 h4 hg ⟨hb.os, hb.tape, hb.output, hb.size, fun k hk => absurd hk (Nat.not_lt_zero _)⟩ he).blk⟩
end Go.Bg
namespace Go.Proofs.YtgmienggfaahlaaGreatDoor
open Go.RowKit Go.Bg Dg
theorem subVW_self (g o n c0 : Nat) (cur : Array Value) (X y : Nat) (w : World) (hg : BlkAt w g cur 155) (hn1 : 1 ≤ n) (hn : n ≤ 1000000) (hr : o + n ≤ cur.size) (h0 : n ≤ c0) (h0m : c0 ≤ maxLen)
    (h1 : WCells w g o n (dg W64 X)) (hy : y < W64) (hXy : y ≤ X) :
    Calls Tryz.prog 198 #[.slice (some ⟨g, o, none⟩) n c0, .slice (some ⟨g, o, none⟩) n c0, .int .u64 y] w
      (VecIs g o n cur (dg W64 (X - y)) (bor X y n) w) := by
  unfold maxLen at h0m
  obtain ⟨j, hj, hj1⟩ := infoWordJ
  have hy' : y < 18446744073709551616 := W64_lt hy
  have HG := Lib.hid hg
  have H1 := Lib.hid h1
  have HCU := Lib.hid (show ∀ i, i < n → cur[o + i]? = some (.int .u64 (dg W64 X i : Nat)) from fun i hi => by rw [← hg.cell]; exact h1 i hi)
  have e1 := h1 0 (by omega)
  rw [Nat.add_zero] at e1
  have d1 : dg W64 X 0 < 18446744073709551616 := W64_lt (dg_lt W64_pos _ _)
  have HS := Lib.hid (subw_step hXy 0)
  have HY := Lib.hid (show ∀ k, 1 ≤ k → dg W64 y k = 0 from fun k hk => dg_of_lt (Nat.lt_of_lt_of_le hy (by obtain ⟨d, rfl⟩ : ∃ d, k = d + 1 := ⟨k - 1, by omega⟩; rw [Nat.pow_succ]; exact Nat.le_mul_of_pos_left _ (Nat.pow_pos W64_pos))))
  have hy0 : dg W64 y 0 = y := by simp [dg, Nat.mod_eq_of_lt hy]
  rw [hy0, bor_zero] at HS
  have HYL := Lib.hid hy
  clear hy0
  have hroom := (RowUp.start hg o (dg W64 (X - y))).room (j := o) (by omega)
  have f0 := hroom.2
  clear hroom
  have hn0 : ((n : Int) == 0) = false := by simp; omega
  clear hg h1 hy
  generalize hx : dg W64 X 0 = x at *
  have HE := Lib.hid (show (x + 18446744073709551616 - y - 0) % 18446744073709551616 = dg W64 (X - y) 0 from HS.out.1)
  have HF := Lib.hid (show (if x < y + 0 then 1 else 0 : Nat) = bor X y 1 from HS.out.2)
  have hdl : (x + 18446744073709551616 - y - 0) % 18446744073709551616 < 18446744073709551616 := Nat.mod_lt _ (by decide)
  have hcl : (if x < y + 0 then 1 else 0 : Nat) ≤ 1 := by split <;> omega
  have HC := Lib.hid (fun w => bitsSub_any x y 0 (by omega) w)
  generalize (x + 18446744073709551616 - y - 0) % 18446744073709551616 = s at *
  generalize hcc : (if x < y + 0 then 1 else 0 : Nat) = cc at *
  clear hx hcc
  go_enter Tryz.func198, Tryz.ntmps198
  go_wp2_with fail
  refine (HC.out _).mono ?_
  rintro e w1 ⟨rfl, rfl⟩
  have HR := Lib.hid ((RowUp.start HG.out o (dg W64 (X - y))).step (by omega) HE.out)
  simp only [Nat.add_zero, Nat.zero_add] at HR
  obtain ⟨W1, hW1⟩ : ∃ W1, W1 = w.setCell ⟨g, o, none⟩ (.int .u64 (s : Nat)) := ⟨_, rfl⟩
  have HW1 := Lib.hid hW1
  rw [← hW1] at HR
  have HQ := Lib.hid (fun q => Lib.run_neq_ptr_same (P := Tryz.prog) (W1.drewN q) ⟨g, o, none⟩ Tryz.underlying219 hj)
  clear hW1
  by_cases hc0 : cc = 0
  · subst hc0
    go_upto_region 8 with fail
    rw [← HW1.out]
    have hq := HQ.out
    have HNC := Lib.hid (show bor X y 1 = 0 from HF.out.symm)
    go_quiet (fail)
    go_wp2
    go_ret
    refine ⟨ret_u64 (bor_none HYL.out HNC.out (by omega) (by omega)).symm, ?_⟩
    refine RowUp.drewN (RowUp.rest HR.out hn1 (fun i hi hi2 => ?_)) _
    rw [HCU.out i hi2, subw_same HYL.out hXy HNC.out (by omega) hi]
  · obtain rfl : cc = 1 := by omega
    have HC1 := Lib.hid (show bor X y 1 = 1 from HF.out.symm)
    go_upto_region 11 with fail
    rw [← HW1.out]
    clear f0 e1 hc0 hcl
    go_wp2
    go_loopw [6, 9, 10] (fun _ i _ wr => ∃ k : Nat, 1 ≤ k ∧ k ≤ n ∧ i = .int .i64 k ∧ bor X y k = 1 ∧ RowUp 155 w wr g o k cur (dg W64 (X - y)))
      (fun _ i _ _ => n - (intOf i).toNat)
    case atStart => exact ⟨1, Nat.le_refl _, hn1, rfl, HC1.out, HR.out⟩
    case round =>
      obtain ⟨k, hk0, hk, rfl, hca, hR⟩ := hrel
      have HCA := Lib.hid hca
      clear hca
      by_cases k1 : k < n
      · have e1 := hR.read HG.out (H1.out k k1) (.inr (Nat.le_refl _)) (Nat.le_refl _)
        have d1 : dg W64 X k < 18446744073709551616 := W64_lt (dg_lt W64_pos _ _)
        have HS2 := Lib.hid (subw_step hXy k)
        rw [HCA.out, HY.out k hk0] at HS2
        have HRR := Lib.hid hR
        have hroom := hR.room (j := o + k) (by omega)
        have f0 := hroom.2
        clear hR hroom
        generalize hx : dg W64 X k = xk at *
        clear hx
        by_cases hm : xk = 0
        · subst hm
          have HE2 := Lib.hid (show 18446744073709551615 = dg W64 (X - y) k from by rw [← HS2.out.1])
          have HF2 := Lib.hid (show bor X y (k + 1) = 1 from by rw [← HS2.out.2]; rfl)
          go_wp2
          go_roundw
          case rel => exact ⟨k + 1, by omega, by omega, by go_num, HF2.out, HRR.out.step (x := 18446744073709551615) (by omega) HE2.out⟩
          case measure => simp [intOf]; omega
        · have hmb : ((xk : Int) != 0) = true := by simp; omega
          have hxw : 1 ≤ xk := by omega
          have HE2 := Lib.hid (show xk - 1 = dg W64 (X - y) k from by rw [← HS2.out.1]; omega)
          have HF2 := Lib.hid (show bor X y (k + 1) = 0 from by rw [← HS2.out.2]; exact if_neg (by omega))
          have hcast : ((xk - 1 : Nat) : Int) = xk - 1 := by omega
          go_upto_region 17 with fail
          obtain ⟨W2, hW2⟩ : ∃ W2, W2 = wr.setCell ⟨g, o + k, none⟩ (.int .u64 ((xk : Int) - 1)) := ⟨_, rfl⟩
          have HR2 := Lib.hid (HRR.out.step (x := xk - 1) (by omega) HE2.out)
          rw [hcast, ← hW2] at HR2
          rw [← hW2]
          have HQ2 := Lib.hid (fun q => Lib.run_neq_ptr_same (P := Tryz.prog) (W2.drewN q) ⟨g, o, none⟩ Tryz.underlying219 hj)
          clear hW2 hcast f0 e1
          have hq := HQ2.out
          go_quiet (fail)
          go_wp2
          go_ret
          refine ⟨ret_u64 (bor_none HYL.out HF2.out (by omega) (by omega)).symm, ?_⟩
          refine RowUp.drewN (RowUp.rest HR2.out (by omega) (fun i hi hi2 => ?_)) _
          rw [HCU.out i hi2, subw_same HYL.out hXy HF2.out (by omega) hi]
      · obtain rfl : k = n := by omega
        go_wp2
        go_ret
        exact ⟨ret_u64 HCA.out.symm, hR⟩
theorem subVW_upd (g o n c0 b1 o1 c1 : Nat) (cur cur1 : Array Value) (T1 : TypeId) (X y : Nat) (w : World) (hg : BlkAt w g cur 155) (hg1 : BlkAt w b1 cur1 T1) (hn1 : 1 ≤ n) (hn : n ≤ 1000000) (hr : o + n ≤ cur.size) (h0 : n ≤ c0) (h0m : c0 ≤ maxLen)
    (h1 : WCells w b1 o1 n (dg W64 X)) (h1c : n ≤ c1) (h1m : c1 ≤ maxLen) (hne : b1 ≠ g) (hy : y < W64) (hXy : y ≤ X) :
    Calls Tryz.prog 198 #[.slice (some ⟨g, o, none⟩) n c0, .slice (some ⟨b1, o1, none⟩) n c1, .int .u64 y] w
      (VecIs g o n cur (dg W64 (X - y)) (bor X y n) w) := by
  unfold maxLen at h0m h1m
  obtain ⟨j, hj, hj1⟩ := infoWordJ
  have hy' : y < 18446744073709551616 := W64_lt hy
  have HG := Lib.hid hg
  have HG1 := Lib.hid hg1
  have H1 := Lib.hid h1
  have e1 := h1 0 (by omega)
  rw [Nat.add_zero] at e1
  have d1 : dg W64 X 0 < 18446744073709551616 := W64_lt (dg_lt W64_pos _ _)
  have HS := Lib.hid (subw_step hXy 0)
  have HY := Lib.hid (show ∀ k, 1 ≤ k → dg W64 y k = 0 from fun k hk => dg_of_lt (Nat.lt_of_lt_of_le hy (by obtain ⟨d, rfl⟩ : ∃ d, k = d + 1 := ⟨k - 1, by omega⟩; rw [Nat.pow_succ]; exact Nat.le_mul_of_pos_left _ (Nat.pow_pos W64_pos))))
  have hy0 : dg W64 y 0 = y := by simp [dg, Nat.mod_eq_of_lt hy]
  rw [hy0, bor_zero] at HS
  have HYL := Lib.hid hy
  clear hy0
  have hroom := (RowUp.start hg o (dg W64 (X - y))).room (j := o) (by omega)
  obtain ⟨⟨u0, p0⟩, f0⟩ := hroom
  have HX := Lib.hid (show dg W64 X 0 = dg W64 X 0 from rfl)
  have hn0 : ((n : Int) == 0) = false := by simp; omega
  clear hg hg1 h1 hy
  generalize hx : dg W64 X 0 = x at *
  have HE := Lib.hid (show (x + 18446744073709551616 - y - 0) % 18446744073709551616 = dg W64 (X - y) 0 from HS.out.1)
  have HF := Lib.hid (show (if x < y + 0 then 1 else 0 : Nat) = bor X y 1 from HS.out.2)
  have hdl : (x + 18446744073709551616 - y - 0) % 18446744073709551616 < 18446744073709551616 := Nat.mod_lt _ (by decide)
  have hcl : (if x < y + 0 then 1 else 0 : Nat) ≤ 1 := by split <;> omega
  have HC := Lib.hid (fun w => bitsSub_any x y 0 (by omega) w)
  generalize (x + 18446744073709551616 - y - 0) % 18446744073709551616 = s at *
  generalize hcc : (if x < y + 0 then 1 else 0 : Nat) = cc at *
  clear hx hcc
  go_enter Tryz.func198, Tryz.ntmps198
  go_wp2_with fail
  refine (HC.out _).mono ?_
  rintro e w1 ⟨rfl, rfl⟩
  have HR := Lib.hid ((RowUp.start HG.out o (dg W64 (X - y))).step (by omega) HE.out)
  simp only [Nat.add_zero, Nat.zero_add] at HR
  obtain ⟨W1, hW1⟩ : ∃ W1, W1 = w.setCell ⟨g, o, none⟩ (.int .u64 (s : Nat)) := ⟨_, rfl⟩
  have HW1 := Lib.hid hW1
  rw [← hW1] at HR
  obtain ⟨cur', hk1, hk2, hk3, hk4⟩ := HR.out.blk
  have hk5 := HR.out.upd.blk HG1.out hne
  have HQ := Lib.hid (fun q => run_neq_ptr_other (P := Tryz.prog) (a := ⟨g, o, none⟩) (b := ⟨b1, o1, none⟩) (W1.drewN q) Tryz.underlying219 hj (by rw [hj1]; decide) (by intro h; injection h with h _ _; exact hne h.symm) hk1 hk5)
  clear hW1
  by_cases hc0 : cc = 0
  · subst hc0
    go_upto_region 8 with fail
    rw [← HW1.out]
    have hq := HQ.out
    go_quiet (fail)
    go_upto_region 9 with fail
    have hbd : Below W1.heap.size W1 (W1.drewN (nq + 1)) := below_drewN (Below.refl _ _) (nq + 1)
    have hk1' := hk1.keep hbd
    have HG2 := Lib.hid (show (W1.drewN (nq + 1)).heap[g]? = some (.cells cur'.toList.toArray 155 (0, 0)) from by unfold BlkAt at hk1'; simpa using hk1')
    have HSRC := Lib.hid (show ∀ j v, (wlf X 1 (n - 1))[j]? = some v → (W1.drewN (nq + 1)).cell? ((⟨b1, o1 + 1, none⟩ : Addr).add j) = some v from by
      intro j v hjv
      have hjn : j < n - 1 := by
        have := (List.getElem?_eq_some_iff.1 hjv).1
        rwa [wlf_len] at this
      rw [wlf_get hjn] at hjv
      rw [← hjv, Addr.add_lit, show o1 + 1 + j = o1 + (1 + j) from by omega]
      exact cell_keep (HR.out.read HG.out (H1.out (1 + j) (by omega)) (.inl hne) (by omega)) hbd)
    have HB2 := Lib.hid (HR.out.upd.then (hbd.mono (Nat.le_refl _)))
    have HT := Lib.hid (show o + 1 + (wlf X 1 (n - 1)).length ≤ cur'.toList.length from by rw [wlf_len]; simp; omega)
    have HL := Lib.hid (wlf_len X 1 (n - 1))
    have hn1i : (1 : Int) ≤ n := by omega
    have HNC := Lib.hid (show bor X y 1 = 0 from HF.out.symm)
    clear hbd hk1'
    go_region_law (refine step_copy_upd rfl (.tmp 40) (.tmp 42) 146 146 rfl 155 Tryz.underlying146 infoWordSize _ _ _ _ _ _ rfl rfl g (o + 1) cur'.toList 155 HG2.out (wlf X 1 (n - 1)) (by rw [HL.out]; exact (Nat.min_self _).symm) (fun h0 => by rw [HL.out] at h0; exact ⟨if_neg (by omega), ⟨b1, o1 + 1, none⟩, if_neg (by omega), HSRC.out⟩) HT.out (wlf_one _ _ _) (· = g) w HB2.out rfl ?_; intro w4 hg4 hb4)
    all_goals go_wp2
    all_goals
      go_ret
      refine ⟨ret_u64 ?_, rowU_spliced (k := 1) (by omega) hk2 (by omega) hk3 hk4 hg4 hb4 (fun i hi _ => subw_same HYL.out hXy HNC.out (by omega) hi)⟩
      exact (bor_none HYL.out HNC.out (by omega) (by omega)).symm
  · obtain rfl : cc = 1 := by omega
    have HC1 := Lib.hid (show bor X y 1 = 1 from HF.out.symm)
    go_upto_region 11 with fail
    rw [← HW1.out]
    clear hk1 hk2 hk3 hk4 hk5 p0 f0 e1 hc0 hcl
    go_wp2
    go_loopw [6, 9, 10] (fun _ i _ wr => ∃ k : Nat, 1 ≤ k ∧ k ≤ n ∧ i = .int .i64 k ∧ bor X y k = 1 ∧ RowUp 155 w wr g o k cur (dg W64 (X - y)))
      (fun _ i _ _ => n - (intOf i).toNat)
    case atStart => exact ⟨1, Nat.le_refl _, hn1, rfl, HC1.out, HR.out⟩
    case round =>
      obtain ⟨k, hk0, hk, rfl, hca, hR⟩ := hrel
      have HCA := Lib.hid hca
      clear hca
      by_cases k1 : k < n
      · have e1 := hR.read HG.out (H1.out k k1) (.inl hne) (Nat.le_refl _)
        have d1 : dg W64 X k < 18446744073709551616 := W64_lt (dg_lt W64_pos _ _)
        have HS2 := Lib.hid (subw_step hXy k)
        rw [HCA.out, HY.out k hk0] at HS2
        have HRR := Lib.hid hR
        have hroom := hR.room (j := o + k) (by omega)
        obtain ⟨⟨u0, p0⟩, f0⟩ := hroom
        clear hR
        generalize hx : dg W64 X k = xk at *
        clear hx
        by_cases hm : xk = 0
        · subst hm
          have HE2 := Lib.hid (show 18446744073709551615 = dg W64 (X - y) k from by rw [← HS2.out.1])
          have HF2 := Lib.hid (show bor X y (k + 1) = 1 from by rw [← HS2.out.2]; rfl)
          go_wp2
          go_roundw
          case rel => exact ⟨k + 1, by omega, by omega, by go_num, HF2.out, HRR.out.step (x := 18446744073709551615) (by omega) HE2.out⟩
          case measure => simp [intOf]; omega
        · have hmb : ((xk : Int) != 0) = true := by simp; omega
          have hxw : 1 ≤ xk := by omega
          have HE2 := Lib.hid (show xk - 1 = dg W64 (X - y) k from by rw [← HS2.out.1]; omega)
          have HF2 := Lib.hid (show bor X y (k + 1) = 0 from by rw [← HS2.out.2]; exact if_neg (by omega))
          have hcast : ((xk - 1 : Nat) : Int) = xk - 1 := by omega
          go_upto_region 17 with fail
          obtain ⟨W2, hW2⟩ : ∃ W2, W2 = wr.setCell ⟨g, o + k, none⟩ (.int .u64 ((xk : Int) - 1)) := ⟨_, rfl⟩
          have HR2 := Lib.hid (HRR.out.step (x := xk - 1) (by omega) HE2.out)
          rw [hcast, ← hW2] at HR2
          rw [← hW2]
          obtain ⟨cur', hk1, hk2, hk3, hk4⟩ := HR2.out.blk
          have hk5 := HR2.out.upd.blk HG1.out hne
          have HQ2 := Lib.hid (fun q => run_neq_ptr_other (P := Tryz.prog) (a := ⟨g, o, none⟩) (b := ⟨b1, o1, none⟩) (W2.drewN q) Tryz.underlying219 hj (by rw [hj1]; decide) (by intro h; injection h with h _ _; exact hne h.symm) hk1 hk5)
          clear hW2 hcast p0 f0 e1
          have hq := HQ2.out
          go_quiet (fail)
          go_upto_region 18 with fail
          clear hq
          have hbd : Below W2.heap.size W2 (W2.drewN (nq + 1)) := below_drewN (Below.refl _ _) (nq + 1)
          have hk1' := hk1.keep hbd
          have HG2 := Lib.hid (show (W2.drewN (nq + 1)).heap[g]? = some (.cells cur'.toList.toArray 155 (0, 0)) from by unfold BlkAt at hk1'; simpa using hk1')
          have HSRC := Lib.hid (show ∀ j v, (wlf X (k + 1) (n - (k + 1)))[j]? = some v → (W2.drewN (nq + 1)).cell? ((⟨b1, o1 + (k + 1), none⟩ : Addr).add j) = some v from by
            intro j v hjv
            have hjn : j < n - (k + 1) := by
              have := (List.getElem?_eq_some_iff.1 hjv).1
              rwa [wlf_len] at this
            rw [wlf_get hjn] at hjv
            rw [← hjv, Addr.add_lit, show o1 + (k + 1) + j = o1 + (k + 1 + j) from by omega]
            exact cell_keep (HR2.out.read HG.out (H1.out (k + 1 + j) (by omega)) (.inl hne) (by omega)) hbd)
          have HB2 := Lib.hid (HR2.out.upd.then (hbd.mono (Nat.le_refl _)))
          have HT := Lib.hid (show o + (k + 1) + (wlf X (k + 1) (n - (k + 1))).length ≤ cur'.toList.length from by rw [wlf_len]; simp; omega)
          have HL := Lib.hid (wlf_len X (k + 1) (n - (k + 1)))
          have s1 : IntKind.i64.wrap ((k : Int) + 1) = (k : Int) + 1 := IntWalk.i64_in _ (by omega)
          have s2 : (0 : Int) ≤ (k : Int) + 1 := by omega
          have s3 : (k : Int) + 1 ≤ n := by omega
          have s4 : ((k : Int) + 1).toNat = k + 1 := by omega
          clear hbd hk1'
          go_region_law (refine step_copy_upd rfl (.tmp 69) (.tmp 73) 146 146 rfl 155 Tryz.underlying146 infoWordSize (if c0 = k + 1 then some ⟨g, o, none⟩ else some ⟨g, o + (k + 1), none⟩) (if c1 = k + 1 then some ⟨b1, o1, none⟩ else some ⟨b1, o1 + (k + 1), none⟩) (n - (k + 1)) (c0 - (k + 1)) (n - (k + 1)) (c1 - (k + 1)) (by simp [Act.eval, Act.put]) (by simp [Act.eval, Act.put]) g (o + (k + 1)) cur'.toList 155 HG2.out (wlf X (k + 1) (n - (k + 1))) (by rw [HL.out]; exact (Nat.min_self _).symm) (fun h0 => by rw [HL.out] at h0; exact ⟨if_neg (by omega), ⟨b1, o1 + (k + 1), none⟩, if_neg (by omega), HSRC.out⟩) HT.out (wlf_one _ _ _) (· = g) w HB2.out rfl ?_; intro w4 hg4 hb4)
          all_goals go_wp2
          all_goals
            go_ret
            refine ⟨ret_u64 ?_, rowU_spliced (k := k + 1) (by omega) hk2 (by omega) hk3 hk4 hg4 hb4 (fun i hi _ => subw_same HYL.out hXy HF2.out (by omega) hi)⟩
            exact (bor_none HYL.out HF2.out (by omega) (by omega)).symm
      · obtain rfl : k = n := by omega
        go_wp2
        go_ret
        exact ⟨ret_u64 HCA.out.symm, hR⟩
end Go.Proofs.YtgmienggfaahlaaGreatDoor
