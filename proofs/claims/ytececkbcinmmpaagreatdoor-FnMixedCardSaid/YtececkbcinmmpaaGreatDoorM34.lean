/-
  Contracts and lemmas: RatF FrA.
-/
import Derived.Test.YtececkbcinmmpaaGreatDoorM33
import Derived.Test.YtececkbcinmmpaaGreatDoorM14
import Derived.Test.YtececkbcinmmpaaGreatDoorM18
import Derived.Test.YtececkbcinmmpaaGreatDoorM15
set_option linter.unusedSimpArgs false
set_option linter.unusedVariables false
set_option maxRecDepth 100000
set_option maxHeartbeats 8000000
namespace Go.Proofs.YtececkbcinmmpaaGreatDoor
open Go.RowKit Go.Bg Dg
theorem ratNorm_any (zb : Nat) (s : Bool) (a1 a2 : Option Addr) (n1 c1 N n2 c2 D : Nat) (w : World) (hK : ThrD w) (R : RatRaw w zb s a1 n1 c1 N a2 n2 c2 D) (hD0 : 0 < D) (L : Nat) (hL : L < 40) (hN : N < W64 ^ L) (hD : D < W64 ^ L) (hv : zb ≠ 3 ∧ ¬ InB a1 3 ∧ ¬ InB a2 3) :
    Calls Tryz.prog 153 #[.pointer (some ⟨zb, 0, none⟩)] w (NormIs zb s a1 a2 N D w) := by
  rcases Nat.eq_zero_or_pos N with h | h
  · subst h; exact ratNorm_zero zb s a1 a2 n1 c1 n2 c2 D w R hD0
  · exact ratNorm_pos zb s a1 a2 n1 c1 N n2 c2 D w hK R h hD0 L hL hN hD hv
def FracIs (zb : Nat) (s : Bool) (N D : Nat) (w : World) (e : Ending) (w' : World) : Prop :=
  e = .returned (.pointer (some ⟨zb, 0, none⟩)) ∧ RatAt 139 w' zb (s && decide (0 < N)) (N / Nat.gcd N D) (D / Nat.gcd N D) ∧ Upd (· = zb) w w'
theorem natSet_none (a : Option Addr) (n c N : Nat) (w : World) (h : NumAt .u64 W64 w a n c N) (hn : n ≤ 1000000) :
    Calls Tryz.prog 152 #[.slice none 0 0, .slice a n c] w (GivesI 139 none N w) := by
  rcases Nat.eq_zero_or_pos n with h0 | h0
  · subst h0
    have hN : N = 0 := by have := h.lt; simpa using this
    subst hN
    refine (natSet0_any none 0 0 0 a c w (BigN.nil _ _)).mono ?_
    rintro e w' ⟨rfl, rfl⟩
    exact ⟨none, 0, 0, rfl, BigN.nil _ _, Upd.refl _ _, fun k h => (inB_none h).elim⟩
  · exact natSet_into none 0 0 0 a n c N w (BigN.nil _ _) h h0 hn (fun _ _ h => inB_none h)
structure FracUp (w : World) (zb : Nat) (s : Bool) (N D : Nat) (wx : World) (a1 : Option Addr) (n1 c1 : Nat) (a2 : Option Addr) (n2 c2 : Nat) : Prop where
  raw : RatRaw wx zb s a1 n1 c1 N a2 n2 c2 D
  f1 : ∀ k, InB a1 k → w.heap.size ≤ k
  f2 : ∀ k, InB a2 k → w.heap.size ≤ k
  upd : Upd (· = zb) w wx
theorem FracUp.keep {w wx wy : World} {zb : Nat} {s : Bool} {N D : Nat} {a1 a2 : Option Addr} {n1 c1 n2 c2 : Nat} (h : FracUp w zb s N D wx a1 n1 c1 a2 n2 c2) (hb : Below wx.heap.size wx wy) : FracUp w zb s N D wy a1 n1 c1 a2 n2 c2 :=
  ⟨h.raw.keep hb, h.f1, h.f2, h.upd.then hb⟩
theorem FracUp.start {w : World} {zb : Nat} (h : NewRat w zb) : FracUp w zb false 0 0 w none 0 0 none 0 0 :=
  ⟨⟨h.blk, BlkAt.cell h 0, BlkAt.cell h 1, BlkAt.cell h 2, BlkAt.cell h 3, BigN.nil _ _, BigN.nil _ _, fun k h => (inB_none h).elim⟩, fun k h => (inB_none h).elim, fun k h => (inB_none h).elim, Upd.refl _ _⟩
theorem FracUp.neg {w wx : World} {zb : Nat} {s : Bool} {N D : Nat} {a1 a2 : Option Addr} {n1 c1 n2 c2 : Nat} (h : FracUp w zb s N D wx a1 n1 c1 a2 n2 c2) (t : Bool) : FracUp w zb t N D (wx.setCell ⟨zb, 0, none⟩ (.bool t)) a1 n1 c1 a2 n2 c2 :=
  ⟨h.raw.neg t, h.f1, h.f2, h.upd.setCell (p := ⟨zb, 0, none⟩) rfl _⟩
theorem FracUp.setA {w wx w0 w7 : World} {zb : Nat} {s : Bool} {N D : Nat} {a1 a2 : Option Addr} {n1 c1 n2 c2 : Nat} (h : FracUp w zb s N D wx a1 n1 c1 a2 n2 c2) (hb : Below wx.heap.size wx w0) {a : Option Addr} {n c Q : Nat} (hU : Upd (InB none) w0 w7) (hQ : BigN 139 w7 a n c Q) (hp : ∀ k, InB a k → InB none k ∨ w0.heap.size ≤ k) :
    FracUp w zb s Q D (w7.setCell ⟨zb, 1, none⟩ (.slice a n c)) a n c a2 n2 c2 := by
  have hs := h.upd.size
  have hs0 := hb.size
  have hN : ∀ k, ¬ InB none k := fun k h => inB_none h
  exact ⟨h.raw.setA hb hU (hN _) (fun k _ => hN k) hQ (fun k hk => (hp k hk).imp (fun h => (hN _ h).elim) id), fun k hk => (hp k hk).elim (fun h => (hN _ h).elim) (fun h => by omega), h.f2, (upd_into2 hU (h.upd.then hb) (fun k _ hk => (hN _ hk).elim)).setCell (p := ⟨zb, 1, none⟩) rfl _⟩
theorem FracUp.setD {w wx w0 w7 : World} {zb : Nat} {s : Bool} {N D : Nat} {a1 a2 : Option Addr} {n1 c1 n2 c2 : Nat} (h : FracUp w zb s N D wx a1 n1 c1 a2 n2 c2) (hb : Below wx.heap.size wx w0) {a : Option Addr} {n c Q : Nat} (hU : Upd (InB none) w0 w7) (hQ : BigN 139 w7 a n c Q) (hp : ∀ k, InB a k → InB none k ∨ w0.heap.size ≤ k) :
    FracUp w zb s N Q (w7.setCell ⟨zb, 3, none⟩ (.slice a n c)) a1 n1 c1 a n c := by
  have hs := h.upd.size
  have hs0 := hb.size
  have hN : ∀ k, ¬ InB none k := fun k h => inB_none h
  exact ⟨h.raw.setD hb hU (hN _) (fun k _ => hN k) hQ (fun k hk => (hp k hk).imp (fun h => (hN _ h).elim) id), h.f1, fun k hk => (hp k hk).elim (fun h => (hN _ h).elim) (fun h => by omega), (upd_into2 hU (h.upd.then hb) (fun k _ hk => (hN _ hk).elim)).setCell (p := ⟨zb, 3, none⟩) rfl _⟩
theorem FracUp.norm {w wx : World} {zb : Nat} {s : Bool} {N D : Nat} {a1 a2 : Option Addr} {n1 c1 n2 c2 : Nat} (h : FracUp w zb s N D wx a1 n1 c1 a2 n2 c2) (hK : ThrD w) (hv : zb ≠ 3) (hD0 : 0 < D) (L : Nat) (hL : L < 40) (hN : N < W64 ^ L) (hD : D < W64 ^ L) :
    Calls Tryz.prog 153 #[.pointer (some ⟨zb, 0, none⟩)] wx (FracIs zb s N D w) := by
  have hl := block_lt hK
  refine (ratNorm_any zb s a1 a2 n1 c1 N n2 c2 D wx (hK.upd h.upd (fun e => hv e.symm)) h.raw hD0 L hL hN hD ⟨hv, fun h' => Nat.not_le_of_lt hl (h.f1 _ h'), fun h' => Nat.not_le_of_lt hl (h.f2 _ h')⟩).mono ?_
  rintro e w' ⟨rfl, hR, hU⟩
  exact ⟨rfl, hR, upd_into2 hU h.upd (fun k hk hx => by
    rcases hx with h1 | h1 | h1
    · exact h1
    · have := h.f1 k h1; omega
    · have := h.f2 k h1; omega)⟩
end Go.Proofs.YtececkbcinmmpaaGreatDoor
namespace Go.Bg
open Go.RowKit Dg
def GivesF (T : TypeId) (N : Nat) (w : World) (e : Ending) (w' : World) : Prop := ∃ a n c, e = .returned (.slice a n c) ∧ BigN T w' a n c N ∧ Below w.heap.size w w' ∧ ∀ k, InB a k → w.heap.size ≤ k
theorem GivesI.fresh {T : TypeId} {N : Nat} {w : World} {e : Ending} {w' : World} (h : GivesI T none N w e w') : GivesF T N w e w' := by
  obtain ⟨a, n, c, rfl, hN, hU, hp⟩ := h
  exact ⟨a, n, c, rfl, hN, hU.toBelow (fun k _ h => inB_none h), fun k hk => (hp k hk).elim (fun h => (inB_none h).elim) id⟩
end Go.Bg
namespace Go.Proofs.YtececkbcinmmpaaGreatDoor
open Go.RowKit Go.Bg Dg
theorem natSetF (a : Option Addr) (n c N : Nat) (w : World) (h : NumAt .u64 W64 w a n c N) (hn : n ≤ 1000000) :
    Calls Tryz.prog 152 #[.slice none 0 0, .slice a n c] w (GivesF 139 N w) := (natSet_none a n c N w h hn).mono fun _ _ h => h.fresh
theorem natMulWF (a1 : Option Addr) (n1 c1 N1 y : Nat) (w : World) (h1 : BigN 139 w a1 n1 c1 N1) (hb1 : n1 ≤ 900000) (hy : y < W64) :
    Calls Tryz.prog 237 #[.slice none 0 0, .slice a1 n1 c1, .int .u64 y, .int .u64 0] w (GivesF 139 (N1 * y) w) := (natMulW_into none 0 0 0 a1 n1 c1 N1 y w (BigN.nil _ _) h1 hb1 hy).mono fun _ _ h => h.fresh
theorem natAddF_ge (a1 a2 : Option Addr) (n1 n2 c1 c2 N1 N2 : Nat) (w : World) (h1 : BigN 139 w a1 n1 c1 N1) (h2 : BigN 139 w a2 n2 c2 N2) (hb1 : n1 ≤ 900000) (hge : n2 ≤ n1) :
    Calls Tryz.prog 144 #[.slice none 0 0, .slice a1 n1 c1, .slice a2 n2 c2] w (GivesF 139 (N1 + N2) w) := by
  have hm1 := h1.num.cm
  have hm2 := h2.num.cm
  have hc1 := h1.num.nc
  have hc2 := h2.num.nc
  unfold maxLen at hm1 hm2
  by_cases z1 : n1 = 0
  · subst z1
    obtain rfl : n2 = 0 := by omega
    have e1 : N1 = 0 := by have := h1.num.lt; simpa using this
    have e2 : N2 = 0 := by have := h2.num.lt; simpa using this
    subst e1
    subst e2
    clear h1 h2
    go_enter Tryz.func144, Tryz.ntmps144
    go_wp2
    go_ret
    exact ⟨_, _, _, rfl, BigN.nil _ _, Below.refl _ _, fun k h => (inB_none h).elim⟩
  · have hz1 : ((n1 : Int) == 0) = false := by simpa using z1
    by_cases z2 : n2 = 0
    · subst z2
      have e2 : N2 = 0 := by have := h2.num.lt; simpa using this
      subst e2
      have HN := Lib.hid h1.num
      clear h1 h2
      go_enter Tryz.func144, Tryz.ntmps144
      go_wp2_with fail
      refine (natSetF a1 n1 c1 N1 _ HN.out (by omega)).mono ?_
      rintro e w1 ⟨a, n, c, rfl, hN, hB, hf⟩
      go_wp2
      go_ret
      exact ⟨_, _, _, rfl, hN, hB, hf⟩
    · have hz2 : ((n2 : Int) == 0) = false := by simpa using z2
      obtain ⟨b1, o1, rfl, hl1⟩ := h1.num.form (by omega)
      obtain ⟨b2, o2, rfl, hl2⟩ := h2.num.form (by omega)
      have HB1 := Lib.hid h1
      have HB2 := Lib.hid h2
      clear h1 h2
      go_enter Tryz.func144, Tryz.ntmps144
      go_wp2_with fail
      refine (make_nil (n1 + 1) (by omega) _).mono ?_
      rintro e w1 (⟨h, _⟩ | ⟨c, hc0, hcn1, hcn2, rfl, hw⟩)
      case inl => omega
      have hb : BlkAt w1 w.heap.size (Array.replicate c (.int .u64 0)) 139 := by rw [hw]; exact BlkAt.new _ _ _
      have hB1 : Below w.heap.size w w1 := by rw [hw]; exact (Below.refl _ _).alloc (Nat.le_refl _) _
      have HS1 := Lib.hid (show w1.heap.size = w.heap.size + 1 from by rw [hw]; simp)
      clear hw
      have hbd : Below w1.heap.size w1 w1.drew := (Below.refl _ _).drew
      have hg2 := hb.keep hbd
      have HD1 := Lib.hid (HB1.out.num.keep (hB1.trans (hbd.mono hB1.size)))
      have HD2 := Lib.hid (HB2.out.num.keep (hB1.trans (hbd.mono hB1.size)))
      have hsz : (Array.replicate c (Value.int .u64 0)).size = c := by simp
      have hca := add_carry_le W64_pos N1 N2 n2
      have HH := Lib.hid (add_high HB1.out.num.lt HB2.out.num.lt hge)
      have HLT := Lib.hid (add_fits HB1.out.num.lt HB2.out.num.lt hge)
      have hx1 : (n2 : Int) ≤ c := by omega
      have hx2 : (n2 : Int) ≤ c1 := by omega
      have hx3 : (n2 : Int) ≤ c2 := by omega
      have HBD := Lib.hid (hB1.trans (hbd.mono hB1.size))
      have HBK := Lib.hid hg2
      clear hb hg2 hbd hB1
      generalize hcar : (N1 % W64 ^ n2 + N2 % W64 ^ n2) / W64 ^ n2 = cr at *
      go_upto_region 10 with fail
      go_region_held3 (fun _ => True) (exact trivial) ((go_at_call 205; (with_reducible refine (addVV_any w.heap.size 0 n2 c b1 o1 c1 b2 o2 c2 _ N1 N2 _ HBK.out ?_ ?_ ?_ ?_ ?_ ?_ ?_ ?_ ?_ ?_ ?_ ?_).mono ?_); omega; (rw [hsz]; omega); omega; (unfold maxLen; omega); exact HD1.out.wcells0 hge; omega; (unfold maxLen; omega); exact HD2.out.wcells0 (Nat.le_refl _); omega; (unfold maxLen; omega); exact .inl (Nat.ne_of_lt hl1); exact .inl (Nat.ne_of_lt hl2); rintro e w2 ⟨rfl, hR2⟩; rw [hcar]))
      have HB3 := Lib.hid (hR2.toB (B := w.heap.size) (Nat.le_refl _) HBD.out.size)
      clear hx1 hx2 hx3
      by_cases hgt : n2 < n1
      · have hd : decide (n2 < n1) = true := by simpa using hgt
        have hx1 : (n2 : Int) ≤ n1 := by omega
        have hx2 : (n1 : Int) ≤ c := by omega
        have hx3 : (n2 : Int) ≤ c1 := by omega
        have hn1 : ¬ c = n2 := by omega
        have hn2 : ¬ c1 = n2 := by omega
        obtain ⟨cur2, hk1, hk2, hk3, hk4⟩ := hR2.blk
        obtain ⟨cur1, e1, hq1⟩ : ∃ cur1 e1, BlkAt w2 b1 cur1 e1 := by
          rcases HB1.out.buf with ⟨hh, _⟩ | ⟨g', cur1, hh, hg', _⟩
          · cases hh
          · injection hh with hh
            injection hh with hh _ _
            subst hh
            exact ⟨cur1, _, (hR2.upd.blk (hg'.keep HBD.out) (Nat.ne_of_lt hl1))⟩
        have HE1 := Lib.hid (HB1.out.num.keep (HBD.out.trans (Below.refl _ _)))
        have HW1 := Lib.hid (show WCells w2 b1 (o1 + n2) (n1 - n2) (dg W64 (N1 / W64 ^ n2)) from fun i hi => by
          have := (HD1.out.wcells (k := n2) (m := n1 - n2) (by omega)) i hi
          rw [hR2.upd.cell (p := ⟨b1, o1 + n2 + i, none⟩) (block_lt this) (Nat.ne_of_lt hl1)]
          exact this)
        have HK := Lib.hid (show cur2.size = c from by rw [hk2, hsz])
        have HSZ2 := Lib.hid hR2.upd.size
        have HK1 := Lib.hid hk1
        have HK3 := Lib.hid hk3
        have HQ1 := Lib.hid hq1
        clear hk1 hk2 hk3 hk4 hq1 hR2 hsz
        go_upto_region 12 with fail
        go_region_held3 (fun _ => True) (exact trivial) ((go_at_call 206; (with_reducible refine (addVW_any w.heap.size w.heap.size n2 (n1 - n2) (c - n2) b1 (o1 + n2) (c1 - n2) cur2 cur1 e1 (N1 / W64 ^ n2) cr _ ?_ ?_ ?_ ?_ ?_ ?_ ?_ ?_ ?_ ?_ ?_ ?_ ?_ ?_).mono ?_); exact HK1.out; exact HQ1.out; exact Nat.le_refl _; (exact Nat.le_trans HBD.out.size HSZ2.out); omega; omega; (rw [HK.out]; omega); omega; (unfold maxLen; omega); exact HW1.out; omega; (unfold maxLen; omega); exact Nat.ne_of_lt hl1; (unfold W64; omega); rintro e w3 ⟨rfl, hR3⟩; rw [← HH.out.2]))
        obtain ⟨cur3, hk1, hk2, hk3, hk4⟩ := hR3.blk
        have hsz3 : cur3.size = c := by rw [hk2, HK.out]
        obtain ⟨u0, p0⟩ : ∃ u0, w3.cell? ⟨w.heap.size, n1, none⟩ = some u0 := ⟨_, by rw [hk1.cell n1, Array.getElem?_eq_getElem (by omega)]⟩
        have f0 := hk1.frozen n1
        obtain ⟨W4, hW4⟩ : ∃ W4, W4 = w3.setCell ⟨w.heap.size, n1, none⟩ (.int .u64 (dg W64 (N1 + N2) n1 : Nat)) := ⟨_, rfl⟩
        have hset := hk1.set n1 (.int .u64 (dg W64 (N1 + N2) n1 : Nat))
        rw [← hW4] at hset
        have HBf := Lib.hid (show Below w.heap.size w W4 from by
          rw [hW4]
          exact ((HBD.out.trans HB3.out.below).trans ((below_drew' w2 _).trans hR3.below)).setCell (Nat.le_refl _) _)
        obtain ⟨hcl, hbn⟩ := bigN_row (c := c) (m := n1 + 1) (N := N1 + N2) hset (by simpa using hsz3) (fun i hi => by
          rw [Array.getElem?_setIfInBounds]
          by_cases e : n1 = i
          · subst e; rw [if_pos rfl, if_pos (by omega)]
          · rw [if_neg e]
            by_cases hlo : i < n2
            · rw [hk4 i (.inl hlo)]
              have := HK3.out i hlo
              simpa using this
            · have := hk3 (i - n2) (by omega)
              rw [show n2 + (i - n2) = i from by omega] at this
              rw [this, ← HH.out.1, Dg.dg_div, show n2 + (i - n2) = i from by omega]) hcn1 (by unfold maxLen; omega) HLT.out
        have HCL := Lib.hid hcl
        have HBN := Lib.hid hbn
        have HW4 := Lib.hid hW4
        clear hk1 hk2 hk3 hk4 hcl hbn hW4 hset hR3 hsz3
        go_wp2_with fail
        rw [← HW4.out]
        refine (norm_any (some ⟨w.heap.size, 0, none⟩) (n1 + 1) c (dg W64 (N1 + N2)) _ (by omega) (by omega) (by unfold maxLen; omega) (by simp) HCL.out).mono ?_
        rintro e w5 ⟨rfl, rfl⟩
        go_wp2
        go_ret
        exact ⟨_, _, _, rfl, HBN.out, HBf.out, fun k hk => by rw [← inB_some hk]; first | exact Nat.le_refl _ | exact HWS.out⟩
      · have hd : decide (n2 < n1) = false := by simpa using hgt
        obtain rfl : n1 = n2 := by omega
        have hroom := hR2.room (j := n1) (by rw [hsz]; omega)
        obtain ⟨⟨u0, p0⟩, f0⟩ := hroom
        have hcr : cr = dg W64 (N1 + N2) n1 := by
          rw [HH.out.2]; simp [Nat.mod_one]
        obtain ⟨W3, hW3⟩ : ∃ W3, W3 = w2.setCell ⟨w.heap.size, n1, none⟩ (.int .u64 (cr : Nat)) := ⟨_, rfl⟩
        have HR3 := Lib.hid (hR2.step (by rw [hsz]; omega) hcr)
        have HW3 := Lib.hid hW3
        simp only [Nat.zero_add] at HR3
        rw [← hW3] at HR3
        have HRB := Lib.hid (HR3.out.toB (B := w.heap.size) (Nat.le_refl _) HBD.out.size)
        obtain ⟨cur3, hk1, hk2, hk3, hk4⟩ := HR3.out.blk
        obtain ⟨hcl, hbn⟩ := bigN_row (c := c) (m := n1 + 1) hk1 (by rw [hk2, hsz]) (fun i hi => by have := hk3 i hi; simpa using this) hcn1 (by unfold maxLen; omega) HLT.out
        have HCL := Lib.hid hcl
        have HBN := Lib.hid hbn
        clear hk1 hk2 hk3 hk4 hcl hbn hR2 hW3 hsz hcr hgt
        go_wp2_with fail
        rw [← HW3.out]
        refine (norm_any (some ⟨w.heap.size, 0, none⟩) (n1 + 1) c (dg W64 (N1 + N2)) _ (by omega) (by omega) (by unfold maxLen; omega) (by simp) HCL.out).mono ?_
        rintro e w4 ⟨rfl, rfl⟩
        go_wp2
        go_ret
        exact ⟨_, _, _, rfl, HBN.out, HBD.out.trans HRB.out.below, fun k hk => by rw [← inB_some hk]; first | exact Nat.le_refl _ | exact HWS.out⟩
theorem natAddF (a1 a2 : Option Addr) (n1 n2 c1 c2 N1 N2 : Nat) (w : World) (h1 : BigN 139 w a1 n1 c1 N1) (h2 : BigN 139 w a2 n2 c2 N2) (hb1 : n1 ≤ 900000) (hb2 : n2 ≤ 900000) :
    Calls Tryz.prog 144 #[.slice none 0 0, .slice a1 n1 c1, .slice a2 n2 c2] w (GivesF 139 (N1 + N2) w) := by
  by_cases hge : n2 ≤ n1
  · exact natAddF_ge a1 a2 n1 n2 c1 c2 N1 N2 w h1 h2 hb1 hge
  · have hlt : n1 < n2 := by omega
    have HS := Lib.hid (natAddF_ge a2 a1 n2 n1 c2 c1 N2 N1 w h2 h1 hb2 (by omega))
    have hm1 := h1.num.cm
    have hm2 := h2.num.cm
    unfold maxLen at hm1 hm2
    have hc1 := h1.num.nc
    have hc2 := h2.num.nc
    clear h1 h2 hge
    go_enter Tryz.func144, Tryz.ntmps144
    go_wp2_with fail
    refine HS.out.mono ?_
    rintro e w1 ⟨a, n, c, rfl, hN, hB, hf⟩
    rw [Nat.add_comm N2 N1] at hN
    go_wp2
    go_ret
    exact ⟨_, _, _, rfl, hN, hB, hf⟩
theorem natSubF (a1 a2 : Option Addr) (n1 n2 c1 c2 N1 N2 : Nat) (w : World) (h1 : BigN 139 w a1 n1 c1 N1) (h2 : BigN 139 w a2 n2 c2 N2) (hb1 : n1 ≤ 900000) (hle : N2 ≤ N1) :
    Calls Tryz.prog 146 #[.slice none 0 0, .slice a1 n1 c1, .slice a2 n2 c2] w (GivesF 139 (N1 - N2) w) := by
  have hge : n2 ≤ n1 := len_le W64_gt h2.num.top (Nat.lt_of_le_of_lt hle h1.num.lt)
  have hm1 := h1.num.cm
  have hm2 := h2.num.cm
  have hc1 := h1.num.nc
  have hc2 := h2.num.nc
  unfold maxLen at hm1 hm2
  by_cases z1 : n1 = 0
  · subst z1
    obtain rfl : n2 = 0 := by omega
    have e1 : N1 = 0 := by have := h1.num.lt; simpa using this
    have e2 : N2 = 0 := by have := h2.num.lt; simpa using this
    subst e1
    subst e2
    clear h1 h2
    go_enter Tryz.func146, Tryz.ntmps146
    go_wp2
    go_ret
    exact ⟨_, _, _, rfl, BigN.nil _ _, Below.refl _ _, fun k h => (inB_none h).elim⟩
  · have hz1 : ((n1 : Int) == 0) = false := by simpa using z1
    by_cases z2 : n2 = 0
    · subst z2
      have e2 : N2 = 0 := by have := h2.num.lt; simpa using this
      subst e2
      have HN := Lib.hid h1.num
      clear h1 h2
      go_enter Tryz.func146, Tryz.ntmps146
      go_wp2_with fail
      refine (natSetF a1 n1 c1 N1 _ HN.out (by omega)).mono ?_
      rintro e w1 ⟨a, n, c, rfl, hN, hB, hf⟩
      go_wp2
      go_ret
      exact ⟨_, _, _, rfl, hN, hB, hf⟩
    · have hz2 : ((n2 : Int) == 0) = false := by simpa using z2
      obtain ⟨b1, o1, rfl, hl1⟩ := h1.num.form (by omega)
      obtain ⟨b2, o2, rfl, hl2⟩ := h2.num.form (by omega)
      have HB1 := Lib.hid h1
      have HB2 := Lib.hid h2
      clear h1 h2
      go_enter Tryz.func146, Tryz.ntmps146
      go_wp2_with fail
      refine (make_nil n1 (by omega) _).mono ?_
      rintro e w1 (⟨h, _⟩ | ⟨c, hc0, hcn1, hcn2, rfl, hw⟩)
      case inl => omega
      have hb : BlkAt w1 w.heap.size (Array.replicate c (.int .u64 0)) 139 := by rw [hw]; exact BlkAt.new _ _ _
      have hB1 : Below w.heap.size w w1 := by rw [hw]; exact (Below.refl _ _).alloc (Nat.le_refl _) _
      have HS1 := Lib.hid (show w1.heap.size = w.heap.size + 1 from by rw [hw]; simp)
      clear hw
      have hbd : Below w1.heap.size w1 w1.drew := (Below.refl _ _).drew
      have hg2 := hb.keep hbd
      have HD1 := Lib.hid (HB1.out.num.keep (hB1.trans (hbd.mono hB1.size)))
      have HD2 := Lib.hid (HB2.out.num.keep (hB1.trans (hbd.mono hB1.size)))
      have hsz : (Array.replicate c (Value.int .u64 0)).size = c := by simp
      have hca := bor_le N1 N2 n2
      have HH := Lib.hid (sub_high hle HB1.out.num.lt HB2.out.num.lt hge)
      have HLT := Lib.hid (show N1 - N2 < W64 ^ n1 from Nat.lt_of_le_of_lt (Nat.sub_le _ _) HB1.out.num.lt)
      have hx1 : (n2 : Int) ≤ c := by omega
      have hx2 : (n2 : Int) ≤ c1 := by omega
      have hx3 : (n2 : Int) ≤ c2 := by omega
      have HBD := Lib.hid (hB1.trans (hbd.mono hB1.size))
      have HBK := Lib.hid hg2
      clear hb hg2 hbd hB1
      have HLE := Lib.hid hle
      generalize hcar : bor N1 N2 n2 = cr at *
      go_upto_region 10 with fail
      go_region_held3 (fun _ => True) (exact trivial) ((go_at_call 207; (with_reducible refine (subVV_any w.heap.size 0 n2 c b1 o1 c1 b2 o2 c2 _ N1 N2 HLE.out _ HBK.out ?_ ?_ ?_ ?_ ?_ ?_ ?_ ?_ ?_ ?_ ?_ ?_).mono ?_); omega; (rw [hsz]; omega); omega; (unfold maxLen; omega); exact HD1.out.wcells0 hge; omega; (unfold maxLen; omega); exact HD2.out.wcells0 (Nat.le_refl _); omega; (unfold maxLen; omega); exact .inl (Nat.ne_of_lt hl1); exact .inl (Nat.ne_of_lt hl2); rintro e w2 ⟨rfl, hR2⟩; rw [hcar]))
      have HB3 := Lib.hid (hR2.toB (B := w.heap.size) (Nat.le_refl _) HBD.out.size)
      clear hx1 hx2 hx3
      by_cases hgt : n2 < n1
      · have hd : decide (n2 < n1) = true := by simpa using hgt
        have hx1 : (n2 : Int) ≤ n1 := by omega
        have hx2 : (n2 : Int) ≤ c := by omega
        have hx3 : (n2 : Int) ≤ c1 := by omega
        have hn1 : ¬ c = n2 := by omega
        have hn2 : ¬ c1 = n2 := by omega
        obtain ⟨cur2, hk1, hk2, hk3, hk4⟩ := hR2.blk
        obtain ⟨cur1, e1, hq1⟩ : ∃ cur1 e1, BlkAt w2 b1 cur1 e1 := by
          rcases HB1.out.buf with ⟨hh, _⟩ | ⟨g', cur1, hh, hg', _⟩
          · cases hh
          · injection hh with hh
            injection hh with hh _ _
            subst hh
            exact ⟨cur1, _, (hR2.upd.blk (hg'.keep HBD.out) (Nat.ne_of_lt hl1))⟩
        have HE1 := Lib.hid (HB1.out.num.keep (HBD.out.trans (Below.refl _ _)))
        have HW1 := Lib.hid (show WCells w2 b1 (o1 + n2) (n1 - n2) (dg W64 (N1 / W64 ^ n2)) from fun i hi => by
          have := (HD1.out.wcells (k := n2) (m := n1 - n2) (by omega)) i hi
          rw [hR2.upd.cell (p := ⟨b1, o1 + n2 + i, none⟩) (block_lt this) (Nat.ne_of_lt hl1)]
          exact this)
        have HK := Lib.hid (show cur2.size = c from by rw [hk2, hsz])
        have HSZ2 := Lib.hid hR2.upd.size
        have HK1 := Lib.hid hk1
        have HK3 := Lib.hid hk3
        have HQ1 := Lib.hid hq1
        clear hk1 hk2 hk3 hk4 hq1 hR2 hsz
        go_upto_region 12 with fail
        go_region_held3 (fun _ => True) (exact trivial) ((go_at_call 208; (with_reducible refine (subVW_any w.heap.size w.heap.size n2 (n1 - n2) (c - n2) b1 (o1 + n2) (c1 - n2) cur2 cur1 e1 (N1 / W64 ^ n2) cr _ ?_ ?_ ?_ ?_ ?_ ?_ ?_ ?_ ?_ ?_ ?_ ?_ ?_ ?_ HH.out.2.1).mono ?_); exact HK1.out; exact HQ1.out; exact Nat.le_refl _; (exact Nat.le_trans HBD.out.size HSZ2.out); omega; omega; (rw [HK.out]; omega); omega; (unfold maxLen; omega); exact HW1.out; omega; (unfold maxLen; omega); exact Nat.ne_of_lt hl1; (unfold W64; omega); rintro e w3 ⟨rfl, hR3⟩; rw [HH.out.2.2.1]))
        obtain ⟨cur3, hk1, hk2, hk3, hk4⟩ := hR3.blk
        have hsz3 : cur3.size = c := by rw [hk2, HK.out]
        have HBf := Lib.hid (show Below w.heap.size w w3 from (HBD.out.trans HB3.out.below).trans ((below_drew' w2 _).trans hR3.below))
        obtain ⟨hcl, hbn⟩ := bigN_row (c := c) (m := n1) (N := N1 - N2) hk1 (by simpa using hsz3) (fun i hi => by
          by_cases hlo : i < n2
          · rw [hk4 i (.inl hlo)]
            have := HK3.out i hlo
            simpa using this
          · have := hk3 (i - n2) (by omega)
            rw [show n2 + (i - n2) = i from by omega] at this
            rw [this, ← HH.out.1, Dg.dg_div, show n2 + (i - n2) = i from by omega]) hcn1 (by unfold maxLen; omega) HLT.out
        have HCL := Lib.hid hcl
        have HBN := Lib.hid hbn
        clear hk1 hk2 hk3 hk4 hcl hbn hR3 hsz3
        go_wp2_with fail
        refine (norm_any (some ⟨w.heap.size, 0, none⟩) n1 c (dg W64 (N1 - N2)) _ (by omega) (by omega) (by unfold maxLen; omega) (by simp) HCL.out).mono ?_
        rintro e w5 ⟨rfl, rfl⟩
        go_wp2
        go_ret
        exact ⟨_, _, _, rfl, HBN.out, HBf.out, fun k hk => by rw [← inB_some hk]; first | exact Nat.le_refl _ | exact HWS.out⟩
      · have hd : decide (n2 < n1) = false := by simpa using hgt
        obtain rfl : n1 = n2 := by omega
        have hcr : cr = 0 := HH.out.2.2.2 rfl
        subst hcr
        have HRB := Lib.hid (hR2.toB (B := w.heap.size) (Nat.le_refl _) HBD.out.size)
        obtain ⟨cur3, hk1, hk2, hk3, hk4⟩ := hR2.blk
        obtain ⟨hcl, hbn⟩ := bigN_row (c := c) (m := n1) hk1 (by rw [hk2, hsz]) (fun i hi => by have := hk3 i hi; simpa using this) hcn1 (by unfold maxLen; omega) HLT.out
        have HCL := Lib.hid hcl
        have HBN := Lib.hid hbn
        clear hk1 hk2 hk3 hk4 hcl hbn hR2 hsz hgt
        go_wp2_with fail
        refine (norm_any (some ⟨w.heap.size, 0, none⟩) n1 c (dg W64 (N1 - N2)) _ (by omega) (by omega) (by unfold maxLen; omega) (by simp) HCL.out).mono ?_
        rintro e w4 ⟨rfl, rfl⟩
        go_wp2
        go_ret
        exact ⟨_, _, _, rfl, HBN.out, HBD.out.trans HRB.out.below, fun k hk => by rw [← inB_some hk]; first | exact Nat.le_refl _ | exact HWS.out⟩
theorem natMulF_ge (a1 a2 : Option Addr) (n1 n2 c1 c2 N1 N2 : Nat) (w : World) (hK : Thr w) (h1 : BigN 139 w a1 n1 c1 N1) (h2 : BigN 139 w a2 n2 c2 N2) (hb1 : n1 ≤ 300000) (hb2 : n2 < 40) (hge : n2 ≤ n1) (p : Value) :
    Calls Tryz.prog 209 #[.slice none 0 0, p, .slice a1 n1 c1, .slice a2 n2 c2] w (GivesF 139 (N1 * N2) w) := by
  have hm1 := h1.num.cm
  have hm2 := h2.num.cm
  have hc1 := h1.num.nc
  have hc2 := h2.num.nc
  unfold maxLen at hm1 hm2
  have HK := Lib.hid hK
  clear hK
  by_cases z2 : n2 = 0
  · subst z2
    have e2 : N2 = 0 := by have := h2.num.lt; simpa using this
    subst e2
    clear h1 h2
    by_cases z1 : n1 = 0
    · subst z1
      go_enter Tryz.func209, Tryz.ntmps209
      go_wp2
      go_ret
      exact ⟨_, _, _, rfl, BigN.nil _ _, Below.refl _ _, fun k h => (inB_none h).elim⟩
    · have hz1 : ((n1 : Int) == 0) = false := by simpa using z1
      go_enter Tryz.func209, Tryz.ntmps209
      go_wp2
      go_ret
      exact ⟨_, _, _, rfl, BigN.nil _ _, Below.refl _ _, fun k h => (inB_none h).elim⟩
  have hz1 : ((n1 : Int) == 0) = false := by simp; omega
  have hz2 : ((n2 : Int) == 0) = false := by simpa using z2
  obtain ⟨b1, o1, rfl, hl1⟩ := h1.num.form (by omega)
  obtain ⟨b2, o2, rfl, hl2⟩ := h2.num.form (by omega)
  have HB1 := Lib.hid h1
  have HB2 := Lib.hid h2
  by_cases z3 : n2 = 1
  · subst z3
    have e2 := h2.num.cell (i := 0) (by omega)
    rw [Nat.add_zero] at e2
    have hlt2 := h2.num.lt
    have htop := h2.num.top
    rw [Nat.pow_one] at hlt2
    have hd : dg W64 N2 0 = N2 := by unfold dg; rw [Nat.pow_zero, Nat.div_one, Nat.mod_eq_of_lt hlt2]
    rw [hd] at e2
    have h20 : 0 < N2 := by rcases htop with h | h <;> simp at h; omega
    have HL2 := Lib.hid hlt2
    clear h1 h2 hlt2 htop hd
    go_enter Tryz.func209, Tryz.ntmps209
    go_wp2_with fail
    refine (natMulWF _ n1 c1 N1 N2 _ HB1.out (by omega) HL2.out).mono ?_
    rintro e w1 ⟨a, n, c, rfl, hN, hB, hf⟩
    go_wp2
    go_ret
    exact ⟨_, _, _, rfl, hN, hB, hf⟩
  · have hz3 : ((n2 : Int) == 1) = false := by simp; omega
    clear h1 h2
    go_enter Tryz.func209, Tryz.ntmps209
    go_wp2_with fail
    refine (alias_nil _ n1 c1 _).mono ?_
    rintro e w1 ⟨rfl, q1, rfl⟩
    go_wp2_with fail
    refine (alias_nil _ n2 c2 _).mono ?_
    rintro e w2 ⟨rfl, q2, rfl⟩
    obtain ⟨W2, hW2⟩ : ∃ W2, W2 = w.drewN (q1 + q2) := ⟨_, rfl⟩
    have hbq : Below w.heap.size w W2 := by rw [hW2]; exact below_drewN (Below.refl _ _) _
    go_wp2_with fail
    rw [← hW2]
    refine (make_nil (n1 + n2) (by omega) _).mono ?_
    rintro e w3 (⟨h, _⟩ | ⟨c, hc0, hcn1, hcn2, rfl, hw⟩)
    case inl => omega
    have hb : BlkAt w3 W2.heap.size (Array.replicate c (.int .u64 0)) 139 := by rw [hw]; exact BlkAt.new _ _ _
    have hB3 : Below W2.heap.size W2 w3 := by rw [hw]; exact (Below.refl _ _).alloc (Nat.le_refl _) _
    have hbd := Below.then hbq (Nat.le_refl _) hB3
    clear hw hW2
    have HD1 := Lib.hid (HB1.out.num.keep hbd)
    have HD2 := Lib.hid (HB2.out.num.keep hbd)
    have hk := HK.out.keep hbd
    unfold Thr at hk
    have hsz : (Array.replicate c (Value.int .u64 0)).size = c := by simp
    have HBK := Lib.hid hb
    have HBD := Lib.hid hbd
    have HLT := Lib.hid (show N1 * N2 < W64 ^ (n1 + n2) from by
      rw [Nat.pow_add]
      exact Nat.mul_lt_mul_of_lt_of_le HB1.out.num.lt (Nat.le_of_lt HB2.out.num.lt) (Nat.pow_pos W64_pos))
    have HG1 := Lib.hid (show b1 ≠ W2.heap.size from Nat.ne_of_lt (Nat.lt_of_lt_of_le hl1 hbq.size))
    have HG2 := Lib.hid (show b2 ≠ W2.heap.size from Nat.ne_of_lt (Nat.lt_of_lt_of_le hl2 hbq.size))
    have HWS := Lib.hid hbq.size
    clear hb hbd hbq hB3
    have hcast : ((n1 + n2 : Nat) : Int) = (n1 : Int) + n2 := by omega
    go_wp2_with fail
    refine (basicMul_any W2.heap.size (n1 + n2) c b1 o1 n1 c1 b2 o2 n2 c2 _ N1 N2 _ HBK.out hsz hcn1 (Nat.le_refl _) (by unfold maxLen; omega) (by omega) (by omega) (by omega) (by omega) (HD1.out.wcells0 (Nat.le_refl _)) (by omega) (by unfold maxLen; omega) (HD2.out.wcells0 (Nat.le_refl _)) (by omega) (by unfold maxLen; omega) HG1.out HG2.out HB1.out.num.lt HB2.out.num.lt).mono ?_
    rintro e w4 ⟨rfl, hR⟩
    have HRB := Lib.hid (hR.toB (B := w.heap.size) HWS.out HBD.out.size)
    obtain ⟨cur3, hk1, hk2, hk3, hk4⟩ := hR.blk
    obtain ⟨hcl, hbn⟩ := bigN_row (c := c) (m := n1 + n2) hk1 (by rw [hk2, hsz]) (fun i hi => by have := hk3 i hi; simpa using this) hcn1 (by unfold maxLen; omega) HLT.out
    have HCL := Lib.hid hcl
    have HBN := Lib.hid hbn
    clear hk1 hk2 hk3 hk4 hcl hbn hR hsz hk
    go_wp2_with fail
    refine (norm_any (some ⟨W2.heap.size, 0, none⟩) (n1 + n2) c (dg W64 (N1 * N2)) _ (by omega) (by omega) (by unfold maxLen; omega) (by simp) HCL.out).mono ?_
    rintro e w5 ⟨rfl, rfl⟩
    go_wp2
    go_ret
    exact ⟨_, _, _, rfl, HBN.out, HBD.out.trans HRB.out.below, fun k hk => by rw [← inB_some hk]; first | exact Nat.le_refl _ | exact HWS.out⟩
theorem natMulF (a1 a2 : Option Addr) (n1 n2 c1 c2 N1 N2 : Nat) (w : World) (hK : Thr w) (h1 : BigN 139 w a1 n1 c1 N1) (h2 : BigN 139 w a2 n2 c2 N2) (hb1 : n1 ≤ 300000) (hb2 : n2 ≤ 300000) (hb : n1 < 40 ∨ n2 < 40) (p : Value) :
    Calls Tryz.prog 209 #[.slice none 0 0, p, .slice a1 n1 c1, .slice a2 n2 c2] w (GivesF 139 (N1 * N2) w) := by
  by_cases hge : n2 ≤ n1
  · exact natMulF_ge a1 a2 n1 n2 c1 c2 N1 N2 w hK h1 h2 hb1 (by omega) hge p
  · have hlt : n1 < n2 := by omega
    have HS := Lib.hid (natMulF_ge a2 a1 n2 n1 c2 c1 N2 N1 w hK h2 h1 hb2 (by omega) (by omega) p)
    have hm1 := h1.num.cm
    have hm2 := h2.num.cm
    unfold maxLen at hm1 hm2
    have hc1 := h1.num.nc
    have hc2 := h2.num.nc
    clear h1 h2 hge
    go_enter Tryz.func209, Tryz.ntmps209
    go_wp2_with fail
    refine HS.out.mono ?_
    rintro e w1 ⟨a, n, c, rfl, hN, hB, hf⟩
    rw [Nat.mul_comm N2 N1] at hN
    go_wp2
    go_ret
    exact ⟨_, _, _, rfl, hN, hB, hf⟩
end Go.Proofs.YtececkbcinmmpaaGreatDoor
