/-
  Contracts and lemmas: DivL.
-/
import Derived.Test.YtgmienggfaahlaaGreatDoorK16
import Derived.Test.YtgmienggfaahlaaGreatDoorK17
import Derived.Test.YtgmienggfaahlaaGreatDoorK20
import Derived.Test.YtgmienggfaahlaaGreatDoorK06
import Derived.Test.YtgmienggfaahlaaGreatDoorK21
set_option linter.unusedSimpArgs false
set_option linter.unusedVariables false
set_option maxRecDepth 100000
set_option maxHeartbeats 8000000
namespace Go.Proofs.YtgmienggfaahlaaGreatDoor
open Go.RowKit Go.Bg Dg
theorem bigN_wr {w w' : World} {x g n c N : Nat} (h : BigN 155 w (some ⟨x, 0, none⟩) n c N) (k : WrAt g w w') (hne : x ≠ g) : BigN 155 w' (some ⟨x, 0, none⟩) n c N := by
  obtain ⟨cur, hg, hsz⟩ : ∃ cur, BlkAt w x cur 155 ∧ cur.size = c := by
    rcases h.buf with ⟨h, _⟩ | ⟨g', cur, h, hg, hsz⟩
    · cases h
    · injection h with h
      injection h with h _ _
      subst h
      exact ⟨cur, hg, hsz⟩
  refine ⟨⟨h.num.lt, h.num.top, h.num.nc, h.num.cm, fun hn => ?_⟩, .inr ⟨x, cur, rfl, k.upd.blk hg hne, hsz⟩⟩
  refine ⟨x, 0, rfl, fun i hi => ?_⟩
  rw [k.cell ⟨cur, hg, hsz⟩ hne]
  exact h.num.cell hi
def DivRes (az azu : Option Addr) (U V sb : Nat) (st : Option (Nat × Nat)) (l : Nat) (B : Nat → Prop) (w0 w : World) (e : Ending) (w' : World) : Prop :=
  ∃ a n c a' n' c' st' l', e = .returned (.tuple #[.slice a n c, .slice a' n' c']) ∧ BigN 155 w' a n c (U / V) ∧ BigN 155 w' a' n' c' (U % V) ∧
    StkAt w' sb st' l' ∧ (st' = none ∨ l' = l) ∧ (∀ x, StkBlk sb st' x → StkBlk sb st x ∨ w.heap.size ≤ x) ∧ Upd B w0 w' ∧ New B w' ∧
    (∀ k, InB a k → (InB az k ∨ w.heap.size ≤ k) ∧ ¬ InB a' k ∧ ¬ StkBlk sb st' k) ∧ (∀ k, InB a' k → (InB azu k ∨ w.heap.size ≤ k) ∧ ¬ StkBlk sb st' k)
theorem alias_two (g1 g2 n1 c1 n2 c2 : Nat) (cur1 cur2 : Array Value) (w : World) (h1 : BlkAt w g1 cur1 155) (h2 : BlkAt w g2 cur2 155) (hne : g1 ≠ g2) (h01 : 0 < c1) (h02 : 0 < c2) (hm1 : c1 ≤ maxLen) (hm2 : c2 ≤ maxLen) :
    Calls Tryz.prog 142 #[.slice (some ⟨g1, 0, none⟩) n1 c1, .slice (some ⟨g2, 0, none⟩) n2 c2] w fun e w' => e = .returned (.bool false) ∧ ∃ m, w' = w.drewN m := by
  unfold maxLen at hm1 hm2
  obtain ⟨j, hj, hj1⟩ := infoWordJ
  obtain ⟨p1, hp1⟩ : ∃ p1, c1 = p1 + 1 := ⟨c1 - 1, by omega⟩
  obtain ⟨p2, hp2⟩ : ∃ p2, c2 = p2 + 1 := ⟨c2 - 1, by omega⟩
  have e1 : (c1 : Int) - 1 = p1 := by omega
  have e2 : (c2 : Int) - 1 = p2 := by omega
  have i1 : (p1 : Int) < c1 := by omega
  have i2 : (p2 : Int) < c2 := by omega
  have q1 : ((c1 : Int) > 0) = True := by simp; omega
  have q2 : ((c2 : Int) > 0) = True := by simp; omega
  have HQ := Lib.hid (fun q => run_eql_ptr_other (P := Tryz.prog) (a := ⟨g1, p1, none⟩) (b := ⟨g2, p2, none⟩) (w.drewN q) Tryz.underlying219 hj (by rw [hj1]; decide) (by intro h; injection h with h _ _; exact hne h) (h1.keep (below_drewN (Below.refl _ _) q)) (h2.keep (below_drewN (Below.refl _ _) q)))
  have hq := HQ.out
  clear hp1 hp2 h1 h2
  go_enter Tryz.func142, Tryz.ntmps142
  go_wp2
  go_quiet (fail)
  go_wp2
  go_ret
  exact ⟨rfl, _, rfl⟩
theorem alias_cap0 (a0 a : Option Addr) (n c : Nat) (w : World) :
    Calls Tryz.prog 142 #[.slice a0 0 0, .slice a n c] w fun e w' => e = .returned (.bool false) ∧ ∃ m, w' = w.drewN m := by
  go_enter Tryz.func142, Tryz.ntmps142
  go_wp2
  go_quiet (fail)
  go_wp2
  go_ret
  exact ⟨rfl, _, rfl⟩
theorem alias_apart (az : Option Addr) (nz cz Z g n c : Nat) (cur : Array Value) (w : World) (h : BigN 155 w az nz cz Z) (hg : BlkAt w g cur 155) (hne : ¬ InB az g) (h0 : 0 < c) (hm : c ≤ maxLen) :
    Calls Tryz.prog 142 #[.slice az nz cz, .slice (some ⟨g, 0, none⟩) n c] w fun e w' => e = .returned (.bool false) ∧ ∃ m, w' = w.drewN m := by
  have hnc := h.num.nc
  by_cases z : cz = 0
  · subst z
    obtain rfl : nz = 0 := by omega
    exact alias_cap0 az _ n c w
  · rcases h.buf with ⟨_, h'⟩ | ⟨g1, cur1, rfl, hg1, _⟩
    · exact absurd h' z
    · exact alias_two g1 g nz cz n c cur1 cur w hg1 hg (fun e => hne (by rw [e]; exact inB_is _ _ _)) (by omega) h0 h.num.cm hm
theorem divLarge_shift (sb l : Nat) (B : Nat → Prop) (st : Option (Nat × Nat)) (az azu a1 a2 : Option Addr) (nz cz Z nzu czu ZU n1 n2 c1 c2 N M : Nat) (w0 w : World) (hK : ∀ w', Upd B w0 w' → ThrD w') (h1 : BigN 155 w a1 n1 c1 N) (h2 : BigN 155 w a2 n2 c2 M)
    (hz : BigN 155 w az nz cz Z) (hzu : BigN 155 w azu nzu czu ZU) (hzs : ∀ k, InB az k → B k ∧ ¬ StkBlk sb st k) (hus : ∀ k, InB azu k → B k ∧ ¬ StkBlk sb st k ∧ ¬ InB az k ∧ ¬ InB a1 k ∧ ¬ InB a2 k)
    (hn2 : 2 ≤ n2) (hle : n2 ≤ n1) (hn1 : n1 ≤ 900) (hn40 : n2 < 40) (hst : StkAt w sb st l) (hl : l ≤ 5000) (hsB : ∀ x, StkBlk sb st x → B x)
    (ho1 : ∀ p, a1 = some p → ¬ StkBlk sb st p.block) (ho2 : ∀ p, a2 = some p → ¬ StkBlk sb st p.block) (bel : Upd B w0 w) (siz : New B w) (hsh : 0 < lz (dg W64 M (n2 - 1))) :
    Calls Tryz.prog 203 #[.slice az nz cz, .pointer (some ⟨sb, 0, none⟩), .slice azu nzu czu, .slice a1 n1 c1, .slice a2 n2 c2] w (DivRes az azu N M sb st l B w0 w) := by
  obtain ⟨b1, o1, rfl, hb1⟩ := h1.num.form (by omega)
  obtain ⟨b2, o2, rfl, hb2⟩ := h2.num.form (by omega)
  have hb1s : ¬ StkBlk sb st b1 := ho1 _ rfl
  have hb2s : ¬ StkBlk sb st b2 := ho2 _ rfl
  obtain ⟨p, hp⟩ : ∃ p : Nat, n2 = p + 1 := ⟨n2 - 1, by omega⟩
  obtain ⟨m, hm⟩ : ∃ m : Nat, n1 = m + n2 := ⟨n1 - n2, by omega⟩
  have hpi : (n2 : Int) - 1 = p := by omega
  have hmi : (n1 : Int) - (n2 : Int) = m := by omega
  -- the scale
  obtain ⟨y, hy⟩ : ∃ y, y = dg W64 M p := ⟨_, rfl⟩
  have hyl : y < 18446744073709551616 := by rw [hy]; exact W64_lt (dg_lt W64_pos _ _)
  have hM1 : M < W64 ^ (p + 1) := by rw [← hp]; exact h2.num.lt
  have hy0 : 0 < y := by
    rw [hy, top_word hM1]
    rcases h2.num.top with h | h
    · omega
    · rw [show n2 - 1 = p from by omega] at h
      exact Nat.div_pos h (Nat.pow_pos W64_pos)
  obtain ⟨hz1, hz2⟩ := lz_sum hy0 (show y < W64 from hyl)
  obtain ⟨hz3, hz4⟩ := lz_top hy0 (show y < W64 from hyl)
  have HNL := Lib.hid (fun w' => nlz_any y hy0 hyl w')
  rw [show n2 - 1 = p from by omega, ← hy] at hsh
  obtain ⟨s, hs⟩ : ∃ s, s = lz y := ⟨_, rfl⟩
  rw [← hs] at hz2 hz3 hz4 HNL hsh
  have hVf : M * 2 ^ s < W64 ^ n2 := by rw [hp]; exact scale_fits hM1 (by omega) (by rw [← hy]; exact hz4)
  have hVt : 9223372036854775808 ≤ dg W64 (M * 2 ^ s) p := Nat.le_trans (by rw [← hy]; exact hz3) (scale_top hM1 (by rw [← hp]; exact hVf))
  obtain ⟨hUf, hUt⟩ := scale_up h1.num.lt (show s ≤ 63 from by omega)
  have hUV : N * 2 ^ s < M * 2 ^ s * W64 ^ (m + 1) := scale_less (by rw [← hp, ← hm]; exact h1.num.lt) (by rw [← hp]; exact hVf) (by omega) hVt
  have HSC := Lib.hid (⟨scale_div N M s, scale_mod N M s⟩ : N * 2 ^ s / (M * 2 ^ s) = N / M ∧ N * 2 ^ s % (M * 2 ^ s) / 2 ^ s = N % M)
  have cy : w.cell? ⟨b2, o2 + p, none⟩ = some (.int .u64 (y : Nat)) := by rw [hy]; exact h2.num.cell (by omega)
  have HFV := Lib.hid (⟨hVf, hVt, hUf, hUt, hUV⟩ : M * 2 ^ s < W64 ^ n2 ∧ 9223372036854775808 ≤ dg W64 (M * 2 ^ s) p ∧ N * 2 ^ s < W64 ^ (n1 + 1) ∧ dg W64 (N * 2 ^ s) n1 < 9223372036854775808 ∧ N * 2 ^ s < M * 2 ^ s * W64 ^ (m + 1))
  have HPM := Lib.hid (⟨hp, hm⟩ : n2 = p + 1 ∧ n1 = m + n2)
  have H1L := Lib.hid h1.num.lt
  have hUw := h1.num.wcells0 (Nat.le_refl n1)
  have hVw := h2.num.wcells0 (Nat.le_refl n2)
  have hc1 := h1.num.nc
  have hc1m := h1.num.cm
  have hc2 := h2.num.nc
  have hc2m := h2.num.cm
  have hSV := Lib.hid (stkSave_any sb l st w hst)
  have hNT := Lib.hid (stkNat_any sb l n2 st w (by omega) (by omega) (by omega) hst)
  have hczm := hz.num.cm
  have hncz := hz.num.nc
  have hczum := hzu.num.cm
  have hnczu := hzu.num.nc
  unfold maxLen at hczm hczum
  have HZ := Lib.hid (⟨hz, hzu, hzs, fun k hk => ⟨(hus k hk).1, (hus k hk).2.1, (hus k hk).2.2.1, fun e => (hus k hk).2.2.2.1 (e ▸ inB_is _ _ _), fun e => (hus k hk).2.2.2.2 (e ▸ inB_is _ _ _)⟩⟩ : BigN 155 w az nz cz Z ∧ BigN 155 w azu nzu czu ZU ∧ (∀ k, InB az k → B k ∧ ¬ StkBlk sb st k) ∧ (∀ k, InB azu k → B k ∧ ¬ StkBlk sb st k ∧ ¬ InB az k ∧ b1 ≠ k ∧ b2 ≠ k))
  have HW := Lib.hid (⟨hUw, hVw, hb1, hb2, hb1s, hb2s⟩ : WCells w b1 o1 n1 (dg W64 N) ∧ WCells w b2 o2 n2 (dg W64 M) ∧ b1 < w.heap.size ∧ b2 < w.heap.size ∧ ¬ StkBlk sb st b1 ∧ ¬ StkBlk sb st b2)
  have HBL := Lib.hid (⟨bel, siz, hsB, hst⟩ : Upd B w0 w ∧ New B w ∧ (∀ x, StkBlk sb st x → B x) ∧ StkAt w sb st l)
  have HK := Lib.hid hK
  clear hp hm hy hs hM1 hy0 hz1 hz3 hz4 hVf hVt hUf hUt hUV h1 h2 hUw hVw hst hsB ho1 ho2 bel siz hK hb1s hb2s hb1 hb2 hz hzu hzs hus
  go_enter_defers Tryz.func203, Tryz.ntmps203
  go_wp2_with fail
  refine hSV.out.mono ?_
  rintro e w1 ⟨rfl, rfl⟩
  go_wp2_with fail
  refine (HNL.out _).mono ?_
  rintro e w1 ⟨rfl, rfl⟩
  go_wp2_with fail
  refine hNT.out.mono ?_
  rintro e w2 ⟨st', l', gv, ov, kv, curv, rfl, hkv1, hkv2, hbv, hov, hst2, hloc, hblks, hprot, hll, hl0', hUpd, hwd, hlow⟩
  obtain ⟨hUw, hVw, hb1, hb2, hb1s, hb2s⟩ := HW.out
  obtain ⟨bel, siz, hsB, hst⟩ := HBL.out
  have hU2 : WCells w2 b1 o1 n1 (dg W64 N) := fun i hi => by rw [hUpd.cell (p := ⟨b1, o1 + i, none⟩) hb1 hb1s]; exact hUw i hi
  have hV2 : WCells w2 b2 o2 n2 (dg W64 M) := fun i hi => by rw [hUpd.cell (p := ⟨b2, o2 + i, none⟩) hb2 hb2s]; exact hVw i hi
  have bel2 : Upd B w0 w2 := hUpd.into bel (fun k _ hk => hsB k hk)
  have siz2 : New B w2 := siz.up hUpd.size
  have sB2 : ∀ x, StkBlk sb st' x → B x := fun x hx => by
    rcases hblks x hx with h | h
    · exact hsB x h
    · exact siz x h
  have hgvB : B gv := by
    rcases hloc with h | ⟨⟨ib, h⟩, _⟩
    · exact siz gv h
    · exact hsB gv (.inr ⟨ib, gv, h, .inr rfl⟩)
  have hnv : ∀ {b}, b < w1.heap.size → ¬ StkBlk sb st b → b ≠ gv := fun {b} h1 h2 e => by
    rcases hloc with h | ⟨⟨ib, h⟩, _⟩
    · omega
    · exact h2 (.inr ⟨ib, gv, h, .inr e⟩)
  have hb1v := hnv hb1 hb1s
  have hb2v := hnv hb2 hb2s
  have hb1l : b1 < w2.heap.size := Nat.lt_of_lt_of_le hb1 hUpd.size
  have hb2l : b2 < w2.heap.size := Nat.lt_of_lt_of_le hb2 hUpd.size
  have HB2 := Lib.hid (⟨bel2, siz2, sB2, hblks, hprot, hll.1, hl0', hgvB⟩ : Upd B w0 w2 ∧ New B w2 ∧ (∀ x, StkBlk sb st' x → B x) ∧ (∀ x, StkBlk sb st' x → StkBlk sb st x ∨ w1.heap.size ≤ x) ∧ (∀ ib, st' = some (ib, gv) → ov + n2 ≤ l') ∧ l ≤ l' ∧ (st' = none ∨ 0 < l') ∧ B gv)
  obtain ⟨zz, zu, zs, zus⟩ := HZ.out
  have zz2 := zz.apart hUpd (fun k hk => (zs k hk).2)
  obtain ⟨gu, hgu, hmk⟩ := make_into azu nzu czu ZU (n1 + 1) w2 (zu.apart hUpd (fun k hk => (zus k hk).2.1)) (by omega) (by omega)
  have hci : ((n1 + 1 : Nat) : Int) = (n1 : Int) + 1 := by omega
  rw [hci] at hmk
  have HMU := Lib.hid hmk
  have hzv : ∀ k, InB az k → k ≠ gv := fun k hk => hnv (zz.inLt k hk) (zs k hk).2
  have hzst : ∀ k, InB az k → ¬ StkBlk sb st' k := fun k hk h => by
    rcases hblks k h with h | h
    · exact (zs k hk).2 h
    · exact absurd (zz.inLt k hk) (by omega)
  have hzgu : ∀ k, InB az k → k ≠ gu := fun k hk e => by
    rcases hgu with h | h
    · exact (zus gu h).2.2.1 (e ▸ hk)
    · have h3 := zz.inLt k hk
      have h4 := hUpd.size
      omega
  have huv : gu ≠ gv := by
    rcases hgu with h | h
    · exact hnv (zu.inLt gu h) (zus gu h).2.1
    · have := hbv.lt; omega
  have hub1 : b1 ≠ gu := by
    rcases hgu with h | h
    · exact (zus gu h).2.2.2.1
    · omega
  have hub2 : b2 ≠ gu := by
    rcases hgu with h | h
    · exact (zus gu h).2.2.2.2
    · omega
  have hguB : B gu := by
    rcases hgu with h | h
    · exact (zus gu h).1
    · exact siz2 gu h
  have hgs : ¬ StkBlk sb st' gu := fun h' => by
    rcases hgu with h | h
    · rcases hblks gu h' with h2 | h2
      · exact (zus gu h).2.1 h2
      · exact absurd (zu.inLt gu h) (by omega)
    · have := hst2.lt h'; omega
  have hguP : InB azu gu ∨ w1.heap.size ≤ gu := by
    rcases hgu with h | h
    · exact .inl h
    · exact .inr (Nat.le_trans hUpd.size h)
  have HZ2 := Lib.hid (⟨zz2, hzv, hzgu, hzst, fun k hk => (zs k hk).1, hguB, hguP⟩ : BigN 155 w2 az nz cz Z ∧ (∀ k, InB az k → k ≠ gv) ∧ (∀ k, InB az k → k ≠ gu) ∧ (∀ k, InB az k → ¬ StkBlk sb st' k) ∧ (∀ k, InB az k → B k) ∧ B gu ∧ (InB azu gu ∨ w1.heap.size ≤ gu))
  have HGS := Lib.hid hgs
  clear hmk hci hgu zz zu zs zus zz2 hzv hzst hzgu hguB hgs hguP HZ
  have HSW := Lib.hid hUpd.size
  have hl' : l' ≤ 10000 := by have := hll.2; omega
  have HST2 := Lib.hid hst2
  clear hUpd hwd hlow hloc hblks hprot hll hl0' hsB hst bel siz bel2 siz2 sB2 hgvB hnv HW HBL hUw hVw hb1 hb2 hb1s hb2s hst2 hSV hNT HNL cy
  go_wp2_with fail
  refine HMU.out.mono ?_
  rintro e w3 ⟨cu, curu, rfl, hK3, hcus, hcu1, hcu2, hb3⟩
  have hcu3 := hcu2
  unfold maxLen at hcu3
  have hU3 : WCells w3 b1 o1 n1 (dg W64 N) := fun i hi => cell_keep (hU2 i hi) hb3
  have hV3 : WCells w3 b2 o2 n2 (dg W64 M) := fun i hi => cell_keep (hV2 i hi) hb3
  have hbv3 := hbv.keep hb3
  have hvl : gv < w2.heap.size := hbv.lt
  have HST3 := Lib.hid (HST2.out.keep hb3)
  have HB3 := Lib.hid (⟨HB2.out.1.then hb3, HB2.out.2.1.up hb3.size, HZ2.out.1.keep hb3, hb3.size⟩ : Upd B w0 w3 ∧ New B w3 ∧ BigN 155 w3 az nz cz Z ∧ w2.heap.size ≤ w3.heap.size)
  have HCUS := Lib.hid hcus
  clear hcus hb3 hbv hU2 hV2 HMU HST2
  obtain ⟨t, hst⟩ : ∃ t, s + t = 64 := ⟨64 - s, by omega⟩
  have hs0 : ((s : Int) == 0) = false := by simp; omega
  have hs0' : ¬ (s : Int) = 0 := by omega
  have HL1 := Lib.hid (lshVU_any gv ov n2 kv b2 o2 c2 curv M s t w3 hbv3 (by omega) (by omega) hov hkv1 hkv2 hV3 (by omega) hc2m (.inl hb2v) hst (by omega) (by omega))
  have HHV := Lib.hid hbv3
  have HHU := Lib.hid hK3
  have HU3 := Lib.hid hU3
  clear hbv3 hK3 hU3 hV3
  go_wp2_with fail
  refine HL1.out.mono ?_
  rintro e w4 ⟨rfl, hR4⟩
  have k4 := WrAt.of_row HHV.out hR4
  have HB4 := Lib.hid (⟨k4.into HB3.out.1 HB2.out.2.2.2.2.2.2.2, HB3.out.2.1.up k4.upd.size, HB3.out.2.2.1.apart k4.upd HZ2.out.2.1, Nat.le_trans HB3.out.2.2.2 k4.upd.size⟩ : Upd B w0 w4 ∧ New B w4 ∧ BigN 155 w4 az nz cz Z ∧ w2.heap.size ≤ w4.heap.size)
  have hU4 := k4.upd.blk HHU.out huv
  have HV4 := Lib.hid (show WCells w4 gv ov n2 (dg W64 (M * 2 ^ s)) from hR4.cells)
  have VB4 := Lib.hid (WBlk.wr ⟨curv, HHV.out, rfl⟩ k4)
  have HST4 := Lib.hid (HST3.out.wr ⟨curv, HHV.out, rfl⟩ k4)
  have hN4 : WCells w4 b1 o1 n1 (dg W64 N) := wcells_out HHV.out hR4 HU3.out (.inl hb1v)
  have HL2 := Lib.hid (lshVU_any gu 0 n1 cu b1 o1 c1 curu N s t w4 hU4 (by omega) (by omega) (by rw [HCUS.out]; omega) (by omega) hcu2 hN4 (by omega) hc1m (.inl hub1) hst (by omega) (by omega))
  have HHU4 := Lib.hid hU4
  clear hR4 k4 hU4 hN4 HL1 HU3 HHU
  go_wp2_with fail
  refine HL2.out.mono ?_
  rintro e w5 ⟨rfl, hR5⟩
  have hco : dg W64 N (n1 - 1) / 2 ^ t = dg W64 (N * 2 ^ s) n1 := by
    have h1 : n1 = n1 - 1 + 1 := by omega
    have h2 := shift_out (U := N) (n := n1 - 1) hst (by rw [← h1]; exact H1L.out) (by rw [show n1 - 1 + 2 = n1 + 1 from by omega]; exact HFV.out.2.2.1)
    rw [← h1] at h2
    exact h2
  rw [hco]
  obtain ⟨⟨u5, c5⟩, f5⟩ := hR5.room (j := n1) (by rw [HCUS.out]; omega)
  have k5 := (WrAt.of_row HHU4.out hR5).trans (WrAt.setCell gu n1 (.int .u64 (dg W64 (N * 2 ^ s) n1 : Nat)) w5)
  have HUW6 := Lib.hid (show WCells (w5.setCell ⟨gu, n1, none⟩ (.int .u64 (dg W64 (N * 2 ^ s) n1 : Nat))) gu 0 (n1 + 1) (dg W64 (N * 2 ^ s)) from fun i hi => by
    by_cases e : i = n1
    · rw [e, Nat.zero_add]
      exact World.cell?_setCell_same _ _ _ c5
    · rw [World.cell?_setCell_other _ _ _ _ (fun hh => by injection hh with _ h2 _; omega)]
      exact hR5.cells i (by omega))
  have HB6 := Lib.hid (⟨k5.into HB4.out.1 HZ2.out.2.2.2.2.2.1, HB4.out.2.1.up k5.upd.size, HB4.out.2.2.1.apart k5.upd HZ2.out.2.2.1, Nat.le_trans HB4.out.2.2.2 k5.upd.size⟩ : Upd B w0 (w5.setCell ⟨gu, n1, none⟩ (.int .u64 (dg W64 (N * 2 ^ s) n1 : Nat))) ∧ New B (w5.setCell ⟨gu, n1, none⟩ (.int .u64 (dg W64 (N * 2 ^ s) n1 : Nat))) ∧ BigN 155 (w5.setCell ⟨gu, n1, none⟩ (.int .u64 (dg W64 (N * 2 ^ s) n1 : Nat))) az nz cz Z ∧ w2.heap.size ≤ (w5.setCell ⟨gu, n1, none⟩ (.int .u64 (dg W64 (N * 2 ^ s) n1 : Nat))).heap.size)
  have UB6 := Lib.hid (WBlk.wr ⟨curu, HHU4.out, HCUS.out⟩ k5 : WBlk _ gu cu)
  have VB6 := Lib.hid (VB4.out.wr k5)
  have HST6 := Lib.hid (HST4.out.wr ⟨curu, HHU4.out, rfl⟩ k5)
  have HV6 := Lib.hid (show WCells (w5.setCell ⟨gu, n1, none⟩ (.int .u64 (dg W64 (N * 2 ^ s) n1 : Nat))) gv ov n2 (dg W64 (M * 2 ^ s)) from fun i hi => by rw [k5.cell VB4.out (Ne.symm huv)]; exact HV4.out i hi)
  have HAL := Lib.hid (show Calls Tryz.prog 142 #[.slice az nz cz, .slice (some ⟨gu, 0, none⟩) ((n1 + 1 : Nat)) cu] (w5.setCell ⟨gu, n1, none⟩ (.int .u64 (dg W64 (N * 2 ^ s) n1 : Nat))) _ from by
    obtain ⟨c6, hc6, _⟩ := UB6.out
    exact alias_apart az nz cz Z gu (n1 + 1) cu c6 _ HB6.out.2.2.1 hc6 (fun h => HZ2.out.2.2.1 gu h rfl) (by omega) hcu2)
  clear hR5 k5 HB4 HHU4 VB4 HST4 HV4 HL2 hco
  have HUT := Lib.hid (show ∀ x, x = n1 → dg W64 (N * 2 ^ s) x < 9223372036854775808 from fun x e => by rw [e]; exact HFV.out.2.2.2.1)
  generalize dg W64 (N * 2 ^ s) n1 = cw at *
  go_wp2_with fail
  refine HAL.out.mono ?_
  rintro e w7 ⟨rfl, hd7⟩
  have hb7 : Below (w5.setCell ⟨gu, n1, none⟩ (.int .u64 (cw : Nat))).heap.size (w5.setCell ⟨gu, n1, none⟩ (.int .u64 (cw : Nat))) w7 := below_of_drewN hd7
  obtain ⟨gq, hgq, hmk⟩ := make_into az nz cz Z (m + 1) w7 (HB6.out.2.2.1.keep hb7) (by omega) (by omega)
  have hci : ((m + 1 : Nat) : Int) = (m : Int) + 1 := by omega
  rw [hci] at hmk
  have HMQ := Lib.hid hmk
  have hs7 := hb7.size
  have hqu : gu ≠ gq := by
    rcases hgq with h | h
    · exact (HZ2.out.2.2.1 gq h).symm
    · obtain ⟨c6, hc6, _⟩ := UB6.out
      have := hc6.lt
      omega
  have hqv : gv ≠ gq := by
    rcases hgq with h | h
    · exact (HZ2.out.2.1 gq h).symm
    · have := HB6.out.2.2.2; omega
  have hqB : B gq := by
    rcases hgq with h | h
    · exact HZ2.out.2.2.2.2.1 gq h
    · exact HB6.out.2.1 gq (Nat.le_trans hs7 h)
  have hqs : ¬ StkBlk sb st' gq := fun h' => by
    rcases hgq with h | h
    · exact HZ2.out.2.2.2.1 gq h h'
    · have := HST6.out.lt h'; omega
  have HQP := Lib.hid (show InB az gq ∨ w1.heap.size ≤ gq from by
    rcases hgq with h | h
    · exact .inl h
    · have h3 := HB6.out.2.2.2
      have h4 := HSW.out
      exact .inr (by omega))
  clear hmk hci hgq
  go_wp2_with fail
  refine HMQ.out.mono ?_
  rintro e w8 ⟨cq, curq, rfl, hK8, hcqs, hcq1, hcq2, hb8⟩
  have hcq3 := hcq2
  unfold maxLen at hcq3
  have QB8 := Lib.hid (show WBlk w8 gq cq from ⟨curq, hK8, hcqs⟩)
  clear hK8 hcqs
  have hbb := Below.then hb7 (Nat.le_refl _) hb8
  have HB8 := Lib.hid (⟨HB6.out.1.then hbb, HB6.out.2.1.up hbb.size⟩ : Upd B w0 w8 ∧ New B w8)
  have UB8 := Lib.hid (UB6.out.keep hbb)
  have VB8 := Lib.hid (VB6.out.keep hbb)
  have HST8 := Lib.hid (HST6.out.keep hbb)
  have HU8 := Lib.hid (show WCells w8 gu 0 (n1 + 1) (dg W64 (N * 2 ^ s)) from fun i hi => cell_keep (HUW6.out i hi) hbb)
  have HV8 := Lib.hid (show WCells w8 gv ov n2 (dg W64 (M * 2 ^ s)) from fun i hi => cell_keep (HV6.out i hi) hbb)
  have kT : w8.cell? ⟨3, 0, none⟩ = some (.int .i64 40) := HK.out w8 HB8.out.1
  have h40 : (n2 : Int) < 40 := by omega
  have hVU : N * 2 ^ s / (M * 2 ^ s) < W64 ^ (m + 1) := by
    refine (Nat.div_lt_iff_lt_mul ?_).2 (by rw [Nat.mul_comm (W64 ^ (m + 1))]; exact HFV.out.2.2.2.2)
    rcases Nat.eq_zero_or_pos (M * 2 ^ s) with h | h
    · have := HFV.out.2.2.2.2; rw [h, Nat.zero_mul] at this; omega
    · exact h
  have HVU := Lib.hid hVU
  obtain ⟨cv, vb8⟩ : ∃ cv, WBlk w8 gv cv ∧ ov + n2 ≤ cv := ⟨_, VB8.out, hov⟩
  have HDB := Lib.hid (divBasic_any sb gu gv ov gq n2 (m + 1) (n1 + 1) cu cv cq kv l' B (N * 2 ^ s) (M * 2 ^ s) st' w0 w8 hn2 (by omega) (by omega) (by omega) (by have := HPM.out.2; omega) HFV.out.2.2.2.2
    (by have h1 := HUT.out n1 rfl; have h2 := HFV.out.2.1; have h3 := HPM.out; rw [show m + 1 + n2 - 1 = n1 from by omega, show n2 - 1 = p from by omega]; exact Nat.lt_of_lt_of_le h1 h2) HFV.out.1
    (by have h2 := HFV.out.2.1; have h3 := HPM.out; rw [show n2 - 1 = p from by omega]; show (18446744073709551616 : Nat) ≤ _; omega)
    UB8.out hcu1 hcu2 vb8.1 vb8.2 hkv1 hkv2 QB8.out hcq1 hcq2 huv hqu hqv HU8.out HV8.out HST8.out hl' HGS.out hqs HB2.out.2.2.2.2.1 HB2.out.2.2.1 HB8.out.1 HB8.out.2 HZ2.out.2.2.2.2.2.1 hqB)
  have HS8 := Lib.hid (show w2.heap.size ≤ w8.heap.size from by have := HB6.out.2.2.2; have := hbb.size; omega)
  have HQS := Lib.hid (⟨hqs, hqu, (by obtain ⟨_, h, _⟩ := QB8.out; exact h.lt), (by obtain ⟨_, h, _⟩ := UB8.out; exact h.lt)⟩ : ¬ StkBlk sb st' gq ∧ gu ≠ gq ∧ gq < w8.heap.size ∧ gu < w8.heap.size)
  clear hb8 hb7 hd7 hs7 hbb HMQ HB6 UB6 VB6 HST6 HUW6 HV6 HAL QB8 HB8 UB8 VB8 HST8 HU8 HV8 vb8 hVU
  go_wp2_with fail
  refine HDB.out.mono ?_
  rintro e w9 ⟨st2, l2, rfl, hst9, hl9, hbk9, ub9, qb9, huw9, hqw9, bel9, siz9⟩
  clear kT
  obtain ⟨curQ, hQ9, hQs⟩ := qb9
  have hcq9 : ∀ i, i < m + 1 → curQ[i]? = some (.int .u64 (dg W64 (N * 2 ^ s / (M * 2 ^ s)) i : Nat)) := fun i hi => by
    have := hqw9 i hi
    rw [Nat.zero_add, hQ9.cell] at this
    exact this
  obtain ⟨hclQ, hbnQ⟩ := bigN_row hQ9 hQs hcq9 hcq1 hcq2 HVU.out
  rw [HSC.out.1] at hbnQ hclQ
  have HNQ := Lib.hid (norm_any (some ⟨gq, 0, none⟩) (m + 1) cq (dg W64 (N / M)) w9 (by omega) (by omega) hcq2 (by simp) hclQ)
  have HBQ := Lib.hid hbnQ
  have HE9 := Lib.hid (⟨hst9, hl9, hbk9, bel9, siz9⟩ : StkAt w9 sb st2 l2 ∧ (st2 = none ∨ l2 = l') ∧ (∀ x, StkBlk sb st2 x → StkBlk sb st' x ∨ w8.heap.size ≤ x) ∧ Upd B w0 w9 ∧ New B w9)
  have HUB9 := Lib.hid ub9
  have HUW9 := Lib.hid huw9
  clear hQ9 hQs hcq9 hclQ hbnQ hst9 hl9 hbk9 bel9 siz9 hqw9 ub9 huw9 HDB
  go_wp2_with fail
  refine HNQ.out.mono ?_
  rintro e w10 ⟨rfl, rfl⟩
  have hs1 : ((s : Int) != 0) = true := by simp; omega
  obtain ⟨curU, hU9, hUs⟩ := HUB9.out
  have hURl : N * 2 ^ s % (M * 2 ^ s) < W64 ^ (n1 + 1) := Nat.lt_of_le_of_lt (Nat.mod_le _ _) HFV.out.2.2.1
  have HRS := Lib.hid (rshVU_any gu 0 (n1 + 1) cu gu 0 cu curU (N * 2 ^ s % (M * 2 ^ s)) t s w9 hU9 (by omega) (by omega) (by omega) (by omega) hcu2 HUW9.out (by omega) hcu2 (.inr (Nat.le_refl _)) (by omega) (by omega) (by omega) hURl)
  have HU9 := Lib.hid (⟨hU9, hUs⟩ : BlkAt w9 gu curU 155 ∧ curU.size = cu)
  clear hU9 hUs hURl
  go_wp2_with fail
  refine HRS.out.mono ?_
  rintro e w11 ⟨rfl, hR11⟩
  rw [HSC.out.2] at hR11
  have k11 := WrAt.of_row HU9.out.1 hR11
  have hst11 := HE9.out.1.wr ⟨curU, HU9.out.1, rfl⟩ k11
  have bel11 := k11.into HE9.out.2.2.2.1 HZ2.out.2.2.2.2.2.1
  have siz11 := HE9.out.2.2.2.2.up k11.upd.size
  obtain ⟨curR, hK11, hs11, hd11, -⟩ := hR11.blk
  have hbQ11 : BigN 155 w11 (some ⟨gq, 0, none⟩) (tlen (dg W64 (N / M)) (m + 1)) cq (N / M) := by
    exact bigN_wr HBQ.out k11 (Ne.symm hqu)
  have hRl : N % M < W64 ^ (n1 + 1) := Nat.lt_of_le_of_lt (Nat.mod_le _ _) (Nat.lt_of_lt_of_le H1L.out (Nat.pow_le_pow_right W64_pos (Nat.le_succ _)))
  obtain ⟨hclR, hbnR⟩ := bigN_row (N := N % M) (m := n1 + 1) hK11 (hs11.trans HU9.out.2) (fun i hi => by have := hd11 i hi; rwa [Nat.zero_add] at this) hcu1 hcu2 hRl
  have HNR := Lib.hid (norm_any (some ⟨gu, 0, none⟩) (n1 + 1) cu (dg W64 (N % M)) w11 (by omega) hcu1 hcu2 (by simp) hclR)
  have HBR := Lib.hid hbnR
  have HBQ11 := Lib.hid hbQ11
  have HE := Lib.hid (⟨hst11, bel11, siz11⟩ : StkAt w11 sb st2 l2 ∧ Upd B w0 w11 ∧ New B w11)
  clear hclR hbnR hbQ11 hst11 bel11 siz11 hK11 hs11 hd11 hRl
  go_wp2_with fail
  refine HNR.out.mono ?_
  rintro e w12 ⟨rfl, rfl⟩
  go_wp2
  refine leaves_cons (f := 232) (args := #[.pointer (some ⟨sb, 0, none⟩), .int .i64 l]) (by simp) (by simp [go_sem]) ?_
  refine (stkRestore_any sb l2 l st2 .returning _ HE.out.1 (by rcases HE9.out.2.1 with h | h; exact .inl h; exact .inr (by rw [h]; exact HB2.out.2.2.2.2.2.1))).mono ?_
  rintro e u' w13 ⟨rfl, rfl, ⟨l3, hs13, ho13⟩, hU13⟩
  have hS13 : ∀ k, k < w11.heap.size → (∃ ib g, st2 = some (ib, g) ∧ k = ib) → Strct 155 w11 k := by
    rintro k _ ⟨ib, g, e, rfl⟩
    subst e
    obtain ⟨c, cur, e1, e2, _⟩ := HE.out.1
    exact ⟨_, _, e2, by decide⟩
  have hB13 : ∀ x, StkBlk sb st2 x → B x := fun x hx => by
    rcases HE9.out.2.2.1 x hx with h | h
    · exact HB2.out.2.2.1 x h
    · exact HB2.out.2.1 x (Nat.le_trans HS8.out h)
  have hq13 : ¬ StkBlk sb st2 gq := fun h => by
    rcases HE9.out.2.2.1 gq h with h2 | h2
    · exact HQS.out.1 h2
    · exact absurd HQS.out.2.2.1 (by omega)
  have hu13 : ¬ StkBlk sb st2 gu := fun h => by
    rcases HE9.out.2.2.1 gu h with h2 | h2
    · exact HGS.out h2
    · exact absurd HQS.out.2.2.2 (by omega)
  refine ⟨.tuple #[.slice (some ⟨gq, 0, none⟩) (tlen (dg W64 (N / M)) (m + 1)) cq, .slice (some ⟨gu, 0, none⟩) (tlen (dg W64 (N % M)) (n1 + 1)) cu], by simp [results, Tryz.results203, go_sem], _, _, _, _, _, _, st2, l3, rfl, HBQ11.out.upd hU13 hS13, HBR.out.upd hU13 hS13, hs13, ho13, ?_, hU13.into HE.out.2.1 (fun x _ hx => by obtain ⟨ib, g, e, h⟩ := hx; exact hB13 x (.inr ⟨ib, g, e, .inl h⟩)), HE.out.2.2.up hU13.size, fun k hk => ?_, fun k hk => ?_⟩
  · intro x hx
    rcases HE9.out.2.2.1 x hx with h | h
    · rcases HB2.out.2.2.2.1 x h with h2 | h2
      · exact .inl h2
      · exact .inr h2
    · exact .inr (Nat.le_trans (Nat.le_trans HSW.out HS8.out) h)
  · have e := inB_some hk
    subst e
    exact ⟨HQP.out, fun h => HQS.out.2.1 (inB_some h), hq13⟩
  · have e := inB_some hk
    subst e
    exact ⟨HZ2.out.2.2.2.2.2.2, hu13⟩
theorem divLarge_none (sb l : Nat) (B : Nat → Prop) (st : Option (Nat × Nat)) (az azu a1 a2 : Option Addr) (nz cz Z nzu czu ZU n1 n2 c1 c2 N M : Nat) (w0 w : World) (hK : ∀ w', Upd B w0 w' → ThrD w') (h1 : BigN 155 w a1 n1 c1 N) (h2 : BigN 155 w a2 n2 c2 M)
    (hz : BigN 155 w az nz cz Z) (hzu : BigN 155 w azu nzu czu ZU) (hzs : ∀ k, InB az k → B k ∧ ¬ StkBlk sb st k) (hus : ∀ k, InB azu k → B k ∧ ¬ StkBlk sb st k ∧ ¬ InB az k ∧ ¬ InB a1 k ∧ ¬ InB a2 k)
    (hn2 : 2 ≤ n2) (hle : n2 ≤ n1) (hn1 : n1 ≤ 900) (hn40 : n2 < 40) (hst : StkAt w sb st l) (hl : l ≤ 5000) (hsB : ∀ x, StkBlk sb st x → B x)
    (ho1 : ∀ p, a1 = some p → ¬ StkBlk sb st p.block) (ho2 : ∀ p, a2 = some p → ¬ StkBlk sb st p.block) (bel : Upd B w0 w) (siz : New B w) (hsh : lz (dg W64 M (n2 - 1)) = 0) :
    Calls Tryz.prog 203 #[.slice az nz cz, .pointer (some ⟨sb, 0, none⟩), .slice azu nzu czu, .slice a1 n1 c1, .slice a2 n2 c2] w (DivRes az azu N M sb st l B w0 w) := by
  obtain ⟨b1, o1, rfl, hb1⟩ := h1.num.form (by omega)
  obtain ⟨b2, o2, rfl, hb2⟩ := h2.num.form (by omega)
  have hb1s : ¬ StkBlk sb st b1 := ho1 _ rfl
  have hb2s : ¬ StkBlk sb st b2 := ho2 _ rfl
  obtain ⟨p, hp⟩ : ∃ p : Nat, n2 = p + 1 := ⟨n2 - 1, by omega⟩
  obtain ⟨m, hm⟩ : ∃ m : Nat, n1 = m + n2 := ⟨n1 - n2, by omega⟩
  have hpi : (n2 : Int) - 1 = p := by omega
  have hmi : (n1 : Int) - (n2 : Int) = m := by omega
  -- the scale
  obtain ⟨y, hy⟩ : ∃ y, y = dg W64 M p := ⟨_, rfl⟩
  have hyl : y < 18446744073709551616 := by rw [hy]; exact W64_lt (dg_lt W64_pos _ _)
  have hM1 : M < W64 ^ (p + 1) := by rw [← hp]; exact h2.num.lt
  have hy0 : 0 < y := by
    rw [hy, top_word hM1]
    rcases h2.num.top with h | h
    · omega
    · rw [show n2 - 1 = p from by omega] at h
      exact Nat.div_pos h (Nat.pow_pos W64_pos)
  obtain ⟨hz1, hz2⟩ := lz_sum hy0 (show y < W64 from hyl)
  obtain ⟨hz3, hz4⟩ := lz_top hy0 (show y < W64 from hyl)
  have HNL := Lib.hid (fun w' => nlz_any y hy0 hyl w')
  rw [show n2 - 1 = p from by omega, ← hy] at hsh
  obtain ⟨s, hs⟩ : ∃ s, s = lz y := ⟨_, rfl⟩
  rw [← hs] at hz2 hz3 hz4 HNL hsh
  have HSH := Lib.hid hsh
  clear hsh
  have hVf : M * 2 ^ s < W64 ^ n2 := by rw [hp]; exact scale_fits hM1 (by omega) (by rw [← hy]; exact hz4)
  have hVt : 9223372036854775808 ≤ dg W64 (M * 2 ^ s) p := Nat.le_trans (by rw [← hy]; exact hz3) (scale_top hM1 (by rw [← hp]; exact hVf))
  obtain ⟨hUf, hUt⟩ := scale_up h1.num.lt (show s ≤ 63 from by omega)
  have hUV : N * 2 ^ s < M * 2 ^ s * W64 ^ (m + 1) := scale_less (by rw [← hp, ← hm]; exact h1.num.lt) (by rw [← hp]; exact hVf) (by omega) hVt
  have HSC := Lib.hid (⟨scale_div N M s, scale_mod N M s⟩ : N * 2 ^ s / (M * 2 ^ s) = N / M ∧ N * 2 ^ s % (M * 2 ^ s) / 2 ^ s = N % M)
  have cy : w.cell? ⟨b2, o2 + p, none⟩ = some (.int .u64 (y : Nat)) := by rw [hy]; exact h2.num.cell (by omega)
  have HFV := Lib.hid (⟨hVf, hVt, hUf, hUt, hUV⟩ : M * 2 ^ s < W64 ^ n2 ∧ 9223372036854775808 ≤ dg W64 (M * 2 ^ s) p ∧ N * 2 ^ s < W64 ^ (n1 + 1) ∧ dg W64 (N * 2 ^ s) n1 < 9223372036854775808 ∧ N * 2 ^ s < M * 2 ^ s * W64 ^ (m + 1))
  have HPM := Lib.hid (⟨hp, hm⟩ : n2 = p + 1 ∧ n1 = m + n2)
  have H1L := Lib.hid h1.num.lt
  have hUw := h1.num.wcells0 (Nat.le_refl n1)
  have hVw := h2.num.wcells0 (Nat.le_refl n2)
  have hc1 := h1.num.nc
  have hc1m := h1.num.cm
  have hc2 := h2.num.nc
  have hc2m := h2.num.cm
  have hSV := Lib.hid (stkSave_any sb l st w hst)
  have hNT := Lib.hid (stkNat_any sb l n2 st w (by omega) (by omega) (by omega) hst)
  have hczm := hz.num.cm
  have hncz := hz.num.nc
  have hczum := hzu.num.cm
  have hnczu := hzu.num.nc
  unfold maxLen at hczm hczum
  have HZ := Lib.hid (⟨hz, hzu, hzs, fun k hk => ⟨(hus k hk).1, (hus k hk).2.1, (hus k hk).2.2.1, fun e => (hus k hk).2.2.2.1 (e ▸ inB_is _ _ _), fun e => (hus k hk).2.2.2.2 (e ▸ inB_is _ _ _)⟩⟩ : BigN 155 w az nz cz Z ∧ BigN 155 w azu nzu czu ZU ∧ (∀ k, InB az k → B k ∧ ¬ StkBlk sb st k) ∧ (∀ k, InB azu k → B k ∧ ¬ StkBlk sb st k ∧ ¬ InB az k ∧ b1 ≠ k ∧ b2 ≠ k))
  have HW := Lib.hid (⟨hUw, hVw, hb1, hb2, hb1s, hb2s⟩ : WCells w b1 o1 n1 (dg W64 N) ∧ WCells w b2 o2 n2 (dg W64 M) ∧ b1 < w.heap.size ∧ b2 < w.heap.size ∧ ¬ StkBlk sb st b1 ∧ ¬ StkBlk sb st b2)
  have HBL := Lib.hid (⟨bel, siz, hsB, hst⟩ : Upd B w0 w ∧ New B w ∧ (∀ x, StkBlk sb st x → B x) ∧ StkAt w sb st l)
  have HK := Lib.hid hK
  clear hp hm hy hs hM1 hy0 hz1 hz3 hz4 hVf hVt hUf hUt hUV h1 h2 hUw hVw hst hsB ho1 ho2 bel siz hK hb1s hb2s hb1 hb2 hz hzu hzs hus
  go_enter_defers Tryz.func203, Tryz.ntmps203
  go_wp2_with fail
  refine hSV.out.mono ?_
  rintro e w1 ⟨rfl, rfl⟩
  go_wp2_with fail
  refine (HNL.out _).mono ?_
  rintro e w1 ⟨rfl, rfl⟩
  go_wp2_with fail
  refine hNT.out.mono ?_
  rintro e w2 ⟨st', l', gv, ov, kv, curv, rfl, hkv1, hkv2, hbv, hov, hst2, hloc, hblks, hprot, hll, hl0', hUpd, hwd, hlow⟩
  obtain ⟨hUw, hVw, hb1, hb2, hb1s, hb2s⟩ := HW.out
  obtain ⟨bel, siz, hsB, hst⟩ := HBL.out
  have hU2 : WCells w2 b1 o1 n1 (dg W64 N) := fun i hi => by rw [hUpd.cell (p := ⟨b1, o1 + i, none⟩) hb1 hb1s]; exact hUw i hi
  have hV2 : WCells w2 b2 o2 n2 (dg W64 M) := fun i hi => by rw [hUpd.cell (p := ⟨b2, o2 + i, none⟩) hb2 hb2s]; exact hVw i hi
  have bel2 : Upd B w0 w2 := hUpd.into bel (fun k _ hk => hsB k hk)
  have siz2 : New B w2 := siz.up hUpd.size
  have sB2 : ∀ x, StkBlk sb st' x → B x := fun x hx => by
    rcases hblks x hx with h | h
    · exact hsB x h
    · exact siz x h
  have hgvB : B gv := by
    rcases hloc with h | ⟨⟨ib, h⟩, _⟩
    · exact siz gv h
    · exact hsB gv (.inr ⟨ib, gv, h, .inr rfl⟩)
  have hnv : ∀ {b}, b < w1.heap.size → ¬ StkBlk sb st b → b ≠ gv := fun {b} h1 h2 e => by
    rcases hloc with h | ⟨⟨ib, h⟩, _⟩
    · omega
    · exact h2 (.inr ⟨ib, gv, h, .inr e⟩)
  have hb1v := hnv hb1 hb1s
  have hb2v := hnv hb2 hb2s
  have hb1l : b1 < w2.heap.size := Nat.lt_of_lt_of_le hb1 hUpd.size
  have hb2l : b2 < w2.heap.size := Nat.lt_of_lt_of_le hb2 hUpd.size
  have HB2 := Lib.hid (⟨bel2, siz2, sB2, hblks, hprot, hll.1, hl0', hgvB⟩ : Upd B w0 w2 ∧ New B w2 ∧ (∀ x, StkBlk sb st' x → B x) ∧ (∀ x, StkBlk sb st' x → StkBlk sb st x ∨ w1.heap.size ≤ x) ∧ (∀ ib, st' = some (ib, gv) → ov + n2 ≤ l') ∧ l ≤ l' ∧ (st' = none ∨ 0 < l') ∧ B gv)
  obtain ⟨zz, zu, zs, zus⟩ := HZ.out
  have zz2 := zz.apart hUpd (fun k hk => (zs k hk).2)
  obtain ⟨gu, hgu, hmk⟩ := make_into azu nzu czu ZU (n1 + 1) w2 (zu.apart hUpd (fun k hk => (zus k hk).2.1)) (by omega) (by omega)
  have hci : ((n1 + 1 : Nat) : Int) = (n1 : Int) + 1 := by omega
  rw [hci] at hmk
  have HMU := Lib.hid hmk
  have hzv : ∀ k, InB az k → k ≠ gv := fun k hk => hnv (zz.inLt k hk) (zs k hk).2
  have hzst : ∀ k, InB az k → ¬ StkBlk sb st' k := fun k hk h => by
    rcases hblks k h with h | h
    · exact (zs k hk).2 h
    · exact absurd (zz.inLt k hk) (by omega)
  have hzgu : ∀ k, InB az k → k ≠ gu := fun k hk e => by
    rcases hgu with h | h
    · exact (zus gu h).2.2.1 (e ▸ hk)
    · have h3 := zz.inLt k hk
      have h4 := hUpd.size
      omega
  have huv : gu ≠ gv := by
    rcases hgu with h | h
    · exact hnv (zu.inLt gu h) (zus gu h).2.1
    · have := hbv.lt; omega
  have hub1 : b1 ≠ gu := by
    rcases hgu with h | h
    · exact (zus gu h).2.2.2.1
    · omega
  have hub2 : b2 ≠ gu := by
    rcases hgu with h | h
    · exact (zus gu h).2.2.2.2
    · omega
  have hguB : B gu := by
    rcases hgu with h | h
    · exact (zus gu h).1
    · exact siz2 gu h
  have hgs : ¬ StkBlk sb st' gu := fun h' => by
    rcases hgu with h | h
    · rcases hblks gu h' with h2 | h2
      · exact (zus gu h).2.1 h2
      · exact absurd (zu.inLt gu h) (by omega)
    · have := hst2.lt h'; omega
  have hguP : InB azu gu ∨ w1.heap.size ≤ gu := by
    rcases hgu with h | h
    · exact .inl h
    · exact .inr (Nat.le_trans hUpd.size h)
  have HZ2 := Lib.hid (⟨zz2, hzv, hzgu, hzst, fun k hk => (zs k hk).1, hguB, hguP⟩ : BigN 155 w2 az nz cz Z ∧ (∀ k, InB az k → k ≠ gv) ∧ (∀ k, InB az k → k ≠ gu) ∧ (∀ k, InB az k → ¬ StkBlk sb st' k) ∧ (∀ k, InB az k → B k) ∧ B gu ∧ (InB azu gu ∨ w1.heap.size ≤ gu))
  have HGS := Lib.hid hgs
  clear hmk hci hgu zz zu zs zus zz2 hzv hzst hzgu hguB hgs hguP HZ
  have HSW := Lib.hid hUpd.size
  have hl' : l' ≤ 10000 := by have := hll.2; omega
  have HST2 := Lib.hid hst2
  clear hUpd hwd hlow hloc hblks hprot hll hl0' hsB hst bel siz bel2 siz2 sB2 hgvB hnv HW HBL hUw hVw hb1 hb2 hb1s hb2s hst2 hSV hNT HNL cy
  go_wp2_with fail
  refine HMU.out.mono ?_
  rintro e w3 ⟨cu, curu, rfl, hK3, hcus, hcu1, hcu2, hb3⟩
  have hcu3 := hcu2
  unfold maxLen at hcu3
  have hU3 : WCells w3 b1 o1 n1 (dg W64 N) := fun i hi => cell_keep (hU2 i hi) hb3
  have hV3 : WCells w3 b2 o2 n2 (dg W64 M) := fun i hi => cell_keep (hV2 i hi) hb3
  have hbv3 := hbv.keep hb3
  have hvl : gv < w2.heap.size := hbv.lt
  have HST3 := Lib.hid (HST2.out.keep hb3)
  have HB3 := Lib.hid (⟨HB2.out.1.then hb3, HB2.out.2.1.up hb3.size, HZ2.out.1.keep hb3, hb3.size⟩ : Upd B w0 w3 ∧ New B w3 ∧ BigN 155 w3 az nz cz Z ∧ w2.heap.size ≤ w3.heap.size)
  have HCUS := Lib.hid hcus
  clear hcus hb3 hbv hU2 hV2 HMU HST2
  have hs0 : ((s : Int) == 0) = true := by simp; exact HSH.out
  have H2S := Lib.hid (show 2 ^ s = 1 from by rw [HSH.out])
  have HHV := Lib.hid hbv3
  have HHU := Lib.hid hK3
  have HU3 := Lib.hid hU3
  have HV3 := Lib.hid hV3
  clear hbv3 hK3 hU3 hV3
  go_upto_region 9 with ((with_reducible refine wpList_copy_words (o := ⟨some 43, _, _, _, _, _⟩) rfl (.tmp 41) (.tmp 42) 147 147 rfl 155 Tryz.underlying147 infoWordSize gv ov n2 kv b2 o2 c2 M rfl rfl curv 155 HHV.out HV3.out hov ?_); intro w4 hR4)
  have k4 := WrAt.of_row HHV.out hR4
  have HB4 := Lib.hid (⟨k4.into HB3.out.1 HB2.out.2.2.2.2.2.2.2, HB3.out.2.1.up k4.upd.size, HB3.out.2.2.1.apart k4.upd HZ2.out.2.1, Nat.le_trans HB3.out.2.2.2 k4.upd.size⟩ : Upd B w0 w4 ∧ New B w4 ∧ BigN 155 w4 az nz cz Z ∧ w2.heap.size ≤ w4.heap.size)
  have HV4 := Lib.hid (show WCells w4 gv ov n2 (dg W64 (M * 2 ^ s)) from by rw [H2S.out, Nat.mul_one]; exact hR4.cells)
  have VB4 := Lib.hid (WBlk.wr ⟨curv, HHV.out, rfl⟩ k4)
  have HST4 := Lib.hid (HST3.out.wr ⟨curv, HHV.out, rfl⟩ k4)
  have HN4 := Lib.hid (wcells_out HHV.out hR4 HU3.out (.inl hb1v))
  have HHU4 := Lib.hid (k4.upd.blk HHU.out huv)
  have HF4 := Lib.hid (show 0 + n1 ≤ curu.size from by rw [HCUS.out]; omega)
  have HN1 := Lib.hid (show n1 < curu.size from by rw [HCUS.out]; omega)
  clear hR4 k4 HU3 HHU
  go_upto_region 10 with ((with_reducible refine wpList_copy_words (o := ⟨some 49, _, _, _, _, _⟩) rfl (.tmp 47) (.tmp 48) 147 147 rfl 155 Tryz.underlying147 infoWordSize gu 0 n1 cu b1 o1 c1 N rfl rfl curu 155 HHU4.out HN4.out HF4.out ?_); intro w5 hR5)
  obtain ⟨⟨u5, c5⟩, f5⟩ := hR5.room (j := n1) HN1.out
  have k5 := (WrAt.of_row HHU4.out hR5).trans (WrAt.setCell gu n1 (.int .u64 0) w5)
  have HUW6 := Lib.hid (show WCells (w5.setCell ⟨gu, n1, none⟩ (.int .u64 0)) gu 0 (n1 + 1) (dg W64 (N * 2 ^ s)) from fun i hi => by
    by_cases e : i = n1
    · rw [e, Nat.zero_add, H2S.out, Nat.mul_one, dg_of_lt H1L.out]
      exact World.cell?_setCell_same _ _ _ c5
    · rw [World.cell?_setCell_other _ _ _ _ (fun hh => by injection hh with _ h2 _; omega), H2S.out, Nat.mul_one]
      exact hR5.cells i (by omega))
  have HB6 := Lib.hid (⟨k5.into HB4.out.1 HZ2.out.2.2.2.2.2.1, HB4.out.2.1.up k5.upd.size, HB4.out.2.2.1.apart k5.upd HZ2.out.2.2.1, Nat.le_trans HB4.out.2.2.2 k5.upd.size⟩ : Upd B w0 (w5.setCell ⟨gu, n1, none⟩ (.int .u64 0)) ∧ New B (w5.setCell ⟨gu, n1, none⟩ (.int .u64 0)) ∧ BigN 155 (w5.setCell ⟨gu, n1, none⟩ (.int .u64 0)) az nz cz Z ∧ w2.heap.size ≤ (w5.setCell ⟨gu, n1, none⟩ (.int .u64 0)).heap.size)
  have UB6 := Lib.hid (WBlk.wr ⟨curu, HHU4.out, HCUS.out⟩ k5 : WBlk _ gu cu)
  have VB6 := Lib.hid (VB4.out.wr k5)
  have HST6 := Lib.hid (HST4.out.wr ⟨curu, HHU4.out, rfl⟩ k5)
  have HV6 := Lib.hid (show WCells (w5.setCell ⟨gu, n1, none⟩ (.int .u64 0)) gv ov n2 (dg W64 (M * 2 ^ s)) from fun i hi => by rw [k5.cell VB4.out (Ne.symm huv)]; exact HV4.out i hi)
  have HAL := Lib.hid (show Calls Tryz.prog 142 #[.slice az nz cz, .slice (some ⟨gu, 0, none⟩) ((n1 + 1 : Nat)) cu] (w5.setCell ⟨gu, n1, none⟩ (.int .u64 0)) _ from by
    obtain ⟨c6, hc6, _⟩ := UB6.out
    exact alias_apart az nz cz Z gu (n1 + 1) cu c6 _ HB6.out.2.2.1 hc6 (fun h => HZ2.out.2.2.1 gu h rfl) (by omega) hcu2)
  clear hR5 k5 HB4 HHU4 VB4 HST4 HV4
  have HUT := Lib.hid (show ∀ x, x = n1 → dg W64 (N * 2 ^ s) x < 9223372036854775808 from fun x e => by rw [e]; exact HFV.out.2.2.2.1)
  go_wp2_with fail
  refine HAL.out.mono ?_
  rintro e w7 ⟨rfl, hd7⟩
  have hb7 : Below (w5.setCell ⟨gu, n1, none⟩ (.int .u64 0)).heap.size (w5.setCell ⟨gu, n1, none⟩ (.int .u64 0)) w7 := below_of_drewN hd7
  obtain ⟨gq, hgq, hmk⟩ := make_into az nz cz Z (m + 1) w7 (HB6.out.2.2.1.keep hb7) (by omega) (by omega)
  have hci : ((m + 1 : Nat) : Int) = (m : Int) + 1 := by omega
  rw [hci] at hmk
  have HMQ := Lib.hid hmk
  have hs7 := hb7.size
  have hqu : gu ≠ gq := by
    rcases hgq with h | h
    · exact (HZ2.out.2.2.1 gq h).symm
    · obtain ⟨c6, hc6, _⟩ := UB6.out
      have := hc6.lt
      omega
  have hqv : gv ≠ gq := by
    rcases hgq with h | h
    · exact (HZ2.out.2.1 gq h).symm
    · have := HB6.out.2.2.2; omega
  have hqB : B gq := by
    rcases hgq with h | h
    · exact HZ2.out.2.2.2.2.1 gq h
    · exact HB6.out.2.1 gq (Nat.le_trans hs7 h)
  have hqs : ¬ StkBlk sb st' gq := fun h' => by
    rcases hgq with h | h
    · exact HZ2.out.2.2.2.1 gq h h'
    · have := HST6.out.lt h'; omega
  have HQP := Lib.hid (show InB az gq ∨ w1.heap.size ≤ gq from by
    rcases hgq with h | h
    · exact .inl h
    · have h3 := HB6.out.2.2.2
      have h4 := HSW.out
      exact .inr (by omega))
  clear hmk hci hgq
  go_wp2_with fail
  refine HMQ.out.mono ?_
  rintro e w8 ⟨cq, curq, rfl, hK8, hcqs, hcq1, hcq2, hb8⟩
  have hcq3 := hcq2
  unfold maxLen at hcq3
  have QB8 := Lib.hid (show WBlk w8 gq cq from ⟨curq, hK8, hcqs⟩)
  clear hK8 hcqs
  have hbb := Below.then hb7 (Nat.le_refl _) hb8
  have HB8 := Lib.hid (⟨HB6.out.1.then hbb, HB6.out.2.1.up hbb.size⟩ : Upd B w0 w8 ∧ New B w8)
  have UB8 := Lib.hid (UB6.out.keep hbb)
  have VB8 := Lib.hid (VB6.out.keep hbb)
  have HST8 := Lib.hid (HST6.out.keep hbb)
  have HU8 := Lib.hid (show WCells w8 gu 0 (n1 + 1) (dg W64 (N * 2 ^ s)) from fun i hi => cell_keep (HUW6.out i hi) hbb)
  have HV8 := Lib.hid (show WCells w8 gv ov n2 (dg W64 (M * 2 ^ s)) from fun i hi => cell_keep (HV6.out i hi) hbb)
  have kT : w8.cell? ⟨3, 0, none⟩ = some (.int .i64 40) := HK.out w8 HB8.out.1
  have h40 : (n2 : Int) < 40 := by omega
  have hVU : N * 2 ^ s / (M * 2 ^ s) < W64 ^ (m + 1) := by
    refine (Nat.div_lt_iff_lt_mul ?_).2 (by rw [Nat.mul_comm (W64 ^ (m + 1))]; exact HFV.out.2.2.2.2)
    rcases Nat.eq_zero_or_pos (M * 2 ^ s) with h | h
    · have := HFV.out.2.2.2.2; rw [h, Nat.zero_mul] at this; omega
    · exact h
  have HVU := Lib.hid hVU
  obtain ⟨cv, vb8⟩ : ∃ cv, WBlk w8 gv cv ∧ ov + n2 ≤ cv := ⟨_, VB8.out, hov⟩
  have HDB := Lib.hid (divBasic_any sb gu gv ov gq n2 (m + 1) (n1 + 1) cu cv cq kv l' B (N * 2 ^ s) (M * 2 ^ s) st' w0 w8 hn2 (by omega) (by omega) (by omega) (by have := HPM.out.2; omega) HFV.out.2.2.2.2
    (by have h1 := HUT.out n1 rfl; have h2 := HFV.out.2.1; have h3 := HPM.out; rw [show m + 1 + n2 - 1 = n1 from by omega, show n2 - 1 = p from by omega]; exact Nat.lt_of_lt_of_le h1 h2) HFV.out.1
    (by have h2 := HFV.out.2.1; have h3 := HPM.out; rw [show n2 - 1 = p from by omega]; show (18446744073709551616 : Nat) ≤ _; omega)
    UB8.out hcu1 hcu2 vb8.1 vb8.2 hkv1 hkv2 QB8.out hcq1 hcq2 huv hqu hqv HU8.out HV8.out HST8.out hl' HGS.out hqs HB2.out.2.2.2.2.1 HB2.out.2.2.1 HB8.out.1 HB8.out.2 HZ2.out.2.2.2.2.2.1 hqB)
  have HS8 := Lib.hid (show w2.heap.size ≤ w8.heap.size from by have := HB6.out.2.2.2; have := hbb.size; omega)
  have HQS := Lib.hid (⟨hqs, hqu, (by obtain ⟨_, h, _⟩ := QB8.out; exact h.lt), (by obtain ⟨_, h, _⟩ := UB8.out; exact h.lt)⟩ : ¬ StkBlk sb st' gq ∧ gu ≠ gq ∧ gq < w8.heap.size ∧ gu < w8.heap.size)
  clear hb8 hb7 hd7 hs7 hbb HMQ HB6 UB6 VB6 HST6 HUW6 HV6 HAL QB8 HB8 UB8 VB8 HST8 HU8 HV8 vb8 hVU
  go_wp2_with fail
  refine HDB.out.mono ?_
  rintro e w9 ⟨st2, l2, rfl, hst9, hl9, hbk9, ub9, qb9, huw9, hqw9, bel9, siz9⟩
  clear kT
  obtain ⟨curQ, hQ9, hQs⟩ := qb9
  have hcq9 : ∀ i, i < m + 1 → curQ[i]? = some (.int .u64 (dg W64 (N * 2 ^ s / (M * 2 ^ s)) i : Nat)) := fun i hi => by
    have := hqw9 i hi
    rw [Nat.zero_add, hQ9.cell] at this
    exact this
  obtain ⟨hclQ, hbnQ⟩ := bigN_row hQ9 hQs hcq9 hcq1 hcq2 HVU.out
  rw [HSC.out.1] at hbnQ hclQ
  have HNQ := Lib.hid (norm_any (some ⟨gq, 0, none⟩) (m + 1) cq (dg W64 (N / M)) w9 (by omega) (by omega) hcq2 (by simp) hclQ)
  have HBQ := Lib.hid hbnQ
  have HE9 := Lib.hid (⟨hst9, hl9, hbk9, bel9, siz9⟩ : StkAt w9 sb st2 l2 ∧ (st2 = none ∨ l2 = l') ∧ (∀ x, StkBlk sb st2 x → StkBlk sb st' x ∨ w8.heap.size ≤ x) ∧ Upd B w0 w9 ∧ New B w9)
  have HUB9 := Lib.hid ub9
  have HUW9 := Lib.hid huw9
  clear hQ9 hQs hcq9 hclQ hbnQ hst9 hl9 hbk9 bel9 siz9 hqw9 ub9 huw9 HDB
  go_wp2_with fail
  refine HNQ.out.mono ?_
  rintro e w10 ⟨rfl, rfl⟩
  have hs1 : ((s : Int) != 0) = false := by simp; exact HSH.out
  obtain ⟨curR, hK11, hs11⟩ := HUB9.out
  have hd11 : ∀ i, i < n1 + 1 → curR[0 + i]? = some (.int .u64 (dg W64 (N % M) i : Nat)) := fun i hi => by
    have := HUW9.out i hi
    rw [hK11.cell, H2S.out, Nat.mul_one, Nat.mul_one] at this
    exact this
  have hst11 := HE9.out.1
  have bel11 := HE9.out.2.2.2.1
  have siz11 := HE9.out.2.2.2.2
  have hbQ11 : BigN 155 w9 (some ⟨gq, 0, none⟩) (tlen (dg W64 (N / M)) (m + 1)) cq (N / M) := by
    exact HBQ.out
  have hRl : N % M < W64 ^ (n1 + 1) := Nat.lt_of_le_of_lt (Nat.mod_le _ _) (Nat.lt_of_lt_of_le H1L.out (Nat.pow_le_pow_right W64_pos (Nat.le_succ _)))
  obtain ⟨hclR, hbnR⟩ := bigN_row (N := N % M) (m := n1 + 1) hK11 hs11 (fun i hi => by have := hd11 i hi; rwa [Nat.zero_add] at this) hcu1 hcu2 hRl
  have HNR := Lib.hid (norm_any (some ⟨gu, 0, none⟩) (n1 + 1) cu (dg W64 (N % M)) w9 (by omega) hcu1 hcu2 (by simp) hclR)
  have HBR := Lib.hid hbnR
  have HBQ11 := Lib.hid hbQ11
  have HE := Lib.hid (⟨hst11, bel11, siz11⟩ : StkAt w9 sb st2 l2 ∧ Upd B w0 w9 ∧ New B w9)
  clear hclR hbnR hbQ11 hst11 bel11 siz11 hK11 hs11 hd11 hRl
  go_wp2_with fail
  refine HNR.out.mono ?_
  rintro e w12 ⟨rfl, rfl⟩
  go_wp2
  refine leaves_cons (f := 232) (args := #[.pointer (some ⟨sb, 0, none⟩), .int .i64 l]) (by simp) (by simp [go_sem]) ?_
  refine (stkRestore_any sb l2 l st2 .returning _ HE.out.1 (by rcases HE9.out.2.1 with h | h; exact .inl h; exact .inr (by rw [h]; exact HB2.out.2.2.2.2.2.1))).mono ?_
  rintro e u' w13 ⟨rfl, rfl, ⟨l3, hs13, ho13⟩, hU13⟩
  have hS13 : ∀ k, k < w9.heap.size → (∃ ib g, st2 = some (ib, g) ∧ k = ib) → Strct 155 w9 k := by
    rintro k _ ⟨ib, g, e, rfl⟩
    subst e
    obtain ⟨c, cur, e1, e2, _⟩ := HE.out.1
    exact ⟨_, _, e2, by decide⟩
  have hB13 : ∀ x, StkBlk sb st2 x → B x := fun x hx => by
    rcases HE9.out.2.2.1 x hx with h | h
    · exact HB2.out.2.2.1 x h
    · exact HB2.out.2.1 x (Nat.le_trans HS8.out h)
  have hq13 : ¬ StkBlk sb st2 gq := fun h => by
    rcases HE9.out.2.2.1 gq h with h2 | h2
    · exact HQS.out.1 h2
    · exact absurd HQS.out.2.2.1 (by omega)
  have hu13 : ¬ StkBlk sb st2 gu := fun h => by
    rcases HE9.out.2.2.1 gu h with h2 | h2
    · exact HGS.out h2
    · exact absurd HQS.out.2.2.2 (by omega)
  refine ⟨.tuple #[.slice (some ⟨gq, 0, none⟩) (tlen (dg W64 (N / M)) (m + 1)) cq, .slice (some ⟨gu, 0, none⟩) (tlen (dg W64 (N % M)) (n1 + 1)) cu], by simp [results, Tryz.results203, go_sem], _, _, _, _, _, _, st2, l3, rfl, HBQ11.out.upd hU13 hS13, HBR.out.upd hU13 hS13, hs13, ho13, ?_, hU13.into HE.out.2.1 (fun x _ hx => by obtain ⟨ib, g, e, h⟩ := hx; exact hB13 x (.inr ⟨ib, g, e, .inl h⟩)), HE.out.2.2.up hU13.size, fun k hk => ?_, fun k hk => ?_⟩
  · intro x hx
    rcases HE9.out.2.2.1 x hx with h | h
    · rcases HB2.out.2.2.2.1 x h with h2 | h2
      · exact .inl h2
      · exact .inr h2
    · exact .inr (Nat.le_trans (Nat.le_trans HSW.out HS8.out) h)
  · have e := inB_some hk
    subst e
    exact ⟨HQP.out, fun h => HQS.out.2.1 (inB_some h), hq13⟩
  · have e := inB_some hk
    subst e
    exact ⟨HZ2.out.2.2.2.2.2.2, hu13⟩
theorem divLarge_into (sb l : Nat) (B : Nat → Prop) (st : Option (Nat × Nat)) (az azu a1 a2 : Option Addr) (nz cz Z nzu czu ZU n1 n2 c1 c2 N M : Nat) (w0 w : World) (hK : ∀ w', Upd B w0 w' → ThrD w') (h1 : BigN 155 w a1 n1 c1 N) (h2 : BigN 155 w a2 n2 c2 M)
    (hz : BigN 155 w az nz cz Z) (hzu : BigN 155 w azu nzu czu ZU) (hzs : ∀ k, InB az k → B k ∧ ¬ StkBlk sb st k) (hus : ∀ k, InB azu k → B k ∧ ¬ StkBlk sb st k ∧ ¬ InB az k ∧ ¬ InB a1 k ∧ ¬ InB a2 k)
    (hn2 : 2 ≤ n2) (hle : n2 ≤ n1) (hn1 : n1 ≤ 900) (hn40 : n2 < 40) (hst : StkAt w sb st l) (hl : l ≤ 5000) (hsB : ∀ x, StkBlk sb st x → B x)
    (ho1 : ∀ p, a1 = some p → ¬ StkBlk sb st p.block) (ho2 : ∀ p, a2 = some p → ¬ StkBlk sb st p.block) (bel : Upd B w0 w) (siz : New B w) :
    Calls Tryz.prog 203 #[.slice az nz cz, .pointer (some ⟨sb, 0, none⟩), .slice azu nzu czu, .slice a1 n1 c1, .slice a2 n2 c2] w (DivRes az azu N M sb st l B w0 w) := by
  rcases Nat.eq_zero_or_pos (lz (dg W64 M (n2 - 1))) with h | h
  · exact divLarge_none sb l B st az azu a1 a2 nz cz Z nzu czu ZU n1 n2 c1 c2 N M w0 w hK h1 h2 hz hzu hzs hus hn2 hle hn1 hn40 hst hl hsB ho1 ho2 bel siz h
  · exact divLarge_shift sb l B st az azu a1 a2 nz cz Z nzu czu ZU n1 n2 c1 c2 N M w0 w hK h1 h2 hz hzu hzs hus hn2 hle hn1 hn40 hst hl hsB ho1 ho2 bel siz h
end Go.Proofs.YtgmienggfaahlaaGreatDoor
