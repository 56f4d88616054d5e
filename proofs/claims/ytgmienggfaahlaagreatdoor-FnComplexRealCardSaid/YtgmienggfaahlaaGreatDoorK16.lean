/-
  Contracts and lemmas: DivB.
-/
import Derived.Deep.CutBlock
import Derived.Defers
import Derived.Test.YtgmienggfaahlaaGreatDoorK15
set_option linter.unusedSimpArgs false
set_option linter.unusedVariables false
set_option maxRecDepth 100000
set_option maxHeartbeats 8000000
namespace Go.Proofs.YtgmienggfaahlaaGreatDoor
open Go.RowKit Go.Bg Dg
theorem borrow_rel {B a1 a2 z2 d2 pd : Nat} (h : (a1 + 1) * B + z2 = pd + d2) (h2 : a2 + d2 = z2 + B) : a1 * B + a2 = pd := by
  rw [Nat.add_mul, Nat.one_mul] at h
  omega
def DivDone (sb gu gv gq N m cu cq U V : Nat) (st : Option (Nat × Nat)) (l : Nat) (B : Nat → Prop) (w0 w : World) (e : Ending) (w' : World) : Prop :=
  ∃ st' l', e = .returned (.tuple #[]) ∧ StkAt w' sb st' l' ∧ (st' = none ∨ l' = l) ∧ (∀ x, StkBlk sb st' x → StkBlk sb st x ∨ w.heap.size ≤ x) ∧ WBlk w' gu cu ∧ WBlk w' gq cq ∧
    WCells w' gu 0 N (dg W64 (U % V)) ∧ WCells w' gq 0 m (dg W64 (U / V)) ∧ Upd B w0 w' ∧ New B w'
theorem divBasic_any (sb gu gv ov gq n m N cu cv cq kv l : Nat) (B : Nat → Prop) (U V : Nat) (st : Option (Nat × Nat)) (w0 w : World)
    (hn2 : 2 ≤ n) (hn : n ≤ 100) (hm1 : 1 ≤ m) (hm : m ≤ 1000) (hN : N = m + n) (hU : U < V * W64 ^ m) (hUt : dg W64 U (m + n - 1) < dg W64 V (n - 1)) (hV : V < W64 ^ n) (hVt : W64 ≤ 2 * dg W64 V (n - 1))
    (ub : WBlk w gu cu) (hcu : N ≤ cu) (hcum : cu ≤ maxLen) (vb : WBlk w gv cv) (hcv : ov + n ≤ cv) (hkv : n ≤ kv) (hkvm : kv ≤ maxLen) (qb : WBlk w gq cq) (hcq : m ≤ cq) (hcqm : cq ≤ maxLen)
    (huv : gu ≠ gv) (huq : gu ≠ gq) (hvq : gv ≠ gq) (hu : WCells w gu 0 N (dg W64 U)) (hv : WCells w gv ov n (dg W64 V))
    (hst : StkAt w sb st l) (hl : l ≤ 10000) (hus : ¬ StkBlk sb st gu) (hqs : ¬ StkBlk sb st gq) (hvs : ∀ ib, st = some (ib, gv) → ov + n ≤ l) (hsB : ∀ x, StkBlk sb st x → B x)
    (bel : Upd B w0 w) (siz : New B w) (hBu : B gu) (hBq : B gq) :
    Calls Tryz.prog 244 #[.slice (some ⟨gq, 0, none⟩) m cq, .pointer (some ⟨sb, 0, none⟩), .slice (some ⟨gu, 0, none⟩) N cu, .slice (some ⟨gv, ov, none⟩) n kv] w (DivDone sb gu gv gq N m cu cq U V st l B w0 w) := by
  have hmn : (N : Int) - (n : Int) = m := by omega
  have hN1 : N ≤ m + n := by omega
  have hN2 : m + n ≤ N := by omega
  have hSV := Lib.hid (stkSave_any sb l st w hst)
  have hNT := Lib.hid (show Calls Tryz.prog 234 #[.pointer (some ⟨sb, 0, none⟩), .int .i64 ((n : Int) + 1)] w (Handed sb st l (n + 1) w) from stkNat_any sb l (n + 1) st w (by omega) (by omega) (by omega) hst)
  have hV0 : 0 < V := by
    rcases Nat.eq_zero_or_pos V with h | h
    · rw [h] at hU; omega
    · exact h
  have HST := Lib.hid (fun (w2 : World) (st' : Option (Nat × Nat)) (l' gh oh : Nat) (curh : Array Value) => divInv_start (w2 := w2) (st' := st') (l' := l') (gh := gh) (oh := oh) (curh := curh) hU hV hV0 ub vb qb (fun i hi => hu i (by omega)) hv hst hus hqs hvs hsB bel siz)
  have HFN := Lib.hid (⟨hN, hU, hUt, hV, hVt⟩ : N = m + n ∧ U < V * W64 ^ m ∧ dg W64 U (m + n - 1) < dg W64 V (n - 1) ∧ V < W64 ^ n ∧ W64 ≤ 2 * dg W64 V (n - 1))
  have HBU := Lib.hid hBu
  have HSB := Lib.hid hsB
  have HSZ := Lib.hid siz
  have HBQ := Lib.hid hBq
  obtain ⟨p1, hp1⟩ : ∃ p1 : Nat, (n : Int) - 1 = p1 := ⟨n - 1, by omega⟩
  obtain ⟨p2, hp2⟩ : ∃ p2 : Nat, (n : Int) - 2 = p2 := ⟨n - 2, by omega⟩
  have hp1a : p1 < n := by omega
  have hp2a : p2 < n := by omega
  have hp3 : p1 = p2 + 1 := by omega
  have hp4 : n = p2 + 2 := by omega
  have HP := Lib.hid (⟨hp3, hp4⟩ : p1 = p2 + 1 ∧ n = p2 + 2)
  clear hN hU hUt hV hVt ub vb qb hu hv hst hus hqs hvs hsB bel hp3 hp4 hBu hBq
  go_enter_defers Tryz.func244, Tryz.ntmps244
  go_wp2_with fail
  refine hSV.out.mono ?_
  rintro e w1 ⟨rfl, rfl⟩
  go_wp2_with fail
  refine hNT.out.mono ?_
  rintro e w2 ⟨st', l', gh, oh, kh, curh, rfl, hkh1, hkh2, hbh, hoh, hst', hloc, hblks, hprot, hll, hl0', hUpd, hwd, hlow⟩
  obtain ⟨hI, hgu, hgq, hvh, hgB⟩ := HST.out w2 st' l' gh oh curh hbh hst' hloc hUpd hwd hlow
  have HBLK := Lib.hid (⟨hblks, hll.1, hl0'⟩ : (∀ x, StkBlk sb st' x → StkBlk sb st x ∨ w.heap.size ≤ x) ∧ l ≤ l' ∧ (st' = none ∨ 0 < l'))
  have HI := Lib.hid hI
  have v1 := hI.vw p1 hp1a
  have hkm : kh ≤ 9223372036854775807 := hkh2
  clear hSV hNT HST hst' hloc hblks hprot hll hl0' hUpd hwd hlow hI
  generalize hd1 : dg W64 V p1 = d1 at *
  have b1 : d1 < 18446744073709551616 := by rw [← hd1]; exact W64_lt (dg_lt W64_pos _ _)
  have hd1p : 0 < d1 := by
    have h := HFN.out.2.2.2.2
    have h1 : p1 = n - 1 := by omega
    rw [← h1, hd1] at h
    unfold W64 at h
    omega
  go_wp2_with fail
  refine (recip_any d1 hd1p b1 _).mono ?_
  rintro e w3 ⟨rfl, hdr⟩
  have HI3 := Lib.hid (HI.out.keep (below_of_drewN hdr))
  have HDW := Lib.hid (fun X1 X0 (h1 : X1 < d1) (h0 : X0 < 18446744073709551616) w => divWW_any X1 X0 d1 h1 h0 b1 w)
  have HD1 := Lib.hid hd1
  clear v1 HI hdr hd1
  generalize recip d1 = rc at *
  go_wp2
  go_loopw [13, 14, 15, 16, 17, 18, 19, 20, 21, 22, 23] (fun s13 s14 _ _ _ _ _ _ _ _ _ wr => ∃ (k : Nat) (z : Int), k ≤ m + 1 ∧ z + 1 = k ∧ s14 = .int .i64 z ∧ s13 = .int .u64 (dg W64 (urest W64 U V k) (k + n - 1) : Nat) ∧ DivInv sb gu gv ov gq gh n m cu cv cq curh.size U V st' l' B w0 k wr)
    (fun _ s14 _ _ _ _ _ _ _ _ _ _ => (intOf s14 + 1).toNat)
  case atStart =>
    refine ⟨m + 1, m, Nat.le_refl _, by omega, rfl, ?_, HI3.out⟩
    have hUl : U < W64 ^ (m + n) := by
      rw [Nat.add_comm, Nat.pow_add]
      exact Nat.lt_of_lt_of_le HFN.out.2.1 (Nat.mul_le_mul_right _ (Nat.le_of_lt HFN.out.2.2.2.1))
    rw [urest_start (Nat.lt_of_lt_of_le HFN.out.2.1 (Nat.mul_le_mul_left _ (Nat.pow_le_pow_right W64_pos (Nat.le_succ m)))), dg_of_lt (Nat.lt_of_lt_of_le hUl (Nat.pow_le_pow_right W64_pos (by omega)))]
    rfl
  case round =>
    obtain ⟨k, z, hk, hz, rfl, rfl, hI⟩ := hrel
    have HI := Lib.hid hI
    by_cases k0 : k = 0
    · subst k0
      obtain rfl : z = -1 := by omega
      clear hz
      go_wp2
      have hsB' : ∀ x, StkBlk sb st' x → B x := fun x hx => by
        rcases HBLK.out.1 x hx with h | h
        · exact HSB.out x h
        · exact HSZ.out x h
      refine leaves_cons (f := 232) (args := #[.pointer (some ⟨sb, 0, none⟩), .int .i64 l]) (by simp) (by simp [go_sem]) ?_
      refine (stkRestore_any sb l' l st' .returning _ HI.out.stk (.inr HBLK.out.2.1)).mono ?_
      rintro e u' w'' ⟨rfl, rfl, ⟨l2, hs2, ho2⟩, hU2⟩
      have hI := HI.out
      have hnib : ∀ {x c}, WBlk wr x c → ¬ ∃ ib g, st' = some (ib, g) ∧ x = ib := by
        rintro x c ⟨cur, h1, _⟩ ⟨ib, g, e, h⟩
        subst e
        obtain ⟨c2, cur2, e1, e2, _⟩ := hI.stk
        exact words_ne h1 e2 (by decide) h
      have hwb : ∀ {x c}, WBlk wr x c → WBlk w'' x c := fun {x c} h => by
        obtain ⟨cur, h1, h2⟩ := h
        exact ⟨cur, hU2.blk h1 (hnib ⟨cur, h1, h2⟩), h2⟩
      have hcl : ∀ {x c}, WBlk wr x c → ∀ i, w''.cell? ⟨x, i, none⟩ = wr.cell? ⟨x, i, none⟩ := fun {x c} h i => by
        have h' := h
        obtain ⟨cur, h1, h2⟩ := h
        exact hU2.cell (p := ⟨x, i, none⟩) h1.lt (hnib h')
      refine ⟨_, results_none (by kernel_rfl) _ _ _, st', l2, rfl, hs2, ho2, HBLK.out.1, hwb hI.ub, hwb hI.qb, ?_, ?_, hU2.into hI.bel (fun x _ hx => by obtain ⟨ib, g, e, h⟩ := hx; exact hsB' x (.inr ⟨ib, g, e, .inl h⟩)), hI.siz.up hU2.size⟩
      · intro i hi
        rw [hcl hI.ub, ← urest_done W64 U V]
        exact hI.uw i (by omega)
      · intro i hi
        rw [hcl hI.qb, Nat.zero_add]
        exact hI.qw i (Nat.zero_le _) hi
    · obtain ⟨j, rfl⟩ : ∃ j, k = j + 1 := ⟨k - 1, by omega⟩
      obtain rfl : z = (j : Int) := by omega
      clear k0 hz
      obtain ⟨S, hS⟩ : ∃ S, S = urest W64 U V (j + 1) / W64 ^ j := ⟨_, rfl⟩
      have hSV : S < V * W64 := by rw [hS]; exact usec_lt W64_pos hV0
      have hdgS : ∀ i, dg W64 (urest W64 U V (j + 1)) (j + i) = dg W64 S i := fun i => by rw [hS]; exact (Dg.dg_div _ _ _).symm
      have hx0 : dg W64 (urest W64 U V (j + 1)) (j + 1 + n - 1) = dg W64 S n := by rw [← hdgS]; congr 1; omega
      rw [hx0]
      obtain ⟨q1, hq1⟩ : ∃ q1 : Nat, (j : Int) + (n : Int) - 1 = q1 := ⟨j + p1, by omega⟩
      obtain ⟨q2, hq2⟩ : ∃ q2 : Nat, (j : Int) + (n : Int) - 2 = q2 := ⟨j + p2, by omega⟩
      have hq1a : q1 = j + p1 := by omega
      have hq2a : q2 = j + p2 := by omega
      have c1 : wr.cell? ⟨gu, q1, none⟩ = some (.int .u64 (dg W64 S p1 : Nat)) := by
        have := HI.out.uw q1 (by omega)
        rw [Nat.zero_add, hq1a, hdgS] at this
        rw [hq1a]; exact this
      have c2 : wr.cell? ⟨gu, q2, none⟩ = some (.int .u64 (dg W64 S p2 : Nat)) := by
        have := HI.out.uw q2 (by omega)
        rw [Nat.zero_add, hq2a, hdgS] at this
        rw [hq2a]; exact this
      have v2 := HI.out.vw p2 hp2a
      have hle : dg W64 S n ≤ d1 := by
        have h := top_le (n := p2) (S := S) (V := V) (by rw [← HP.out.2]; exact HFN.out.2.2.2.1) hSV
        rw [← HP.out.2, ← HP.out.1, HD1.out] at h
        exact h
      have bx : dg W64 S n < 18446744073709551616 := W64_lt (dg_lt W64_pos _ _)
      have by1 : dg W64 S p1 < 18446744073709551616 := W64_lt (dg_lt W64_pos _ _)
      have by2 : dg W64 S p2 < 18446744073709551616 := W64_lt (dg_lt W64_pos _ _)
      have bd2 : dg W64 V p2 < 18446744073709551616 := W64_lt (dg_lt W64_pos _ _)
      have HSS := Lib.hid (⟨hS, hSV, hdgS⟩ : S = urest W64 U V (j + 1) / W64 ^ j ∧ S < V * W64 ∧ ∀ i, dg W64 (urest W64 U V (j + 1)) (j + i) = dg W64 S i)
      have HQA := Lib.hid (⟨hq1a, hq2a⟩ : q1 = j + p1 ∧ q2 = j + p2)
      have HDD := Lib.hid (show ∀ x0 y1 y2 d2 : Nat, dg W64 S n = x0 → dg W64 S p1 = y1 → dg W64 S p2 = y2 → dg W64 V p2 = d2 →
          (x0 = d1 → S / V ≤ W64 - 1 ∧ W64 - 1 ≤ S / V + 1) ∧ (∀ q, q = ((x0 * W64 + y1) * W64 + y2) / (d1 * W64 + d2) → q < W64 → S / V ≤ q ∧ q ≤ S / V + 1) from by
        rintro x0 y1 y2 d2 rfl rfl rfl rfl
        have hV' : V < W64 ^ (p2 + 2) := by rw [← HP.out.2]; exact HFN.out.2.2.2.1
        have hh : W64 ≤ 2 * dg W64 V (p2 + 1) := by
          have := HFN.out.2.2.2.2
          rwa [show n - 1 = p2 + 1 from by have := HP.out.2; omega] at this
        have e1 : dg W64 V (p2 + 1) = d1 := by rw [← HP.out.1]; exact HD1.out
        refine ⟨fun he => guess_alike hV' hSV hh (by rw [e1, ← HP.out.2]; exact he), fun q hq hqB => guess_three hV' hSV hh ?_ hqB⟩
        rw [hq, e1, HP.out.2, ← HP.out.1])
      clear hS hSV hdgS hx0 hq1a hq2a hI
      generalize hgx : dg W64 S n = x0 at *
      generalize hgy : dg W64 S p1 = y1 at *
      generalize hgz : dg W64 S p2 = y2 at *
      generalize hgd : dg W64 V p2 = d2 at *
      have HGG := Lib.hid (HDD.out x0 y1 y2 d2 rfl rfl rfl rfl)
      have HXX := Lib.hid (⟨hgx, hgy, hgz, hgd⟩ : dg W64 S n = x0 ∧ dg W64 S p1 = y1 ∧ dg W64 S p2 = y2 ∧ dg W64 V p2 = d2)
      clear HDD hgx hgy hgz hgd
      have hq1l : (q1 : Int) < N := by have := HQA.out; omega
      have hq2l : (q2 : Int) < N := by have := HQA.out; omega
      by_cases he : x0 = d1
      · have hjm : ¬ j = m := fun e => by
          have h1 : dg W64 S n = 0 := dg_of_lt (Nat.lt_trans (sec_top HFN.out.2.1 hV0 HSS.out.1 e) HFN.out.2.2.2.1)
          have := HXX.out.1
          omega
        obtain ⟨Q, hQ⟩ : ∃ Q : Nat, (18446744073709551615 : Int) = (Q : Int) := ⟨18446744073709551615, rfl⟩
        have hQl : Q < 18446744073709551616 := by omega
        have HQ2 := Lib.hid (show S / V ≤ Q ∧ Q ≤ S / V + 1 from by
          have h := HGG.out.1 he
          have e : W64 - 1 = Q := by unfold W64; omega
          rw [e] at h
          exact h)
        have hne : ((x0 : Int) != (d1 : Int)) = false := by simp; omega
        have hne' : (x0 : Int) = d1 := by omega
        clear HDW
        go_upto_region 24 with fail
        rw [hQ]
        clear hQ hne hne'
        obtain ⟨curH, hH, hHs⟩ := HI.out.hb
        have HML := Lib.hid (show Calls Tryz.prog 267 #[.slice (some ⟨gh, oh, none⟩) n kh, .slice (some ⟨gv, ov, none⟩) n kv, .int .u64 (Q : Nat), .int .u64 0] wr (VecIs gh oh n curH (dg W64 (V * Q + 0)) ((V % W64 ^ n * Q + 0) / W64 ^ n) wr) from mulAddVWWx_any gh oh n kh gv ov kv curH V Q 0 wr hH (by omega) (by omega) (by omega) hkh2 HI.out.vw (by omega) hkvm hvh hQl W64_pos)
        obtain ⟨C, hC⟩ : ∃ C, C = V * Q / W64 ^ n := ⟨_, rfl⟩
        have hcar : (V % W64 ^ n * Q + 0) / W64 ^ n = C := by rw [Nat.mod_eq_of_lt HFN.out.2.2.2.1, Nat.add_zero, hC]
        rw [hcar, Nat.add_zero] at HML
        have HC := Lib.hid (show C = dg W64 (V * Q) n from by
          rw [hC]; unfold dg
          exact (Nat.mod_eq_of_lt ((Nat.div_lt_iff_lt_mul (Nat.pow_pos W64_pos)).2 (by rw [Nat.mul_comm V, ← Nat.pow_succ']; exact guess_fits HFN.out.2.2.2.1 hQl W64_pos))).symm)
        have HH := Lib.hid (⟨hH, hHs⟩ : BlkAt wr gh curH 155 ∧ curH.size = curh.size)
        clear hcar hC hH
        go_wp2_with fail
        refine HML.out.mono ?_
        rintro e w5 ⟨rfl, hR⟩
        obtain ⟨⟨u0, r0c⟩, rf0⟩ := hR.room (j := oh + n) (by omega)
        have HI6 := Lib.hid (HI.out.beside ((WrAt.of_row HH.out.1 hR).trans (WrAt.setCell gh (oh + n) (.int .u64 (C : Nat)) w5)) hgu hgq (wcells_set (wcells_out HH.out.1 hR HI.out.vw (by rcases hvh with h | h; exact .inl h; exact .inr (.inl h))) (by rcases hvh with h | h; exact .inl h; exact .inr (.inl (by omega)))) hgB)
        have HQV := Lib.hid (show WCells (w5.setCell ⟨gh, oh + n, none⟩ (.int .u64 (C : Nat))) gh oh (n + 1) (dg W64 (Q * V)) from by
          intro i hi
          rw [Nat.mul_comm Q]
          by_cases e : i = n
          · subst e
            rw [← HC.out]
            exact World.cell?_setCell_same _ _ _ r0c
          · rw [World.cell?_setCell_other _ _ _ _ (fun hh => by injection hh with _ h2 _; omega)]
            exact hR.cells i (by omega))
        have hjn : (j : Int) + ((n : Int) + 1) ≤ N := by omega
        clear hR HML HH HI HC
        go_upto_region 28 with fail
        obtain ⟨w6, hw6⟩ : ∃ w6, w6 = w5.setCell ⟨gh, oh + n, none⟩ (.int .u64 (C : Nat)) := ⟨_, rfl⟩
        rw [← hw6] at HI6 HQV
        rw [← hw6]
        clear hw6 r0c rf0
        obtain ⟨curU, hU6, hUs⟩ := HI6.out.ub
        have hcuj : ¬ cu = j := by omega
        obtain ⟨E, hE⟩ : ∃ E : Nat, E = j + (n + 1) := ⟨_, rfl⟩
        have hsum : IntKind.i64.wrap ((j : Int) + ((n : Int) + 1)) = (E : Int) := by rw [IntKind.wrap_i64]; omega
        have hs1 : (j : Int) ≤ E := by omega
        have hs2 : (E : Int) ≤ cu := by omega
        have hs3 : (n : Int) + 1 ≤ kh := by omega
        have hs4 : (0 : Int) ≤ (n : Int) + 1 := by omega
        have hEj : E - j = n + 1 := by omega
        have HE := Lib.hid hE
        clear hE
        by_cases hbr : Q * V ≤ S
        · obtain ⟨hQS, hSr⟩ := sub_right (n := n) (by
            have := HSS.out.2.1
            rw [Nat.pow_succ]
            exact Nat.lt_of_lt_of_le this (Nat.mul_le_mul_right _ (Nat.le_of_lt HFN.out.2.2.2.1))) hV0 HQ2.out.1 hbr
          have HQS := Lib.hid (⟨hQS, hSr⟩ : Q = S / V ∧ S - Q * V = S % V)
          clear hQS hSr
          have HSB2 := Lib.hid (fun w' (hb : Below w6.heap.size w6 w') => subVV_any gu j (n + 1) (cu - j) gu j (cu - j) gh oh kh curU S (Q * V) hbr w' (hU6.keep hb) (by omega) (by omega) (by omega) (by omega) (fun i hi => cell_keep ((HI6.out.sect HSS.out.1 (n + 1) (by omega)) i hi) hb) (by omega) (by omega) (fun i hi => cell_keep (HQV.out i hi) hb) (by omega) hkh2 (.inr (Nat.le_refl _)) (.inl hgu))
          have hd6 : Below w6.heap.size w6 w6.drew := (Below.refl _ _).drew
          go_region_held3 (fun _ => True) (exact trivial)
            (first | (go_at_call 197; (with_reducible refine (HSB2.out _ hd6).mono ?_); rintro e w7 ⟨rfl, hR7⟩))
          have HI7 := Lib.hid (HI6.out.keep hd6)
          have HR7 := Lib.hid hR7
          have hU7 := hU6.keep hd6
          have e7 : S - Q * V = S % V := HQS.out.2
          have hbz : bor S (Q * V) (n + 1) = 0 := by
            have h1 : S < W64 ^ (n + 1) := by
              rw [Nat.pow_succ]
              exact Nat.lt_of_lt_of_le HSS.out.2.1 (Nat.mul_le_mul_right _ (Nat.le_of_lt HFN.out.2.2.2.1))
            unfold bor
            rw [Nat.mod_eq_of_lt h1, Nat.mod_eq_of_lt (Nat.lt_of_le_of_lt hbr h1), if_neg (by omega)]
          obtain ⟨yy, hyy⟩ : ∃ yy, yy = dg W64 (S % V) p1 := ⟨_, rfl⟩
          have c7 : w7.cell? ⟨gu, q1, none⟩ = some (.int .u64 (yy : Nat)) := by
            have := hR7.cells p1 (by omega)
            rw [e7, ← hyy, ← HQA.out.1] at this
            exact this
          have HYY := Lib.hid hyy
          obtain ⟨curQ, hQ7, hQs⟩ := (HI7.out.qb.wr (WrAt.of_row hU7 hR7))
          obtain ⟨vq, hvq0⟩ : ∃ v, curQ[j]? = some v := ⟨curQ[j]'(by omega), by rw [Array.getElem?_eq_getElem]⟩
          have cq7 : w7.cell? ⟨gq, j, none⟩ = some vq := by rw [hQ7.cell, hvq0]
          have fq7 := hQ7.frozen j
          have hjml : (j : Int) < m := by omega
          have hjme : ¬ (j : Int) = m := by omega
          have HQ7 := Lib.hid (⟨e7, hU7⟩ : S - Q * V = S % V ∧ BlkAt w6.drew gu curU 155)
          clear hyy e7 hU7 hR7 hQ7 hvq0 hbr HSB2 hU6
          go_wp2_with fail
          go_roundw
          case rel =>
            refine ⟨j, (j : Int) - 1, by omega, by omega, by first | rfl | go_num, ?_, ?_⟩
            · have h1 : dg W64 (urest W64 U V j) (j + n - 1) = yy := by
                rw [show j + n - 1 = j + p1 from by omega, urest_hi W64_pos, ← HSS.out.1]; exact HYY.out.symm
              rw [h1]
            · have hR := HR7.out
              rw [HQ7.out.1] at hR
              exact HI7.out.next HSS.out.1 HSS.out.2.1 HFN.out.2.2.2.1 hV0 (WrAt.of_row HQ7.out.2 hR)
                (fun i hi => row_out HQ7.out.2 hR (.inl hi))
                (fun i h1 _ => hR.cells i (by omega))
                (fun i hi => row_out HQ7.out.2 hR (.inr (by omega)))
                (WrAt.setCell gq j _ w7) (fun _ => by rw [← HQS.out.1]; exact World.cell?_setCell_same _ _ _ cq7) (fun i h1 _ => World.cell?_setCell_other _ _ _ _ (fun hh => by injection hh with _ h2 _; omega)) huv huq hvq HBU.out HBQ.out
          case measure => simp [intOf] <;> omega
        · have hlt2 : S < Q * V := by omega
          obtain ⟨hQS, hTV⟩ := sub_wrong hV0 HQ2.out.1 HQ2.out.2 hlt2
          have hS1 : S < W64 ^ (n + 1) := by
            rw [Nat.pow_succ]
            exact Nat.lt_of_lt_of_le HSS.out.2.1 (Nat.mul_le_mul_right _ (Nat.le_of_lt HFN.out.2.2.2.1))
          have hQV1 : Q * V < W64 ^ (n + 1) := guess_fits HFN.out.2.2.2.1 hQl W64_pos
          obtain ⟨M, hM⟩ : ∃ M, M = W64 ^ (n + 1) := ⟨_, rfl⟩
          have hXY : Q * V ≤ S + M := by rw [hM]; omega
          have hTV' := hTV M hXY (by rw [hM]; exact Nat.le_of_lt (Nat.lt_of_lt_of_le HFN.out.2.2.2.1 (Nat.pow_le_pow_right W64_pos (by omega))))
          have hb1 : bor (S + M) (Q * V) (n + 1) = 1 := by rw [bor_sec hS1 hQV1 hM, if_pos hlt2]
          have HSB2 := Lib.hid (fun w' (hb : Below w6.heap.size w6 w') => subVV_any gu j (n + 1) (cu - j) gu j (cu - j) gh oh kh curU (S + M) (Q * V) hXY w' (hU6.keep hb) (by omega) (by omega) (by omega) (by omega) (fun i hi => by rw [dg_over hM hi]; exact cell_keep ((HI6.out.sect HSS.out.1 (n + 1) (by omega)) i hi) hb) (by omega) (by omega) (fun i hi => cell_keep (HQV.out i hi) hb) (by omega) hkh2 (.inr (Nat.le_refl _)) (.inl hgu))
          rw [hb1] at HSB2
          obtain ⟨T, hT⟩ : ∃ T, T = S + M - Q * V := ⟨_, rfl⟩
          rw [← hT] at hTV' HSB2
          have HTV := Lib.hid (⟨hTV', hM⟩ : T + V = M + S % V ∧ M = W64 ^ (n + 1))
          have HQS := Lib.hid hQS
          clear hQS hTV hTV' hS1 hQV1 hM hXY hb1 hT hlt2 hbr
          have hd6 : Below w6.heap.size w6 w6.drew := (Below.refl _ _).drew
          go_region_held3 (fun _ => True) (exact trivial)
            (first | (go_at_call 197; (with_reducible refine (HSB2.out _ hd6).mono ?_); rintro e w7 ⟨rfl, hR7⟩))
          have HI7 := Lib.hid (HI6.out.keep hd6)
          have hU7 := hU6.keep hd6
          obtain ⟨curU7, hV7, hV7s⟩ := (WrAt.of_row hU7 hR7).blk _ hU7
          have hv7 : WCells w7 gv ov n (dg W64 V) := fun i hi => by
            rw [(WrAt.of_row hU7 hR7).cell HI7.out.vb (Ne.symm huv)]; exact HI7.out.vw i hi
          have HAV := Lib.hid (fun w' (hb : Below w7.heap.size w7 w') => addVV_any gu j n (cu - j) gu j (cu - j) gv ov kv curU7 T V w' (hV7.keep hb) (by omega) (by omega) (by omega) (by omega) (fun i hi => cell_keep (hR7.cells i (by omega)) hb) (by omega) (by omega) (fun i hi => cell_keep (hv7 i hi) hb) (by omega) hkvm (.inr (Nat.le_refl _)) (.inl (Ne.symm huv)))
          obtain ⟨cc, hcc⟩ : ∃ cc, cc = (T % W64 ^ n + V % W64 ^ n) / W64 ^ n := ⟨_, rfl⟩
          obtain ⟨tn, htn⟩ : ∃ tn, tn = dg W64 T n := ⟨_, rfl⟩
          have htop := add_top (T := T) HFN.out.2.2.2.1
          have hcc1 : cc ≤ 1 := by rw [hcc]; exact add_carry_le W64_pos T V n
          have htnl : tn < 18446744073709551616 := by rw [htn]; exact W64_lt (dg_lt W64_pos _ _)
          rw [← hcc, ← htn] at htop
          obtain ⟨tt, htt⟩ : ∃ tt, tt = dg W64 (T + V) n := ⟨_, rfl⟩
          rw [← htt] at htop
          have hadd : IntKind.u64.wrap ((tn : Int) + (cc : Int)) = (tt : Int) := by
            unfold W64 at htop
            rw [IntKind.wrap_u64]; omega
          rw [← hcc] at HAV
          have ctn : w7.cell? ⟨gu, j + n, none⟩ = some (.int .u64 (tn : Nat)) := by rw [htn]; exact hR7.cells n (by omega)
          have HTT := Lib.hid htt
          have HCTN := Lib.hid ctn
          have HR7 := Lib.hid (⟨hU7, hR7⟩ : BlkAt w6.drew gu curU 155 ∧ RowUp 155 w6.drew w7 gu j (n + 1) curU (dg W64 T))
          obtain ⟨E2, hE2⟩ : ∃ E2 : Nat, E2 = j + n := ⟨_, rfl⟩
          have hsum2 : IntKind.i64.wrap ((j : Int) + (n : Int)) = (E2 : Int) := by rw [IntKind.wrap_i64]; omega
          have ht1 : (j : Int) ≤ E2 := by omega
          have ht2 : (E2 : Int) ≤ cu := by omega
          have ht3 : (E2 : Int) < N := by omega
          have ht4 : E2 - j = n := by omega
          have ht5 : (n : Int) < (n : Int) + 1 := by omega
          have HE2 := Lib.hid hE2
          clear hcc htn htop htt hE2 hR7 hU7 hv7 HSB2 hU6 hcc1 ctn
          go_upto_region 30 with fail
          have hd7 : Below w7.heap.size w7 w7.drew := (Below.refl _ _).drew
          go_region_held3 (fun _ => True) (exact trivial)
            (first | (go_at_call 195; (with_reducible refine (HAV.out _ hd7).mono ?_); rintro e w8 ⟨rfl, hR8⟩))
          have hV8 := hV7.keep hd7
          have c8 : w8.cell? ⟨gu, E2, none⟩ = some (.int .u64 (tn : Nat)) := by
            rw [HE2.out, row_out hV8 hR8 (.inr (Nat.le_refl _))]
            exact cell_keep HCTN.out hd7
          obtain ⟨curU8, hW8, hW8s⟩ := (WrAt.of_row hV8 hR8).blk _ hV8
          have f8 := hW8.frozen E2
          obtain ⟨yy, hyy⟩ : ∃ yy, yy = dg W64 (S % V) p1 := ⟨_, rfl⟩
          have htv : ∀ i, i ≤ n → dg W64 (T + V) i = dg W64 (S % V) i := fun i hi => by
            rw [HTV.out.1, Nat.add_comm M, dg_over HTV.out.2 (by omega)]
          have c9 : w8.cell? ⟨gu, q1, none⟩ = some (.int .u64 (yy : Nat)) := by
            rw [HQA.out.1, hyy, ← htv p1 (by omega)]
            exact hR8.cells p1 (by omega)
          have hEq : (E2 : Int) - 1 = (q1 : Int) := by have := HE2.out; omega
          have hqE : ¬ E2 = q1 := by have := HQA.out.1; have := HE2.out; omega
          have hqE' : ¬ q1 = E2 := by have := HQA.out.1; have := HE2.out; omega
          have K9 : ∀ v, WrAt gu w6.drew (w8.setCell ⟨gu, E2, none⟩ v) := fun v =>
            ((WrAt.of_row HR7.out.1 HR7.out.2).trans (WrAt.drewN gu w7 1)).trans ((WrAt.of_row hV8 hR8).trans (WrAt.setCell gu E2 v w8))
          have HK9 := Lib.hid K9
          obtain ⟨curQ, hQ9, hQs⟩ := (HI7.out.qb.wr (K9 (.int .u64 (tt : Nat))))
          obtain ⟨vq, hvq0⟩ : ∃ v, curQ[j]? = some v := ⟨curQ[j]'(by omega), by rw [Array.getElem?_eq_getElem]⟩
          have cq9 : (w8.setCell ⟨gu, E2, none⟩ (.int .u64 (tt : Nat))).cell? ⟨gq, j, none⟩ = some vq := by rw [hQ9.cell, hvq0]
          have fq9 : (w8.setCell ⟨gu, E2, none⟩ (.int .u64 (tt : Nat))).frozen? ⟨gq, j, none⟩ = false := hQ9.frozen j
          have HYY := Lib.hid hyy
          have HTVV := Lib.hid htv
          have HR8 := Lib.hid (⟨hV8, hR8⟩ : BlkAt w7.drew gu curU7 155 ∧ RowUp 155 w7.drew w8 gu j n curU7 (dg W64 (T + V)))
          obtain ⟨Q', hQ'⟩ : ∃ Q' : Nat, Q = Q' + 1 := ⟨S / V, HQS.out⟩
          have hQm : IntKind.u64.wrap ((Q : Int) - 1) = (Q' : Int) := by rw [IntKind.wrap_u64]; omega
          have HQ' := Lib.hid (show Q' = S / V from by have := HQS.out; omega)
          have hjml : (j : Int) < m := by omega
          have hjme : ¬ (j : Int) = m := by omega
          clear hyy htv hQ9 hvq0 hR8 hV8 hW8 hV7 K9 hQ' HAV
          go_wp2_with fail
          go_roundw
          case rel =>
            refine ⟨j, (j : Int) - 1, by omega, by omega, by first | rfl | go_num, ?_, ?_⟩
            · have h1 : dg W64 (urest W64 U V j) (j + n - 1) = yy := by
                rw [show j + n - 1 = j + p1 from by omega, urest_hi W64_pos, ← HSS.out.1]; exact HYY.out.symm
              rw [h1]
            · have hR := HR7.out.2
              have hR2 := HR8.out.2
              have hE := HE2.out
              exact HI7.out.next HSS.out.1 HSS.out.2.1 HFN.out.2.2.2.1 hV0 (HK9.out _)
                (fun i hi => by rw [World.cell?_setCell_other _ _ _ _ (fun hh => by injection hh with _ h2 _; omega), row_out HR8.out.1 hR2 (.inl hi)]; exact (cell_drew' w7 _).trans (row_out HR7.out.1 hR (.inl hi)))
                (fun i h1 _ => by
                  by_cases e : i = n
                  · rw [e, ← hE, ← HTVV.out n (Nat.le_refl _), ← HTT.out]
                    exact World.cell?_setCell_same _ _ _ c8
                  · rw [World.cell?_setCell_other _ _ _ _ (fun hh => by injection hh with _ h2 _; omega), ← HTVV.out i h1]
                    exact hR2.cells i (by omega))
                (fun i hi => by rw [World.cell?_setCell_other _ _ _ _ (fun hh => by injection hh with _ h2 _; omega), row_out HR8.out.1 hR2 (.inr (by omega))]; exact (cell_drew' w7 _).trans (row_out HR7.out.1 hR (.inr (by omega))))
                (WrAt.setCell gq j _ _) (fun _ => by rw [← HQ'.out]; exact World.cell?_setCell_same _ _ _ cq9) (fun i h1 _ => World.cell?_setCell_other _ _ _ _ (fun hh => by injection hh with _ h2 _; omega)) huv huq hvq HBU.out HBQ.out
          case measure => simp [intOf] <;> omega
      · have hlt : x0 < d1 := by omega
        have hu : x0 * W64 + y1 < d1 * W64 := by
          have : (x0 + 1) * W64 ≤ d1 * W64 := Nat.mul_le_mul_right _ hlt
          unfold W64 at this ⊢
          omega
        have HG0 := Lib.hid (Gk.start (z := y2) (l := d2) W64_pos hd1p (show d2 < W64 from bd2) (show y2 < W64 from by2) hu)
        have HDV := Lib.hid (fun w => HDW.out x0 y1 hlt by1 w)
        have hg0l : (x0 * W64 + y1) / d1 < 18446744073709551616 := HG0.out.hi
        have hr0l : (x0 * W64 + y1) % d1 < 18446744073709551616 := Nat.lt_trans (Nat.mod_lt _ hd1p) b1
        obtain ⟨u, hue⟩ : ∃ u, u = x0 * W64 + y1 := ⟨_, rfl⟩
        rw [← hue] at HG0 HDV hg0l hr0l hu
        have HUE := Lib.hid hue
        clear hue
        generalize u / d1 = g0 at *
        generalize u % d1 = r0 at *
        have HMU := Lib.hid (fun w => mulWW_any g0 d2 hg0l bd2 w)
        have hxs : g0 * d2 / 18446744073709551616 * W64 + g0 * d2 % 18446744073709551616 = g0 * d2 := by
          unfold W64; rw [Nat.mul_comm]; exact Nat.div_add_mod _ _
        have hx1l : g0 * d2 / 18446744073709551616 < 18446744073709551616 := by
          rw [Nat.div_lt_iff_lt_mul (by decide)]
          exact Nat.lt_of_le_of_lt (Nat.mul_le_mul_left _ (Nat.le_of_lt bd2)) (Nat.mul_lt_mul_of_pos_right hg0l (by decide))
        have hx2l : g0 * d2 % 18446744073709551616 < 18446744073709551616 := Nat.mod_lt _ (by decide)
        have HXS := Lib.hid hxs
        clear hxs
        generalize g0 * d2 / 18446744073709551616 = x1 at *
        generalize g0 * d2 % 18446744073709551616 = x2 at *
        obtain ⟨Q, hQ⟩ : ∃ Q, Q = (u * W64 + y2) / (d1 * W64 + d2) := ⟨_, rfl⟩
        have HQ := Lib.hid hQ
        clear hQ
        have hne : ((x0 : Int) != (d1 : Int)) = true := by simp; omega
        have hne' : ¬ (x0 : Int) = d1 := by omega
        go_wp2_with fail
        refine (HDV.out _).mono ?_
        rintro e w4 ⟨rfl, rfl⟩
        go_wp2_with fail
        refine (HMU.out _).mono ?_
        rintro e w4 ⟨rfl, rfl⟩
        have c2' := c2
        go_upto_block 2 with fail
        go_cut [15, 16, 18, 19] from 84 to 104 (fun s15 s16 s18 s19 wx => s15 = .int .u64 (Q : Nat) ∧ (∃ z, s16 = .int .u64 z) ∧ (∃ z, s18 = .int .u64 z) ∧ (∃ z, s19 = .int .u64 z) ∧ wx = wr)
        case first =>
          go_wp2
          go_loopw [15, 16, 18, 19] (fun s15 s16 s18 s19 wq => ∃ q r x1 x2 : Nat, s15 = .int .u64 q ∧ s16 = .int .u64 r ∧ s18 = .int .u64 x1 ∧ s19 = .int .u64 x2 ∧ x1 < 18446744073709551616 ∧ x2 < 18446744073709551616 ∧ x1 * W64 + x2 = q * d2 ∧ Gk W64 d1 d2 u y2 q r ∧ r < 18446744073709551616 ∧ wq = wr) (fun s15 _ _ _ _ => (intOf s15).toNat)
          case atStart => exact ⟨g0, r0, x1, x2, rfl, rfl, rfl, rfl, hx1l, hx2l, HXS.out, HG0.out, hr0l, rfl⟩
          case round =>
            obtain ⟨q, r, z1, z2, rfl, rfl, rfl, rfl, hz1, hz2, hzz, hG, hr, rfl⟩ := hrel
            have hqh : q < 18446744073709551616 := hG.hi
            have HG := Lib.hid hG
            have HZZ := Lib.hid hzz
            clear HG0 HXS hx1l hx2l hr0l hg0l HDV HMU HDW HGG hG hzz v2 c1 c2 c2'
            go_wp2_with fail
            refine (greaterThan_any z1 z2 r y2 hz1 hz2 hr by2 _).mono ?_
            rintro e w5 ⟨rfl, rfl⟩
            rw [HZZ.out]
            cases hc : decide (r * W64 + y2 < q * d2)
            · have HK := Lib.hid (HG.out.right W64_pos hd1p (by simpa using hc))
              clear hc
              go_wp2_with fail
              go_meet
              exact ⟨congrArg (fun z : Nat => Value.int .u64 (z : Int)) (HK.out.trans HQ.out.symm), ⟨_, rfl⟩, ⟨_, rfl⟩, ⟨_, rfl⟩, by first | rfl | trivial⟩
            · have hcc : r * W64 + y2 < q * d2 := by simpa using hc
              obtain ⟨hq0, -⟩ := HG.out.down W64_pos hd1p hcc
              have HN' := Lib.hid (HG.out.next W64_pos hd1p hcc)
              clear hc
              obtain ⟨p, hp⟩ : ∃ p : Nat, q = p + 1 := ⟨q - 1, by omega⟩
              subst hp
              rw [Nat.add_sub_cancel] at HN'
              have hS : IntKind.u64.wrap (((p + 1 : Nat) : Int) - 1) = (p : Int) := by rw [IntKind.wrap_u64]; omega
              have hS' : IntKind.u64.wrap ((p : Int) + 1 - 1) = (p : Int) := by rw [IntKind.wrap_u64]; omega
              by_cases c3 : 18446744073709551616 ≤ r + d1
              · have HK := Lib.hid (HN'.out.broke W64_pos hd1p (show d2 < W64 from bd2) (show W64 ≤ r + d1 from c3))
                obtain ⟨r', hr'⟩ : ∃ r' : Nat, r' = r + d1 - 18446744073709551616 := ⟨_, rfl⟩
                have hR : IntKind.u64.wrap ((r : Int) + (d1 : Int)) = (r' : Int) := by rw [IntKind.wrap_u64]; omega
                have hlt' : (r' : Int) < d1 := by omega
                clear hcc hr' c3
                go_wp2_with fail
                go_meet
                exact ⟨congrArg (fun z : Nat => Value.int .u64 (z : Int)) (HK.out.trans HQ.out.symm), ⟨_, rfl⟩, ⟨_, rfl⟩, ⟨_, rfl⟩, by first | rfl | trivial⟩
              · obtain ⟨r', hr'⟩ : ∃ r' : Nat, r' = r + d1 := ⟨_, rfl⟩
                have hR : IntKind.u64.wrap ((r : Int) + (d1 : Int)) = (r' : Int) := by rw [IntKind.wrap_u64]; omega
                have hge' : ¬ (r' : Int) < d1 := by omega
                have hrl : r' < 18446744073709551616 := by omega
                rw [← hr'] at HN'
                clear hcc hr' c3
                have hprod := HZZ.out
                rw [Nat.add_mul, Nat.one_mul] at hprod
                obtain ⟨pd, hpd⟩ : ∃ pd, pd = p * d2 := ⟨_, rfl⟩
                rw [← hpd] at hprod
                unfold W64 at hprod
                have HPD := Lib.hid hpd
                clear hpd
                by_cases c4 : z2 < d2
                · obtain ⟨a1, ha1⟩ : ∃ a1 : Nat, z1 = a1 + 1 := ⟨z1 - 1, by omega⟩
                  subst ha1
                  obtain ⟨a2, ha2⟩ : ∃ a2 : Nat, a2 + d2 = z2 + 18446744073709551616 := ⟨z2 + 18446744073709551616 - d2, Nat.sub_add_cancel (by omega)⟩
                  have k4 : (z2 : Int) < d2 := by omega
                  have hA : IntKind.u64.wrap ((a1 : Int) + 1 - 1) = (a1 : Int) := by rw [IntKind.wrap_u64]; omega
                  have hA' : IntKind.u64.wrap (((a1 + 1 : Nat) : Int) - 1) = (a1 : Int) := by rw [IntKind.wrap_u64]; omega
                  have hB : IntKind.u64.wrap ((z2 : Int) - (d2 : Int)) = (a2 : Int) := by rw [IntKind.wrap_u64]; omega
                  have hrel0 := borrow_rel hprod ha2
                  have HREL := Lib.hid (show a1 * W64 + a2 = p * d2 from by rw [← HPD.out]; unfold W64; exact hrel0)
                  have ha2l : a2 < 18446744073709551616 := by omega
                  have ha1l : a1 < 18446744073709551616 := by omega
                  clear hprod ha2 c4
                  go_wp2_with fail
                  go_roundw
                  case rel => exact ⟨p, r', a1, a2, rfl, rfl, rfl, rfl, ha1l, ha2l, HREL.out, HN'.out, hrl, by first | rfl | trivial⟩
                  case measure => simp [intOf] <;> omega
                · obtain ⟨a2, ha2⟩ : ∃ a2 : Nat, a2 = z2 - d2 := ⟨_, rfl⟩
                  have k4 : ¬ (z2 : Int) < d2 := by omega
                  have hB : IntKind.u64.wrap ((z2 : Int) - (d2 : Int)) = (a2 : Int) := by rw [IntKind.wrap_u64]; omega
                  have HREL := Lib.hid (show z1 * W64 + a2 = p * d2 from by rw [← HPD.out]; unfold W64; omega)
                  have ha2l : a2 < 18446744073709551616 := by omega
                  clear hprod ha2 c4
                  go_wp2_with fail
                  go_roundw
                  case rel => exact ⟨p, r', z1, a2, rfl, rfl, rfl, rfl, hz1, ha2l, HREL.out, HN'.out, hrl, by first | rfl | trivial⟩
                  case measure => simp [intOf] <;> omega
        case rest =>
          obtain ⟨rfl, ⟨zr, rfl⟩, ⟨zx, rfl⟩, ⟨zy, rfl⟩, rfl⟩ := hcut
          clear HDW HDV HMU HXS hx1l hx2l
          have hQl : Q < 18446744073709551616 := by rw [HQ.out]; exact Nat.lt_of_le_of_lt HG0.out.lo hg0l
          have HQ2 := Lib.hid (HGG.out.2 Q (by rw [HQ.out, HUE.out]) hQl)
          by_cases hjm : j = m
          · have hlt0 := sec_top HFN.out.2.1 hV0 HSS.out.1 hjm
            have hx00 : x0 = 0 := by rw [← HXX.out.1]; exact dg_of_lt (Nat.lt_trans hlt0 HFN.out.2.2.2.1)
            have hy1d : y1 < d1 := by
              rw [← HXX.out.2.1, ← HD1.out, show p1 = n - 1 from by omega]
              have h := HFN.out.2.2.1
              have e := HSS.out.2.2 (n - 1)
              rw [← e, hjm, show m + (n - 1) = m + n - 1 from by omega, urest_start (Nat.lt_of_lt_of_le HFN.out.2.1 (Nat.mul_le_mul_left _ (Nat.pow_le_pow_right W64_pos (Nat.le_succ m))))]
              exact h
            have hQ0 : Q = 0 := by
              rw [HQ.out, HUE.out, hx00, Nat.zero_mul, Nat.zero_add]
              refine Nat.div_eq_of_lt (Nat.lt_of_lt_of_le ?_ (Nat.le_add_right _ _))
              have h2 : (y1 + 1) * W64 ≤ d1 * W64 := Nat.mul_le_mul_right _ hy1d
              unfold W64 at h2 ⊢
              omega
            have HS0 := Lib.hid hlt0
            have hjm1 : j ≤ m := by omega
            have hjm2 : m ≤ j := by omega
            clear hlt0 hx00 hy1d HQ HQ2 hjm
            subst hQ0
            obtain ⟨curH, hH, hHs⟩ := HI.out.hb
            have HML := Lib.hid (show Calls Tryz.prog 267 #[.slice (some ⟨gh, oh, none⟩) n kh, .slice (some ⟨gv, ov, none⟩) n kv, .int .u64 0, .int .u64 0] wc (VecIs gh oh n curH (dg W64 (V * 0 + 0)) ((V % W64 ^ n * 0 + 0) / W64 ^ n) wc) from mulAddVWWx_any gh oh n kh gv ov kv curH V 0 0 wc hH (by omega) (by omega) (by omega) hkh2 HI.out.vw (by omega) hkvm hvh W64_pos W64_pos)
            have hcar : (V % W64 ^ n * 0 + 0) / W64 ^ n = 0 := by simp
            rw [hcar, Nat.mul_zero, Nat.add_zero] at HML
            have HH := Lib.hid (⟨hH, hHs⟩ : BlkAt wc gh curH 155 ∧ curH.size = curh.size)
            clear hcar hH
            go_wp2_with fail
            refine HML.out.mono ?_
            rintro e w5 ⟨rfl, hR⟩
            obtain ⟨⟨u0, r0c⟩, rf0⟩ := hR.room (j := oh + n) (by omega)
            have HI6 := Lib.hid (HI.out.beside ((WrAt.of_row HH.out.1 hR).trans (WrAt.setCell gh (oh + n) (.int .u64 0) w5)) hgu hgq (wcells_set (wcells_out HH.out.1 hR HI.out.vw (by rcases hvh with h | h; exact .inl h; exact .inr (.inl h))) (by rcases hvh with h | h; exact .inl h; exact .inr (.inl (by omega)))) hgB)
            have HQV := Lib.hid (show WCells (w5.setCell ⟨gh, oh + n, none⟩ (.int .u64 0)) gh oh n (dg W64 0) from by
              intro i hi
              rw [World.cell?_setCell_other _ _ _ _ (fun hh => by injection hh with _ h2 _; omega)]
              exact hR.cells i (by omega))
            have ch6 : (w5.setCell ⟨gh, oh + n, none⟩ (.int .u64 0)).cell? ⟨gh, oh + n, none⟩ = some (.int .u64 0) := World.cell?_setCell_same _ _ _ r0c
            have hjn : (j : Int) + ((n : Int) + 1) > N := by omega
            clear hR HML HH HI
            go_upto_region 28 with fail
            obtain ⟨w6, hw6⟩ : ∃ w6, w6 = w5.setCell ⟨gh, oh + n, none⟩ (.int .u64 0) := ⟨_, rfl⟩
            rw [← hw6] at HI6 HQV
            rw [← hw6]
            clear hw6 r0c rf0 ch6
            obtain ⟨curU, hU6, hUs⟩ := HI6.out.ub
            have hcuj : ¬ cu = j := by omega
            obtain ⟨E, hE⟩ : ∃ E : Nat, E = j + n := ⟨_, rfl⟩
            have hsum : IntKind.i64.wrap ((j : Int) + (n : Int)) = (E : Int) := by rw [IntKind.wrap_i64]; omega
            have hs1 : (j : Int) ≤ E := by omega
            have hs2 : (E : Int) ≤ cu := by omega
            have hs3 : (n : Int) ≤ kh := by omega
            have hEj : E - j = n := by omega
            have HE := Lib.hid hE
            clear hE hjn
            have hSn : S < W64 ^ n := Nat.lt_trans HS0.out HFN.out.2.2.2.1
            have HSB2 := Lib.hid (fun w' (hb : Below w6.heap.size w6 w') => subVV_any gu j n (cu - j) gu j (cu - j) gh oh kh curU S 0 (Nat.zero_le _) w' (hU6.keep hb) (by omega) (by omega) (by omega) (by omega) (fun i hi => cell_keep ((HI6.out.sect HSS.out.1 n (by omega)) i hi) hb) (by omega) (by omega) (fun i hi => cell_keep (HQV.out i hi) hb) (by omega) hkh2 (.inr (Nat.le_refl _)) (.inl hgu))
            have hbz : bor S 0 n = 0 := by unfold bor; rw [Nat.zero_mod, if_neg (Nat.not_lt_zero _)]
            have hd6 : Below w6.heap.size w6 w6.drew := (Below.refl _ _).drew
            clear hSn
            go_region_held3 (fun _ => True) (exact trivial)
              (first | (go_at_call 197; (with_reducible refine (HSB2.out _ hd6).mono ?_); rintro e w7 ⟨rfl, hR7⟩))
            have HI7 := Lib.hid (HI6.out.keep hd6)
            have hU7 := hU6.keep hd6
            rw [Nat.sub_zero] at hR7
            have HR7 := Lib.hid (⟨hU7, hR7⟩ : BlkAt w6.drew gu curU 155 ∧ RowUp 155 w6.drew w7 gu j n curU (dg W64 S))
            obtain ⟨yy, hyy⟩ : ∃ yy, yy = dg W64 S p1 := ⟨_, rfl⟩
            have c7 : w7.cell? ⟨gu, q1, none⟩ = some (.int .u64 (yy : Nat)) := by
              have := hR7.cells p1 (by omega)
              rw [← hyy, ← HQA.out.1] at this
              exact this
            have HYY := Lib.hid hyy
            have hEq : (E : Int) - 1 = (q1 : Int) := by have := HE.out; omega
            have hjmb : ((j : Int) == (m : Int)) = true := by simp; omega
            clear hyy hR7 hU7 HSB2 hU6
            go_wp2_with fail
            go_roundw
            case rel =>
              have hmod : S % V = S := Nat.mod_eq_of_lt HS0.out
              refine ⟨j, (j : Int) - 1, by omega, by omega, by first | rfl | go_num, ?_, ?_⟩
              · have h1 : dg W64 (urest W64 U V j) (j + n - 1) = yy := by
                  rw [show j + n - 1 = j + p1 from by omega, urest_hi W64_pos, ← HSS.out.1, hmod]; exact HYY.out.symm
                rw [h1]
              · have hR := HR7.out.2
                exact HI7.out.next HSS.out.1 HSS.out.2.1 HFN.out.2.2.2.1 hV0 (WrAt.of_row HR7.out.1 hR)
                  (fun i hi => row_out HR7.out.1 hR (.inl hi))
                  (fun i h1 h2 => by rw [hmod]; exact hR.cells i (by omega))
                  (fun i hi => row_out HR7.out.1 hR (.inr (by omega)))
                  (WrAt.refl gq w7) (fun h => absurd h (by omega)) (fun i h1 _ => rfl) huv huq hvq HBU.out HBQ.out
            case measure => simp [intOf] <;> omega
          · skip
            obtain ⟨curH, hH, hHs⟩ := HI.out.hb
            have HML := Lib.hid (show Calls Tryz.prog 267 #[.slice (some ⟨gh, oh, none⟩) n kh, .slice (some ⟨gv, ov, none⟩) n kv, .int .u64 (Q : Nat), .int .u64 0] wc (VecIs gh oh n curH (dg W64 (V * Q + 0)) ((V % W64 ^ n * Q + 0) / W64 ^ n) wc) from mulAddVWWx_any gh oh n kh gv ov kv curH V Q 0 wc hH (by omega) (by omega) (by omega) hkh2 HI.out.vw (by omega) hkvm hvh hQl W64_pos)
            obtain ⟨C, hC⟩ : ∃ C, C = V * Q / W64 ^ n := ⟨_, rfl⟩
            have hcar : (V % W64 ^ n * Q + 0) / W64 ^ n = C := by rw [Nat.mod_eq_of_lt HFN.out.2.2.2.1, Nat.add_zero, hC]
            rw [hcar, Nat.add_zero] at HML
            have HC := Lib.hid (show C = dg W64 (V * Q) n from by
              rw [hC]; unfold dg
              exact (Nat.mod_eq_of_lt ((Nat.div_lt_iff_lt_mul (Nat.pow_pos W64_pos)).2 (by rw [Nat.mul_comm V, ← Nat.pow_succ']; exact guess_fits HFN.out.2.2.2.1 hQl W64_pos))).symm)
            have HH := Lib.hid (⟨hH, hHs⟩ : BlkAt wc gh curH 155 ∧ curH.size = curh.size)
            clear hcar hC hH
            go_wp2_with fail
            refine HML.out.mono ?_
            rintro e w5 ⟨rfl, hR⟩
            obtain ⟨⟨u0, r0c⟩, rf0⟩ := hR.room (j := oh + n) (by omega)
            have HI6 := Lib.hid (HI.out.beside ((WrAt.of_row HH.out.1 hR).trans (WrAt.setCell gh (oh + n) (.int .u64 (C : Nat)) w5)) hgu hgq (wcells_set (wcells_out HH.out.1 hR HI.out.vw (by rcases hvh with h | h; exact .inl h; exact .inr (.inl h))) (by rcases hvh with h | h; exact .inl h; exact .inr (.inl (by omega)))) hgB)
            have HQV := Lib.hid (show WCells (w5.setCell ⟨gh, oh + n, none⟩ (.int .u64 (C : Nat))) gh oh (n + 1) (dg W64 (Q * V)) from by
              intro i hi
              rw [Nat.mul_comm Q]
              by_cases e : i = n
              · subst e
                rw [← HC.out]
                exact World.cell?_setCell_same _ _ _ r0c
              · rw [World.cell?_setCell_other _ _ _ _ (fun hh => by injection hh with _ h2 _; omega)]
                exact hR.cells i (by omega))
            have hjn : (j : Int) + ((n : Int) + 1) ≤ N := by omega
            clear hR HML HH HI HC
            go_upto_region 28 with fail
            obtain ⟨w6, hw6⟩ : ∃ w6, w6 = w5.setCell ⟨gh, oh + n, none⟩ (.int .u64 (C : Nat)) := ⟨_, rfl⟩
            rw [← hw6] at HI6 HQV
            rw [← hw6]
            clear hw6 r0c rf0
            obtain ⟨curU, hU6, hUs⟩ := HI6.out.ub
            have hcuj : ¬ cu = j := by omega
            obtain ⟨E, hE⟩ : ∃ E : Nat, E = j + (n + 1) := ⟨_, rfl⟩
            have hsum : IntKind.i64.wrap ((j : Int) + ((n : Int) + 1)) = (E : Int) := by rw [IntKind.wrap_i64]; omega
            have hs1 : (j : Int) ≤ E := by omega
            have hs2 : (E : Int) ≤ cu := by omega
            have hs3 : (n : Int) + 1 ≤ kh := by omega
            have hs4 : (0 : Int) ≤ (n : Int) + 1 := by omega
            have hEj : E - j = n + 1 := by omega
            have HE := Lib.hid hE
            clear hE
            by_cases hbr : Q * V ≤ S
            · obtain ⟨hQS, hSr⟩ := sub_right (n := n) (by
                have := HSS.out.2.1
                rw [Nat.pow_succ]
                exact Nat.lt_of_lt_of_le this (Nat.mul_le_mul_right _ (Nat.le_of_lt HFN.out.2.2.2.1))) hV0 HQ2.out.1 hbr
              have HQS := Lib.hid (⟨hQS, hSr⟩ : Q = S / V ∧ S - Q * V = S % V)
              clear hQS hSr
              have HSB2 := Lib.hid (fun w' (hb : Below w6.heap.size w6 w') => subVV_any gu j (n + 1) (cu - j) gu j (cu - j) gh oh kh curU S (Q * V) hbr w' (hU6.keep hb) (by omega) (by omega) (by omega) (by omega) (fun i hi => cell_keep ((HI6.out.sect HSS.out.1 (n + 1) (by omega)) i hi) hb) (by omega) (by omega) (fun i hi => cell_keep (HQV.out i hi) hb) (by omega) hkh2 (.inr (Nat.le_refl _)) (.inl hgu))
              have hd6 : Below w6.heap.size w6 w6.drew := (Below.refl _ _).drew
              go_region_held3 (fun _ => True) (exact trivial)
                (first | (go_at_call 197; (with_reducible refine (HSB2.out _ hd6).mono ?_); rintro e w7 ⟨rfl, hR7⟩))
              have HI7 := Lib.hid (HI6.out.keep hd6)
              have HR7 := Lib.hid hR7
              have hU7 := hU6.keep hd6
              have e7 : S - Q * V = S % V := HQS.out.2
              have hbz : bor S (Q * V) (n + 1) = 0 := by
                have h1 : S < W64 ^ (n + 1) := by
                  rw [Nat.pow_succ]
                  exact Nat.lt_of_lt_of_le HSS.out.2.1 (Nat.mul_le_mul_right _ (Nat.le_of_lt HFN.out.2.2.2.1))
                unfold bor
                rw [Nat.mod_eq_of_lt h1, Nat.mod_eq_of_lt (Nat.lt_of_le_of_lt hbr h1), if_neg (by omega)]
              obtain ⟨yy, hyy⟩ : ∃ yy, yy = dg W64 (S % V) p1 := ⟨_, rfl⟩
              have c7 : w7.cell? ⟨gu, q1, none⟩ = some (.int .u64 (yy : Nat)) := by
                have := hR7.cells p1 (by omega)
                rw [e7, ← hyy, ← HQA.out.1] at this
                exact this
              have HYY := Lib.hid hyy
              obtain ⟨curQ, hQ7, hQs⟩ := (HI7.out.qb.wr (WrAt.of_row hU7 hR7))
              obtain ⟨vq, hvq0⟩ : ∃ v, curQ[j]? = some v := ⟨curQ[j]'(by omega), by rw [Array.getElem?_eq_getElem]⟩
              have cq7 : w7.cell? ⟨gq, j, none⟩ = some vq := by rw [hQ7.cell, hvq0]
              have fq7 := hQ7.frozen j
              have hjml : (j : Int) < m := by omega
              have hjme : ¬ (j : Int) = m := by omega
              have HQ7 := Lib.hid (⟨e7, hU7⟩ : S - Q * V = S % V ∧ BlkAt w6.drew gu curU 155)
              clear hyy e7 hU7 hR7 hQ7 hvq0 hbr HSB2 hU6
              go_wp2_with fail
              go_roundw
              case rel =>
                refine ⟨j, (j : Int) - 1, by omega, by omega, by first | rfl | go_num, ?_, ?_⟩
                · have h1 : dg W64 (urest W64 U V j) (j + n - 1) = yy := by
                    rw [show j + n - 1 = j + p1 from by omega, urest_hi W64_pos, ← HSS.out.1]; exact HYY.out.symm
                  rw [h1]
                · have hR := HR7.out
                  rw [HQ7.out.1] at hR
                  exact HI7.out.next HSS.out.1 HSS.out.2.1 HFN.out.2.2.2.1 hV0 (WrAt.of_row HQ7.out.2 hR)
                    (fun i hi => row_out HQ7.out.2 hR (.inl hi))
                    (fun i h1 _ => hR.cells i (by omega))
                    (fun i hi => row_out HQ7.out.2 hR (.inr (by omega)))
                    (WrAt.setCell gq j _ w7) (fun _ => by rw [← HQS.out.1]; exact World.cell?_setCell_same _ _ _ cq7) (fun i h1 _ => World.cell?_setCell_other _ _ _ _ (fun hh => by injection hh with _ h2 _; omega)) huv huq hvq HBU.out HBQ.out
              case measure => simp [intOf] <;> omega
            · have hlt2 : S < Q * V := by omega
              obtain ⟨hQS, hTV⟩ := sub_wrong hV0 HQ2.out.1 HQ2.out.2 hlt2
              have hS1 : S < W64 ^ (n + 1) := by
                rw [Nat.pow_succ]
                exact Nat.lt_of_lt_of_le HSS.out.2.1 (Nat.mul_le_mul_right _ (Nat.le_of_lt HFN.out.2.2.2.1))
              have hQV1 : Q * V < W64 ^ (n + 1) := guess_fits HFN.out.2.2.2.1 hQl W64_pos
              obtain ⟨M, hM⟩ : ∃ M, M = W64 ^ (n + 1) := ⟨_, rfl⟩
              have hXY : Q * V ≤ S + M := by rw [hM]; omega
              have hTV' := hTV M hXY (by rw [hM]; exact Nat.le_of_lt (Nat.lt_of_lt_of_le HFN.out.2.2.2.1 (Nat.pow_le_pow_right W64_pos (by omega))))
              have hb1 : bor (S + M) (Q * V) (n + 1) = 1 := by rw [bor_sec hS1 hQV1 hM, if_pos hlt2]
              have HSB2 := Lib.hid (fun w' (hb : Below w6.heap.size w6 w') => subVV_any gu j (n + 1) (cu - j) gu j (cu - j) gh oh kh curU (S + M) (Q * V) hXY w' (hU6.keep hb) (by omega) (by omega) (by omega) (by omega) (fun i hi => by rw [dg_over hM hi]; exact cell_keep ((HI6.out.sect HSS.out.1 (n + 1) (by omega)) i hi) hb) (by omega) (by omega) (fun i hi => cell_keep (HQV.out i hi) hb) (by omega) hkh2 (.inr (Nat.le_refl _)) (.inl hgu))
              rw [hb1] at HSB2
              obtain ⟨T, hT⟩ : ∃ T, T = S + M - Q * V := ⟨_, rfl⟩
              rw [← hT] at hTV' HSB2
              have HTV := Lib.hid (⟨hTV', hM⟩ : T + V = M + S % V ∧ M = W64 ^ (n + 1))
              have HQS := Lib.hid hQS
              clear hQS hTV hTV' hS1 hQV1 hM hXY hb1 hT hlt2 hbr
              have hd6 : Below w6.heap.size w6 w6.drew := (Below.refl _ _).drew
              go_region_held3 (fun _ => True) (exact trivial)
                (first | (go_at_call 197; (with_reducible refine (HSB2.out _ hd6).mono ?_); rintro e w7 ⟨rfl, hR7⟩))
              have HI7 := Lib.hid (HI6.out.keep hd6)
              have hU7 := hU6.keep hd6
              obtain ⟨curU7, hV7, hV7s⟩ := (WrAt.of_row hU7 hR7).blk _ hU7
              have hv7 : WCells w7 gv ov n (dg W64 V) := fun i hi => by
                rw [(WrAt.of_row hU7 hR7).cell HI7.out.vb (Ne.symm huv)]; exact HI7.out.vw i hi
              have HAV := Lib.hid (fun w' (hb : Below w7.heap.size w7 w') => addVV_any gu j n (cu - j) gu j (cu - j) gv ov kv curU7 T V w' (hV7.keep hb) (by omega) (by omega) (by omega) (by omega) (fun i hi => cell_keep (hR7.cells i (by omega)) hb) (by omega) (by omega) (fun i hi => cell_keep (hv7 i hi) hb) (by omega) hkvm (.inr (Nat.le_refl _)) (.inl (Ne.symm huv)))
              obtain ⟨cc, hcc⟩ : ∃ cc, cc = (T % W64 ^ n + V % W64 ^ n) / W64 ^ n := ⟨_, rfl⟩
              obtain ⟨tn, htn⟩ : ∃ tn, tn = dg W64 T n := ⟨_, rfl⟩
              have htop := add_top (T := T) HFN.out.2.2.2.1
              have hcc1 : cc ≤ 1 := by rw [hcc]; exact add_carry_le W64_pos T V n
              have htnl : tn < 18446744073709551616 := by rw [htn]; exact W64_lt (dg_lt W64_pos _ _)
              rw [← hcc, ← htn] at htop
              obtain ⟨tt, htt⟩ : ∃ tt, tt = dg W64 (T + V) n := ⟨_, rfl⟩
              rw [← htt] at htop
              have hadd : IntKind.u64.wrap ((tn : Int) + (cc : Int)) = (tt : Int) := by
                unfold W64 at htop
                rw [IntKind.wrap_u64]; omega
              rw [← hcc] at HAV
              have ctn : w7.cell? ⟨gu, j + n, none⟩ = some (.int .u64 (tn : Nat)) := by rw [htn]; exact hR7.cells n (by omega)
              have HTT := Lib.hid htt
              have HCTN := Lib.hid ctn
              have HR7 := Lib.hid (⟨hU7, hR7⟩ : BlkAt w6.drew gu curU 155 ∧ RowUp 155 w6.drew w7 gu j (n + 1) curU (dg W64 T))
              obtain ⟨E2, hE2⟩ : ∃ E2 : Nat, E2 = j + n := ⟨_, rfl⟩
              have hsum2 : IntKind.i64.wrap ((j : Int) + (n : Int)) = (E2 : Int) := by rw [IntKind.wrap_i64]; omega
              have ht1 : (j : Int) ≤ E2 := by omega
              have ht2 : (E2 : Int) ≤ cu := by omega
              have ht3 : (E2 : Int) < N := by omega
              have ht4 : E2 - j = n := by omega
              have ht5 : (n : Int) < (n : Int) + 1 := by omega
              have HE2 := Lib.hid hE2
              clear hcc htn htop htt hE2 hR7 hU7 hv7 HSB2 hU6 hcc1 ctn
              go_upto_region 30 with fail
              have hd7 : Below w7.heap.size w7 w7.drew := (Below.refl _ _).drew
              go_region_held3 (fun _ => True) (exact trivial)
                (first | (go_at_call 195; (with_reducible refine (HAV.out _ hd7).mono ?_); rintro e w8 ⟨rfl, hR8⟩))
              have hV8 := hV7.keep hd7
              have c8 : w8.cell? ⟨gu, E2, none⟩ = some (.int .u64 (tn : Nat)) := by
                rw [HE2.out, row_out hV8 hR8 (.inr (Nat.le_refl _))]
                exact cell_keep HCTN.out hd7
              obtain ⟨curU8, hW8, hW8s⟩ := (WrAt.of_row hV8 hR8).blk _ hV8
              have f8 := hW8.frozen E2
              obtain ⟨yy, hyy⟩ : ∃ yy, yy = dg W64 (S % V) p1 := ⟨_, rfl⟩
              have htv : ∀ i, i ≤ n → dg W64 (T + V) i = dg W64 (S % V) i := fun i hi => by
                rw [HTV.out.1, Nat.add_comm M, dg_over HTV.out.2 (by omega)]
              have c9 : w8.cell? ⟨gu, q1, none⟩ = some (.int .u64 (yy : Nat)) := by
                rw [HQA.out.1, hyy, ← htv p1 (by omega)]
                exact hR8.cells p1 (by omega)
              have hEq : (E2 : Int) - 1 = (q1 : Int) := by have := HE2.out; omega
              have hqE : ¬ E2 = q1 := by have := HQA.out.1; have := HE2.out; omega
              have hqE' : ¬ q1 = E2 := by have := HQA.out.1; have := HE2.out; omega
              have K9 : ∀ v, WrAt gu w6.drew (w8.setCell ⟨gu, E2, none⟩ v) := fun v =>
                ((WrAt.of_row HR7.out.1 HR7.out.2).trans (WrAt.drewN gu w7 1)).trans ((WrAt.of_row hV8 hR8).trans (WrAt.setCell gu E2 v w8))
              have HK9 := Lib.hid K9
              obtain ⟨curQ, hQ9, hQs⟩ := (HI7.out.qb.wr (K9 (.int .u64 (tt : Nat))))
              obtain ⟨vq, hvq0⟩ : ∃ v, curQ[j]? = some v := ⟨curQ[j]'(by omega), by rw [Array.getElem?_eq_getElem]⟩
              have cq9 : (w8.setCell ⟨gu, E2, none⟩ (.int .u64 (tt : Nat))).cell? ⟨gq, j, none⟩ = some vq := by rw [hQ9.cell, hvq0]
              have fq9 : (w8.setCell ⟨gu, E2, none⟩ (.int .u64 (tt : Nat))).frozen? ⟨gq, j, none⟩ = false := hQ9.frozen j
              have HYY := Lib.hid hyy
              have HTVV := Lib.hid htv
              have HR8 := Lib.hid (⟨hV8, hR8⟩ : BlkAt w7.drew gu curU7 155 ∧ RowUp 155 w7.drew w8 gu j n curU7 (dg W64 (T + V)))
              obtain ⟨Q', hQ'⟩ : ∃ Q' : Nat, Q = Q' + 1 := ⟨S / V, HQS.out⟩
              have hQm : IntKind.u64.wrap ((Q : Int) - 1) = (Q' : Int) := by rw [IntKind.wrap_u64]; omega
              have HQ' := Lib.hid (show Q' = S / V from by have := HQS.out; omega)
              have hjml : (j : Int) < m := by omega
              have hjme : ¬ (j : Int) = m := by omega
              clear hyy htv hQ9 hvq0 hR8 hV8 hW8 hV7 K9 hQ' HAV
              go_wp2_with fail
              go_roundw
              case rel =>
                refine ⟨j, (j : Int) - 1, by omega, by omega, by first | rfl | go_num, ?_, ?_⟩
                · have h1 : dg W64 (urest W64 U V j) (j + n - 1) = yy := by
                    rw [show j + n - 1 = j + p1 from by omega, urest_hi W64_pos, ← HSS.out.1]; exact HYY.out.symm
                  rw [h1]
                · have hR := HR7.out.2
                  have hR2 := HR8.out.2
                  have hE := HE2.out
                  exact HI7.out.next HSS.out.1 HSS.out.2.1 HFN.out.2.2.2.1 hV0 (HK9.out _)
                    (fun i hi => by rw [World.cell?_setCell_other _ _ _ _ (fun hh => by injection hh with _ h2 _; omega), row_out HR8.out.1 hR2 (.inl hi)]; exact (cell_drew' w7 _).trans (row_out HR7.out.1 hR (.inl hi)))
                    (fun i h1 _ => by
                      by_cases e : i = n
                      · rw [e, ← hE, ← HTVV.out n (Nat.le_refl _), ← HTT.out]
                        exact World.cell?_setCell_same _ _ _ c8
                      · rw [World.cell?_setCell_other _ _ _ _ (fun hh => by injection hh with _ h2 _; omega), ← HTVV.out i h1]
                        exact hR2.cells i (by omega))
                    (fun i hi => by rw [World.cell?_setCell_other _ _ _ _ (fun hh => by injection hh with _ h2 _; omega), row_out HR8.out.1 hR2 (.inr (by omega))]; exact (cell_drew' w7 _).trans (row_out HR7.out.1 hR (.inr (by omega))))
                    (WrAt.setCell gq j _ _) (fun _ => by rw [← HQ'.out]; exact World.cell?_setCell_same _ _ _ cq9) (fun i h1 _ => World.cell?_setCell_other _ _ _ _ (fun hh => by injection hh with _ h2 _; omega)) huv huq hvq HBU.out HBQ.out
              case measure => simp [intOf] <;> omega
end Go.Proofs.YtgmienggfaahlaaGreatDoor
