/-
  Contracts and lemmas: Law1 Law2 CmpA Same Pln TolA TolB TolC IntK BitJ0 IntM RatA.
-/
import Derived.Test.YtgmienggfaahlaaGreatDoorK10
import Derived.Test.YtgmienggfaahlaaGreatDoorK02
import Derived.Test.YtgmienggfaahlaaGreatDoorK04
import Derived.Test.YtgmienggfaahlaaGreatDoorK05
import Derived.Laws.BitsAllLaws
import Derived.BigRegion
import Derived.Test.YtgmienggfaahlaaGreatDoorK06
set_option linter.unusedSimpArgs false
set_option linter.unusedVariables false
set_option maxRecDepth 100000
set_option maxHeartbeats 8000000
namespace Go.Proofs.YtgmienggfaahlaaGreatDoor
open Go.RowKit Go.Bg Dg
def fitsB (v : Vl) : Bool := decide (v.text.size ≤ 2147483647) && decide (v.wn ≤ 2147483647) && decide (v.dn ≤ 2147483647) && decide (v.inn ≤ 2147483647) && decide (v.en ≤ 2147483647)
theorem fits1_any (v : Vl) (w : World) :
    Calls Tryz.prog 6 #[.agg #[.int .i64 v.kind, .bool v.truth, .string v.text, .bool v.neg, .slice v.wa v.wn v.wc, .slice v.da v.dn v.dc, .bool v.ineg, .slice v.ia v.inn v.ic, .slice v.ea v.en v.ec]] w fun e w' => e = .returned (.bool (fitsB v)) ∧ Below w.heap.size w w' := by
  have HB := Lib.hid (show ∀ cs, Below w.heap.size w (w.alloc (.cells cs 26)) from fun cs => (Below.refl _ _).alloc (Nat.le_refl _) _)
  go_enter Tryz.func6, Tryz.ntmps6
  go_wp2
  all_goals go_ret
  all_goals refine ⟨ret_bool ?_, ?_⟩
  all_goals first
    | exact HB.out _
    | exact Below.alloc' (HB.out _) _
    | exact Below.alloc' (Below.alloc' (HB.out _) _) _
    | (unfold fitsB; simp_all; done)
    | (unfold fitsB; simp_all; omega)
  go_goals
def sameB (r q : Rt) : Bool := (r.neg == q.neg) && decide (r.num = q.num) && decide (r.den = q.den)
theorem cmpI_zero (N M : Nat) : (cmpI N M == 0) = decide (N = M) := by
  unfold cmpI
  rcases Nat.lt_trichotomy N M with h | h | h
  · have h1 : N ≠ M := by omega
    simp [h, h1]
  · subst h; simp
  · have h1 : N ≠ M := by omega
    have h2 : ¬ N < M := by omega
    simp [h, h1, h2]
theorem same_any (s t : Bool) (a1 : Option Addr) (n1 c1 : Nat) (a1' : Option Addr) (n1' c1' : Nat) (a2 : Option Addr) (n2 c2 : Nat) (a2' : Option Addr) (n2' c2' : Nat) (r q : Rt) (L : Nat) (w : World)
    (h1 : RtAt w s a1 n1 c1 a1' n1' c1' r L) (h2 : RtAt w t a2 n2 c2 a2' n2' c2' q L) (hL : L ≤ 400000) :
    Calls Tryz.prog 34 #[.agg #[.bool s, .slice a1 n1 c1, .slice a1' n1' c1'], .agg #[.bool t, .slice a2 n2 c2, .slice a2' n2' c2']] w fun e w' => e = .returned (.bool (sameB r q)) ∧ Below w.heap.size w w' := by
  have l1 := h1.n_le
  have l2 := h2.n_le
  have l3 := h1.d_le
  have l4 := h2.d_le
  obtain ⟨W0, hW0⟩ : ∃ W0, W0 = (w.alloc (.cells #[.bool s, .slice a1 n1 c1, .slice a1' n1' c1'] 31)).alloc (.cells #[.bool t, .slice a2 n2 c2, .slice a2' n2' c2'] 31) := ⟨_, rfl⟩
  have HW := Lib.hid hW0
  have hb0 : Below w.heap.size w W0 := by rw [hW0]; exact Below.alloc' (Below.alloc' (Below.refl _ _) _) _
  have A : RtBlk W0 w.heap.size s a1 n1 c1 a1' n1' c1' := by rw [hW0]; exact (RtBlk.new _ _ rfl _ _ _ _ _ _ _).keep ((Below.refl _ _).alloc (Nat.le_refl _) _)
  have C : RtBlk W0 (w.heap.size + 1) t a2 n2 c2 a2' n2' c2' := by rw [hW0]; exact RtBlk.new _ _ (by simp) _ _ _ _ _ _ _
  have HA := Lib.hid (h1.keep hb0)
  have HC := Lib.hid (h2.keep hb0)
  have hs := h1.neg
  have ht := h2.neg
  clear hW0 h1 h2
  obtain ⟨x0, x1, x2⟩ := A
  obtain ⟨y0, y1, y2⟩ := C
  have HS := Lib.hid hs
  have HT := Lib.hid ht
  clear hs ht
  by_cases hst : s = t
  · subst hst
    have HN := Lib.hid (cmpI_zero r.num q.num)
    have HD := Lib.hid (cmpI_zero r.den q.den)
    have HST := Lib.hid (show (r.neg == q.neg) = true from by rw [← HS.out, ← HT.out]; simp)
    by_cases hn : r.num = q.num
    · have hz : (cmpI r.num q.num == 0) = true := by rw [HN.out]; simpa using hn
      go_enter Tryz.func34, Tryz.ntmps34
      go_upto_region 1 with fail
      rw [← HW.out]
      go_wp2_with fail
      refine (cmp_any a1 a2 n1 n2 c1 c2 r.num q.num _ HA.out.num HC.out.num (by omega) (by omega)).mono ?_
      rintro e w1 ⟨rfl, hm1⟩
      have hB1 := below_of_drewN (B := W0.heap.size) hm1
      have hc1 := HN.out
      have x2' := cell_keep x2 hB1
      have y2' := cell_keep y2 hB1
      have HNE := Lib.hid hn
      clear hc1 hn
      generalize cmpI r.num q.num = k1 at *
      go_wp2_with fail
      refine (cmp_any a1' a2' n1' n2' c1' c2' r.den q.den _ (HA.out.den.keep hB1) (HC.out.den.keep hB1) (by omega) (by omega)).mono ?_
      rintro e w2 ⟨rfl, hm2⟩
      have hB2 := below_of_drewN (B := w1.heap.size) hm2
      have hbf := Below.then (Below.then hb0 (Nat.le_refl _) hB1) (Nat.le_refl _) hB2
      clear hm1 hm2
      go_wp2
      go_ret
      exact ⟨ret_bool (by unfold sameB; rw [HD.out, HST.out, HNE.out]; simp), hbf⟩
    · have hz : (cmpI r.num q.num == 0) = false := by rw [HN.out]; simpa using hn
      go_enter Tryz.func34, Tryz.ntmps34
      go_upto_region 1 with fail
      rw [← HW.out]
      go_wp2_with fail
      refine (cmp_any a1 a2 n1 n2 c1 c2 r.num q.num _ HA.out.num HC.out.num (by omega) (by omega)).mono ?_
      rintro e w1 ⟨rfl, hm1⟩
      have hB1 := below_of_drewN (B := W0.heap.size) hm1
      have hc1 := HN.out
      have HNE := Lib.hid hn
      have hbf := Below.then hb0 (Nat.le_refl _) hB1
      clear hc1 hn hm1
      generalize cmpI r.num q.num = k1 at *
      go_wp2
      go_ret
      exact ⟨ret_bool (by unfold sameB; simp [HNE.out]), hbf⟩
  · have hb : (s == t) = false := by cases s <;> cases t <;> simp_all
    go_enter Tryz.func34, Tryz.ntmps34
    go_upto_region 1 with fail
    rw [← HW.out]
    go_wp2
    go_ret
    exact ⟨ret_bool (by unfold sameB; rw [← HS.out, ← HT.out, hb]; rfl), hb0⟩
end Go.Proofs.YtgmienggfaahlaaGreatDoor
namespace Go.Bg
open Go.RowKit Dg
def rz (z : Int) : Rt := ⟨decide (z < 0), z.natAbs, 1⟩
theorem sg_nat (s : Bool) (N : Nat) : (sg s N).natAbs = N := by cases s <;> simp [sg]
theorem sg_neg (s : Bool) (N : Nat) : decide (sg s N < 0) = (s && decide (0 < N)) := by
  cases s
  · simp [sg]
  · by_cases h : 0 < N <;> simp [sg, h] <;> omega
theorem whole_rz (s : Bool) (N : Nat) : Rt.whole s N = rz (sg s N) := by
  unfold Rt.whole rz
  rw [sg_nat, sg_neg]
end Go.Bg
namespace Go.Proofs.YtgmienggfaahlaaGreatDoor
open Go.RowKit Go.Bg Dg
theorem sameB_refl (r : Rt) : sameB r r = true := by unfold sameB; simp
theorem intSign_any (b o : Nat) (s : Bool) (N : Nat) (w : World) (h : BigAt 155 w b o s N) :
    Calls Tryz.prog 178 #[.pointer (some ⟨b, o, none⟩)] w fun e w' => e = .returned (.int .i64 (if N = 0 then 0 else if s then -1 else 1)) ∧ w = w' := by
  obtain ⟨a, n, c, h0, h1, hN⟩ := h.val
  have hp := natAt_pos_len hN.num
  have hcm := hN.num.cm
  have hnc := hN.num.nc
  clear h hN
  by_cases hn : n = 0
  · subst hn
    have e : N = 0 := by simp at hp; omega
    subst e
    clear hp
    go_enter Tryz.func178, Tryz.ntmps178
    go_wp2
    go_ret
    exact ⟨rfl, rfl⟩
  · have hz : ((n : Int) == 0) = false := by simpa using hn
    have e : N ≠ 0 := by
      intro e; subst e
      have : decide (0 < n) = true := by simp; omega
      rw [this] at hp; simp at hp
    have HE := Lib.hid e
    clear hp e
    cases s
    · go_enter Tryz.func178, Tryz.ntmps178
      go_wp2
      go_ret
      exact ⟨rfl, rfl⟩
    · go_enter Tryz.func178, Tryz.ntmps178
      go_wp2
      go_ret
      exact ⟨rfl, rfl⟩
theorem intBits_any (b o : Nat) (s : Bool) (N : Nat) (w : World) (h : BigAt 155 w b o s N) :
    Calls Tryz.prog 189 #[.pointer (some ⟨b, o, none⟩)] w fun e w' => ∃ a n c, e = .returned (.slice a n c) ∧ BigN 155 w a n c N ∧ w = w' := by
  obtain ⟨a, n, c, h0, h1, hN⟩ := h.val
  have HN := Lib.hid hN
  clear h hN
  go_enter Tryz.func189, Tryz.ntmps189
  go_wp2
  go_ret
  exact ⟨_, _, _, rfl, HN.out, rfl⟩
structure PlainAt (w : World) (a : Option Addr) (n c N : Nat) : Prop where
  ws : WordsAt w a n c (dg W64 N)
  lt : N < W64 ^ n
  top : n = 0 ∨ W64 ^ (n - 1) ≤ N
theorem plainAt_one {w : World} {g : Nat} {T : TypeId} (hg : BlkAt w g #[.int .u64 1] T) : PlainAt w (some ⟨g, 0, none⟩) 1 1 1 := by
  have hd : dg W64 1 0 = 1 := by simp [dg, Nat.mod_eq_of_lt W64_gt]
  refine ⟨⟨fun _ => ⟨g, 0, rfl, fun i hi => ?_⟩, fun i _ => dg_lt W64_pos _ _, Nat.le_refl _, by simp [maxLen], by simp⟩, by rw [Nat.pow_one]; exact W64_gt, .inr (by simp)⟩
  obtain rfl : i = 0 := by omega
  rw [hg.cell]
  show some (Value.int .u64 1) = some (Value.int .u64 (dg W64 1 0 : Nat))
  rw [hd]; rfl
theorem PlainAt.keep {w w' : World} {a : Option Addr} {n c N : Nat} (h : PlainAt w a n c N) (hb : Below w.heap.size w w') : PlainAt w' a n c N := ⟨h.ws.keep hb, h.lt, h.top⟩
theorem plain_any (b o : Nat) (s : Bool) (N : Nat) (w : World) (h : BigAt 155 w b o s N) (L : Nat) (hL : L ≤ 100000) (hN : N < W64 ^ L) :
    Calls Tryz.prog 129 #[.pointer (some ⟨b, o, none⟩)] w fun e w' => ∃ a n c, e = .returned (.slice a n c) ∧ PlainAt w' a n c N ∧ Below w.heap.size w w' := by
  obtain ⟨i0, hi, hz0, hz1, hz2⟩ := info_parts infoUint
  have HH := Lib.hid h
  have HL := Lib.hid hN
  clear h hN
  go_enter Tryz.func129, Tryz.ntmps129
  go_wp2_with fail
  refine (intBits_any b o s N _ HH.out).mono ?_
  rintro e w1 ⟨a, n, c, rfl, hB, rfl⟩
  have hlt := hB.num.lt
  have htop := hB.num.top
  have hlen : n ≤ 100000 := Nat.le_trans (len_le W64_gt htop HL.out) hL
  have HT := Lib.hid htop
  have HLT := Lib.hid hlt
  have h := hB.num
  clear htop hlt hB
  go_wp2
  go_loopw [3, 5, 9] (fun out _ i wr => ∃ k : Nat, k ≤ n ∧ i = .int .i64 k ∧ wr.ownsRow w.heap.size 151 1 out k ((List.range k).map (wv (dg W64 N))) ∧ Below w.heap.size w wr)
    (fun _ _ i _ => n - (intOf i).toNat)
  case atStart => exact ⟨0, Nat.zero_le _, rfl, World.ownsRow_nil _ _ _ _, Below.refl _ _⟩
  case round =>
    obtain ⟨k, hk, rfl, hown, hbel⟩ := hrel
    by_cases k1 : k < n
    · have h' := h.keep hbel
      obtain ⟨b1, o1, rfl, _⟩ := h'.form (by omega)
      have e1 := h'.cell k1
      have hnc := h'.nc
      have hcm := h'.cm
      clear h' h
      go_wp2_with (at_builtin; refine wpList_app1 rfl _ _ 22 rfl w.heap.size 151 i0 _ 8 Tryz.underlying22 hi hz0 hz1 hz2 rfl (by decide) _ _ _ _ rfl rfl rfl hown rfl (by omega) hbel.size ?_; intro v' w1 hown1 hbel1 hne1)
      go_roundw
      case rel => exact ⟨k + 1, by omega, by go_num, by rw [map_range_succ]; simpa [wv] using hown1, hbel.trans hbel1⟩
      case measure => simp [intOf]; omega
    · obtain rfl : k = n := by omega
      go_wp2
      go_ret
      obtain ⟨a1, c1, rfl, _, hnc, hcm, hnil, hcells⟩ := buf_of_own hown
      exact ⟨_, _, _, rfl, ⟨⟨hcells (wv (dg W64 N)) (fun i hi => by simp [hi]), fun i _ => dg_lt W64_pos _ _, hnc, hcm, hnil⟩, HLT.out, HT.out⟩, hbel⟩
end Go.Proofs.YtgmienggfaahlaaGreatDoor
namespace Go.Bg
open Go.RowKit Dg
theorem WordsAt.setCell {w : World} {a : Option Addr} {n c s o : Nat} {f : Nat → Nat} (h : WordsAt w a n c f) (v : Value) (hs : NoInt w s) : WordsAt (w.setCell ⟨s, o, none⟩ v) a n c f := by
  refine ⟨fun hn => ?_, h.lt, h.nc, h.cm, h.nil⟩
  obtain ⟨b, off, rfl, hc⟩ := h.cells hn
  refine ⟨b, off, rfl, fun i hi => ?_⟩
  have h1 := hc i hi
  rw [cell?_setCell_ne]
  · exact h1
  · intro e; subst e; exact hs _ _ _ h1
theorem noInt_of_blk {w : World} {g : Nat} {cur : Array Value} {e : TypeId} (h : BlkAt w g cur e) (hn : ∀ (i : Nat) k v, cur[i]? ≠ some (.int k v)) : NoInt w g := by
  intro o k v hc
  rw [h.cell] at hc
  exact hn o k v hc
theorem noInt_num {b : Bool} {a : Option Addr} {n c : Nat} : ∀ (i : Nat) k v, (#[.bool b, .slice a n c] : Array Value)[i]? ≠ some (.int k v) := by
  intro i k v h
  match i, h with
  | 0, h => simp at h
  | 1, h => simp at h
  | i + 2, h => simp at h
end Go.Bg
namespace Go.Proofs.YtgmienggfaahlaaGreatDoor
open Go.RowKit Go.Bg Dg
theorem PlainAt.setCell {w : World} {a : Option Addr} {n c N s o : Nat} (h : PlainAt w a n c N) (v : Value) (hs : NoInt w s) : PlainAt (w.setCell ⟨s, o, none⟩ v) a n c N := ⟨h.ws.setCell v hs, h.lt, h.top⟩
theorem sign_lt (s : Bool) (N : Nat) (hs : s = true → 0 < N) : decide ((if N = 0 then (0 : Int) else if s then -1 else 1) < 0) = s := by
  cases s
  · by_cases h : N = 0 <;> simp [h]
  · have := hs rfl
    have h : N ≠ 0 := by omega
    simp [h]
theorem number_any (b o : Nat) (s : Bool) (N : Nat) (w : World) (h : BigAt 155 w b o s N) (L : Nat) (hL : L ≤ 100000) (hN : N < W64 ^ L) :
    Calls Tryz.prog 127 #[.pointer (some ⟨b, o, none⟩)] w fun e w' => ∃ a n c, e = .returned (.agg #[.bool s, .slice a n c]) ∧ PlainAt w' a n c N ∧ Below w.heap.size w w' := by
  obtain ⟨W0, hW0⟩ : ∃ W0, W0 = w.alloc (.cells #[.bool false, .slice none 0 0] 24) := ⟨_, rfl⟩
  have HW := Lib.hid hW0
  have hb0 : Below w.heap.size w W0 := by rw [hW0]; exact Below.alloc' (Below.refl _ _) _
  have hz : BlkAt W0 w.heap.size #[.bool false, .slice none 0 0] 24 := by rw [hW0]; exact BlkAt.new _ _ _
  have HH := Lib.hid (h.keep hb0)
  have HS := Lib.hid (sign_lt s N h.zero)
  have HL := Lib.hid hN
  clear hW0 h hN
  go_enter Tryz.func127, Tryz.ntmps127
  go_upto_region 1 with fail
  rw [← HW.out]
  go_wp2_with fail
  refine (intSign_any b o s N _ HH.out).mono ?_
  rintro e w1 ⟨rfl, rfl⟩
  generalize (if N = 0 then (0 : Int) else if s then -1 else 1) = sg at *
  go_wp2_with fail
  refine (plain_any b o s N _ HH.out L hL HL.out).mono ?_
  rintro e w2 ⟨a, n, c, rfl, hP, hB⟩
  have hz2 := hz.keep hB
  have c0 := hz2.cell 0
  have c1 := hz2.cell 1
  have f0 := hz2.frozen 0
  have f1 := hz2.frozen 1
  simp only [List.getElem?_toArray, List.getElem?_cons_zero, List.getElem?_cons_succ] at c0 c1
  have hbf := Below.then hb0 (Nat.le_refl _) hB
  have ni := noInt_of_blk hz2 noInt_num
  have HP := Lib.hid (show PlainAt ((w2.setCell ⟨w.heap.size, 0, none⟩ (.bool s)).setCell ⟨w.heap.size, 1, none⟩ (.slice a n c)) a n c N from
    (hP.setCell _ ni).setCell _ (ni.setCell (by intro k n h; cases h)))
  have HBF := Lib.hid (show Below w.heap.size w ((w2.setCell ⟨w.heap.size, 0, none⟩ (.bool s)).setCell ⟨w.heap.size, 1, none⟩ (.slice a n c)) from
    (hbf.setCell (Nat.le_refl _) _).setCell (Nat.le_refl _) _)
  have hs := HS.out
  clear hz hz2 ni hP hbf hb0
  go_wp2
  exact bodyPost_ret (v := .agg #[.bool s, .slice a n c]) (by simp [results, Tryz.results127, go_sem, c0, c1]) rfl ⟨_, _, _, rfl, HP.out, HBF.out⟩
def AInt (w : World) (v : Value) (z : Int) : Prop :=
  (v = .iface 2 (.int .i64 z) ∧ fit64 z = true) ∨ ∃ b o s N, v = .iface 90 (.pointer (some ⟨b, o, none⟩)) ∧ BigAt 155 w b o s N ∧ sg s N = z
theorem valInt_any (v : Value) (z : Int) (w : World) (h : CInt w v z) :
    Calls Tryz.prog 126 #[v] w fun e w' => ∃ u, e = .returned u ∧ AInt w' u z ∧ Below w.heap.size w w' := by
  rcases h with ⟨rfl, f1⟩ | ⟨b, o, s, N, rfl, hI, hz⟩
  · obtain ⟨t1, t2, t3, t4, t5, t6, t7, t8, t9⟩ := ta_int64Val
    have F := Lib.hid f1
    clear f1
    go_enter Tryz.func126, Tryz.ntmps126
    go_wp2
    go_ret
    exact ⟨_, rfl, .inl ⟨rfl, F.out⟩, Below.refl _ _⟩
  · obtain ⟨t1, t2, t3, t4, t5, t6, t7, t8, t9⟩ := ta_intVal
    have F := Lib.hid hI
    clear hI
    go_enter Tryz.func126, Tryz.ntmps126
    go_wp2
    go_ret
    have hb := Below.alloc' (Below.refl w.heap.size w) (.cells #[.pointer (some ⟨b, o, none⟩)] 98)
    exact ⟨_, rfl, .inr ⟨b, o, s, N, rfl, F.out.keep hb, hz⟩, hb⟩
theorem sg_abs {s : Bool} {N : Nat} (h : s = true → 0 < N) : decide (sg s N < 0) = s ∧ (sg s N).natAbs = N := by
  unfold sg
  cases s
  · simp
  · have := h rfl
    simp; omega
theorem partsInt_any (v : Value) (z : Int) (w : World) (h : CInt w v z) (L : Nat) (hL : L ≤ 100000) (hz : z.natAbs < W64 ^ L) :
    Calls Tryz.prog 54 #[v] w fun e w' => ∃ a n c a' n' c', e = .returned (.tuple #[.agg #[.bool (decide (z < 0)), .slice a n c], .slice a' n' c']) ∧ PlainAt w' a n c z.natAbs ∧ PlainAt w' a' n' c' 1 ∧ Below w.heap.size w w' := by
  obtain ⟨W0, hW0⟩ : ∃ W0, W0 = w.alloc (.cells #[.bool false, .slice none 0 0] 24) := ⟨_, rfl⟩
  have HW := Lib.hid hW0
  have hb0 : Below w.heap.size w W0 := by rw [hW0]; exact Below.alloc' (Below.refl _ _) _
  have hr : BlkAt W0 w.heap.size #[.bool false, .slice none 0 0] 24 := by rw [hW0]; exact BlkAt.new _ _ _
  have HH := Lib.hid (h.keep hb0)
  have HZ := Lib.hid hz
  clear hW0 h hz
  go_enter Tryz.func54, Tryz.ntmps54
  go_upto_region 1 with fail
  rw [← HW.out]
  go_wp2_with fail
  refine (valInt_any v z _ HH.out).mono ?_
  rintro e w1 ⟨u, rfl, hA, hB1⟩
  have hr1 := hr.keep hB1
  have hb1 := Below.then hb0 (Nat.le_refl _) hB1
  clear hr hB1
  rcases hA with ⟨rfl, hf⟩ | ⟨b, o, s, N, rfl, hI, e1⟩
  · obtain ⟨t1, t2, t3, t4, t5, t6⟩ := ta_any_int64
    have HF := Lib.hid (fit64_bd hf)
    clear hf
    obtain ⟨W2, hW2⟩ : ∃ W2, W2 = w1.alloc (.cells #[.bool false, .slice none 0 0] 168) := ⟨_, rfl⟩
    have HW2 := Lib.hid hW2
    have hN2 : NewInt W2 w1.heap.size 0 := by rw [hW2]; exact newInt_is w1
    have hb2 : Below w1.heap.size w1 W2 := by rw [hW2]; exact Below.alloc' (Below.refl _ _) _
    have hr2 := hr1.keep hb2
    have hbw2 := Below.then hb1 (Nat.le_refl _) hb2
    have hlt := hr1.lt
    have hs2 : W2.heap.size = w1.heap.size + 1 := by rw [hW2]; simp
    clear hW2
    go_wp2_with fail
    rw [← HW2.out]
    refine (setInt64_any w1.heap.size 0 z HF.out _ hN2).mono ?_
    rintro e w2 ⟨rfl, hI, hU⟩
    have hr3 := hU.upd.blk hr2 (Nat.ne_of_lt hlt)
    have hbw3 := hU.upd.below hbw2 (by omega) (fun k _ e => by subst e; omega)
    go_wp2_with fail
    refine (number_any w1.heap.size 0 _ _ _ hI L hL HZ.out).mono ?_
    rintro e w3 ⟨a, n, c, rfl, hP, hB3⟩
    have hr4 := hr3.keep hB3
    have hbw4 := Below.then hbw3 (Nat.le_refl _) hB3
    have hrz := hr4.keep ((Below.refl _ _).alloc (Nat.le_refl _) (.cells #[.int .u64 1] 151))
    have hbz := Below.alloc' hbw4 (.cells #[.int .u64 1] 151)
    have c0 := hrz.cell 0
    have c1 := hrz.cell 1
    have f0 := hrz.frozen 0
    have f1 := hrz.frozen 1
    simp only [List.getElem?_toArray, List.getElem?_cons_zero, List.getElem?_cons_succ] at c0 c1
    have ni := noInt_of_blk hrz noInt_num
    go_wp2
    exact bodyPost_ret (v := .tuple #[.agg #[.bool (decide (z < 0)), .slice a n c], .slice (some ⟨w3.heap.size, 0, none⟩) 1 1]) (by simp [results, Tryz.results54, go_sem, c0, c1]) rfl
      ⟨_, _, _, _, _, _, rfl, ((hP.keep (Below.alloc' (Below.refl _ _) _)).setCell _ ni).setCell _ (ni.setCell (by intro k n h; cases h)), ((plainAt_one (BlkAt.new w3 _ _)).setCell _ ni).setCell _ (ni.setCell (by intro k n h; cases h)), (hbz.setCell (Nat.le_refl _) _).setCell (Nat.le_refl _) _⟩
  · obtain ⟨t1, t2, t3, t4, t5, t6⟩ := ta_any_pInt
    obtain ⟨es, en⟩ := sg_abs hI.zero
    rw [e1] at es en
    have HE := Lib.hid es
    have HEN := Lib.hid en
    have HI := Lib.hid hI
    clear hI e1 es en
    go_wp2_with fail
    refine (number_any b o s _ _ HI.out L hL (by rw [← HEN.out]; exact HZ.out)).mono ?_
    rintro e w2 ⟨a, n, c, rfl, hP, hB2⟩
    have hr2 := hr1.keep hB2
    have hb2 := Below.then hb1 (Nat.le_refl _) hB2
    have hrz := hr2.keep ((Below.refl _ _).alloc (Nat.le_refl _) (.cells #[.int .u64 1] 151))
    have hbz := Below.alloc' hb2 (.cells #[.int .u64 1] 151)
    have c0 := hrz.cell 0
    have c1 := hrz.cell 1
    have f0 := hrz.frozen 0
    have f1 := hrz.frozen 1
    simp only [List.getElem?_toArray, List.getElem?_cons_zero, List.getElem?_cons_succ] at c0 c1
    have ni := noInt_of_blk hrz noInt_num
    go_wp2
    exact bodyPost_ret (v := .tuple #[.agg #[.bool s, .slice a n c], .slice (some ⟨w2.heap.size, 0, none⟩) 1 1]) (by simp [results, Tryz.results54, go_sem, c0, c1]) rfl
      ⟨_, _, _, _, _, _, by rw [HE.out], by rw [HEN.out]; exact ((hP.keep (Below.alloc' (Below.refl _ _) _)).setCell _ ni).setCell _ (ni.setCell (by intro k n h; cases h)), ((plainAt_one (BlkAt.new w2 _ _)).setCell _ ni).setCell _ (ni.setCell (by intro k n h; cases h)), (hbz.setCell (Nat.le_refl _) _).setCell (Nat.le_refl _) _⟩
theorem sum_same (s : Bool) (N M : Nat) : sg (s && decide (0 < N + M)) (N + M) = sg s N + sg s M := by
  cases s
  · simp [sg]
  · by_cases h : 0 < N + M
    · simp [sg, h]; omega
    · obtain rfl : N = 0 := by omega
      obtain rfl : M = 0 := by omega
      rfl
theorem sum_other {s t : Bool} {N M : Nat} (hst : s ≠ t) (hle : M ≤ N) : sg (s && decide (0 < N - M)) (N - M) = sg s N + sg t M := by
  cases s <;> cases t <;> simp at hst
  · simp [sg]; omega
  · by_cases h : 0 < N - M
    · simp [sg, h]; omega
    · simp [sg, h]; omega
theorem sum_other' {s t : Bool} {N M : Nat} (hst : s ≠ t) (hlt : N < M) : sg (!s && decide (0 < M - N)) (M - N) = sg s N + sg t M := by
  cases s <;> cases t <;> simp at hst
  · have h : 0 < M - N := by omega
    simp [sg, h]; omega
  · simp [sg]; omega
theorem sg_not (t : Bool) (M : Nat) : sg (!t) M = -sg t M := by cases t <;> simp [sg]
theorem cmpK_ge {N M : Nat} (h : M ≤ N) : decide (0 ≤ cmpI N M) = true := by
  unfold cmpI; simp; split
  · omega
  · split <;> omega
theorem cmpK_lt {N M : Nat} (h : N < M) : decide (0 ≤ cmpI N M) = false := by
  unfold cmpI; rw [if_pos h]; rfl
end Go.Proofs.YtgmienggfaahlaaGreatDoor
namespace Go.Bg
open Go.RowKit Dg
def andn (a b : Nat) : Nat := a ^^^ (a &&& b)
def bitsN (f : Nat → Bool) : Nat → Nat
  | 0 => 0
  | k + 1 => bitsN f k + (if f k then 2 ^ k else 0)
theorem bitsN_lt (f : Nat → Bool) (k : Nat) : bitsN f k < 2 ^ k := by
  induction k with
  | zero => simp [bitsN]
  | succ k ih =>
    have e : bitsN f (k + 1) = bitsN f k + (if f k then 2 ^ k else 0) := rfl
    rw [e, Nat.pow_succ]; split <;> omega
theorem bitsN_bit (f : Nat → Bool) (k i : Nat) : (bitsN f k).testBit i = (decide (i < k) && f i) := by
  induction k with
  | zero => simp [bitsN]
  | succ k ih =>
    have hl := bitsN_lt f k
    have e : bitsN f (k + 1) = bitsN f k + (if f k then 2 ^ k else 0) := rfl
    rw [e]
    cases hf : f k
    · simp only [Bool.false_eq_true, if_false, Nat.add_zero]
      rw [ih]
      by_cases h : i = k
      · subst h; simp [hf]
      · rw [decide_eq_decide.2 (show i < k ↔ i < k + 1 from by omega)]
    · simp only [if_true]
      rw [Nat.add_comm]
      rcases Nat.lt_trichotomy i k with h | h | h
      · rw [Nat.testBit_two_pow_add_gt h, ih, decide_eq_true h, decide_eq_true (show i < k + 1 from by omega)]
      · subst h
        rw [Nat.testBit_two_pow_add_eq, Nat.testBit_lt_two_pow hl]; simp [hf]
      · rw [Nat.testBit_lt_two_pow (Nat.lt_of_lt_of_le (show 2 ^ k + bitsN f k < 2 ^ (k + 1) from by rw [Nat.pow_succ]; omega) (Nat.pow_le_pow_right (by decide) (by omega))), decide_eq_false (show ¬ i < k + 1 from by omega)]; rfl
theorem bitsN_eq {f : Nat → Bool} {k X : Nat} (hX : X < 2 ^ k) (h : ∀ i, i < k → X.testBit i = f i) : bitsN f k = X := by
  apply Nat.eq_of_testBit_eq
  intro i
  rw [bitsN_bit]
  by_cases hi : i < k
  · rw [decide_eq_true hi, h i hi]; rfl
  · rw [decide_eq_false hi, Nat.testBit_lt_two_pow (Nat.lt_of_lt_of_le hX (Nat.pow_le_pow_right (by decide) (by omega)))]; rfl
def low (s : Bool) (N : Nat) : Nat := if s then N - 1 else N
def bitAt (s : Bool) (N i : Nat) : Bool := s != (low s N).testBit i
theorem low_le (s : Bool) (N : Nat) : low s N ≤ N := by unfold low; split <;> omega
theorem bitAt_high {s : Bool} {N i : Nat} (h : N < 2 ^ i) : bitAt s N i = s := by
  unfold bitAt
  rw [Nat.testBit_lt_two_pow (Nat.lt_of_le_of_lt (low_le s N) h)]
  cases s <;> rfl
theorem lt_bl (N : Nat) : N < 2 ^ bl N := by
  unfold bl
  split
  · subst N; decide
  · exact Nat.lt_log2_self
theorem lt_size {N k : Nat} (h : bl N ≤ k) : N < 2 ^ k := Nat.lt_of_lt_of_le (lt_bl N) (Nat.pow_le_pow_right (by decide) h)
def jlow (T : Bool → Bool → Bool) (s t : Bool) (N M : Nat) : Nat :=
  bitsN (fun i => T (bitAt s N i) (bitAt t M i) != T s t) (max (bl N) (bl M) + 1)
def jmag (T : Bool → Bool → Bool) (s t : Bool) (N M : Nat) : Nat := if T s t then jlow T s t N M + 1 else jlow T s t N M
def jz (T : Bool → Bool → Bool) (a b : Int) : Int := sg (T (decide (a < 0)) (decide (b < 0))) (jmag T (decide (a < 0)) (decide (b < 0)) a.natAbs b.natAbs)
theorem jlow_of {T : Bool → Bool → Bool} {s t : Bool} {N M X : Nat} (hX : ∀ i, X.testBit i = (T (bitAt s N i) (bitAt t M i) != T s t)) : jlow T s t N M = X := by
  refine bitsN_eq (Nat.lt_pow_two_of_testBit _ fun i hi => ?_) fun i _ => hX i
  rw [hX i, bitAt_high (lt_size (Nat.le_trans (Nat.le_max_left (bl N) (bl M)) (by omega))), bitAt_high (lt_size (Nat.le_trans (Nat.le_max_right (bl N) (bl M)) (by omega)))]
  cases T s t <;> rfl
theorem jlow_bit (T : Bool → Bool → Bool) (s t : Bool) (N M i : Nat) : (jlow T s t N M).testBit i = (T (bitAt s N i) (bitAt t M i) != T s t) := by
  unfold jlow
  rw [bitsN_bit]
  by_cases hi : i < max (bl N) (bl M) + 1
  · rw [decide_eq_true hi]; rfl
  · rw [decide_eq_false hi, bitAt_high (lt_size (Nat.le_trans (Nat.le_max_left (bl N) (bl M)) (by omega))), bitAt_high (lt_size (Nat.le_trans (Nat.le_max_right (bl N) (bl M)) (by omega)))]
    cases T s t <;> rfl
theorem jlow_lt {T : Bool → Bool → Bool} {s t : Bool} {N M k : Nat} (h1 : low s N < 2 ^ k) (h2 : low t M < 2 ^ k) : jlow T s t N M < 2 ^ k := by
  refine Nat.lt_pow_two_of_testBit _ fun i hi => ?_
  rw [jlow_bit]
  unfold bitAt
  rw [Nat.testBit_lt_two_pow (Nat.lt_of_lt_of_le h1 (Nat.pow_le_pow_right (by decide) hi)), Nat.testBit_lt_two_pow (Nat.lt_of_lt_of_le h2 (Nat.pow_le_pow_right (by decide) hi))]
  cases s <;> cases t <;> simp
theorem jmag_pos {T : Bool → Bool → Bool} {s t : Bool} (N M : Nat) (h : T s t = true) : 0 < jmag T s t N M := by
  unfold jmag; rw [if_pos h]; omega
def andnT (a b : Bool) : Bool := a && !b
theorem jmag_andn00 (N M : Nat) : jmag andnT false false N M = andn (N) (M) := by
  have e : jlow andnT false false N M = andn (N) (M) := jlow_of fun i => by
    show (andn (N) (M)).testBit i = (andnT (false != (N).testBit i) (false != (M).testBit i) != andnT false false)
    unfold andn; rw [Nat.testBit_xor, Nat.testBit_and]
    cases (N).testBit i <;> cases (M).testBit i <;> rfl
  show jlow andnT false false N M = _
  rw [e]
theorem ofInt_bit (z : Int) (i : Nat) (hi : i < 64) : (BitVec.ofInt 64 z).getLsbD i = bitAt (decide (z < 0)) z.natAbs i := by
  unfold bitAt low
  by_cases h : z < 0
  · obtain ⟨m, rfl⟩ : ∃ m : Nat, z = Int.negSucc m := ⟨z.natAbs - 1, by omega⟩
    rw [decide_eq_true h, if_pos rfl, BitVec.ofInt_negSucc_eq_not_ofNat, BitVec.getLsbD_not, BitVec.getLsbD_ofNat]
    simp [hi, Int.natAbs_negSucc]
  · obtain ⟨m, rfl⟩ : ∃ m : Nat, z = m := ⟨z.natAbs, by omega⟩
    rw [decide_eq_false h, BitVec.ofInt_natCast, BitVec.getLsbD_ofNat]
    simp [hi]
theorem jz_neg (T : Bool → Bool → Bool) (a b : Int) : decide (jz T a b < 0) = T (decide (a < 0)) (decide (b < 0)) := by
  unfold jz sg
  cases h : T (decide (a < 0)) (decide (b < 0))
  · simp
  · have := jmag_pos (T := T) (s := decide (a < 0)) (t := decide (b < 0)) a.natAbs b.natAbs h
    simp; omega
theorem jz_abs (T : Bool → Bool → Bool) (a b : Int) : (jz T a b).natAbs = jmag T (decide (a < 0)) (decide (b < 0)) a.natAbs b.natAbs := by
  unfold jz; rw [sg_nat]
theorem jz_low (T : Bool → Bool → Bool) (a b : Int) : low (T (decide (a < 0)) (decide (b < 0))) (jmag T (decide (a < 0)) (decide (b < 0)) a.natAbs b.natAbs) = jlow T (decide (a < 0)) (decide (b < 0)) a.natAbs b.natAbs := by
  unfold low jmag
  cases T (decide (a < 0)) (decide (b < 0)) <;> simp
theorem jz_bit (T : Bool → Bool → Bool) (a b : Int) (i : Nat) : bitAt (decide (jz T a b < 0)) (jz T a b).natAbs i = T (bitAt (decide (a < 0)) a.natAbs i) (bitAt (decide (b < 0)) b.natAbs i) := by
  rw [jz_neg, jz_abs]
  unfold bitAt
  rw [jz_low, jlow_bit]
  show (_ != (T (bitAt _ _ _) (bitAt _ _ _) != _)) = _
  unfold bitAt
  cases T (decide (a < 0)) (decide (b < 0)) <;> simp
theorem jz_vec (T : Bool → Bool → Bool) (a b : Int) (v : BitVec 64) (hv : ∀ i, i < 64 → v.getLsbD i = T ((BitVec.ofInt 64 a).getLsbD i) ((BitVec.ofInt 64 b).getLsbD i)) : v = BitVec.ofInt 64 (jz T a b) := by
  apply BitVec.eq_of_getLsbD_eq
  intro i hi
  rw [hv i hi, ofInt_bit _ _ hi, ofInt_bit _ _ hi, ofInt_bit _ _ hi, jz_bit]
end Go.Bg
namespace Go.Proofs.YtgmienggfaahlaaGreatDoor
open Go.RowKit Go.Bg Dg
theorem jz_fit {T : Bool → Bool → Bool} {a b : Int} (ha : fit64 a = true) (hb : fit64 b = true) : fit64 (jz T a b) = true := by
  have l1 : low (decide (a < 0)) a.natAbs < 2 ^ 63 := by
    have := fit64_bd ha
    unfold low; split <;> simp_all <;> omega
  have l2 : low (decide (b < 0)) b.natAbs < 2 ^ 63 := by
    have := fit64_bd hb
    unfold low; split <;> simp_all <;> omega
  have h := jlow_lt (T := T) l1 l2
  unfold jz jmag sg fit64
  cases T (decide (a < 0)) (decide (b < 0)) <;> simp <;> omega
theorem wrap_ofInt {z : Int} (h : fit64 z = true) : IntKind.i64.wrap ((BitVec.ofInt 64 z).toNat : Int) = z := by
  have := fit64_bd h
  rw [BitVec.toNat_ofInt, IntKind.wrap_i64]
  omega
theorem bits_andn_i64 {a b : Int} (ha : fit64 a = true) (hb : fit64 b = true) : bits .andNot .i64 a b = jz andnT a b := by
  show IntKind.i64.wrap ((BitVec.ofInt 64 a &&& ~~~ BitVec.ofInt 64 b).toNat : Int) = _
  rw [jz_vec andnT a b (BitVec.ofInt 64 a &&& ~~~ BitVec.ofInt 64 b) (fun i hi => by simp [andnT, hi]), wrap_ofInt (jz_fit ha hb)]
theorem sg_mul (s t : Bool) (N M : Nat) : sg ((s != t) && decide (0 < N * M)) (N * M) = sg s N * sg t M := by
  by_cases h : 0 < N * M
  · cases s <;> cases t <;> simp [sg, h, Int.neg_mul, Int.mul_neg]
  · have e : N * M = 0 := by omega
    have e' : (N : Int) * (M : Int) = 0 := by rw [← Int.natCast_mul, e]; rfl
    cases s <;> cases t <;> simp [sg, e, e', Int.neg_mul, Int.mul_neg]
end Go.Proofs.YtgmienggfaahlaaGreatDoor
namespace Go.Bg
open Go.RowKit Dg
structure RatAt (T : TypeId) (w : World) (b : Nat) (s : Bool) (N D : Nat) : Prop where
  a : BigAt T w b 0 s N
  d : BigAt T w b 2 false D
  pos : 0 < D
theorem RatAt.keep {T : TypeId} {w w' : World} {b : Nat} {s : Bool} {N D : Nat} (h : RatAt T w b s N D) (hb : Below w.heap.size w w') : RatAt T w' b s N D := ⟨h.a.keep hb, h.d.keep hb, h.pos⟩
theorem RatAt.upd {T : TypeId} {w w' : World} {b : Nat} {s : Bool} {N D : Nat} {S : Nat → Prop} (h : RatAt T w b s N D) (hu : Upd S w w') (hs : ¬ S b) (hS : ∀ k, k < w.heap.size → S k → Strct T w k) : RatAt T w' b s N D := ⟨h.a.upd hu hs hS, h.d.upd hu hs hS, h.pos⟩
structure UpdB (T : TypeId) (b : Nat) (w w' : World) : Prop where
  upd : Upd (· = b) w w'
  blk : Strct T w b → Strct T w' b
theorem UpdB.refl (T : TypeId) (b : Nat) (w : World) : UpdB T b w w := ⟨Upd.refl _ _, id⟩
theorem UpdB.trans {T : TypeId} {b : Nat} {w w1 w2 : World} (h : UpdB T b w w1) (k : UpdB T b w1 w2) : UpdB T b w w2 := ⟨h.upd.trans k.upd, fun x => k.blk (h.blk x)⟩
theorem UpdI.toB {T : TypeId} {b o : Nat} {w w' : World} (h : UpdI T b o w w') : UpdB T b w w' := ⟨h.upd, h.blk⟩
theorem UpdB.of_below {T : TypeId} {b : Nat} {w w' : World} (h : Below w.heap.size w w') : UpdB T b w w' := ⟨Upd.of_below h, fun x => x.keep h⟩
theorem UpdB.set {T : TypeId} (w : World) (b i : Nat) (v : Value) : UpdB T b w (w.setCell ⟨b, i, none⟩ v) := ⟨Upd.set1 w b i v, fun x => x.set _ _⟩
theorem RatAt.other {T : TypeId} {w w' : World} {b d : Nat} {s : Bool} {N D : Nat} (h : RatAt T w b s N D) (hs : Strct T w d) (hu : UpdB T d w w') (hne : b ≠ d) : RatAt T w' b s N D :=
  h.upd hu.upd hne (fun k _ e => e ▸ hs)
theorem UpdB.below {T : TypeId} {B b : Nat} {w0 w w' : World} (h : UpdB T b w w') (hb : Below B w0 w) (hB : B ≤ w.heap.size) (hn : B ≤ b) : Below B w0 w' :=
  h.upd.below hb hB (fun k _ e => e ▸ hn)
end Go.Bg
namespace Go.Proofs.YtgmienggfaahlaaGreatDoor
open Go.RowKit Go.Bg Dg
def NewRat (w : World) (b : Nat) : Prop := BlkAt w b #[.bool false, .slice none 0 0, .bool false, .slice none 0 0] 179
theorem NewRat.blk {w : World} {b : Nat} (h : NewRat w b) : Strct 155 w b := ⟨_, _, h, by decide⟩
theorem NewRat.a {w : World} {b : Nat} (h : NewRat w b) : NewInt w b 0 := ⟨h.blk, ⟨_, BlkAt.cell h 0⟩, BlkAt.cell h 1⟩
theorem NewRat.d {w : World} {b : Nat} (h : NewRat w b) : NewInt w b 2 := ⟨h.blk, ⟨_, BlkAt.cell h 2⟩, BlkAt.cell h 3⟩
theorem NewRat.keep {w w' : World} {b : Nat} (h : NewRat w b) (hb : Below w.heap.size w w') : NewRat w' b := BlkAt.keep h hb
def RatIs (b : Nat) (s : Bool) (N D : Nat) (w : World) (e : Ending) (w' : World) : Prop :=
  e = .returned (.pointer (some ⟨b, 0, none⟩)) ∧ RatAt 155 w' b s N D ∧ UpdB 155 b w w'
theorem ratAt_den {w : World} {b : Nat} {s : Bool} {N D : Nat} (h : BigAt 155 w b 0 s N) (h2 : w.cell? ⟨b, 2, none⟩ = some (.bool false)) (h3 : ∃ u, w.cell? ⟨b, 3, none⟩ = some u)
    {a : Option Addr} {n c : Nat} (hN : BigN 155 w a n c D) (hp : 0 < D) : RatAt 155 (w.setCell ⟨b, 3, none⟩ (.slice a n c)) b s N D := by
  obtain ⟨u3, h3⟩ := h3
  have e : ∀ (j : Nat), j ≠ 3 → (w.setCell ⟨b, 3, none⟩ (.slice a n c)).cell? ⟨b, j, none⟩ = w.cell? ⟨b, j, none⟩ := fun j h => World.cell?_setCell_other _ _ _ _ (fun hh => h (by injection hh with _ hh _; exact hh.symm))
  obtain ⟨a0, n0, c0, p0, p1, hA⟩ := h.val
  refine ⟨⟨h.blk.set _ _, ⟨a0, n0, c0, ?_, ?_, hA.set h.blk _ _⟩, h.zero⟩, ⟨h.blk.set _ _, ⟨a, n, c, ?_, ?_, hN.set h.blk _ _⟩, by simp⟩, hp⟩
  · rw [e _ (by decide)]; exact p0
  · rw [e _ (by decide)]; exact p1
  · rw [e _ (by decide)]; exact h2
  · exact World.cell?_setCell_same (u := u3) _ _ _ h3
theorem ratSetInt_new (b b1 o1 : Nat) (s : Bool) (N : Nat) (w : World) (h : NewRat w b) (h1 : BigAt 155 w b1 o1 s N) (hne : b ≠ b1) (L : Nat) (hL : L ≤ 1000000) (hN : N < W64 ^ L) :
    Calls Tryz.prog 168 #[.pointer (some ⟨b, 0, none⟩), .pointer (some ⟨b1, o1, none⟩)] w (RatIs b s N 1 w) := by
  have HS := Lib.hid (intSet_new b 0 b1 o1 s N w h.a h1 (.inl hne) L hL hN)
  have HH := Lib.hid h
  have HQ := Lib.hid (BlkAt.cell h 3)
  have HQ2 := Lib.hid (BlkAt.cell h 2)
  clear h h1 hN
  go_enter Tryz.func168, Tryz.ntmps168
  go_wp2_with fail
  refine HS.out.mono ?_
  rintro e w1 ⟨rfl, hI, hU⟩
  have q3 : w1.cell? ⟨b, 3, none⟩ = some (.slice none 0 0) := by rw [hU.rest 3 (by decide) (by decide), HQ.out]; rfl
  have q2 : w1.cell? ⟨b, 2, none⟩ = some (.bool false) := by rw [hU.rest 2 (by decide) (by decide), HQ2.out]; rfl
  have Q2 := Lib.hid q2
  have HI := Lib.hid hI
  have HU := Lib.hid hU
  clear q2 hI hU
  go_wp2_with fail
  refine (setWord_nil 1 (by omega) _).mono ?_
  rintro e w2 ⟨a, n, c, rfl, hN, hB⟩
  have HI2 := Lib.hid (HI.out.keep hB)
  have k3 := cell_keep q3 hB
  have HR := Lib.hid (ratAt_den HI2.out (cell_keep Q2.out hB) ⟨_, k3⟩ hN (by omega))
  have HF := Lib.hid ((HU.out.toB.trans (UpdB.of_below hB)).trans (UpdB.set w2 b 3 (.slice a n c)))
  have f3 := HI2.out.blk.frozen 3
  clear q3 hN hB
  go_wp2
  go_ret
  exact ⟨rfl, HR.out, HF.out⟩
theorem ratNum_any (b : Nat) (w : World) : Calls Tryz.prog 110 #[.pointer (some ⟨b, 0, none⟩)] w fun e w' => e = .returned (.pointer (some ⟨b, 0, none⟩)) ∧ w = w' := by
  go_enter Tryz.func110, Tryz.ntmps110
  go_wp2
  go_ret
  exact ⟨rfl, rfl⟩
theorem ratDenom_any (b : Nat) (s : Bool) (D : Nat) (w : World) (h : BigAt 155 w b 2 s D) (hD : 0 < D) :
    Calls Tryz.prog 130 #[.pointer (some ⟨b, 0, none⟩)] w fun e w' => e = .returned (.pointer (some ⟨b, 2, none⟩)) ∧ w = w' := by
  obtain ⟨a, n, c, h0, h1, hN⟩ := h.val
  have hp := natAt_pos_len hN.num
  have hn : 0 < n := by simpa [hD] using hp
  have hz : ((n : Int) == 0) = false := by simp; omega
  have hcm := hN.num.cm
  have hnc := hN.num.nc
  clear hp h hN
  go_enter Tryz.func130, Tryz.ntmps130
  go_wp2
  go_ret
  exact ⟨rfl, rfl⟩
end Go.Proofs.YtgmienggfaahlaaGreatDoor
