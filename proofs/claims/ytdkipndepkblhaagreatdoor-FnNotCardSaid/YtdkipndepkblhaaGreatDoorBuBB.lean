/-
  nat.add of one onto a number of one's own; Int.Lsh, Int.Rsh.
  Int.Rsh of a negative number; the package's Shift.
  The package's Shift; impl.Shift of an integer.
-/
import Derived.Test.YtdkipndepkblhaaGreatDoorBuAA
import Derived.Test.YtdkipndepkblhaaGreatDoorBuP
import Derived.BigRegion
import Derived.Test.YtdkipndepkblhaaGreatDoorBuCC
import Derived.Test.YtdkipndepkblhaaGreatDoorBuL
import Derived.Test.YtdkipndepkblhaaGreatDoorBuT
set_option linter.unusedSimpArgs false
set_option linter.unusedVariables false
namespace Go.Proofs.YtdkipndepkblhaaGreatDoor
open Go.RowKit Go.Bg Dg

/-- a number, and nothing below B has turned -/
def GivesB (T : TypeId) (N B : Nat) (w0 : World) (e : Ending) (w' : World) : Prop :=
  ∃ a n c, e = .returned (.slice a n c) ∧ BigN T w' a n c N ∧ Below B w0 w'

set_option maxRecDepth 100000 in
set_option maxHeartbeats 1000000 in
theorem natSetOne_self (g c b B : Nat) (w0 w : World) (hB0 : Below B w0 w) (hBg : B ≤ g) (h1 : BigN 151 w (some ⟨g, 0, none⟩) 0 c 0) (hc : 0 < c) (h2 : BigN 151 w (some ⟨b, 0, none⟩) 1 1 1) :
    Calls Tryz.prog 132 #[.slice (some ⟨g, 0, none⟩) 0 c, .slice (some ⟨b, 0, none⟩) 1 1] w (InPlace 151 g c 1 B w0) := by
  have hm1 := h1.num.cm
  unfold maxLen at hm1
  obtain ⟨cur, hk, hks⟩ : ∃ cur, BlkAt w g cur 151 ∧ cur.size = c := by
    rcases h1.buf with ⟨h, _⟩ | ⟨g', cur, h, hg, hsz⟩
    · cases h
    · injection h with h
      injection h with h _ _
      subst h
      exact ⟨cur, hg, hsz⟩
  have HMK := Lib.hid (show ∀ w, _ from fun w => make_self g 0 c 1 w (by omega) (by omega) (by omega))
  have HG := Lib.hid (show w.heap[g]? = some (.cells cur.toList.toArray 151 (0, 0)) from by unfold BlkAt at hk; simpa using hk)
  have HM := Lib.hid (show (wl 1 1).length = Nat.min 1 1 from by rw [wl_len]; rfl)
  have HC := Lib.hid (show ∃ ad, (some ⟨b, 0, none⟩ : Option Addr) = some ad ∧ ∀ j v, (wl 1 1)[j]? = some v → w.cell? (ad.add j) = some v from by
    refine ⟨_, rfl, fun j v hj => ?_⟩
    have hjn : j < 1 := by
      have := (List.getElem?_eq_some_iff.1 hj).1
      rwa [wl_len] at this
    rw [wl_get hjn] at hj
    rw [← hj, Addr.add_lit]
    exact h2.num.cell hjn)
  have HT := Lib.hid (show 0 + (wl 1 1).length ≤ cur.toList.length from by rw [wl_len]; simp; omega)
  have HO := Lib.hid (show ∀ v ∈ wl 1 1, v.oneCell' = true from by intro v hv; simp only [wl, List.mem_map] at hv; obtain ⟨_, _, rfl⟩ := hv; rfl)
  have HB0 := Lib.hid hB0
  have H2 := Lib.hid h2.num
  have HKS := Lib.hid hks
  have h11 : ((1 : Nat) : Int) = 1 := rfl
  rw [h11] at HMK
  clear h1 h2 hk hB0 hks h11
  go_enter Tryz.func132, Tryz.ntmps132
  go_wp2_with fail
  refine (HMK.out _).mono ?_
  rintro e w1 ⟨rfl, rfl⟩
  go_wp2_with ((with_reducible refine wpList_copy_splice (o := ⟨some 11, _, _, _, _, _⟩) rfl (.tmp 9) (.tmp 10) 141 141 rfl 151 Tryz.underlying141 infoWordSize _ _ _ _ _ _ rfl rfl g 0 _ _ HG.out (wl 1 1) HM.out (fun _ => ⟨rfl, HC.out⟩) HT.out HO.out B w0 HB0.out hBg ?_); intro w2 hg2 hb2)
  go_wp2
  go_ret
  exact ⟨_, rfl, bigN_spliced H2.out (by omega) (by unfold maxLen; omega) _ (by simpa using HKS.out) hg2, hb2⟩

set_option maxRecDepth 100000 in
set_option maxHeartbeats 1000000 in
theorem natAddSet_self (g c b B : Nat) (w0 w : World) (hB0 : Below B w0 w) (hBg : B ≤ g) (h1 : BigN 151 w (some ⟨g, 0, none⟩) 0 c 0) (hc : 0 < c) (h2 : BigN 151 w (some ⟨b, 0, none⟩) 1 1 1) :
    Calls Tryz.prog 124 #[.slice (some ⟨g, 0, none⟩) 0 c, .slice (some ⟨b, 0, none⟩) 1 1, .slice (some ⟨g, 0, none⟩) 0 c] w (InPlace 151 g c 1 B w0) := by
  have HS := Lib.hid (natSetOne_self g c b B w0 w hB0 hBg h1 hc h2)
  have hm1 := h1.num.cm
  unfold maxLen at hm1
  clear h1 h2 hB0
  go_enter Tryz.func124, Tryz.ntmps124
  go_wp2_with fail
  refine HS.out.mono ?_
  rintro e w1 ⟨n, rfl, hN, hB⟩
  have HN := Lib.hid hN
  have HB := Lib.hid hB
  clear hN hB
  go_wp2
  go_ret
  exact ⟨_, rfl, HN.out, HB.out⟩

set_option maxRecDepth 100000 in
set_option maxHeartbeats 1000000 in
theorem natAddOne_own (g n c N b B : Nat) (w0 w : World) (hB0 : Below B w0 w) (hBg : B ≤ g) (h1 : BigN 151 w (some ⟨g, 0, none⟩) n c N) (hc : 0 < c) (h2 : BigN 151 w (some ⟨b, 0, none⟩) 1 1 1) (hbg : b ≠ g) (hb1 : n ≤ 300000) :
    Calls Tryz.prog 124 #[.slice (some ⟨g, 0, none⟩) n c, .slice (some ⟨g, 0, none⟩) n c, .slice (some ⟨b, 0, none⟩) 1 1] w (GivesB 151 (N + 1) B w0) := by
  by_cases h0 : n = 0
  · subst h0
    have eN : N = 0 := by have := h1.num.lt; simpa using this
    subst eN
    have HS := Lib.hid (natAddSet_self g c b B w0 w hB0 hBg h1 hc h2)
    have hm1 := h1.num.cm
    unfold maxLen at hm1
    clear h1 h2 hB0
    go_enter Tryz.func124, Tryz.ntmps124
    go_wp2_with fail
    refine HS.out.mono ?_
    rintro e w1 ⟨n, rfl, hN, hB⟩
    have HN := Lib.hid hN
    have HB := Lib.hid hB
    clear hN hB
    go_wp2
    go_ret
    exact ⟨_, _, _, rfl, HN.out, HB.out⟩
  · by_cases hr : n + 1 ≤ c
    · refine (natAdd_self g n c N _ 1 1 1 B w0 w hB0 hBg h1 h2 (by omega) (by omega) (by omega) hr (fun p hp => by injection hp with hp; rw [← hp]; exact hbg)).mono ?_
      rintro e w1 ⟨n', rfl, hN, hB⟩
      exact ⟨_, _, _, rfl, hN, hB⟩
    · have hg : g < w.heap.size := by
        rcases h1.buf with ⟨h, _⟩ | ⟨g', cur, h, hg, hsz⟩
        · cases h
        · injection h with h
          injection h with h _ _
          subst h
          exact hg.lt
      refine (natAdd_new (some ⟨g, 0, none⟩) n c h1.num.nc (fun h => by cases h) (some ⟨g, 0, none⟩) (some ⟨b, 0, none⟩) n 1 c 1 N 1 w h1 h2 (by omega) (by omega) (by omega) (by omega)).mono ?_
      rintro e w1 ⟨a', n', c', rfl, hN, hB⟩
      exact ⟨_, _, _, rfl, hN, hB0.trans (hB.mono (by omega))⟩

set_option maxRecDepth 100000 in
set_option maxHeartbeats 2000000 in
theorem intLsh_new (d p b o : Nat) (s : Bool) (N k : Nat) (w : World) (h : NewInt w d p) (h1 : BigAt 151 w b o s N) (hne : b ≠ d) (hk0 : 0 < k) (hk : k ≤ 1000000) (L : Nat) (hL : L ≤ 300000) (hN : N < W64 ^ L) :
    Calls Tryz.prog 107 #[.pointer (some ⟨d, p, none⟩), .pointer (some ⟨b, o, none⟩), .int .u64 k] w (IntIs d p s (N * 2 ^ k) w) := by
  obtain ⟨a, n, c, p0, p1, hNN⟩ := h1.val
  have hn : n ≤ 300000 := Nat.le_trans (len_le W64_gt hNN.num.top hN) hL
  have HZ := Lib.hid (show s = true → 0 < N * 2 ^ k from fun hs => Nat.mul_pos (h1.zero hs) (Nat.pow_pos (by decide)))
  have HH := Lib.hid h
  have HN := Lib.hid hNN
  have HP0 := Lib.hid p0
  have k1 := h.c1
  clear h h1 hNN hN p0
  go_enter Tryz.func107, Tryz.ntmps107
  go_upto_region 1 with fail
  have hd0 : ∀ q, Below w.heap.size w (w.drewN q) := fun q => below_drewN (Below.refl w.heap.size w) q
  go_region_with
    ((go_at_call 162; (with_reducible refine (natLsh_new none 0 0 0 a n c N k _ (BigN.nil _ _) (Nat.zero_le _) ?_ hn hk0 hk).mono ?_); exact HN.out.keep (hd0 _); rintro e w1 ⟨a2, n2, c2, rfl, hN2, hB⟩; have hB1 := Below.then (hd0 _) (Nat.le_refl _) hB; have HF := Lib.hid (HH.out.made hB1 (s := s) hN2 HZ.out); have h' := HH.out.keep hB1; obtain ⟨u0, k0⟩ := h'.c0; have k1' := h'.c1; have f0 := h'.blk.frozen p; have f1 := h'.blk.frozen (p + 1); have k0' : ∀ v, (w1.setCell ⟨d, p + 1, none⟩ v).cell? ⟨d, p, none⟩ = some u0 := (fun v => by rw [World.cell?_setCell_other _ _ _ _ (fun hh => by injection hh with _ hh _; omega)]; exact k0); have x0' : ∀ v, (w1.setCell ⟨d, p + 1, none⟩ v).cell? ⟨b, o, none⟩ = some (.bool s) := (fun v => by rw [World.cell?_setCell_other _ _ _ _ (fun hh => by injection hh with hh _ _; exact hne hh.symm)]; exact cell_keep HP0.out hB1); clear hN2 h'))
  all_goals
    clear p1 k1
    go_wp2
    go_ret
    exact HF.out

set_option maxRecDepth 100000 in
set_option maxHeartbeats 2000000 in
theorem intLsh_self (b o : Nat) (s : Bool) (N k : Nat) (w : World) (h1 : BigAt 151 w b o s N) (hcap : CapLe w b o) (hk0 : 0 < k) (hk : k ≤ 1000000) (L : Nat) (hL : L ≤ 300000) (hN : N < W64 ^ L) :
    Calls Tryz.prog 107 #[.pointer (some ⟨b, o, none⟩), .pointer (some ⟨b, o, none⟩), .int .u64 k] w (IntIs b o s (N * 2 ^ k) w) := by
  obtain ⟨a, n, c, p0, p1, hNN⟩ := h1.val
  have hcn : c ≤ n := by
    obtain ⟨a', n', c', q1, q2⟩ := hcap
    rw [p1] at q1
    injection q1 with q1
    injection q1 with _ e1 e2
    omega
  have hn : n ≤ 300000 := Nat.le_trans (len_le W64_gt hNN.num.top hN) hL
  have HZ := Lib.hid (show s = true → 0 < N * 2 ^ k from fun hs => Nat.mul_pos (h1.zero hs) (Nat.pow_pos (by decide)))
  have HH := Lib.hid h1
  have HN := Lib.hid hNN
  have HP0 := Lib.hid p0
  clear h1 hNN hN p0 hcap
  go_enter Tryz.func107, Tryz.ntmps107
  go_upto_region 1 with fail
  have hd0 : ∀ q, Below w.heap.size w (w.drewN q) := fun q => below_drewN (Below.refl w.heap.size w) q
  go_region_with
    ((go_at_call 162; (with_reducible refine (natLsh_new a n c N a n c N k _ ?_ hcn ?_ hn hk0 hk).mono ?_); exact HN.out.keep (hd0 _); exact HN.out.keep (hd0 _); rintro e w1 ⟨a2, n2, c2, rfl, hN2, hB⟩; have hB1 := Below.then (hd0 _) (Nat.le_refl _) hB; have h' := HH.out.keep hB1; have k0 := cell_keep HP0.out hB1; have k1' := cell_keep p1 hB1; have HF := Lib.hid (show IntIs b o s (N * 2 ^ k) w (.returned (.pointer (some ⟨b, o, none⟩))) ((w1.setCell ⟨b, o + 1, none⟩ (.slice a2 n2 c2)).setCell ⟨b, o, none⟩ (.bool s)) from ⟨rfl, BigAt.stored h'.blk ⟨_, k0⟩ ⟨_, k1'⟩ hN2 HZ.out, (UpdI.of_below hB1 HH.out.blk).trans ((UpdI.set1 _ _ _ _).trans (UpdI.set0 _ _ _ _))⟩); have f0 := h'.blk.frozen o; have f1 := h'.blk.frozen (o + 1); have k0' : ∀ v, (w1.setCell ⟨b, o + 1, none⟩ v).cell? ⟨b, o, none⟩ = some (.bool s) := (fun v => by rw [World.cell?_setCell_other _ _ _ _ (fun hh => by injection hh with _ hh _; omega)]; exact k0); clear hN2 h'))
  all_goals
    clear p1
    go_wp2
    go_ret
    exact HF.out

end Go.Proofs.YtdkipndepkblhaaGreatDoor

set_option linter.unusedSimpArgs false
set_option linter.unusedVariables false
namespace Go.Proofs.YtdkipndepkblhaaGreatDoor
open Go.RowKit Go.Bg Dg

theorem sg_shl (s : Bool) (N k : Nat) : sg s (N * 2 ^ k) = shz (sg s N) true k := by
  unfold shz sg
  cases s
  · simp
  · simp [Int.neg_mul]
theorem sg_shr_pos (N k : Nat) : sg false (N / 2 ^ k) = shz (sg false N) false k := by
  unfold shz sg
  simp
theorem sg_shr_neg (N k : Nat) (h : 0 < N) : sg true ((N - 1) / 2 ^ k + 1) = shz (sg true N) false k := by
  have e : shz (sg true N) false k = (sg true N) / 2 ^ k := rfl
  rw [e]
  have hn : sg true N < 0 := by simp [sg]; omega
  rw [shr_neg hn, sg_nat]
  rfl
end Go.Proofs.YtdkipndepkblhaaGreatDoor

set_option linter.unusedSimpArgs false
set_option linter.unusedVariables false
namespace Go.Proofs.YtdkipndepkblhaaGreatDoor
open Go.RowKit Go.Bg Dg

theorem fit64_bnd {z : Int} (h : fit64 z = true) : -9223372036854775808 ≤ z ∧ z < 9223372036854775808 := by
  unfold fit64 at h
  simp at h
  omega

theorem shr64 {z : Int} (h : fit64 z = true) (k : Nat) : z / 2 ^ min k 64 = shz z false k := by
  have hz := fit64_bnd h
  by_cases hk : k ≤ 64
  · rw [Nat.min_eq_left hk]; rfl
  · rw [Nat.min_eq_right (by omega)]
    show z / 2 ^ 64 = z / 2 ^ k
    have h64 : (2 : Nat) ^ 64 ≤ 2 ^ k := Nat.pow_le_pow_right (by decide) (by omega)
    have hs : (2 : Nat) ^ 64 = 18446744073709551616 := by decide
    by_cases hn : z < 0
    · rw [shr_neg hn, shr_neg hn, Nat.div_eq_of_lt (show z.natAbs - 1 < 2 ^ 64 from by omega), Nat.div_eq_of_lt (show z.natAbs - 1 < 2 ^ k from by omega)]
    · rw [shr_pos (by omega), shr_pos (by omega), Nat.div_eq_of_lt (show z.natAbs < 2 ^ 64 from by omega), Nat.div_eq_of_lt (show z.natAbs < 2 ^ k from by omega)]

theorem shr_fit64 {z : Int} (h : fit64 z = true) (k : Nat) : fit64 (shz z false k) = true := by
  have hz := fit64_bnd h
  show fit64 (z / 2 ^ k) = true
  unfold fit64
  simp only [decide_eq_true_eq, Bool.and_eq_true]
  by_cases hn : z < 0
  · rw [shr_neg hn]
    have := Nat.div_le_self (z.natAbs - 1) (2 ^ k)
    generalize (z.natAbs - 1) / 2 ^ k = q at *
    omega
  · rw [shr_pos (by omega)]
    have := Nat.div_le_self z.natAbs (2 ^ k)
    generalize z.natAbs / 2 ^ k = q at *
    omega

theorem shz_zero (z : Int) (left : Bool) : shz z left 0 = z := by
  unfold shz
  cases left <;> simp

theorem w64_two (L : Nat) : W64 ^ L = 2 ^ (64 * L) := by rw [Nat.pow_mul]; rfl

end Go.Proofs.YtdkipndepkblhaaGreatDoor
