/-
  nat.add of one onto a number of one's own; Int.Lsh, Int.Rsh.
  Int.Rsh of a negative number; the package's Shift.
  The package's Shift; impl.Shift of an integer.
-/
import Derived.Test.YtgcpjlniamebgaaGreatDoorBuAA
import Derived.Test.YtgcpjlniamebgaaGreatDoorBuP
import Derived.BigRegion
import Derived.Test.YtgcpjlniamebgaaGreatDoorBuCC
import Derived.Test.YtgcpjlniamebgaaGreatDoorBuL
import Derived.Test.YtgcpjlniamebgaaGreatDoorBuT
set_option linter.unusedSimpArgs false
set_option linter.unusedVariables false
namespace Go.Proofs.YtgcpjlniamebgaaGreatDoor
open Go.RowKit Go.Bg Dg

/-- a number, and nothing below B has turned -/
def GivesB (T : TypeId) (N B : Nat) (w0 : World) (e : Ending) (w' : World) : Prop :=
  ∃ a n c, e = .returned (.slice a n c) ∧ BigN T w' a n c N ∧ Below B w0 w'

set_option maxRecDepth 100000 in
set_option maxHeartbeats 1000000 in
theorem natSetOne_self (g c b B : Nat) (w0 w : World) (hB0 : Below B w0 w) (hBg : B ≤ g) (h1 : BigN 144 w (some ⟨g, 0, none⟩) 0 c 0) (hc : 0 < c) (h2 : BigN 144 w (some ⟨b, 0, none⟩) 1 1 1) :
    Calls Tryz.prog 169 #[.slice (some ⟨g, 0, none⟩) 0 c, .slice (some ⟨b, 0, none⟩) 1 1] w (InPlace 144 g c 1 B w0) := by
  have hm1 := h1.num.cm
  unfold maxLen at hm1
  obtain ⟨cur, hk, hks⟩ : ∃ cur, BlkAt w g cur 144 ∧ cur.size = c := by
    rcases h1.buf with ⟨h, _⟩ | ⟨g', cur, h, hg, hsz⟩
    · cases h
    · injection h with h
      injection h with h _ _
      subst h
      exact ⟨cur, hg, hsz⟩
  have HMK := Lib.hid (show ∀ w, _ from fun w => make_self g 0 c 1 w (by omega) (by omega) (by omega))
  have HG := Lib.hid (show w.heap[g]? = some (.cells cur.toList.toArray 144 (0, 0)) from by unfold BlkAt at hk; simpa using hk)
  have HM := Lib.hid (show (wl 1 1).length = Nat.min 1 1 from by rw [wl_len]; rfl)
  have HC := Lib.hid (show ∃ ad, (some ⟨b, 0, none⟩ : Option Addr) = some ad ∧ ∀ j v, (wl 1 1)[j]? = some v → w.cell? (ad.add j) = some v from by
    refine ⟨_, rfl, fun j v hj => ?_⟩
    have hjn : j < 1 := by
      have := (List.getElem?_eq_some_iff.1 hj).1
      rwa [wl_len] at this
    rw [wl_get hjn] at hj
    rw [← hj, Addr.add_lit]
    exact h2.num.cell hjn)
  have HT := Lib.hid (show 0 + (wl 1 1).length ≤ cur.toList.length from by rw [wl_len]; simp; omega)
  have HO := Lib.hid (show ∀ v ∈ wl 1 1, v.oneCell' = true from by intro v hv; simp only [wl, List.mem_map] at hv; obtain ⟨_, _, rfl⟩ := hv; rfl)
  have HB0 := Lib.hid hB0
  have H2 := Lib.hid h2.num
  have HKS := Lib.hid hks
  have h11 : ((1 : Nat) : Int) = 1 := rfl
  rw [h11] at HMK
  clear h1 h2 hk hB0 hks h11
  go_enter Tryz.func169, Tryz.ntmps169
  go_wp2_with fail
  refine (HMK.out _).mono ?_
  rintro e w1 ⟨rfl, rfl⟩
  go_wp2_with ((with_reducible refine wpList_copy_splice (o := ⟨some 11, _, _, _, _, _⟩) rfl (.tmp 9) (.tmp 10) 160 160 rfl 144 Tryz.underlying160 infoWordSize _ _ _ _ _ _ rfl rfl g 0 _ _ HG.out (wl 1 1) HM.out (fun _ => ⟨rfl, HC.out⟩) HT.out HO.out B w0 HB0.out hBg ?_); intro w2 hg2 hb2)
  go_wp2
  go_ret
  exact ⟨_, rfl, bigN_spliced H2.out (by omega) (by unfold maxLen; omega) _ (by simpa using HKS.out) hg2, hb2⟩

set_option maxRecDepth 100000 in
set_option maxHeartbeats 1000000 in
theorem natAddSet_self (g c b B : Nat) (w0 w : World) (hB0 : Below B w0 w) (hBg : B ≤ g) (h1 : BigN 144 w (some ⟨g, 0, none⟩) 0 c 0) (hc : 0 < c) (h2 : BigN 144 w (some ⟨b, 0, none⟩) 1 1 1) :
    Calls Tryz.prog 162 #[.slice (some ⟨g, 0, none⟩) 0 c, .slice (some ⟨b, 0, none⟩) 1 1, .slice (some ⟨g, 0, none⟩) 0 c] w (InPlace 144 g c 1 B w0) := by
  have HS := Lib.hid (natSetOne_self g c b B w0 w hB0 hBg h1 hc h2)
  have hm1 := h1.num.cm
  unfold maxLen at hm1
  clear h1 h2 hB0
  go_enter Tryz.func162, Tryz.ntmps162
  go_wp2_with fail
  refine HS.out.mono ?_
  rintro e w1 ⟨n, rfl, hN, hB⟩
  have HN := Lib.hid hN
  have HB := Lib.hid hB
  clear hN hB
  go_wp2
  go_ret
  exact ⟨_, rfl, HN.out, HB.out⟩

set_option maxRecDepth 100000 in
set_option maxHeartbeats 1000000 in
theorem natAddOne_own (g n c N b B : Nat) (w0 w : World) (hB0 : Below B w0 w) (hBg : B ≤ g) (h1 : BigN 144 w (some ⟨g, 0, none⟩) n c N) (hc : 0 < c) (h2 : BigN 144 w (some ⟨b, 0, none⟩) 1 1 1) (hbg : b ≠ g) (hb1 : n ≤ 300000) :
    Calls Tryz.prog 162 #[.slice (some ⟨g, 0, none⟩) n c, .slice (some ⟨g, 0, none⟩) n c, .slice (some ⟨b, 0, none⟩) 1 1] w (GivesB 144 (N + 1) B w0) := by
  by_cases h0 : n = 0
  · subst h0
    have eN : N = 0 := by have := h1.num.lt; simpa using this
    subst eN
    have HS := Lib.hid (natAddSet_self g c b B w0 w hB0 hBg h1 hc h2)
    have hm1 := h1.num.cm
    unfold maxLen at hm1
    clear h1 h2 hB0
    go_enter Tryz.func162, Tryz.ntmps162
    go_wp2_with fail
    refine HS.out.mono ?_
    rintro e w1 ⟨n, rfl, hN, hB⟩
    have HN := Lib.hid hN
    have HB := Lib.hid hB
    clear hN hB
    go_wp2
    go_ret
    exact ⟨_, _, _, rfl, HN.out, HB.out⟩
  · by_cases hr : n + 1 ≤ c
    · refine (natAdd_self g n c N _ 1 1 1 B w0 w hB0 hBg h1 h2 (by omega) (by omega) (by omega) hr (fun p hp => by injection hp with hp; rw [← hp]; exact hbg)).mono ?_
      rintro e w1 ⟨n', rfl, hN, hB⟩
      exact ⟨_, _, _, rfl, hN, hB⟩
    · have hg : g < w.heap.size := by
        rcases h1.buf with ⟨h, _⟩ | ⟨g', cur, h, hg, hsz⟩
        · cases h
        · injection h with h
          injection h with h _ _
          subst h
          exact hg.lt
      refine (natAdd_new (some ⟨g, 0, none⟩) n c h1.num.nc (fun h => by cases h) (some ⟨g, 0, none⟩) (some ⟨b, 0, none⟩) n 1 c 1 N 1 w h1 h2 (by omega) (by omega) (by omega) (by omega)).mono ?_
      rintro e w1 ⟨a', n', c', rfl, hN, hB⟩
      exact ⟨_, _, _, rfl, hN, hB0.trans (hB.mono (by omega))⟩

set_option maxRecDepth 100000 in
set_option maxHeartbeats 2000000 in
theorem intLsh_new (d p b o : Nat) (s : Bool) (N k : Nat) (w : World) (h : NewInt w d p) (h1 : BigAt 144 w b o s N) (hne : b ≠ d) (hk0 : 0 < k) (hk : k ≤ 1000000) (L : Nat) (hL : L ≤ 300000) (hN : N < W64 ^ L) :
    Calls Tryz.prog 123 #[.pointer (some ⟨d, p, none⟩), .pointer (some ⟨b, o, none⟩), .int .u64 k] w (IntIs d p s (N * 2 ^ k) w) := by
  obtain ⟨a, n, c, p0, p1, hNN⟩ := h1.val
  have hn : n ≤ 300000 := Nat.le_trans (len_le W64_gt hNN.num.top hN) hL
  have HZ := Lib.hid (show s = true → 0 < N * 2 ^ k from fun hs => Nat.mul_pos (h1.zero hs) (Nat.pow_pos (by decide)))
  have HH := Lib.hid h
  have HN := Lib.hid hNN
  have HP0 := Lib.hid p0
  have k1 := h.c1
  clear h h1 hNN hN p0
  go_enter Tryz.func123, Tryz.ntmps123
  go_upto_region 1 with fail
  have hd0 : ∀ q, Below w.heap.size w (w.drewN q) := fun q => below_drewN (Below.refl w.heap.size w) q
  go_region_with
    ((go_at_call 195; (with_reducible refine (natLsh_new none 0 0 0 a n c N k _ (BigN.nil _ _) (Nat.zero_le _) ?_ hn hk0 hk).mono ?_); exact HN.out.keep (hd0 _); rintro e w1 ⟨a2, n2, c2, rfl, hN2, hB⟩; have hB1 := Below.then (hd0 _) (Nat.le_refl _) hB; have HF := Lib.hid (HH.out.made hB1 (s := s) hN2 HZ.out); have h' := HH.out.keep hB1; obtain ⟨u0, k0⟩ := h'.c0; have k1' := h'.c1; have f0 := h'.blk.frozen p; have f1 := h'.blk.frozen (p + 1); have k0' : ∀ v, (w1.setCell ⟨d, p + 1, none⟩ v).cell? ⟨d, p, none⟩ = some u0 := (fun v => by rw [World.cell?_setCell_other _ _ _ _ (fun hh => by injection hh with _ hh _; omega)]; exact k0); have x0' : ∀ v, (w1.setCell ⟨d, p + 1, none⟩ v).cell? ⟨b, o, none⟩ = some (.bool s) := (fun v => by rw [World.cell?_setCell_other _ _ _ _ (fun hh => by injection hh with hh _ _; exact hne hh.symm)]; exact cell_keep HP0.out hB1); clear hN2 h'))
  all_goals
    clear p1 k1
    go_wp2
    go_ret
    exact HF.out

set_option maxRecDepth 100000 in
set_option maxHeartbeats 2000000 in
theorem intLsh_self (b o : Nat) (s : Bool) (N k : Nat) (w : World) (h1 : BigAt 144 w b o s N) (hcap : CapLe w b o) (hk0 : 0 < k) (hk : k ≤ 1000000) (L : Nat) (hL : L ≤ 300000) (hN : N < W64 ^ L) :
    Calls Tryz.prog 123 #[.pointer (some ⟨b, o, none⟩), .pointer (some ⟨b, o, none⟩), .int .u64 k] w (IntIs b o s (N * 2 ^ k) w) := by
  obtain ⟨a, n, c, p0, p1, hNN⟩ := h1.val
  have hcn : c ≤ n := by
    obtain ⟨a', n', c', q1, q2⟩ := hcap
    rw [p1] at q1
    injection q1 with q1
    injection q1 with _ e1 e2
    omega
  have hn : n ≤ 300000 := Nat.le_trans (len_le W64_gt hNN.num.top hN) hL
  have HZ := Lib.hid (show s = true → 0 < N * 2 ^ k from fun hs => Nat.mul_pos (h1.zero hs) (Nat.pow_pos (by decide)))
  have HH := Lib.hid h1
  have HN := Lib.hid hNN
  have HP0 := Lib.hid p0
  clear h1 hNN hN p0 hcap
  go_enter Tryz.func123, Tryz.ntmps123
  go_upto_region 1 with fail
  have hd0 : ∀ q, Below w.heap.size w (w.drewN q) := fun q => below_drewN (Below.refl w.heap.size w) q
  go_region_with
    ((go_at_call 195; (with_reducible refine (natLsh_new a n c N a n c N k _ ?_ hcn ?_ hn hk0 hk).mono ?_); exact HN.out.keep (hd0 _); exact HN.out.keep (hd0 _); rintro e w1 ⟨a2, n2, c2, rfl, hN2, hB⟩; have hB1 := Below.then (hd0 _) (Nat.le_refl _) hB; have h' := HH.out.keep hB1; have k0 := cell_keep HP0.out hB1; have k1' := cell_keep p1 hB1; have HF := Lib.hid (show IntIs b o s (N * 2 ^ k) w (.returned (.pointer (some ⟨b, o, none⟩))) ((w1.setCell ⟨b, o + 1, none⟩ (.slice a2 n2 c2)).setCell ⟨b, o, none⟩ (.bool s)) from ⟨rfl, BigAt.stored h'.blk ⟨_, k0⟩ ⟨_, k1'⟩ hN2 HZ.out, (UpdI.of_below hB1 HH.out.blk).trans ((UpdI.set1 _ _ _ _).trans (UpdI.set0 _ _ _ _))⟩); have f0 := h'.blk.frozen o; have f1 := h'.blk.frozen (o + 1); have k0' : ∀ v, (w1.setCell ⟨b, o + 1, none⟩ v).cell? ⟨b, o, none⟩ = some (.bool s) := (fun v => by rw [World.cell?_setCell_other _ _ _ _ (fun hh => by injection hh with _ hh _; omega)]; exact k0); clear hN2 h'))
  all_goals
    clear p1
    go_wp2
    go_ret
    exact HF.out

set_option maxRecDepth 100000 in
set_option maxHeartbeats 2000000 in
theorem intRsh_pos (d p b o : Nat) (N k : Nat) (w : World) (h : NewInt w d p) (h1 : BigAt 144 w b o false N) (hne : b ≠ d) (hk0 : 0 < k) (hk : k ≤ 1000000) (L : Nat) (hL : L ≤ 300000) (hN : N < W64 ^ L) :
    Calls Tryz.prog 124 #[.pointer (some ⟨d, p, none⟩), .pointer (some ⟨b, o, none⟩), .int .u64 k] w (IntIs d p false (N / 2 ^ k) w) := by
  obtain ⟨a, n, c, p0, p1, hNN⟩ := h1.val
  have hn : n ≤ 300000 := Nat.le_trans (len_le W64_gt hNN.num.top hN) hL
  have HH := Lib.hid h
  have HN := Lib.hid hNN
  have k1 := h.c1
  clear h h1 hNN hN
  go_enter Tryz.func124, Tryz.ntmps124
  go_upto_region 7 with fail
  clear p0
  have hd0 : ∀ q, Below w.heap.size w (w.drewN q) := fun q => below_drewN (Below.refl w.heap.size w) q
  go_region_with
    ((go_at_call 196; (with_reducible refine (natRsh_nil a n c N k _ ?_ hn hk0 hk).mono ?_); exact HN.out.keep (hd0 _); rintro e w1 ⟨a2, n2, c2, rfl, hN2, hB⟩; have hB1 := Below.then (hd0 _) (Nat.le_refl _) hB; have HF := Lib.hid (HH.out.made hB1 (s := false) hN2 (by simp)); have h' := HH.out.keep hB1; obtain ⟨u0, k0⟩ := h'.c0; have k1' := h'.c1; have f0 := h'.blk.frozen p; have f1 := h'.blk.frozen (p + 1); have k0' : ∀ v, (w1.setCell ⟨d, p + 1, none⟩ v).cell? ⟨d, p, none⟩ = some u0 := (fun v => by rw [World.cell?_setCell_other _ _ _ _ (fun hh => by injection hh with _ hh _; omega)]; exact k0); clear hN2 h'))
  all_goals
    clear p1 k1
    go_wp2
    go_ret
    exact HF.out
end Go.Proofs.YtgcpjlniamebgaaGreatDoor

set_option linter.unusedSimpArgs false
set_option linter.unusedVariables false
namespace Go.Proofs.YtgcpjlniamebgaaGreatDoor
open Go.RowKit Go.Bg Dg

set_option maxRecDepth 100000 in
set_option maxHeartbeats 2000000 in
theorem intRsh_neg (d p b o : Nat) (N k : Nat) (w : World) (h : NewInt w d p) (h1 : BigAt 144 w b o true N) (hne : b ≠ d) (hk0 : 0 < k) (hk : k ≤ 1000000) (L : Nat) (hL : L ≤ 300000) (hN : N < W64 ^ L) :
    Calls Tryz.prog 124 #[.pointer (some ⟨d, p, none⟩), .pointer (some ⟨b, o, none⟩), .int .u64 k] w (IntIs d p true ((N - 1) / 2 ^ k + 1) w) := by
  obtain ⟨a, n, c, p0, p1, hNN⟩ := h1.val
  have hn : n ≤ 300000 := Nat.le_trans (len_le W64_gt hNN.num.top hN) hL
  have hpos : 1 ≤ N := h1.zero rfl
  have HNL := Lib.hid (show N - 1 < W64 ^ L from by omega)
  have HPO := Lib.hid hpos
  have HH := Lib.hid h
  have HN := Lib.hid hNN
  have k1 := h.c1
  clear h h1 hNN hN hpos
  go_enter Tryz.func124, Tryz.ntmps124
  go_upto_region 2 with fail
  clear p0
  have hd0 : Below w.heap.size w w.drew := (Below.refl _ _).drew
  go_region_held3 (fun w' => w'.cell? ⟨d, p + 1, none⟩ = some (.slice none 0 0) ∧ w'.cell? ⟨b, o + 1, none⟩ = some (.slice a n c))
    (first | with_reducible exact ⟨k1, p1⟩ | exact ⟨cell_keep k1 (by assumption), cell_keep p1 (by assumption)⟩)
    (first | (go_at_call 172; (with_reducible refine (natOne_any _).mono ?_); rintro e w1 ⟨rfl, hw1⟩; have hb1 : Below w.heap.size w w1 := (by rw [hw1]; exact Below.alloc' hd0 _); have hone : BigN 144 w1 (some ⟨w.heap.size, 0, none⟩) 1 1 1 := (by rw [hw1]; exact natOne_is w.drew); clear hw1) | (go_at_call 164; (with_reducible refine (natSub_own a (some ⟨w.heap.size, 0, none⟩) n 1 c 1 N 1 _ ?_ hone (by omega) HPO.out (by omega)).mono ?_); exact HN.out.keep hb1; rintro e w2 ⟨n2, c2, rfl, hc2, hN2, hB2⟩; have hb2 := Below.then hb1 (Nat.le_refl _) hB2))
  have hg : w1.heap.size < w2.heap.size := by
    rcases hN2.buf with ⟨h, _⟩ | ⟨g', cur, h, hg, _⟩
    · cases h
    · injection h with h
      injection h with h _ _
      have := hg.lt
      omega
  have hn2 : n2 ≤ 300000 := Nat.le_trans (len_le W64_gt hN2.num.top HNL.out) hL
  have HS1 := Lib.hid hb1.size
  have HB2 := Lib.hid hb2
  have HN2 := Lib.hid hN2
  clear hN2 hb1 hb2 hone k1 p1 hd0 hB2
  obtain ⟨g, hgg⟩ : ∃ g, g = w1.heap.size := ⟨_, rfl⟩
  rw [← hgg] at HN2 hg HS1
  rw [← hgg]
  clear hgg
  go_wp2_with fail
  refine (natRsh_self g n2 c2 (N - 1) k w.heap.size w _ HB2.out HS1.out HN2.out hn2 hk0 hk).mono ?_
  rintro e w3 ⟨n3, rfl, hN3, hB3⟩
  have hg3 : g < w3.heap.size := by
    rcases hN3.buf with ⟨h, _⟩ | ⟨g', cur, h, hg, _⟩
    · cases h
    · injection h with h
      injection h with h _ _
      have := hg.lt
      omega
  have hn3 : n3 ≤ 300000 := Nat.le_trans (len_le W64_gt hN3.num.top (Nat.lt_of_le_of_lt (Nat.div_le_self _ _) HNL.out)) hL
  have HN3 := Lib.hid hN3
  have HB3 := Lib.hid hB3
  clear hN3 hB3
  go_wp2_with fail
  refine (natOne_any _).mono ?_
  rintro e w4 ⟨rfl, hw4⟩
  have HB4 := Lib.hid (show Below w3.heap.size w3 w4 from by rw [hw4]; exact Below.alloc' (Below.refl _ _) _)
  have HO4 := Lib.hid (show BigN 144 w4 (some ⟨w3.heap.size, 0, none⟩) 1 1 1 from by rw [hw4]; exact natOne_is w3)
  clear hw4
  go_wp2_with fail
  refine (natAddOne_own g n3 c2 ((N - 1) / 2 ^ k) w3.heap.size w.heap.size w _ (Below.then HB3.out (Nat.le_refl _) HB4.out) HS1.out (HN3.out.keep HB4.out) hc2 HO4.out (by omega) hn3).mono ?_
  rintro e w5 ⟨a5, n5, c5, rfl, hN5, hB5⟩
  have HF := Lib.hid (HH.out.made hB5 (s := true) hN5 (fun _ => Nat.succ_pos _))
  have h' := HH.out.keep hB5
  obtain ⟨u0, k0⟩ := h'.c0
  have k1' := h'.c1
  have f0 := h'.blk.frozen p
  have f1 := h'.blk.frozen (p + 1)
  have k0' : ∀ v, (w5.setCell ⟨d, p + 1, none⟩ v).cell? ⟨d, p, none⟩ = some u0 := fun v => by
    rw [World.cell?_setCell_other _ _ _ _ (fun hh => by injection hh with _ hh _; omega)]; exact k0
  clear hN5 hB5 h'
  go_wp2
  go_ret
  exact HF.out

theorem sg_shl (s : Bool) (N k : Nat) : sg s (N * 2 ^ k) = shz (sg s N) true k := by
  unfold shz sg
  cases s
  · simp
  · simp [Int.neg_mul]
theorem sg_shr_pos (N k : Nat) : sg false (N / 2 ^ k) = shz (sg false N) false k := by
  unfold shz sg
  simp
theorem sg_shr_neg (N k : Nat) (h : 0 < N) : sg true ((N - 1) / 2 ^ k + 1) = shz (sg true N) false k := by
  have e : shz (sg true N) false k = (sg true N) / 2 ^ k := rfl
  rw [e]
  have hn : sg true N < 0 := by simp [sg]; omega
  rw [shr_neg hn, sg_nat]
  rfl
end Go.Proofs.YtgcpjlniamebgaaGreatDoor

set_option linter.unusedSimpArgs false
set_option linter.unusedVariables false
namespace Go.Proofs.YtgcpjlniamebgaaGreatDoor
open Go.RowKit Go.Bg Dg

theorem fit64_bnd {z : Int} (h : fit64 z = true) : -9223372036854775808 ≤ z ∧ z < 9223372036854775808 := by
  unfold fit64 at h
  simp at h
  omega

theorem shr64 {z : Int} (h : fit64 z = true) (k : Nat) : z / 2 ^ min k 64 = shz z false k := by
  have hz := fit64_bnd h
  by_cases hk : k ≤ 64
  · rw [Nat.min_eq_left hk]; rfl
  · rw [Nat.min_eq_right (by omega)]
    show z / 2 ^ 64 = z / 2 ^ k
    have h64 : (2 : Nat) ^ 64 ≤ 2 ^ k := Nat.pow_le_pow_right (by decide) (by omega)
    have hs : (2 : Nat) ^ 64 = 18446744073709551616 := by decide
    by_cases hn : z < 0
    · rw [shr_neg hn, shr_neg hn, Nat.div_eq_of_lt (show z.natAbs - 1 < 2 ^ 64 from by omega), Nat.div_eq_of_lt (show z.natAbs - 1 < 2 ^ k from by omega)]
    · rw [shr_pos (by omega), shr_pos (by omega), Nat.div_eq_of_lt (show z.natAbs < 2 ^ 64 from by omega), Nat.div_eq_of_lt (show z.natAbs < 2 ^ k from by omega)]

theorem shr_fit64 {z : Int} (h : fit64 z = true) (k : Nat) : fit64 (shz z false k) = true := by
  have hz := fit64_bnd h
  show fit64 (z / 2 ^ k) = true
  unfold fit64
  simp only [decide_eq_true_eq, Bool.and_eq_true]
  by_cases hn : z < 0
  · rw [shr_neg hn]
    have := Nat.div_le_self (z.natAbs - 1) (2 ^ k)
    generalize (z.natAbs - 1) / 2 ^ k = q at *
    omega
  · rw [shr_pos (by omega)]
    have := Nat.div_le_self z.natAbs (2 ^ k)
    generalize z.natAbs / 2 ^ k = q at *
    omega

theorem shz_zero (z : Int) (left : Bool) : shz z left 0 = z := by
  unfold shz
  cases left <;> simp

set_option maxRecDepth 100000 in
theorem direction_any (left : Bool) (w : World) : Calls Tryz.prog 52 #[.bool left] w fun e w' => e = .returned (.int .i64 (if left then 20 else 21)) ∧ w = w' := by
  cases left
  · go_enter Tryz.func52, Tryz.ntmps52
    go_wp2
    go_ret
    exact ⟨rfl, rfl⟩
  · go_enter Tryz.func52, Tryz.ntmps52
    go_wp2
    go_ret
    exact ⟨rfl, rfl⟩

set_option maxRecDepth 100000 in
set_option maxHeartbeats 1000000 in
theorem shift0_any (t : Int) (v : Value) (z : Int) (w : World) (h : CInt w v z) :
    Calls Tryz.prog 51 #[v, .int .i64 t, .int .u64 0] w fun e w' => e = .returned v ∧ Below w.heap.size w w' := by
  have HB := Lib.hid (fun (o : Obj) => (Below.alloc' (Below.refl w.heap.size w) o))
  have HB0 := Lib.hid (Below.refl w.heap.size w)
  rcases h with ⟨rfl, _⟩ | ⟨b, o, s, N, rfl, _, _⟩
  · obtain ⟨t1, t2, t3, t4, t5, t6, t7, t8, t9⟩ := ta_int64Val
    go_enter Tryz.func51, Tryz.ntmps51
    go_wp2
    go_ret
    exact ⟨rfl, by first | exact HB0.out | exact HB.out _⟩
  · obtain ⟨t1, t2, t3, t4, t5, t6, t7, t8, t9⟩ := ta_intVal
    go_enter Tryz.func51, Tryz.ntmps51
    go_wp2
    go_ret
    exact ⟨rfl, by first | exact HB0.out | exact HB.out _⟩

set_option maxRecDepth 100000 in
set_option maxHeartbeats 2000000 in
theorem shiftL_any (v : Value) (z : Int) (k L : Nat) (w : World) (h : CInt w v z) (hk0 : 0 < k) (hk : k ≤ 1000000) (hL : L ≤ 300000) (hz : z.natAbs < W64 ^ L) :
    Calls Tryz.prog 51 #[v, .int .i64 20, .int .u64 k] w fun e w' => ∃ u, e = .returned u ∧ CInt w' u (shz z true k) ∧ Below w.heap.size w w' := by
  have hk00 : ((k : Int) == 0) = false := by simp; omega
  rcases h with ⟨rfl, hf⟩ | ⟨b, o, s, N, rfl, hI, rfl⟩
  · obtain ⟨t1, t2, t3, t4, t5, t6, t7, t8, t9⟩ := ta_int64Val
    have HF := Lib.hid (fit64_bnd hf)
    have hfld := field_intVal
    have HZ := Lib.hid hz
    clear hf hz
    go_enter Tryz.func51, Tryz.ntmps51
    go_wp2_with fail
    refine (i64toi_cap z HF.out _).mono ?_
    rintro e w1 ⟨b, rfl, hb, hI, hC, hB1⟩
    go_wp2_with fail
    refine (intLsh_self b 0 _ _ k _ hI hC hk0 hk L hL HZ.out).mono ?_
    rintro e w2 ⟨rfl, hI2, hU⟩
    have HB2 := Lib.hid (hU.upd.below hB1 hB1.size (fun k _ e => by subst e; exact hb))
    go_wp2_with fail
    refine (makeInt_any b 0 _ _ _ hI2).mono ?_
    rintro e w3 ⟨u, rfl, hu, rfl⟩
    rw [sg_shl, sg_natAbs] at hu
    clear hI hC hI2 hU hB1
    go_wp2
    go_ret
    exact ⟨_, rfl, hu, HB2.out⟩
  · obtain ⟨t1, t2, t3, t4, t5, t6, t7, t8, t9⟩ := ta_intVal
    obtain ⟨W0, hW0⟩ : ∃ W0, W0 = w.alloc (.cells #[.pointer (some ⟨b, o, none⟩)] 108) := ⟨_, rfl⟩
    have HW := Lib.hid hW0
    have hb0 : Below w.heap.size w W0 := by rw [hW0]; exact Below.alloc' (Below.refl _ _) _
    have hblk : BlkAt W0 w.heap.size #[.pointer (some ⟨b, o, none⟩)] 108 := by rw [hW0]; exact BlkAt.new _ _ _
    have c0 := hblk.cell 0
    simp only [List.getElem?_toArray, List.getElem?_cons_zero] at c0
    have HI := Lib.hid (hI.keep hb0)
    have HZ := Lib.hid (show N < W64 ^ L from by rwa [sg_nat] at hz)
    have HBK := Lib.hid hI.blk.lt
    clear hW0 hI hblk hz
    go_enter Tryz.func51, Tryz.ntmps51
    go_wp2_with fail
    rw [← HW.out]
    refine (newInt_any _).mono ?_
    rintro e w1 ⟨rfl, hw1⟩
    have hn1 : NewInt w1 W0.heap.size 0 := by rw [hw1]; exact newInt_is W0
    have hB1 : Below W0.heap.size W0 w1 := by rw [hw1]; exact Below.alloc' (Below.refl _ _) _
    clear hw1
    replace c0 := cell_keep c0 hB1
    have HB1 := Lib.hid (Below.then hb0 (Nat.le_refl _) hB1)
    have hne : b ≠ W0.heap.size := by have := HBK.out; have := hb0.size; omega
    go_wp2_with fail
    refine (intLsh_new W0.heap.size 0 b o s N k _ hn1 (HI.out.keep hB1) hne hk0 hk L hL HZ.out).mono ?_
    rintro e w2 ⟨rfl, hI2, hU⟩
    have HB2 := Lib.hid (hU.upd.below HB1.out HB1.out.size (fun k _ e => by subst e; exact hb0.size))
    go_wp2_with fail
    refine (makeInt_any W0.heap.size 0 _ _ _ hI2).mono ?_
    rintro e w3 ⟨u, rfl, hu, rfl⟩
    rw [sg_shl] at hu
    clear hI2 hU hB1 hn1
    go_wp2
    go_ret
    exact ⟨_, rfl, hu, HB2.out⟩

set_option maxRecDepth 100000 in
set_option maxHeartbeats 2000000 in
theorem shiftR_any (v : Value) (z : Int) (k L : Nat) (w : World) (h : CInt w v z) (hk0 : 0 < k) (hk : k ≤ 1000000) (hL : L ≤ 300000) (hz : z.natAbs < W64 ^ L) :
    Calls Tryz.prog 51 #[v, .int .i64 21, .int .u64 k] w fun e w' => ∃ u, e = .returned u ∧ CInt w' u (shz z false k) ∧ Below w.heap.size w w' := by
  have hk00 : ((k : Int) == 0) = false := by simp; omega
  rcases h with ⟨rfl, hf⟩ | ⟨b, o, s, N, rfl, hI, rfl⟩
  · obtain ⟨t1, t2, t3, t4, t5, t6, t7, t8, t9⟩ := ta_int64Val
    have HF := Lib.hid (shr_fit64 hf k)
    have HE := Lib.hid (shr64 hf k)
    have HB0 := Lib.hid (Below.refl w.heap.size w)
    clear hf hz
    go_enter Tryz.func51, Tryz.ntmps51
    go_wp2
    go_ret
    refine ⟨_, rfl, .inl ⟨?_, HF.out⟩, HB0.out⟩
    rw [← HE.out]
    first
      | rfl
      | (simp; done)
  · obtain ⟨t1, t2, t3, t4, t5, t6, t7, t8, t9⟩ := ta_intVal
    obtain ⟨W0, hW0⟩ : ∃ W0, W0 = w.alloc (.cells #[.pointer (some ⟨b, o, none⟩)] 108) := ⟨_, rfl⟩
    have HW := Lib.hid hW0
    have hb0 : Below w.heap.size w W0 := by rw [hW0]; exact Below.alloc' (Below.refl _ _) _
    have hblk : BlkAt W0 w.heap.size #[.pointer (some ⟨b, o, none⟩)] 108 := by rw [hW0]; exact BlkAt.new _ _ _
    have c0 := hblk.cell 0
    simp only [List.getElem?_toArray, List.getElem?_cons_zero] at c0
    have HI := Lib.hid (hI.keep hb0)
    have HZ := Lib.hid (show N < W64 ^ L from by rwa [sg_nat] at hz)
    have HBK := Lib.hid hI.blk.lt
    have HP := Lib.hid hI.zero
    clear hW0 hI hblk hz
    go_enter Tryz.func51, Tryz.ntmps51
    go_wp2_with fail
    rw [← HW.out]
    refine (newInt_any _).mono ?_
    rintro e w1 ⟨rfl, hw1⟩
    have hn1 : NewInt w1 W0.heap.size 0 := by rw [hw1]; exact newInt_is W0
    have hB1 : Below W0.heap.size W0 w1 := by rw [hw1]; exact Below.alloc' (Below.refl _ _) _
    clear hw1
    replace c0 := cell_keep c0 hB1
    have HB1 := Lib.hid (Below.then hb0 (Nat.le_refl _) hB1)
    have hne : b ≠ W0.heap.size := by have := HBK.out; have := hb0.size; omega
    cases s
    · go_wp2_with fail
      refine (intRsh_pos W0.heap.size 0 b o N k _ hn1 (HI.out.keep hB1) hne hk0 hk L hL HZ.out).mono ?_
      rintro e w2 ⟨rfl, hI2, hU⟩
      have HB2 := Lib.hid (hU.upd.below HB1.out HB1.out.size (fun k _ e => by subst e; exact hb0.size))
      go_wp2_with fail
      refine (makeInt_any W0.heap.size 0 _ _ _ hI2).mono ?_
      rintro e w3 ⟨u, rfl, hu, rfl⟩
      rw [sg_shr_pos] at hu
      clear hI2 hU hB1 hn1
      go_wp2
      go_ret
      exact ⟨_, rfl, hu, HB2.out⟩
    · go_wp2_with fail
      refine (intRsh_neg W0.heap.size 0 b o N k _ hn1 (HI.out.keep hB1) hne hk0 hk L hL HZ.out).mono ?_
      rintro e w2 ⟨rfl, hI2, hU⟩
      have HB2 := Lib.hid (hU.upd.below HB1.out HB1.out.size (fun k _ e => by subst e; exact hb0.size))
      go_wp2_with fail
      refine (makeInt_any W0.heap.size 0 _ _ _ hI2).mono ?_
      rintro e w3 ⟨u, rfl, hu, rfl⟩
      rw [sg_shr_neg N k (HP.out (by simp))] at hu
      clear hI2 hU hB1 hn1
      go_wp2
      go_ret
      exact ⟨_, rfl, hu, HB2.out⟩

theorem shift_any (left : Bool) (v : Value) (z : Int) (k L : Nat) (w : World) (h : CInt w v z) (hk : k ≤ 1000000) (hL : L ≤ 300000) (hz : z.natAbs < W64 ^ L) :
    Calls Tryz.prog 51 #[v, .int .i64 (if left then 20 else 21), .int .u64 k] w fun e w' => ∃ u, e = .returned u ∧ CInt w' u (shz z left k) ∧ Below w.heap.size w w' := by
  by_cases h0 : k = 0
  · subst h0
    refine (shift0_any _ v z w h).mono ?_
    rintro e w1 ⟨rfl, hB⟩
    exact ⟨_, rfl, by rw [shz_zero]; exact h.keep hB, hB⟩
  · cases left
    · exact shiftR_any v z k L w h (by omega) hk hL hz
    · exact shiftL_any v z k L w h (by omega) hk hL hz

theorem w64_two (L : Nat) : W64 ^ L = 2 ^ (64 * L) := by rw [Nat.pow_mul]; rfl

set_option maxRecDepth 100000 in
set_option maxHeartbeats 2000000 in
theorem implShift_any (x : Vl) (left : Bool) (k K B : Nat) (w : World) (h : VlAt w x) (hk3 : x.kind = 3) (hn : x.wn ≤ K) (hK : K ≤ 1000) (hk : k ≤ 64 * B) (hB : B ≤ 100) :
    Calls Tryz.prog 19 #[.agg #[.int .i64 x.kind, .bool x.truth, .string x.text, .bool x.neg, .slice x.wa x.wn x.wc, .slice x.da x.dn x.dc, .bool x.ineg, .slice x.ia x.inn x.ic, .slice x.ea x.en x.ec], .bool left, .int .u64 k] w (GivesV (IsZ (shz (sg x.neg (val W64 x.wf x.wn)) left k) (K + B)) w) := by
  obtain ⟨W0, hW0⟩ : ∃ W0, W0 = (w.alloc (.cells #[.int .i64 x.kind, .bool x.truth, .string x.text, .bool x.neg, .slice x.wa x.wn x.wc, .slice x.da x.dn x.dc, .bool x.ineg, .slice x.ia x.inn x.ic, .slice x.ea x.en x.ec] 26)).alloc (.cells #[.int .i64 0, .bool false, .string ⟨#[]⟩, .bool false, .slice none 0 0, .slice none 0 0, .bool false, .slice none 0 0, .slice none 0 0] 26) := ⟨_, rfl⟩
  have HW := Lib.hid hW0
  have hb0 : Below w.heap.size w W0 := by rw [hW0]; exact Below.alloc' (Below.alloc' (Below.refl _ _) _) _
  have X : Box9 W0 w.heap.size x := by rw [hW0]; exact (Box9.new w x _ rfl).alloc _
  have hR : BlkAt W0 (w.heap.size + 1) #[.int .i64 0, .bool false, .string ⟨#[]⟩, .bool false, .slice none 0 0, .slice none 0 0, .bool false, .slice none 0 0, .slice none 0 0] 26 := by
    rw [hW0]
    have := BlkAt.new (w.alloc (.cells #[.int .i64 x.kind, .bool x.truth, .string x.text, .bool x.neg, .slice x.wa x.wn x.wc, .slice x.da x.dn x.dc, .bool x.ineg, .slice x.ia x.inn x.ic, .slice x.ea x.en x.ec] 26)) #[.int .i64 0, .bool false, .string ⟨#[]⟩, .bool false, .slice none 0 0, .slice none 0 0, .bool false, .slice none 0 0, .slice none 0 0] 26
    simpa using this
  have HX := Lib.hid (h.keep hb0)
  have hz : (sg x.neg (val W64 x.wf x.wn)).natAbs < W64 ^ K := by rw [sg_nat]; exact Nat.lt_of_lt_of_le (val_lt h.ws.lt) (Nat.pow_le_pow_right W64_pos hn)
  have HZ := Lib.hid hz
  have HZ2 := Lib.hid (show (shz (sg x.neg (val W64 x.wf x.wn)) left k).natAbs < W64 ^ (K + B) from by
    rw [w64_two] at hz ⊢
    exact shz_fit hz left hk)
  have HK := Lib.hid hk3
  have HT := Lib.hid (fun v z w h hz => shift_any left v z k K w h (by omega) (by omega) hz)
  have HD := Lib.hid (fun w => direction_any left w)
  clear hW0 h hk3 hz
  generalize (if left = true then (20 : Int) else 21) = T at *
  go_enter Tryz.func19, Tryz.ntmps19
  go_upto_region 1 with fail
  rw [← HW.out]
  obtain ⟨xc0, xc1, xc2, xc3, xc4, xc5, xc6, xc7, xc8⟩ := (X).all
  go_wp2_with fail
  refine (madeInt_any x _ HX.out HK.out (by omega)).mono ?_
  rintro e w1 ⟨u, rfl, hu, hB1⟩
  have hb1 := Below.then hb0 (Nat.le_refl _) hB1
  have hR1 := hR.keep hB1
  clear xc0 xc1 xc2 xc3 xc4 xc5 xc6 xc7 xc8 hB1 hR hb0
  go_wp2_with fail
  refine (HD.out _).mono ?_
  rintro e w1' ⟨rfl, rfl⟩
  go_wp2_with fail
  refine (HT.out u _ _ hu HZ.out).mono ?_
  rintro e w2 ⟨u2, rfl, hu2, hB2⟩
  have hb2 := Below.then hb1 (Nat.le_refl _) hB2
  have hR2 := hR1.keep hB2
  clear hR1 hb1
  go_wp2_with fail
  refine (toldZ_any u2 _ _ hu2 (K + B) (by omega) HZ2.out).mono ?_
  rintro e w4 ⟨y, rfl, hy, hP, hB4⟩
  have hb4 := Below.then hb2 (Nat.le_refl _) hB4
  have hR4 := hR2.keep hB4
  have HE := Lib.hid (givesV_end hR4 (Nat.le_add_right _ 1) hb4 hy hP)
  have rc0 := (hR4).cell 0; have rc1 := (hR4).cell 1; have rc2 := (hR4).cell 2; have rc3 := (hR4).cell 3; have rc4 := (hR4).cell 4; have rc5 := (hR4).cell 5; have rc6 := (hR4).cell 6; have rc7 := (hR4).cell 7; have rc8 := (hR4).cell 8; simp only [List.getElem?_toArray, List.getElem?_cons_zero, List.getElem?_cons_succ] at rc0 rc1 rc2 rc3 rc4 rc5 rc6 rc7 rc8
  have rf0 := (hR4).frozen 0; have rf1 := (hR4).frozen 1; have rf2 := (hR4).frozen 2; have rf3 := (hR4).frozen 3; have rf4 := (hR4).frozen 4; have rf5 := (hR4).frozen 5; have rf6 := (hR4).frozen 6; have rf7 := (hR4).frozen 7; have rf8 := (hR4).frozen 8
  clear hR2 hR4 hb2 hb4 hB4 hy hP
  go_wp2
  exact bodyPost_ret (v := .agg #[.int .i64 y.kind, .bool y.truth, .string y.text, .bool y.neg, .slice y.wa y.wn y.wc, .slice y.da y.dn y.dc, .bool y.ineg, .slice y.ia y.inn y.ic, .slice y.ea y.en y.ec]) (by simp [results, Tryz.results19, go_sem, rc0, rc1, rc2, rc3, rc4, rc5, rc6, rc7, rc8]) rfl HE.out
end Go.Proofs.YtgcpjlniamebgaaGreatDoor
