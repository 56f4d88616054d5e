/-
  Contracts and lemmas: VecB BigI BigJ BigK BigL BigM.
-/
import Derived.IntWalk
import Derived.Test.YtgmienggfaahlaaGreatDoorK03
import Derived.Laws.CopyOwn
import Derived.Lib.Builder
set_option linter.unusedSimpArgs false
set_option linter.unusedVariables false
set_option maxRecDepth 100000
set_option maxHeartbeats 8000000
namespace Go.Proofs.YtgmienggfaahlaaGreatDoor
open Go.RowKit Go.Bg Dg
def VecIs (g o n : Nat) (cur : Array Value) (h : Nat → Nat) (c : Nat) (w : World) (e : Ending) (w' : World) : Prop :=
  e = .returned (.int .u64 (c : Nat)) ∧ RowUp 155 w w' g o n cur h
def bor (X Y k : Nat) : Nat := if X % W64 ^ k < Y % W64 ^ k then 1 else 0
theorem bor_le (X Y k : Nat) : bor X Y k ≤ 1 := by unfold bor; split <;> omega
theorem bor_zero (X Y : Nat) : bor X Y 0 = 0 := by simp [bor, Nat.mod_one]
theorem subw_step {X Y : Nat} (hXY : Y ≤ X) (k : Nat) :
    (dg W64 X k + 18446744073709551616 - dg W64 Y k - bor X Y k) % 18446744073709551616 = dg W64 (X - Y) k ∧
    (if dg W64 X k < dg W64 Y k + bor X Y k then 1 else 0 : Nat) = bor X Y (k + 1) := by
  have h := sub_step W64_pos X Y k hXY
  have hc := bor_le X Y k
  have hx := W64_lt (dg_lt W64_pos X k)
  have hy := W64_lt (dg_lt W64_pos Y k)
  have hd := W64_lt (dg_lt W64_pos (X - Y) k)
  have e : (if X % W64 ^ k < Y % W64 ^ k then (1 : Int) else 0) = (bor X Y k : Int) := by unfold bor; split <;> rfl
  have e2 : bor X Y (k + 1) = if X % W64 ^ (k + 1) < Y % W64 ^ (k + 1) then 1 else 0 := rfl
  rw [e] at h
  have hW : ((W64 : Nat) : Int) = 18446744073709551616 := rfl
  rw [hW] at h
  rw [e2]
  generalize bor X Y k = c at *
  generalize dg W64 (X - Y) k = d at *
  generalize dg W64 X k = x at *
  generalize dg W64 Y k = y at *
  by_cases hl : x < y + c
  · obtain ⟨h1, h2⟩ := h.1 (by omega)
    rw [if_pos hl, if_pos h2]
    exact ⟨by omega, rfl⟩
  · obtain ⟨h1, h2⟩ := h.2 (by omega)
    rw [if_neg hl, if_neg h2]
    exact ⟨by omega, rfl⟩
theorem addVVg_any (g o n c0 b1 o1 c1 b2 o2 c2 : Nat) (cur : Array Value) (X Y : Nat) (w : World) (hg : BlkAt w g cur 155) (hn : n ≤ 1000000) (hr : o + n ≤ cur.size) (h0 : n ≤ c0) (h0m : c0 ≤ maxLen)
    (h1 : WCells w b1 o1 n (dg W64 X)) (h1c : n ≤ c1) (h1m : c1 ≤ maxLen) (h2 : WCells w b2 o2 n (dg W64 Y)) (h2c : n ≤ c2) (h2m : c2 ≤ maxLen) (hn1 : b1 ≠ g ∨ o ≤ o1) (hn2 : b2 ≠ g ∨ o ≤ o2) :
    Calls Tryz.prog 226 #[.slice (some ⟨g, o, none⟩) n c0, .slice (some ⟨b1, o1, none⟩) n c1, .slice (some ⟨b2, o2, none⟩) n c2] w
      (VecIs g o n cur (dg W64 (X + Y)) ((X % W64 ^ n + Y % W64 ^ n) / W64 ^ n) w) := by
  unfold maxLen at h0m h1m h2m
  have HG := Lib.hid hg
  have H1 := Lib.hid h1
  have H2 := Lib.hid h2
  clear hg h1 h2
  go_enter Tryz.func226, Tryz.ntmps226
  go_wp2
  go_loopw [6, 7, 8, 9, 25] (fun c _ _ _ i wr => ∃ k : Nat, k ≤ n ∧ i = .int .i64 k ∧ c = .int .u64 (((X % W64 ^ k + Y % W64 ^ k) / W64 ^ k : Nat) : Int) ∧ RowUp 155 w wr g o k cur (dg W64 (X + Y)))
    (fun _ _ _ _ i _ => n - (intOf i).toNat)
  case atStart => exact ⟨0, Nat.zero_le _, rfl, by simp, RowUp.start HG.out _ _⟩
  case round =>
    obtain ⟨k, hk, rfl, rfl, hR⟩ := hrel
    by_cases k1 : k < n
    · have e1 := hR.read HG.out (H1.out k k1) hn1 (Nat.le_refl _)
      have e2 := hR.read HG.out (H2.out k k1) hn2 (Nat.le_refl _)
      have d1 : dg W64 X k < 18446744073709551616 := W64_lt (dg_lt W64_pos _ _)
      have d2 : dg W64 Y k < 18446744073709551616 := W64_lt (dg_lt W64_pos _ _)
      have hc := add_carry_le W64_pos X Y k
      have HS := Lib.hid (add_step W64_pos X Y k)
      have HR := Lib.hid hR
      have hlt := hR.room (j := o + k) (by omega)
      obtain ⟨⟨u0, p0⟩, f0⟩ := hlt
      clear hR
      generalize (X % W64 ^ k + Y % W64 ^ k) / W64 ^ k = c at *
      generalize dg W64 X k = x at *
      generalize dg W64 Y k = y at *
      have HE := Lib.hid (show (x + y + c) % 18446744073709551616 = dg W64 (X + Y) k from by rw [← HS.out.1]; show _ % W64 = _; congr 1; omega)
      have HF := Lib.hid (show (x + y + c) / 18446744073709551616 = (X % W64 ^ (k + 1) + Y % W64 ^ (k + 1)) / W64 ^ (k + 1) from by rw [← HS.out.2]; show _ / W64 = _; congr 1; omega)
      go_wp2
      go_quiet (first | (go_at_call 227; refine Calls.quiet_of_same ((bitsAdd_any x y c hc _).mono (fun _ _ h => ⟨h.1, h.2.symm⟩))))
      go_wp2
      have hq1 : ((x : Int) + y + c) % 18446744073709551616 = (((x + y + c) % 18446744073709551616 : Nat) : Int) := by omega
      have hq2 : ((x : Int) + y + c) / 18446744073709551616 = (((x + y + c) / 18446744073709551616 : Nat) : Int) := by omega
      rw [hq1, hq2]
      go_roundw
      case rel => exact ⟨k + 1, by omega, by go_num, by rw [HF.out], (HR.out.drewN _).step (by omega) HE.out⟩
      case measure => simp [intOf]; omega
    · obtain rfl : k = n := by omega
      go_wp2
      go_ret
      exact ⟨rfl, hR⟩
theorem addVV_any (g o n c0 b1 o1 c1 b2 o2 c2 : Nat) (cur : Array Value) (X Y : Nat) (w : World) (hg : BlkAt w g cur 155) (hn : n ≤ 1000000) (hr : o + n ≤ cur.size) (h0 : n ≤ c0) (h0m : c0 ≤ maxLen)
    (h1 : WCells w b1 o1 n (dg W64 X)) (h1c : n ≤ c1) (h1m : c1 ≤ maxLen) (h2 : WCells w b2 o2 n (dg W64 Y)) (h2c : n ≤ c2) (h2m : c2 ≤ maxLen) (hn1 : b1 ≠ g ∨ o ≤ o1) (hn2 : b2 ≠ g ∨ o ≤ o2) :
    Calls Tryz.prog 195 #[.slice (some ⟨g, o, none⟩) n c0, .slice (some ⟨b1, o1, none⟩) n c1, .slice (some ⟨b2, o2, none⟩) n c2] w
      (VecIs g o n cur (dg W64 (X + Y)) ((X % W64 ^ n + Y % W64 ^ n) / W64 ^ n) w) := by
  have HS := Lib.hid (addVVg_any g o n c0 b1 o1 c1 b2 o2 c2 cur X Y w hg hn hr h0 h0m h1 h1c h1m h2 h2c h2m hn1 hn2)
  clear hg h1 h2
  go_enter Tryz.func195, Tryz.ntmps195
  go_wp2_with fail
  refine HS.out.mono ?_
  rintro e w1 ⟨rfl, hR⟩
  have HR := Lib.hid hR
  clear hR
  go_wp2
  go_ret
  exact ⟨rfl, HR.out⟩
theorem subVVg_any (g o n c0 b1 o1 c1 b2 o2 c2 : Nat) (cur : Array Value) (X Y : Nat) (hXY : Y ≤ X) (w : World) (hg : BlkAt w g cur 155) (hn : n ≤ 1000000) (hr : o + n ≤ cur.size) (h0 : n ≤ c0) (h0m : c0 ≤ maxLen)
    (h1 : WCells w b1 o1 n (dg W64 X)) (h1c : n ≤ c1) (h1m : c1 ≤ maxLen) (h2 : WCells w b2 o2 n (dg W64 Y)) (h2c : n ≤ c2) (h2m : c2 ≤ maxLen) (hn1 : b1 ≠ g ∨ o ≤ o1) (hn2 : b2 ≠ g ∨ o ≤ o2) :
    Calls Tryz.prog 228 #[.slice (some ⟨g, o, none⟩) n c0, .slice (some ⟨b1, o1, none⟩) n c1, .slice (some ⟨b2, o2, none⟩) n c2] w
      (VecIs g o n cur (dg W64 (X - Y)) (bor X Y n) w) := by
  unfold maxLen at h0m h1m h2m
  have HG := Lib.hid hg
  have H1 := Lib.hid h1
  have H2 := Lib.hid h2
  clear hg h1 h2
  go_enter Tryz.func228, Tryz.ntmps228
  go_wp2
  go_loopw [6, 7, 8, 9, 25] (fun c _ _ _ i wr => ∃ k : Nat, k ≤ n ∧ i = .int .i64 k ∧ c = .int .u64 (bor X Y k : Int) ∧ RowUp 155 w wr g o k cur (dg W64 (X - Y)))
    (fun _ _ _ _ i _ => n - (intOf i).toNat)
  case atStart => exact ⟨0, Nat.zero_le _, rfl, by rw [bor_zero]; rfl, RowUp.start HG.out _ _⟩
  case round =>
    obtain ⟨k, hk, rfl, rfl, hR⟩ := hrel
    by_cases k1 : k < n
    · have e1 := hR.read HG.out (H1.out k k1) hn1 (Nat.le_refl _)
      have e2 := hR.read HG.out (H2.out k k1) hn2 (Nat.le_refl _)
      have d1 : dg W64 X k < 18446744073709551616 := W64_lt (dg_lt W64_pos _ _)
      have d2 : dg W64 Y k < 18446744073709551616 := W64_lt (dg_lt W64_pos _ _)
      have hc := bor_le X Y k
      have HS := Lib.hid (subw_step hXY k)
      have HR := Lib.hid hR
      have hlt := hR.room (j := o + k) (by omega)
      obtain ⟨⟨u0, p0⟩, f0⟩ := hlt
      clear hR
      generalize bor X Y k = c at *
      generalize dg W64 X k = x at *
      generalize dg W64 Y k = y at *
      have HE := Lib.hid (show (x + 18446744073709551616 - y - c) % 18446744073709551616 = dg W64 (X - Y) k from HS.out.1)
      have HF := Lib.hid (show (if x < y + c then 1 else 0 : Nat) = bor X Y (k + 1) from HS.out.2)
      have hd1 : (x + 18446744073709551616 - y - c) % 18446744073709551616 < 18446744073709551616 := Nat.mod_lt _ (by decide)
      have HC := Lib.hid (fun w => (bitsSub_any x y c hc w).mono (fun _ _ h => (⟨h.1, h.2.symm⟩ : _ ∧ _)))
      generalize (x + 18446744073709551616 - y - c) % 18446744073709551616 = s at *
      generalize (if x < y + c then 1 else 0 : Nat) = d at *
      go_wp2
      go_quiet (first | (go_at_call 229; refine Calls.quiet_of_same (HC.out _)))
      go_wp2
      go_roundw
      case rel => exact ⟨k + 1, by omega, by go_num, by rw [HF.out], (HR.out.drewN _).step (by omega) HE.out⟩
      case measure => simp [intOf]; omega
    · obtain rfl : k = n := by omega
      go_wp2
      go_ret
      exact ⟨rfl, hR⟩
theorem subVV_any (g o n c0 b1 o1 c1 b2 o2 c2 : Nat) (cur : Array Value) (X Y : Nat) (hXY : Y ≤ X) (w : World) (hg : BlkAt w g cur 155) (hn : n ≤ 1000000) (hr : o + n ≤ cur.size) (h0 : n ≤ c0) (h0m : c0 ≤ maxLen)
    (h1 : WCells w b1 o1 n (dg W64 X)) (h1c : n ≤ c1) (h1m : c1 ≤ maxLen) (h2 : WCells w b2 o2 n (dg W64 Y)) (h2c : n ≤ c2) (h2m : c2 ≤ maxLen) (hn1 : b1 ≠ g ∨ o ≤ o1) (hn2 : b2 ≠ g ∨ o ≤ o2) :
    Calls Tryz.prog 197 #[.slice (some ⟨g, o, none⟩) n c0, .slice (some ⟨b1, o1, none⟩) n c1, .slice (some ⟨b2, o2, none⟩) n c2] w
      (VecIs g o n cur (dg W64 (X - Y)) (bor X Y n) w) := by
  have HS := Lib.hid (subVVg_any g o n c0 b1 o1 c1 b2 o2 c2 cur X Y hXY w hg hn hr h0 h0m h1 h1c h1m h2 h2c h2m hn1 hn2)
  clear hg h1 h2
  go_enter Tryz.func197, Tryz.ntmps197
  go_wp2_with fail
  refine HS.out.mono ?_
  rintro e w1 ⟨rfl, hR⟩
  have HR := Lib.hid hR
  clear hR
  go_wp2
  go_ret
  exact ⟨rfl, HR.out⟩
def cmpZ (x y : Int) : Int := if x < y then -1 else if y < x then 1 else 0
theorem cmpZ_sg (s t : Bool) (N M : Nat) (hs : s = true → 0 < N) (ht : t = true → 0 < M) :
    cmpZ (sg s N) (sg t M) = if s = t then (if s then -cmpI N M else cmpI N M) else if s then -1 else 1 := by
  unfold cmpZ cmpI sg
  cases s <;> cases t <;> simp only [if_true, if_false, Bool.false_eq_true, Bool.true_eq_false] at hs ht ⊢ <;> repeat' split
  all_goals (simp at *; try omega)
theorem wrap_neg_cmpI (N M : Nat) : wrap64 (-cmpI N M) = -cmpI N M := by
  have h : -1 ≤ cmpI N M ∧ cmpI N M ≤ 1 := by
    unfold cmpI; split
    · omega
    · split <;> omega
  unfold wrap64
  omega
theorem infoBigIntSize : (Tryz.prog.info? 168).map (·.size) = some 2 := by kernel_rfl
theorem intCmp_any (b1 o1 b2 o2 : Nat) (s t : Bool) (N M : Nat) (w : World) (h1 : BigAt 155 w b1 o1 s N) (h2 : BigAt 155 w b2 o2 t M) :
    Calls Tryz.prog 100 #[.pointer (some ⟨b1, o1, none⟩), .pointer (some ⟨b2, o2, none⟩)] w fun e w' => e = .returned (.int .i64 (cmpZ (sg s N) (sg t M))) ∧ ∃ m, w' = w.drewN m := by
  obtain ⟨j, hj, hj2⟩ := Option.map_eq_some_iff.1 infoBigIntSize
  have HR := Lib.hid (cmpZ_sg s t N M h1.zero h2.zero)
  obtain ⟨a, n, c, p0, p1, hN⟩ := h1.val
  obtain ⟨a', n', c', q0, q1, hM⟩ := h2.val
  by_cases hp : b1 = b2 ∧ o1 = o2
  · obtain ⟨rfl, rfl⟩ := hp
    have hq := run_eql_ptr_same (P := Tryz.prog) w ⟨b1, o1, none⟩ Tryz.underlying90 hj
    have e0 : s = t := by rw [p0] at q0; simpa using q0
    subst e0
    have e1 : N = M := by
      rw [p1] at q1
      injection q1 with q1; injection q1 with qa qn qc
      subst qa; subst qn
      refine eq_of_digits hN.num.lt hM.num.lt (fun i hi => ?_)
      obtain ⟨b, off, rfl, _⟩ := hN.num.form (by omega)
      have x1 := hN.num.cell hi
      have x2 := hM.num.cell hi
      rw [x1] at x2
      injection x2 with x2; injection x2 with _ x2; exact Int.ofNat.inj x2
    subst e1
    have hr : cmpZ (sg s N) (sg s N) = 0 := by simp [cmpZ]
    rw [hr]
    clear HR hr hN hM h1 h2 hj2
    go_enter Tryz.func100, Tryz.ntmps100
    go_wp2
    go_ret
    exact ⟨rfl, 0, rfl⟩
  · obtain ⟨cur1, e1, k1, _⟩ := h1.blk
    obtain ⟨cur2, e2, k2, _⟩ := h2.blk
    have hq := run_eql_ptr_other (P := Tryz.prog) (a := ⟨b1, o1, none⟩) (b := ⟨b2, o2, none⟩) w Tryz.underlying90 hj (by rw [hj2]; decide) (by intro h; apply hp; injection h with h h' _; exact ⟨h, h'⟩) k1 k2
    have HN := Lib.hid hN.num
    have HM := Lib.hid hM.num
    clear k1 k2 hj2 hN hM h1 h2 hp
    cases s <;> cases t
    · go_enter Tryz.func100, Tryz.ntmps100
      go_wp2
      go_quiet (fail)
      go_wp2
      go_quiet (first | (go_at_call 137; refine quiet_of2 (natCmp_any _ _ _ _ _ _ N M _ (HN.out.drewN _) (HM.out.drewN _))))
      go_wp2
      go_ret
      refine ⟨ret_int ?_, drewN_ex (by (try simp only [World.drewN_drewN]); exact rfl)⟩
      rw [HR.out]; simp
    · go_enter Tryz.func100, Tryz.ntmps100
      go_wp2
      go_quiet (fail)
      go_wp2
      go_ret
      exact ⟨ret_int (by rw [HR.out]; simp), drewN_ex (by (try simp only [World.drewN_drewN]); exact rfl)⟩
    · go_enter Tryz.func100, Tryz.ntmps100
      go_wp2
      go_quiet (fail)
      go_wp2
      go_ret
      exact ⟨ret_int (by rw [HR.out]; simp), drewN_ex (by (try simp only [World.drewN_drewN]); exact rfl)⟩
    · go_enter Tryz.func100, Tryz.ntmps100
      go_wp2
      go_quiet (fail)
      go_wp2
      go_quiet (first | (go_at_call 137; refine quiet_of2 (natCmp_any _ _ _ _ _ _ N M _ (HN.out.drewN _) (HM.out.drewN _))))
      go_wp2
      go_ret
      refine ⟨ret_int ?_, drewN_ex (by (try simp only [World.drewN_drewN]); exact rfl)⟩
      rw [HR.out, wrap_neg_cmpI]; simp
def CBig (w : World) (v : Value) (z : Int) : Prop := ∃ b o s N, v = .iface 98 (.agg #[.pointer (some ⟨b, o, none⟩)]) ∧ BigAt 155 w b o s N ∧ sg s N = z
theorem CBig.keep {w w' : World} {v : Value} {z : Int} (h : CBig w v z) (hb : Below w.heap.size w w') : CBig w' v z := by
  obtain ⟨b, o, s, N, rfl, h1, h2⟩ := h; exact ⟨b, o, s, N, rfl, h1.keep hb, h2⟩
def CSame (w : World) (u1 : Value) (z1 : Int) (u2 : Value) (z2 : Int) : Prop :=
  (u1 = .iface 87 (.int .i64 z1) ∧ fit64 z1 = true ∧ u2 = .iface 87 (.int .i64 z2) ∧ fit64 z2 = true) ∨ (CBig w u1 z1 ∧ CBig w u2 z2)
theorem fit64_bd {z : Int} (h : fit64 z = true) : -9223372036854775808 ≤ z ∧ z < 9223372036854775808 := by
  unfold fit64 at h; simpa using h
theorem match0Int_any (x : Int) (hx : fit64 x = true) (v : Value) (z : Int) (w : World) (h : CBig w v z) :
    Calls Tryz.prog 133 #[.iface 87 (.int .i64 x), v] w fun e w' => ∃ u, e = .returned (.tuple #[u, v]) ∧ CBig w' u x ∧ CBig w' v z ∧ Below w.heap.size w w' := by
  obtain ⟨b, o, s, N, rfl, hI, hz⟩ := h
  have HI := Lib.hid hI
  have HX := Lib.hid (fit64_bd hx)
  obtain ⟨_, _, _, t4, _, _, _, _, _⟩ := ta_intVal
  obtain ⟨_, _, u3, _, _, _, _, _, _⟩ := ta_int64Val
  clear hI hx
  go_enter Tryz.func133, Tryz.ntmps133
  go_wp2_with fail
  refine (i64toi_any x HX.out _).mono ?_
  rintro e w1 ⟨b', rfl, hJ, hB⟩
  go_wp2
  exact bodyPost_ret (v := .tuple #[.iface 98 (.agg #[.pointer (some ⟨b', 0, none⟩)]), .iface 98 (.agg #[.pointer (some ⟨b, o, none⟩)])]) (by simp [results, Tryz.results133, go_sem]) rfl
    ⟨_, rfl, ⟨_, _, _, _, rfl, hJ, sg_natAbs x⟩, ⟨_, _, _, _, rfl, HI.out.keep hB, hz⟩, hB⟩
theorem matchInt_any (v1 v2 : Value) (z1 z2 : Int) (w : World) (h1 : CInt w v1 z1) (h2 : CInt w v2 z2) :
    Calls Tryz.prog 57 #[v1, v2] w fun e w' => ∃ u1 u2, e = .returned (.tuple #[u1, u2]) ∧ CSame w' u1 z1 u2 z2 ∧ Below w.heap.size w w' := by
  have H1 := Lib.hid h1
  have H2 := Lib.hid h2
  rcases h1 with ⟨rfl, f1⟩ | ⟨b1, o1, s1, N1, rfl, k1, e1⟩ <;> rcases h2 with ⟨rfl, f2⟩ | ⟨b2, o2, s2, N2, rfl, k2, e2⟩
  · have F1 := Lib.hid f1
    have F2 := Lib.hid f2
    clear f1 f2
    go_enter Tryz.func57, Tryz.ntmps57
    go_wp2_with fail
    refine (ordInt_any _ z1 _ H1.out).mono ?_
    rintro e w1 ⟨rfl, rfl⟩
    go_wp2_with fail
    refine (ordInt_any _ z2 _ H2.out).mono ?_
    rintro e w1 ⟨rfl, rfl⟩
    simp only [ordOf, if_true]
    go_wp2
    exact bodyPost_ret (v := .tuple #[.iface 87 (.int .i64 z1), .iface 87 (.int .i64 z2)]) (by simp [results, Tryz.results57, go_sem]) rfl
      ⟨_, _, rfl, .inl ⟨rfl, F1.out, rfl, F2.out⟩, Below.refl _ _⟩
  · have F1 := Lib.hid f1
    have K2 := Lib.hid (show CBig w _ z2 from ⟨_, _, _, _, rfl, k2, e2⟩)
    clear f1 k2
    go_enter Tryz.func57, Tryz.ntmps57
    go_wp2_with fail
    refine (ordInt_any _ z1 _ H1.out).mono ?_
    rintro e w1 ⟨rfl, rfl⟩
    go_wp2_with fail
    refine (ordInt_any _ z2 _ H2.out).mono ?_
    rintro e w1 ⟨rfl, rfl⟩
    simp only [ordOf, if_true, if_neg (show ¬ (98 = 87) from by decide)]
    go_wp2_with fail
    refine (match0Int_any z1 F1.out _ z2 _ K2.out).mono ?_
    rintro e w1 ⟨u, rfl, hu, hv, hB⟩
    go_wp2
    exact bodyPost_ret (v := .tuple #[u, .iface 98 (.agg #[.pointer (some ⟨b2, o2, none⟩)])]) (by simp [results, Tryz.results57, go_sem]) rfl
      ⟨_, _, rfl, .inr ⟨hu, hv⟩, hB⟩
  · have F2 := Lib.hid f2
    have K1 := Lib.hid (show CBig w _ z1 from ⟨_, _, _, _, rfl, k1, e1⟩)
    clear f2 k1
    go_enter Tryz.func57, Tryz.ntmps57
    go_wp2_with fail
    refine (ordInt_any _ z1 _ H1.out).mono ?_
    rintro e w1 ⟨rfl, rfl⟩
    go_wp2_with fail
    refine (ordInt_any _ z2 _ H2.out).mono ?_
    rintro e w1 ⟨rfl, rfl⟩
    simp only [ordOf, if_true, if_neg (show ¬ (98 = 87) from by decide)]
    go_wp2_with fail
    refine (match0Int_any z2 F2.out _ z1 _ K1.out).mono ?_
    rintro e w1 ⟨u, rfl, hu, hv, hB⟩
    go_wp2
    exact bodyPost_ret (v := .tuple #[.iface 98 (.agg #[.pointer (some ⟨b1, o1, none⟩)]), u]) (by simp [results, Tryz.results57, go_sem]) rfl
      ⟨_, _, rfl, .inr ⟨hv, hu⟩, hB⟩
  · have K1 := Lib.hid (show CBig w _ z1 from ⟨_, _, _, _, rfl, k1, e1⟩)
    have K2 := Lib.hid (show CBig w _ z2 from ⟨_, _, _, _, rfl, k2, e2⟩)
    clear k1 k2
    go_enter Tryz.func57, Tryz.ntmps57
    go_wp2_with fail
    refine (ordInt_any _ z1 _ H1.out).mono ?_
    rintro e w1 ⟨rfl, rfl⟩
    go_wp2_with fail
    refine (ordInt_any _ z2 _ H2.out).mono ?_
    rintro e w1 ⟨rfl, rfl⟩
    simp only [ordOf, if_neg (show ¬ (98 = 87) from by decide)]
    go_wp2
    exact bodyPost_ret (v := .tuple #[.iface 98 (.agg #[.pointer (some ⟨b1, o1, none⟩)]), .iface 98 (.agg #[.pointer (some ⟨b2, o2, none⟩)])]) (by simp [results, Tryz.results57, go_sem]) rfl
      ⟨_, _, rfl, .inr ⟨K1.out, K2.out⟩, Below.refl _ _⟩
theorem cmpB_cmpZ (k : Nat) (x y : Int) : cmpB k (cmpZ x y) = if k = 0 then decide (x = y) else if k = 1 then decide (x ≠ y) else if k = 2 then decide (x < y) else if k = 3 then decide (x ≤ y) else if k = 4 then decide (y < x) else decide (y ≤ x) := by
  unfold cmpB cmpZ
  rcases Int.lt_trichotomy x y with h | h | h
  · have h1 : ¬ x = y := by omega
    have h2 : ¬ y < x := by omega
    have h3 : x ≤ y := by omega
    have h4 : ¬ y ≤ x := by omega
    simp [h, h1, h2, h3, h4]
  · subst h; simp
  · have h1 : ¬ x = y := by omega
    have h2 : ¬ x < y := by omega
    have h3 : y ≤ x := by omega
    have h4 : ¬ x ≤ y := by omega
    simp [h, h1, h2, h3, h4]
theorem field_intVal (p : Value) (w : World) : (Instr.field 98 (.agg #[p]) 0).run Tryz.prog w = .ok p w := by kernel_rfl
theorem compareInt_any (k : Nat) (hk : k < 6) (v1 v2 : Value) (z1 z2 : Int) (w : World) (h1 : CInt w v1 z1) (h2 : CInt w v2 z2) :
    Calls Tryz.prog 41 #[v1, .int .i64 (cmpTok k), v2] w fun e w' => e = .returned (.bool (cmpB k (cmpZ z1 z2))) ∧ Below w.heap.size w w' := by
  have H1 := Lib.hid h1
  have H2 := Lib.hid h2
  have HC := Lib.hid (cmpB_cmpZ k z1 z2)
  clear h1 h2
  go_enter Tryz.func41, Tryz.ntmps41
  go_wp2_with fail
  refine (matchInt_any v1 v2 z1 z2 _ H1.out H2.out).mono ?_
  rintro e w1 ⟨u1, u2, rfl, hS, hB⟩
  have HB := Lib.hid hB
  clear hB
  rcases hS with ⟨rfl, _, rfl, _⟩ | ⟨⟨b1, o1, s, N, rfl, hI, e1⟩, ⟨b2, o2, t, M, rfl, hJ, e2⟩⟩
  · obtain ⟨t1, t2, t3, _, _, _, _, _, t9⟩ := ta_int64Val
    rcases (by omega : k = 0 ∨ k = 1 ∨ k = 2 ∨ k = 3 ∨ k = 4 ∨ k = 5) with rfl | rfl | rfl | rfl | rfl | rfl
    all_goals
      simp only [cmpTok]
      go_wp2
      go_ret
      exact ⟨ret_bool (by rw [HC.out]; simp; try rfl), HB.out⟩
  · obtain ⟨t1, t2, t3, t4, _, _, _, _, t9⟩ := ta_intVal
    have HI := Lib.hid hI
    have HJ := Lib.hid hJ
    have HE := Lib.hid (show cmpZ (sg s N) (sg t M) = cmpZ z1 z2 from by rw [e1, e2])
    clear hI hJ e1 e2
    have hfld := field_intVal
    go_wp2_with fail
    go_quiet (first | (go_at_call 100; refine Calls.quiet_of (intCmp_any b1 o1 b2 o2 s t N M _ ((HI.out.keep (Below.alloc' (Below.refl _ _) _)).keep (below_of_drewN ⟨_, rfl⟩)) ((HJ.out.keep (Below.alloc' (Below.refl _ _) _)).keep (below_of_drewN ⟨_, rfl⟩)))) | (go_at_call 99; refine Calls.quiet_of_same ((cmpZero_any k hk _ _).mono (fun _ _ h => ⟨h.1, h.2.symm⟩))))
    go_wp2
    go_ret
    exact ⟨ret_bool (by rw [HE.out]), (Below.alloc' HB.out _).trans (below_of_drewN ⟨_, rfl⟩)⟩
end Go.Proofs.YtgmienggfaahlaaGreatDoor
namespace Go.Bg
open Go.RowKit Dg
theorem bigAt_new {T T2 : TypeId} {w : World} {s : Bool} {a : Option Addr} {n c N : Nat} (hN : BigN T w a n c N) (hT : T2 ≠ T) (hz : s = true → 0 < N) :
    BigAt T (w.alloc (.cells #[.bool s, .slice a n c] T2)) w.heap.size 0 s N := by
  have hb := BlkAt.new w #[.bool s, .slice a n c] T2
  exact ⟨⟨_, _, hb, hT⟩, ⟨a, n, c, hb.cell 0, hb.cell 1, hN.keep ((Below.refl _ _).alloc (Nat.le_refl _) _)⟩, hz⟩
theorem run_neq_ptr_other {P : Program} (w : World) {tp te : TypeId} {j : TypeInfo} {a b : Addr} {ca cb : Array Value} {ta tb : TypeId} (hp : P.underlying tp = some (.pointer te)) (hte : P.info? te = some j) (hsz : j.size ≠ 0)
    (hne : a ≠ b) (ha : w.heap[a.block]? = some (.cells ca ta (0, 0))) (hb : w.heap[b.block]? = some (.cells cb tb (0, 0))) :
    (binOp .neq tp (.pointer (some a)) (.pointer (some b))).run P w = .ok (.bool true) w := by
  have h : ∀ d : Nat, (Op.equalIn (d + 1) tp (.pointer (some a)) (.pointer (some b))).run P w = .ok false w := fun d => by
    simp [Op.equalIn, run_underlying hp, sizeOf, typeInfo, hte, hsz, run_sameAddr_other w hne ha hb]
  simp only [binOp]
  simp [Op.equal, Op.maxDepth, h 9999]
def wl (N n : Nat) : List Value := (List.range n).map (fun i => Value.int .u64 (dg W64 N i : Nat))
theorem wl_get {N n i : Nat} (h : i < n) : (wl N n)[i]? = some (.int .u64 (dg W64 N i : Nat)) := by simp [wl, h]
theorem wl_len (N n : Nat) : (wl N n).length = n := by simp [wl]
theorem bigN_spliced {T : TypeId} {w w' : World} {g c n N : Nat} {a : Option Addr} (hN : NumAt .u64 W64 w a n c N) {c' : Nat} (hc' : n ≤ c') (hm : c' ≤ maxLen) (cur : List Value) (hl : cur.length = c')
    (hg : w'.heap[g]? = some (.cells (splice cur 0 (wl N n)).toArray T (0, 0))) : BigN T w' (some ⟨g, 0, none⟩) n c' N := by
  have hb : BlkAt w' g (splice cur 0 (wl N n)).toArray T := hg
  have hs : (splice cur 0 (wl N n)).length = c' := by simp [splice, wl_len]; omega
  refine ⟨⟨hN.lt, hN.top, hc', hm, fun hn => ⟨g, 0, rfl, fun i hi => ?_⟩⟩, .inr ⟨g, _, rfl, hb, by simpa using hs⟩⟩
  rw [hb.cell]
  simp only [Nat.zero_add, List.getElem?_toArray, splice, List.take_zero, List.nil_append]
  rw [List.getElem?_append_left (by rw [wl_len]; exact hi)]
  exact wl_get hi
end Go.Bg
namespace Go.Proofs.YtgmienggfaahlaaGreatDoor
open Go.RowKit Go.Bg Dg
theorem infoWordSize : (Tryz.prog.info? 155).map (·.size) = some 1 := by kernel_rfl
theorem natSet_nil (a : Option Addr) (n c N : Nat) (w : World) (h : NumAt .u64 W64 w a n c N) (hn : n ≤ 1000000) :
    Calls Tryz.prog 143 #[.slice none 0 0, .slice a n c] w (GivesN 155 N w) := by
  have HH := Lib.hid h
  have hnc := h.nc
  have hcm := h.cm
  unfold maxLen at hcm
  by_cases h0 : n = 0
  · subst h0
    have HN := Lib.hid (show N = 0 from by have := h.lt; simpa using this)
    clear h
    go_enter Tryz.func143, Tryz.ntmps143
    go_wp2_with fail
    refine (make_nil 0 (by omega) _).mono ?_
    rintro e w1 (⟨_, rfl, rfl⟩ | ⟨c', h0, _⟩)
    case inr => omega
    go_wp2_with (with_reducible refine wpList_copy_nothing (o := ⟨some 11, _, _, _, _, _⟩) rfl (.tmp 9) (.tmp 10) 147 147 rfl 155 Tryz.underlying147 infoWordSize _ _ _ _ _ _ rfl rfl (by simp) ?_)
    go_wp2
    go_ret
    exact ⟨none, 0, 0, rfl, by rw [HN.out]; exact BigN.nil _ _, Below.refl _ _⟩
  · clear h
    go_enter Tryz.func143, Tryz.ntmps143
    go_wp2_with fail
    refine (make_nil n hn _).mono ?_
    rintro e w1 (⟨h, _⟩ | ⟨c', hc0, hc1, hc2, rfl, hw⟩)
    case inl => omega
    have hb : BlkAt w1 w.heap.size (Array.replicate c' (.int .u64 0)) 155 := by rw [hw]; exact BlkAt.new _ _ _
    have hB1 : Below w.heap.size w w1 := by rw [hw]; exact (Below.refl _ _).alloc (Nat.le_refl _) _
    have H1 := Lib.hid (HH.out.keep hB1)
    have hg : w1.heap[w.heap.size]? = some (.cells (List.replicate c' (Value.int .u64 0)).toArray 155 (0, 0)) := by
      have := hb; unfold BlkAt at this; simpa using this
    have HG := Lib.hid hg
    have HB := Lib.hid hB1
    have HC := Lib.hid (show ∃ ad, a = some ad ∧ ∀ j v, (wl N n)[j]? = some v → w1.cell? (ad.add j) = some v from by
      obtain ⟨b, off, rfl, hcell⟩ := H1.out.cells (by omega)
      refine ⟨_, rfl, fun j v hj => ?_⟩
      have hjn : j < n := by
        have := (List.getElem?_eq_some_iff.1 hj).1
        rwa [wl_len] at this
      rw [wl_get hjn] at hj
      rw [← hj, ← hcell j hjn]
      unfold Addr.add
      split
      · next h => subst h; rfl
      · rfl)
    clear hb hB1 hg hw
    have HM := Lib.hid (show (wl N n).length = Nat.min n n from by rw [wl_len]; exact (Nat.min_self n).symm)
    have HT := Lib.hid (show 0 + (wl N n).length ≤ (List.replicate c' (Value.int .u64 0)).length from by rw [wl_len]; simp; omega)
    have HO := Lib.hid (show ∀ v ∈ wl N n, v.oneCell' = true from by intro v hv; simp only [wl, List.mem_map] at hv; obtain ⟨_, _, rfl⟩ := hv; rfl)
    go_wp2_with ((with_reducible refine wpList_copy_splice (o := ⟨some 11, _, _, _, _, _⟩) rfl (.tmp 9) (.tmp 10) 147 147 rfl 155 Tryz.underlying147 infoWordSize _ _ _ _ _ _ rfl rfl w.heap.size 0 _ _ HG.out (wl N n) HM.out (fun _ => ⟨rfl, HC.out⟩) HT.out HO.out w.heap.size w HB.out (Nat.le_refl _) ?_); intro w2 hg2 hb2)
    go_wp2
    go_ret
    exact ⟨_, _, _, rfl, bigN_spliced H1.out hc1 (by unfold maxLen; omega) _ (by simp) hg2, hb2⟩
theorem intSet_new (b o b1 o1 : Nat) (s : Bool) (N : Nat) (w : World) (h : NewInt w b o) (h1 : BigAt 155 w b1 o1 s N) (hne : b ≠ b1 ∨ o ≠ o1) (L : Nat) (hL : L ≤ 1000000) (hN : N < W64 ^ L) :
    Calls Tryz.prog 205 #[.pointer (some ⟨b, o, none⟩), .pointer (some ⟨b1, o1, none⟩)] w (IntIs b o s N w) := by
  obtain ⟨j, hj, hj2⟩ := Option.map_eq_some_iff.1 infoBigIntSize
  obtain ⟨cur1, e1, k1, _⟩ := h.blk
  obtain ⟨cur2, e2, k2, _⟩ := h1.blk
  have hq := run_neq_ptr_other (P := Tryz.prog) (a := ⟨b, o, none⟩) (b := ⟨b1, o1, none⟩) w Tryz.underlying90 hj (by rw [hj2]; decide) (by intro h; injection h with h h' _; omega) k1 k2
  obtain ⟨a, n, c, p0, p1, hNN⟩ := h1.val
  have hn : n ≤ 1000000 := Nat.le_trans (len_le W64_gt hNN.num.top hN) hL
  have HZ := Lib.hid h1.zero
  have HH := Lib.hid h
  have HN := Lib.hid hNN
  have H1 := Lib.hid h1
  have q1 := h.c1
  clear h h1 hNN hN k1 k2 hj2
  have hd0 : Below w.heap.size w w.drew := (Below.refl _ _).drew
  go_enter Tryz.func205, Tryz.ntmps205
  go_upto_region 2 with fail
  go_region_with
    ((go_at_call 143; (with_reducible refine (natSet_nil a n c N _ ?_ hn).mono ?_); exact (HN.out.keep hd0).num; rintro e w1 ⟨a2, n2, c2, rfl, hN2, hB⟩; have hB1 := Below.then hd0 (Nat.le_refl _) hB; have HF := Lib.hid (HH.out.made hB1 hN2 HZ.out); have h' := HH.out.keep hB1; obtain ⟨u0, k0⟩ := h'.c0; have k1 := h'.c1; have f0 := h'.blk.frozen o; have f1 := h'.blk.frozen (o + 1); have p0' : w1.cell? ⟨b1, o1, none⟩ = some (.bool s) := cell_keep p0 hB1; have p0'' : ∀ v, (w1.setCell ⟨b, o + 1, none⟩ v).cell? ⟨b1, o1, none⟩ = some (.bool s) := (fun v => by
      rw [World.cell?_setCell_other _ _ _ _ (fun hh => ?_)]
      · exact p0'
      · injection hh with hb ho _
        subst hb
        subst ho
        rw [k1] at p0'
        cases p0'); have k0' : ∀ v, (w1.setCell ⟨b, o + 1, none⟩ v).cell? ⟨b, o, none⟩ = some u0 := (fun v => by rw [World.cell?_setCell_other _ _ _ _ (fun hh => by injection hh with _ hh _; omega)]; exact k0); clear h' p0'))
  all_goals
    clear p0 p1 q1
    go_wp2
    go_ret
    exact HF.out
end Go.Proofs.YtgmienggfaahlaaGreatDoor
