/-
  Int.Cmp, match, Compare.
-/
import Derived.Test.YtdepmbpickonoaaGreatDoorBigH
set_option linter.unusedSimpArgs false
set_option linter.unusedVariables false
namespace Go.Proofs.YtdepmbpickonoaaGreatDoor
open Go.RowKit Go.Bg Dg

def cmpZ (x y : Int) : Int := if x < y then -1 else if y < x then 1 else 0

theorem cmpZ_sg (s t : Bool) (N M : Nat) (hs : s = true → 0 < N) (ht : t = true → 0 < M) :
    cmpZ (sg s N) (sg t M) = if s = t then (if s then -cmpI N M else cmpI N M) else if s then -1 else 1 := by
  unfold cmpZ cmpI sg
  cases s <;> cases t <;> simp only [if_true, if_false, Bool.false_eq_true, Bool.true_eq_false] at hs ht ⊢ <;> repeat' split
  all_goals (simp at *; try omega)

theorem wrap_neg_cmpI (N M : Nat) : wrap64 (-cmpI N M) = -cmpI N M := by
  have h : -1 ≤ cmpI N M ∧ cmpI N M ≤ 1 := by
    unfold cmpI; split
    · omega
    · split <;> omega
  unfold wrap64
  omega

theorem infoBigIntSize : (Tryz.prog.info? 93).map (·.size) = some 2 := by kernel_rfl

set_option maxRecDepth 100000 in
set_option maxHeartbeats 2000000 in
theorem intCmp_any (b1 o1 b2 o2 : Nat) (s t : Bool) (N M : Nat) (w : World) (h1 : BigAt 143 w b1 o1 s N) (h2 : BigAt 143 w b2 o2 t M) :
    Calls Tryz.prog 20 #[.pointer (some ⟨b1, o1, none⟩), .pointer (some ⟨b2, o2, none⟩)] w fun e w' => e = .returned (.int .i64 (cmpZ (sg s N) (sg t M))) ∧ ∃ m, w' = w.drewN m := by
  obtain ⟨j, hj, hj2⟩ := Option.map_eq_some_iff.1 infoBigIntSize
  have HR := Lib.hid (cmpZ_sg s t N M h1.zero h2.zero)
  obtain ⟨a, n, c, p0, p1, hN⟩ := h1.val
  obtain ⟨a', n', c', q0, q1, hM⟩ := h2.val
  by_cases hp : b1 = b2 ∧ o1 = o2
  · obtain ⟨rfl, rfl⟩ := hp
    have hq := run_eql_ptr_same (P := Tryz.prog) w ⟨b1, o1, none⟩ Tryz.underlying58 hj
    have e0 : s = t := by rw [p0] at q0; simpa using q0
    subst e0
    have e1 : N = M := by
      rw [p1] at q1
      injection q1 with q1; injection q1 with qa qn qc
      subst qa; subst qn
      refine eq_of_digits hN.num.lt hM.num.lt (fun i hi => ?_)
      obtain ⟨b, off, rfl, _⟩ := hN.num.form (by omega)
      have x1 := hN.num.cell hi
      have x2 := hM.num.cell hi
      rw [x1] at x2
      injection x2 with x2; injection x2 with _ x2; exact Int.ofNat.inj x2
    subst e1
    have hr : cmpZ (sg s N) (sg s N) = 0 := by simp [cmpZ]
    rw [hr]
    clear HR hr hN hM h1 h2 hj2
    go_enter Tryz.func20, Tryz.ntmps20
    go_wp2
    go_ret
    exact ⟨rfl, 0, rfl⟩
  · obtain ⟨cur1, e1, k1, _⟩ := h1.blk
    obtain ⟨cur2, e2, k2, _⟩ := h2.blk
    have hq := run_eql_ptr_other (P := Tryz.prog) (a := ⟨b1, o1, none⟩) (b := ⟨b2, o2, none⟩) w Tryz.underlying58 hj (by rw [hj2]; decide) (by intro h; apply hp; injection h with h h' _; exact ⟨h, h'⟩) k1 k2
    have HN := Lib.hid hN.num
    have HM := Lib.hid hM.num
    clear k1 k2 hj2 hN hM h1 h2 hp
    cases s <;> cases t
    · go_enter Tryz.func20, Tryz.ntmps20
      go_wp2
      go_quiet (fail)
      go_wp2
      go_quiet (first | (go_at_call 43; refine quiet_of2 (natCmp_any _ _ _ _ _ _ N M _ (HN.out.drewN _) (HM.out.drewN _))))
      go_wp2
      go_ret
      refine ⟨ret_int ?_, drewN_ex (by (try simp only [World.drewN_drewN]); exact rfl)⟩
      rw [HR.out]; simp
    · go_enter Tryz.func20, Tryz.ntmps20
      go_wp2
      go_quiet (fail)
      go_wp2
      go_ret
      exact ⟨ret_int (by rw [HR.out]; simp), drewN_ex (by (try simp only [World.drewN_drewN]); exact rfl)⟩
    · go_enter Tryz.func20, Tryz.ntmps20
      go_wp2
      go_quiet (fail)
      go_wp2
      go_ret
      exact ⟨ret_int (by rw [HR.out]; simp), drewN_ex (by (try simp only [World.drewN_drewN]); exact rfl)⟩
    · go_enter Tryz.func20, Tryz.ntmps20
      go_wp2
      go_quiet (fail)
      go_wp2
      go_quiet (first | (go_at_call 43; refine quiet_of2 (natCmp_any _ _ _ _ _ _ N M _ (HN.out.drewN _) (HM.out.drewN _))))
      go_wp2
      go_ret
      refine ⟨ret_int ?_, drewN_ex (by (try simp only [World.drewN_drewN]); exact rfl)⟩
      rw [HR.out, wrap_neg_cmpI]; simp
end Go.Proofs.YtdepmbpickonoaaGreatDoor
