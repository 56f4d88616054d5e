/-
  Contracts and lemmas: RatA Shelf Blen RatB Law2 CmpA Same Pln.
-/
import Derived.Test.YtececkbcinmmpaaGreatDoorK09
import Derived.Shelf.Small.Bits
import Derived.Shelf.Strconv.Itoa0
import Derived.Shelf.Bits.Mul64
import Derived.Test.YtececkbcinmmpaaGreatDoorProg
import Derived.Test.YtececkbcinmmpaaGreatDoorK05
import Derived.Test.YtececkbcinmmpaaGreatDoorK02
set_option linter.unusedSimpArgs false
set_option linter.unusedVariables false
set_option maxRecDepth 100000
set_option maxHeartbeats 8000000
namespace Go.Bg
open Go.RowKit Dg
structure RatAt (T : TypeId) (w : World) (b : Nat) (s : Bool) (N D : Nat) : Prop where
  a : BigAt T w b 0 s N
  d : BigAt T w b 2 false D
  pos : 0 < D
theorem RatAt.keep {T : TypeId} {w w' : World} {b : Nat} {s : Bool} {N D : Nat} (h : RatAt T w b s N D) (hb : Below w.heap.size w w') : RatAt T w' b s N D := ⟨h.a.keep hb, h.d.keep hb, h.pos⟩
theorem RatAt.upd {T : TypeId} {w w' : World} {b : Nat} {s : Bool} {N D : Nat} {S : Nat → Prop} (h : RatAt T w b s N D) (hu : Upd S w w') (hs : ¬ S b) (hS : ∀ k, k < w.heap.size → S k → Strct T w k) : RatAt T w' b s N D := ⟨h.a.upd hu hs hS, h.d.upd hu hs hS, h.pos⟩
structure UpdB (T : TypeId) (b : Nat) (w w' : World) : Prop where
  upd : Upd (· = b) w w'
  blk : Strct T w b → Strct T w' b
theorem UpdB.refl (T : TypeId) (b : Nat) (w : World) : UpdB T b w w := ⟨Upd.refl _ _, id⟩
theorem UpdB.trans {T : TypeId} {b : Nat} {w w1 w2 : World} (h : UpdB T b w w1) (k : UpdB T b w1 w2) : UpdB T b w w2 := ⟨h.upd.trans k.upd, fun x => k.blk (h.blk x)⟩
theorem UpdI.toB {T : TypeId} {b o : Nat} {w w' : World} (h : UpdI T b o w w') : UpdB T b w w' := ⟨h.upd, h.blk⟩
theorem UpdB.of_below {T : TypeId} {b : Nat} {w w' : World} (h : Below w.heap.size w w') : UpdB T b w w' := ⟨Upd.of_below h, fun x => x.keep h⟩
theorem UpdB.set {T : TypeId} (w : World) (b i : Nat) (v : Value) : UpdB T b w (w.setCell ⟨b, i, none⟩ v) := ⟨Upd.set1 w b i v, fun x => x.set _ _⟩
theorem RatAt.other {T : TypeId} {w w' : World} {b d : Nat} {s : Bool} {N D : Nat} (h : RatAt T w b s N D) (hs : Strct T w d) (hu : UpdB T d w w') (hne : b ≠ d) : RatAt T w' b s N D :=
  h.upd hu.upd hne (fun k _ e => e ▸ hs)
theorem UpdB.below {T : TypeId} {B b : Nat} {w0 w w' : World} (h : UpdB T b w w') (hb : Below B w0 w) (hB : B ≤ w.heap.size) (hn : B ≤ b) : Below B w0 w' :=
  h.upd.below hb hB (fun k _ e => e ▸ hn)
end Go.Bg
namespace Go.Proofs.YtececkbcinmmpaaGreatDoor
open Go.RowKit Go.Bg Dg
def NewRat (w : World) (b : Nat) : Prop := BlkAt w b #[.bool false, .slice none 0 0, .bool false, .slice none 0 0] 170
theorem NewRat.blk {w : World} {b : Nat} (h : NewRat w b) : Strct 139 w b := ⟨_, _, h, by decide⟩
theorem NewRat.a {w : World} {b : Nat} (h : NewRat w b) : NewInt w b 0 := ⟨h.blk, ⟨_, BlkAt.cell h 0⟩, BlkAt.cell h 1⟩
theorem NewRat.d {w : World} {b : Nat} (h : NewRat w b) : NewInt w b 2 := ⟨h.blk, ⟨_, BlkAt.cell h 2⟩, BlkAt.cell h 3⟩
theorem NewRat.keep {w w' : World} {b : Nat} (h : NewRat w b) (hb : Below w.heap.size w w') : NewRat w' b := BlkAt.keep h hb
def RatIs (b : Nat) (s : Bool) (N D : Nat) (w : World) (e : Ending) (w' : World) : Prop :=
  e = .returned (.pointer (some ⟨b, 0, none⟩)) ∧ RatAt 139 w' b s N D ∧ UpdB 139 b w w'
theorem ratAt_den {w : World} {b : Nat} {s : Bool} {N D : Nat} (h : BigAt 139 w b 0 s N) (h2 : w.cell? ⟨b, 2, none⟩ = some (.bool false)) (h3 : ∃ u, w.cell? ⟨b, 3, none⟩ = some u)
    {a : Option Addr} {n c : Nat} (hN : BigN 139 w a n c D) (hp : 0 < D) : RatAt 139 (w.setCell ⟨b, 3, none⟩ (.slice a n c)) b s N D := by
  obtain ⟨u3, h3⟩ := h3
  have e : ∀ (j : Nat), j ≠ 3 → (w.setCell ⟨b, 3, none⟩ (.slice a n c)).cell? ⟨b, j, none⟩ = w.cell? ⟨b, j, none⟩ := fun j h => World.cell?_setCell_other _ _ _ _ (fun hh => h (by injection hh with _ hh _; exact hh.symm))
  obtain ⟨a0, n0, c0, p0, p1, hA⟩ := h.val
  refine ⟨⟨h.blk.set _ _, ⟨a0, n0, c0, ?_, ?_, hA.set h.blk _ _⟩, h.zero⟩, ⟨h.blk.set _ _, ⟨a, n, c, ?_, ?_, hN.set h.blk _ _⟩, by simp⟩, hp⟩
  · rw [e _ (by decide)]; exact p0
  · rw [e _ (by decide)]; exact p1
  · rw [e _ (by decide)]; exact h2
  · exact World.cell?_setCell_same (u := u3) _ _ _ h3
theorem ratSetInt_new (b b1 o1 : Nat) (s : Bool) (N : Nat) (w : World) (h : NewRat w b) (h1 : BigAt 139 w b1 o1 s N) (hne : b ≠ b1) (L : Nat) (hL : L ≤ 1000000) (hN : N < W64 ^ L) :
    Calls Tryz.prog 176 #[.pointer (some ⟨b, 0, none⟩), .pointer (some ⟨b1, o1, none⟩)] w (RatIs b s N 1 w) := by
  have HS := Lib.hid (intSet_new b 0 b1 o1 s N w h.a h1 (.inl hne) L hL hN)
  have HH := Lib.hid h
  have HQ := Lib.hid (BlkAt.cell h 3)
  have HQ2 := Lib.hid (BlkAt.cell h 2)
  clear h h1 hN
  go_enter Tryz.func176, Tryz.ntmps176
  go_wp2_with fail
  refine HS.out.mono ?_
  rintro e w1 ⟨rfl, hI, hU⟩
  have q3 : w1.cell? ⟨b, 3, none⟩ = some (.slice none 0 0) := by rw [hU.rest 3 (by decide) (by decide), HQ.out]; rfl
  have q2 : w1.cell? ⟨b, 2, none⟩ = some (.bool false) := by rw [hU.rest 2 (by decide) (by decide), HQ2.out]; rfl
  have Q2 := Lib.hid q2
  have HI := Lib.hid hI
  have HU := Lib.hid hU
  clear q2 hI hU
  go_wp2_with fail
  refine (setWord_nil 1 (by omega) _).mono ?_
  rintro e w2 ⟨a, n, c, rfl, hN, hB⟩
  have HI2 := Lib.hid (HI.out.keep hB)
  have k3 := cell_keep q3 hB
  have HR := Lib.hid (ratAt_den HI2.out (cell_keep Q2.out hB) ⟨_, k3⟩ hN (by omega))
  have HF := Lib.hid ((HU.out.toB.trans (UpdB.of_below hB)).trans (UpdB.set w2 b 3 (.slice a n c)))
  have f3 := HI2.out.blk.frozen 3
  clear q3 hN hB
  go_wp2
  go_ret
  exact ⟨rfl, HR.out, HF.out⟩
theorem ratNum_any (b : Nat) (w : World) : Calls Tryz.prog 136 #[.pointer (some ⟨b, 0, none⟩)] w fun e w' => e = .returned (.pointer (some ⟨b, 0, none⟩)) ∧ w = w' := by
  go_enter Tryz.func136, Tryz.ntmps136
  go_wp2
  go_ret
  exact ⟨rfl, rfl⟩
theorem ratDenom_any (b : Nat) (s : Bool) (D : Nat) (w : World) (h : BigAt 139 w b 2 s D) (hD : 0 < D) :
    Calls Tryz.prog 138 #[.pointer (some ⟨b, 0, none⟩)] w fun e w' => e = .returned (.pointer (some ⟨b, 2, none⟩)) ∧ w = w' := by
  obtain ⟨a, n, c, h0, h1, hN⟩ := h.val
  have hp := natAt_pos_len hN.num
  have hn : 0 < n := by simpa [hD] using hp
  have hz : ((n : Int) == 0) = false := by simp; omega
  have hcm := hN.num.cm
  have hnc := hN.num.nc
  clear hp h hN
  go_enter Tryz.func138, Tryz.ntmps138
  go_wp2
  go_ret
  exact ⟨rfl, rfl⟩
end Go.Proofs.YtececkbcinmmpaaGreatDoor
namespace Go.Proofs
open Go.Shelf
def Tryz.lays125_ren : Go.Shelf.Ren := ⟨fun | 125 => 280 | 128 => 304 | 129 => 305 | n => n, fun | 46 => 53 | 3 => 3 | 51 => 119 | 53 => 165 | 4 => 4 | 5 => 5 | 9 => 9 | n => n, fun | n => n⟩
theorem Tryz.lays125 : Go.Proofs.Lays.n125 Tryz.prog Tryz.lays125_ren := {
  mixed := by kernel_rfl
  f125 := Tryz.func280.trans (congrArg some (by kernel_rfl))
  f128 := Tryz.func304.trans (congrArg some (by kernel_rfl))
  f129 := Tryz.func305.trans (congrArg some (by kernel_rfl))
  t3 := Tryz.underlying3
  a3 := Tryz.isAgg3
  z3 := Tryz.sizeOf3
  v3 := Tryz.zeroValue3
  t4 := Tryz.underlying4
  a4 := Tryz.isAgg4
  z4 := Tryz.sizeOf4
  v4 := Tryz.zeroValue4
  t5 := Tryz.underlying5
  a5 := Tryz.isAgg5
  z5 := Tryz.sizeOf5
  v5 := Tryz.zeroValue5
  t9 := Tryz.underlying9
  a9 := Tryz.isAgg9
  z9 := Tryz.sizeOf9
  v9 := Tryz.zeroValue9
  t46 := Tryz.underlying53
  a46 := Tryz.isAgg53
  z46 := Tryz.sizeOf53
  v46 := Tryz.zeroValue53
  t51 := Tryz.underlying119
  a51 := Tryz.isAgg119
  z51 := Tryz.sizeOf119
  v51 := Tryz.zeroValue119
  t53 := Tryz.underlying165
  a53 := Tryz.isAgg165
  z53 := Tryz.sizeOf165
  v53 := Tryz.zeroValue165 }
theorem Tryz.bits_Len (x : Int) (w : World) (h0 : 0 ≤ x) (h1 : x ≤ 18446744073709551615) :
    Calls Tryz.prog 280 #[.int .u64 x] w fun e w' => e = .returned (.int .i64 (Lib.bitLen x.toNat)) ∧ w' = w := Any.bits_Len Tryz.lays125 x w h0 h1
def Tryz.lays134_ren : Go.Shelf.Ren := ⟨fun | 134 => 301 | 129 => 305 | n => n, fun | 53 => 165 | 3 => 3 | 4 => 4 | 46 => 53 | 5 => 5 | 9 => 9 | n => n, fun | n => n⟩
theorem Tryz.lays134 : Go.Proofs.Lays.n134 Tryz.prog Tryz.lays134_ren := {
  mixed := by kernel_rfl
  f129 := Tryz.func305.trans (congrArg some (by kernel_rfl))
  f134 := Tryz.func301.trans (congrArg some (by kernel_rfl))
  t3 := Tryz.underlying3
  a3 := Tryz.isAgg3
  z3 := Tryz.sizeOf3
  v3 := Tryz.zeroValue3
  t4 := Tryz.underlying4
  a4 := Tryz.isAgg4
  z4 := Tryz.sizeOf4
  v4 := Tryz.zeroValue4
  t5 := Tryz.underlying5
  a5 := Tryz.isAgg5
  z5 := Tryz.sizeOf5
  v5 := Tryz.zeroValue5
  t9 := Tryz.underlying9
  a9 := Tryz.isAgg9
  z9 := Tryz.sizeOf9
  v9 := Tryz.zeroValue9
  t46 := Tryz.underlying53
  a46 := Tryz.isAgg53
  z46 := Tryz.sizeOf53
  v46 := Tryz.zeroValue53
  t53 := Tryz.underlying165
  a53 := Tryz.isAgg165
  z53 := Tryz.sizeOf165
  v53 := Tryz.zeroValue165 }
theorem Tryz.bits_LeadingZeros64 (x : Int) (w : World) (h0 : 0 ≤ x) (h1 : x ≤ 18446744073709551615) :
    Calls Tryz.prog 301 #[.int .u64 x] w fun e w' => e = .returned (.int .i64 (64 - (Lib.bitLen x.toNat : Int))) ∧ w' = w := Any.bits_LeadingZeros64 Tryz.lays134 x w h0 h1
def Tryz.lays130_ren : Go.Shelf.Ren := ⟨fun | 130 => 285 | 125 => 280 | 128 => 304 | 129 => 305 | n => n, fun | 46 => 53 | 3 => 3 | 51 => 119 | 53 => 165 | 4 => 4 | 5 => 5 | 9 => 9 | n => n, fun | n => n⟩
theorem Tryz.lays130 : Go.Proofs.Lays.n130 Tryz.prog Tryz.lays130_ren := {
  mixed := by kernel_rfl
  f125 := Tryz.func280.trans (congrArg some (by kernel_rfl))
  f128 := Tryz.func304.trans (congrArg some (by kernel_rfl))
  f129 := Tryz.func305.trans (congrArg some (by kernel_rfl))
  f130 := Tryz.func285.trans (congrArg some (by kernel_rfl))
  t3 := Tryz.underlying3
  a3 := Tryz.isAgg3
  z3 := Tryz.sizeOf3
  v3 := Tryz.zeroValue3
  t4 := Tryz.underlying4
  a4 := Tryz.isAgg4
  z4 := Tryz.sizeOf4
  v4 := Tryz.zeroValue4
  t5 := Tryz.underlying5
  a5 := Tryz.isAgg5
  z5 := Tryz.sizeOf5
  v5 := Tryz.zeroValue5
  t9 := Tryz.underlying9
  a9 := Tryz.isAgg9
  z9 := Tryz.sizeOf9
  v9 := Tryz.zeroValue9
  t46 := Tryz.underlying53
  a46 := Tryz.isAgg53
  z46 := Tryz.sizeOf53
  v46 := Tryz.zeroValue53
  t51 := Tryz.underlying119
  a51 := Tryz.isAgg119
  z51 := Tryz.sizeOf119
  v51 := Tryz.zeroValue119
  t53 := Tryz.underlying165
  a53 := Tryz.isAgg165
  z53 := Tryz.sizeOf165
  v53 := Tryz.zeroValue165 }
theorem Tryz.bits_LeadingZeros (x : Int) (w : World) (h0 : 0 ≤ x) (h1 : x ≤ 18446744073709551615) :
    Calls Tryz.prog 285 #[.int .u64 x] w fun e w' => e = .returned (.int .i64 (64 - (Lib.bitLen x.toNat : Int))) ∧ w' = w := Any.bits_LeadingZeros Tryz.lays130 x w h0 h1
open Go.RowKit Go.Lib in
def Tryz.lays212_ren : Go.Shelf.Ren := ⟨fun | 212 => 255 | 263 => 289 | 264 => 290 | n => n, fun | 46 => 53 | 51 => 119 | 146 => 271 | 53 => 165 | 148 => 273 | n => n, fun | n => n⟩
theorem Tryz.lays212 : Go.Proofs.Lays.n212 Tryz.prog Tryz.lays212_ren := {
  mixed := by kernel_rfl
  f212 := Tryz.func255.trans (congrArg some (by kernel_rfl))
  f263 := Tryz.func289.trans (congrArg some (by kernel_rfl))
  f264 := Tryz.func290.trans (congrArg some (by kernel_rfl))
  t46 := Tryz.underlying53
  a46 := Tryz.isAgg53
  z46 := Tryz.sizeOf53
  v46 := Tryz.zeroValue53
  t51 := Tryz.underlying119
  a51 := Tryz.isAgg119
  z51 := Tryz.sizeOf119
  v51 := Tryz.zeroValue119
  t53 := Tryz.underlying165
  a53 := Tryz.isAgg165
  z53 := Tryz.sizeOf165
  v53 := Tryz.zeroValue165
  t146 := Tryz.underlying271
  a146 := Tryz.isAgg271
  z146 := Tryz.sizeOf271
  v146 := Tryz.zeroValue271
  t148 := Tryz.underlying273
  a148 := Tryz.isAgg273
  z148 := Tryz.sizeOf273
  v148 := Tryz.zeroValue273 }
open Go.RowKit Go.Lib in
theorem Tryz.bits_Mul (x y : Nat) (hx : x < 18446744073709551616) (hy : y < 18446744073709551616) (w : World) :
    Calls Tryz.prog 255 #[.int .u64 x, .int .u64 y] w fun e w' => e = .returned (.tuple #[.int .u64 ((x * y / 18446744073709551616 : Nat) : Int), .int .u64 ((x * y % 18446744073709551616 : Nat) : Int)]) ∧ w' = w := Any.bits_Mul Tryz.lays212 x y hx hy w
end Go.Proofs
namespace Go.Bg
open Go.RowKit Dg
theorem bitLenAux_bl : ∀ (f n : Nat), n < 2 ^ f → Lib.bitLenAux f n = bl n := by
  intro f
  induction f with
  | zero => intro n h; obtain rfl : n = 0 := by simpa using h
            rfl
  | succ f ih =>
    intro n h
    rw [Lib.bitLenAux]
    by_cases h0 : n = 0
    · subst h0; rfl
    · rw [if_neg h0, bl_half (by omega : 0 < n), ih (n / 2) (by rw [Nat.pow_succ] at h; omega)]; omega
theorem bitLen_bl {n : Nat} (h : n < 18446744073709551616) : Lib.bitLen n = bl n := bitLenAux_bl 64 n h
theorem bl_or_shr (t k : Nat) : bl (t ||| t / 2 ^ k) = bl t := by
  have hle : t / 2 ^ k ≤ t := Nat.div_le_self _ _
  refine (bl_unique ?_ ?_).symm
  · exact Nat.or_lt_two_pow (bl_lt t) (Nat.lt_of_le_of_lt hle (bl_lt t))
  · rcases bl_top t with h | h
    · exact .inl h
    · exact .inr (Nat.le_trans h Nat.left_le_or)
theorem or_shr_lt {t : Nat} (k : Nat) (h : t < 18446744073709551616) : (t ||| t / 2 ^ k) < 18446744073709551616 :=
  Nat.or_lt_two_pow (n := 64) h (Nat.lt_of_le_of_lt (Nat.div_le_self _ _) h)
def smear (t : Nat) : Nat :=
  let a := t ||| t / 2 ^ 1
  let b := a ||| a / 2 ^ 2
  let c := b ||| b / 2 ^ 4
  let d := c ||| c / 2 ^ 8
  let e := d ||| d / 2 ^ 16
  e ||| e / 2 ^ 32
theorem smear_lt {t : Nat} (h : t < 18446744073709551616) : smear t < 18446744073709551616 :=
  or_shr_lt _ (or_shr_lt _ (or_shr_lt _ (or_shr_lt _ (or_shr_lt _ (or_shr_lt _ h)))))
theorem smear_eq {t a b c d e : Nat} (ha : a = t ||| t / 2 ^ 1) (hb : b = a ||| a / 2 ^ 2) (hc : c = b ||| b / 2 ^ 4) (hd : d = c ||| c / 2 ^ 8) (he : e = d ||| d / 2 ^ 16) : (e ||| e / 2 ^ 32) = smear t := by
  subst ha hb hc hd he; rfl
theorem smear_bl (t : Nat) : bl (smear t) = bl t := by
  unfold smear
  simp only [bl_or_shr]
theorem bl_top_word {N n : Nat} (h : N < W64 ^ (n + 1)) (ht : W64 ^ n ≤ N) : bl N = n * 64 + bl (dg W64 N n) := by
  have hd : dg W64 N n = N / W64 ^ n := by
    unfold dg
    refine Nat.mod_eq_of_lt ((Nat.div_lt_iff_lt_mul (Nat.pow_pos W64_pos)).2 ?_)
    rw [← Nat.pow_succ']; exact h
  have hp : W64 ^ n = 2 ^ (64 * n) := by rw [W64_eq, ← Nat.pow_mul]
  have hq : 0 < N / W64 ^ n := Nat.div_pos ht (Nat.pow_pos W64_pos)
  rw [hd]
  have hb := bl_pos hq
  refine (bl_unique ?_ ?_).symm
  · have := bl_lt (N / W64 ^ n)
    rw [Nat.div_lt_iff_lt_mul (Nat.pow_pos W64_pos)] at this
    rw [hp] at this ⊢
    rw [← Nat.pow_add] at this
    rw [show n * 64 + bl (N / 2 ^ (64 * n)) = bl (N / 2 ^ (64 * n)) + 64 * n from by omega]
    exact this
  · right
    rcases bl_top (N / W64 ^ n) with h0 | h0
    · omega
    · have h1 : 2 ^ (bl (N / W64 ^ n) - 1) * W64 ^ n ≤ N := Nat.le_trans (Nat.mul_le_mul_right _ h0) (Nat.div_mul_le_self _ _)
      rw [hp, ← Nat.pow_add] at h1
      rw [hp]
      rw [hp] at hb
      rw [show n * 64 + bl (N / 2 ^ (64 * n)) - 1 = bl (N / 2 ^ (64 * n)) - 1 + 64 * n from by omega]
      exact h1
end Go.Bg
namespace Go.Proofs.YtececkbcinmmpaaGreatDoor
open Go.RowKit Go.Bg Dg
theorem u64_or_shr (t k : Nat) (h : t < 18446744073709551616) : bits BinOp.or IntKind.u64 (t : Int) ((t : Int) / 2 ^ k) = ((t ||| t / 2 ^ k : Nat) : Int) := by
  have e : (t : Int) / 2 ^ k = ((t / 2 ^ k : Nat) : Int) := by simp
  rw [e, u64_or_nat _ _ h (Nat.lt_of_le_of_lt (Nat.div_le_self _ _) h)]
theorem natBitLen_any (a : Option Addr) (n c N : Nat) (w : World) (h : NumAt .u64 W64 w a n c N) (hn : n ≤ 1000000) :
    Calls Tryz.prog 243 #[.slice a n c] w fun e w' => e = .returned (.int .i64 (bl N : Nat)) ∧ w = w' := by
  have hcm := h.cm
  have hnc := h.nc
  by_cases h0 : n = 0
  · subst h0
    have hN : N = 0 := by have := h.lt; simpa using this
    clear h
    subst hN
    go_enter Tryz.func243, Tryz.ntmps243
    go_wp2
    go_ret
    exact ⟨rfl, rfl⟩
  · obtain ⟨m, rfl⟩ : ∃ m, n = m + 1 := ⟨n - 1, by omega⟩
    obtain ⟨b, off, rfl, _⟩ := h.form (by omega)
    have hc := h.cell (i := m) (by omega)
    have HB := Lib.hid (show bl N = m * 64 + bl (dg W64 N m) from bl_top_word h.lt (by rcases h.top with h1 | h1; omega; simpa using h1))
    have HX := Lib.hid (show dg W64 N m < 18446744073709551616 from W64_lt (dg_lt W64_pos _ _))
    clear h
    generalize dg W64 N m = x at *
    go_enter Tryz.func243, Tryz.ntmps243
    go_wp2_with fail
    have E1 : bits BinOp.or IntKind.u64 (x : Int) ((x : Int) / 2) = ((x ||| x / 2 ^ 1 : Nat) : Int) := u64_or_shr x 1 HX.out
    rw [E1]
    have L1 := or_shr_lt 1 HX.out
    obtain ⟨x1, h1⟩ : ∃ x1, x1 = x ||| x / 2 ^ 1 := ⟨_, rfl⟩
    rw [← h1] at L1 ⊢
    have E2 : bits BinOp.or IntKind.u64 (x1 : Int) ((x1 : Int) / 4) = ((x1 ||| x1 / 2 ^ 2 : Nat) : Int) := u64_or_shr x1 2 L1
    rw [E2]
    have L2 := or_shr_lt 2 L1
    obtain ⟨x2, h2⟩ : ∃ x2, x2 = x1 ||| x1 / 2 ^ 2 := ⟨_, rfl⟩
    rw [← h2] at L2 ⊢
    have E3 : bits BinOp.or IntKind.u64 (x2 : Int) ((x2 : Int) / 16) = ((x2 ||| x2 / 2 ^ 4 : Nat) : Int) := u64_or_shr x2 4 L2
    rw [E3]
    have L3 := or_shr_lt 4 L2
    obtain ⟨x3, h3⟩ : ∃ x3, x3 = x2 ||| x2 / 2 ^ 4 := ⟨_, rfl⟩
    rw [← h3] at L3 ⊢
    have E4 : bits BinOp.or IntKind.u64 (x3 : Int) ((x3 : Int) / 256) = ((x3 ||| x3 / 2 ^ 8 : Nat) : Int) := u64_or_shr x3 8 L3
    rw [E4]
    have L4 := or_shr_lt 8 L3
    obtain ⟨x4, h4⟩ : ∃ x4, x4 = x3 ||| x3 / 2 ^ 8 := ⟨_, rfl⟩
    rw [← h4] at L4 ⊢
    have E5 : bits BinOp.or IntKind.u64 (x4 : Int) ((x4 : Int) / 65536) = ((x4 ||| x4 / 2 ^ 16 : Nat) : Int) := u64_or_shr x4 16 L4
    rw [E5]
    have L5 := or_shr_lt 16 L4
    obtain ⟨x5, h5⟩ : ∃ x5, x5 = x4 ||| x4 / 2 ^ 16 := ⟨_, rfl⟩
    rw [← h5] at L5 ⊢
    have E6 : bits BinOp.or IntKind.u64 (x5 : Int) ((x5 : Int) / 65536 / 65536) = ((smear x : Nat) : Int) := by
      rw [← smear_eq h1 h2 h3 h4 h5, ← u64_or_shr x5 32 L5, Int.ediv_ediv_of_nonneg (by decide)]; rfl
    rw [E6]
    have HS := Lib.hid (smear_lt HX.out)
    have HE := Lib.hid (smear_bl x)
    clear E1 E2 E3 E4 E5 E6 L1 L2 L3 L4 L5 h1 h2 h3 h4 h5
    generalize smear x = y at *
    refine (Tryz.bits_Len y _ (by omega) (by have := HS.out; omega)).mono ?_
    rintro e w1 ⟨rfl, rfl⟩
    rw [Int.toNat_natCast, bitLen_bl HS.out, HE.out]
    have hbl : bl x ≤ 64 := by
      have := bl_top x
      rcases this with h | h
      · omega
      · have := (Nat.pow_lt_pow_iff_right (by decide : 1 < 2)).1 (Nat.lt_of_le_of_lt h (show x < 2 ^ 64 from HX.out)); omega
    generalize bl x = z at *
    go_wp2
    go_ret
    exact ⟨ret_int (by rw [HB.out]; simp), rfl⟩
theorem intBitLen_any (b o : Nat) (s : Bool) (N L : Nat) (w : World) (h : BigAt 139 w b o s N) (hN : N < W64 ^ L) (hL : L ≤ 1000000) :
    Calls Tryz.prog 210 #[.pointer (some ⟨b, o, none⟩)] w fun e w' => e = .returned (.int .i64 (bl N : Nat)) ∧ w = w' := by
  obtain ⟨a, n, c, p0, p1, hNN⟩ := h.val
  have hn : n ≤ 1000000 := Nat.le_trans (len_le W64_gt hNN.num.top hN) hL
  have HN := Lib.hid hNN.num
  clear h hNN hN
  go_enter Tryz.func210, Tryz.ntmps210
  go_wp2_with fail
  refine (natBitLen_any a n c N _ HN.out hn).mono ?_
  rintro e w1 ⟨rfl, rfl⟩
  go_wp2
  go_ret
  exact ⟨rfl, rfl⟩
theorem rat_setDen {w w' : World} {b : Nat} {s : Bool} {N D0 D : Nat} {e : Ending} (h : RatAt 139 w b s N D0) (hI : IntIs b 2 false D w e w') (hp : 0 < D) : RatAt 139 w' b s N D :=
  ⟨h.a.other h.a.blk hI.2.2 (.inr (.inl (by omega))), hI.2.1, hp⟩
theorem implOver_any (s : Bool) (a : Option Addr) (n c : Nat) (f : Nat → Nat) (a' : Option Addr) (n' c' : Nat) (f' : Nat → Nat) (w : World) (h : WordsAt w a n c f) (h' : WordsAt w a' n' c' f') (hn : n ≤ 100000) (hn' : n' ≤ 100000) (hD : 0 < val W64 f' n') :
    Calls Tryz.prog 111 #[.agg #[.bool s, .slice a n c], .slice a' n' c'] w fun e w' => ∃ b, e = .returned (.pointer (some ⟨b, 0, none⟩)) ∧ RatAt 139 w' b (s && decide (0 < val W64 f n)) (val W64 f n) (val W64 f' n') ∧ Below w.heap.size w w' := by
  obtain ⟨W0, hW0⟩ : ∃ W0, W0 = (w.alloc (.cells #[.bool s, .slice a n c] 24)).alloc (.cells #[.bool false, .slice none 0 0, .bool false, .slice none 0 0] 170) := ⟨_, rfl⟩
  have hs0 : W0.heap.size = w.heap.size + 1 + 1 := by rw [hW0]; simp
  have HW := Lib.hid hW0
  have hb0 : Below w.heap.size w W0 := by rw [hW0]; exact Below.alloc' (Below.alloc' (Below.refl _ _) _) _
  have hz : NewRat W0 (w.heap.size + 1) := by
    rw [hW0]
    have := BlkAt.new (w.alloc (.cells #[.bool s, .slice a n c] 24)) #[.bool false, .slice none 0 0, .bool false, .slice none 0 0] 170
    simpa [NewRat] using this
  have HX := Lib.hid (h.keep hb0)
  have HY := Lib.hid h'
  have HD := Lib.hid hD
  have HL := Lib.hid (show val W64 f n < W64 ^ n from val_lt h.lt)
  clear hW0 h h' hD
  go_enter Tryz.func111, Tryz.ntmps111
  go_wp2_with fail
  rw [← HW.out]
  refine (of_any' s a n c f _ HX.out (by omega)).mono ?_
  rintro e w1 ⟨b1, rfl, hb1, hI, hB1⟩
  have hz1 := hz.keep hB1
  have hbw1 := Below.then hb0 (Nat.le_refl _) hB1
  have HS1 := Lib.hid hB1.size
  clear hB1 hz
  go_wp2_with fail
  refine (ratSetInt_new (w.heap.size + 1) b1 0 _ _ _ hz1 hI (by omega) n (by omega) HL.out).mono ?_
  rintro e w2 ⟨rfl, hR, hU⟩
  have hbw2 := hU.below hbw1 (by have := HS1.out; omega) (by omega)
  have HR := Lib.hid hR
  have HS2 := Lib.hid (show w.heap.size + 1 < w2.heap.size from hR.a.blk.lt)
  clear hz1 hI hU hR hbw1
  go_wp2_with fail
  refine (ratDenom_any (w.heap.size + 1) false 1 _ HR.out.d (by omega)).mono ?_
  rintro e w3 ⟨rfl, rfl⟩
  go_wp2_with fail
  refine (wordsOf_any a' n' c' f' _ (HY.out.keep hbw2) (by omega)).mono ?_
  rintro e w4 ⟨v, rfl, hown, hB4⟩
  obtain ⟨a1, c1, rfl, hbuf, hnc, hcm, hnil, hcells⟩ := buf_of_own hown
  have hw4 := hcells (wv f') (fun i hi => by simp [hi])
  have hR4 := HR.out.keep hB4
  have hbw4 := Below.then hbw2 (by have := HS2.out; omega) hB4
  have HS4 := Lib.hid hB4.size
  clear hown hcells hB4 hbw2
  obtain ⟨aa, nn, cc, p0, p1, _⟩ := hR4.d.val
  go_wp2_with fail
  refine (setBits_any (w.heap.size + 1) 2 a1 n' c1 f' _ hR4.d.blk ⟨_, p0⟩ ⟨_, p1⟩ (by omega) hnc hcm hnil HY.out.lt hw4 hbuf).mono ?_
  rintro e w5 hI5
  have hR5 := rat_setDen hR4 hI5 HD.out
  obtain ⟨rfl, _, hU5⟩ := hI5
  have hbw5 := hU5.upd.below hbw4 (by have := HS2.out; have := HS4.out; omega) (fun k _ e => by subst e; omega)
  go_wp2
  go_ret
  exact ⟨_, rfl, hR5, hbw5⟩
theorem bl_small {N L : Nat} (h : N < W64 ^ L) (hL : L ≤ 63) : decide (bl N < 4096) = true := by
  have h2 : N < 2 ^ (64 * L) := by rw [Nat.pow_mul, ← W64_eq]; exact h
  rcases bl_top N with h0 | h0
  · simp [h0]
  · have : 2 ^ (bl N - 1) < 2 ^ (64 * L) := Nat.lt_of_le_of_lt h0 h2
    have := (Nat.pow_lt_pow_iff_right (by decide : 1 < 2)).1 this
    simp; omega
theorem smallInt_any (b o : Nat) (s : Bool) (N L : Nat) (w : World) (h : BigAt 139 w b o s N) (hN : N < W64 ^ L) (hL : L ≤ 63) :
    Calls Tryz.prog 148 #[.pointer (some ⟨b, o, none⟩)] w fun e w' => e = .returned (.bool true) ∧ w = w' := by
  have HH := Lib.hid h
  have HB := Lib.hid (show decide ((bl N : Int) < 4096) = true from by have := bl_small hN hL; simp at this ⊢; omega)
  have HL := Lib.hid (show N < W64 ^ L from hN)
  clear h hN
  go_enter Tryz.func148, Tryz.ntmps148
  go_wp2_with fail
  refine (intBitLen_any b o s N L _ HH.out HL.out (by omega)).mono ?_
  rintro e w1 ⟨rfl, rfl⟩
  go_wp2
  go_ret
  exact ⟨ret_bool HB.out, rfl⟩
def CRat (w : World) (v : Value) (r : Rt) : Prop := ∃ b s N D, v = .iface 106 (.agg #[.pointer (some ⟨b, 0, none⟩)]) ∧ RatAt 139 w b s N D ∧ r = ⟨s, N, D⟩
theorem CRat.keep {w w' : World} {v : Value} {r : Rt} (h : CRat w v r) (hb : Below w.heap.size w w') : CRat w' v r := by
  obtain ⟨b, s, N, D, rfl, h1, h2⟩ := h; exact ⟨b, s, N, D, rfl, h1.keep hb, h2⟩
theorem makeRat_any (b : Nat) (s : Bool) (N D L : Nat) (w : World) (h : RatAt 139 w b s N D) (hN : N < W64 ^ L) (hD : D < W64 ^ L) (hL : L ≤ 63) :
    Calls Tryz.prog 82 #[.pointer (some ⟨b, 0, none⟩)] w fun e w' => ∃ v, e = .returned v ∧ CRat w' v ⟨s, N, D⟩ ∧ w = w' := by
  have HH := Lib.hid h
  have HN := Lib.hid hN
  have HD := Lib.hid hD
  clear h hN hD
  go_enter Tryz.func82, Tryz.ntmps82
  go_wp2_with fail
  refine (ratNum_any b _).mono ?_
  rintro e w1 ⟨rfl, rfl⟩
  go_wp2_with fail
  refine (ratDenom_any b false D _ HH.out.d HH.out.pos).mono ?_
  rintro e w1 ⟨rfl, rfl⟩
  go_wp2_with fail
  refine (smallInt_any b 0 s N L _ HH.out.a HN.out hL).mono ?_
  rintro e w1 ⟨rfl, rfl⟩
  go_wp2_with fail
  refine (smallInt_any b 2 false D L _ HH.out.d HD.out hL).mono ?_
  rintro e w1 ⟨rfl, rfl⟩
  go_wp2
  go_ret
  exact ⟨_, rfl, ⟨b, s, N, D, rfl, HH.out, rfl⟩, rfl⟩
theorem makeOfRat_any (b : Nat) (s : Bool) (N D L : Nat) (w : World) (h : RatAt 139 w b s N D) (hN : N < W64 ^ L) (hD : D < W64 ^ L) (hL : L ≤ 63) :
    Calls Tryz.prog 109 #[.iface 99 (.pointer (some ⟨b, 0, none⟩))] w fun e w' => ∃ v, e = .returned v ∧ CRat w' v ⟨s, N, D⟩ ∧ w = w' := by
  have HH := Lib.hid h
  have HN := Lib.hid hN
  have HD := Lib.hid hD
  clear h hN hD
  obtain ⟨t1, t2, t3, t4, t5, t6⟩ := ta_any_pRat
  go_enter Tryz.func109, Tryz.ntmps109
  go_wp2_with fail
  refine (makeRat_any b s N D L _ HH.out HN.out HD.out hL).mono ?_
  rintro e w1 ⟨v, rfl, hv, rfl⟩
  have HV := Lib.hid hv
  clear hv
  go_wp2
  go_ret
  exact ⟨_, rfl, HV.out, rfl⟩
def mrt (v : Vl) : Rt := ⟨v.neg && decide (0 < val W64 v.wf v.wn), val W64 v.wf v.wn, val W64 v.df v.dn⟩
theorem madeRat_any (v : Vl) (w : World) (h : VlAt w v) (hk : v.kind = 4) (hn : v.wn ≤ 63) (hd : v.dn ≤ 63) (hD : 0 < val W64 v.df v.dn) :
    Calls Tryz.prog 49 #[.agg #[.int .i64 v.kind, .bool v.truth, .string v.text, .bool v.neg, .slice v.wa v.wn v.wc, .slice v.da v.dn v.dc, .bool v.ineg, .slice v.ia v.inn v.ic, .slice v.ea v.en v.ec]] w fun e w' => ∃ u, e = .returned u ∧ CRat w' u (mrt v) ∧ Below w.heap.size w w' := by
  obtain ⟨W0, hW0⟩ : ∃ W0, W0 = w.alloc (.cells #[.int .i64 v.kind, .bool v.truth, .string v.text, .bool v.neg, .slice v.wa v.wn v.wc, .slice v.da v.dn v.dc, .bool v.ineg, .slice v.ia v.inn v.ic, .slice v.ea v.en v.ec] 26) := ⟨_, rfl⟩
  have HW := Lib.hid hW0
  have hb0 : Below w.heap.size w W0 := by rw [hW0]; exact Below.alloc' (Below.refl _ _) _
  have X : Box9 W0 w.heap.size v := by rw [hW0]; exact Box9.new w v _ rfl
  have HX := Lib.hid (h.keep hb0)
  have HN := Lib.hid (show val W64 v.wf v.wn < W64 ^ 63 from Nat.lt_of_lt_of_le (val_lt h.ws.lt) (Nat.pow_le_pow_right W64_pos hn))
  have HM := Lib.hid (show val W64 v.df v.dn < W64 ^ 63 from Nat.lt_of_lt_of_le (val_lt h.ds.lt) (Nat.pow_le_pow_right W64_pos hd))
  have HD := Lib.hid hD
  clear hW0 h hD
  obtain ⟨xc0, xc1, xc2, xc3, xc4, xc5, xc6, xc7, xc8⟩ := (X).all
  rw [hk] at xc0
  clear hk
  go_enter Tryz.func49, Tryz.ntmps49
  go_upto_region 1 with fail
  rw [← HW.out]
  go_wp2_with fail
  refine (implOver_any v.neg v.wa v.wn v.wc v.wf v.da v.dn v.dc v.df _ HX.out.ws HX.out.ds (by omega) (by omega) HD.out).mono ?_
  rintro e w1 ⟨b, rfl, hR, hB1⟩
  go_wp2_with fail
  refine (makeOfRat_any b _ _ _ 63 _ hR HN.out HM.out (by omega)).mono ?_
  rintro e w2 ⟨u, rfl, hu, rfl⟩
  have hbf := Below.then hb0 (Nat.le_refl _) hB1
  go_wp2
  go_ret
  exact ⟨_, rfl, hu, hbf⟩
end Go.Proofs.YtececkbcinmmpaaGreatDoor
namespace Go.Bg
open Go.RowKit Dg
theorem Rt.over_one (s : Bool) (n : Nat) : Rt.over s n 1 = ⟨s && decide (0 < n), n, 1⟩ := by
  simp [Rt.over]
end Go.Bg
namespace Go.Proofs.YtececkbcinmmpaaGreatDoor
open Go.RowKit Go.Bg Dg
theorem minus_whole (s t : Bool) (N M : Nat) : ∃ u n, Rt.minus (Rt.whole s N) (Rt.whole t M) = ⟨u && decide (0 < n), n, 1⟩ ∧ sg u n = sg s N - sg t M := by
  unfold Rt.minus Rt.plus Rt.negated Rt.whole
  simp only [Rt.over_one, Nat.mul_one]
  by_cases hN : 0 < N <;> by_cases hM : 0 < M
  · simp only [hN, hM, decide_true, Bool.and_true]
    cases s <;> cases t <;> simp only [Bool.not_false, Bool.not_true, if_true, if_false, Bool.true_eq_false, Bool.false_eq_true]
    · split
      · exact ⟨_, _, rfl, by simp [sg]; omega⟩
      · exact ⟨_, _, rfl, by simp [sg]; omega⟩
    · exact ⟨_, _, rfl, by simp [sg]⟩
    · exact ⟨_, _, rfl, by simp [sg]; omega⟩
    · split
      · exact ⟨_, _, rfl, by simp [sg]; omega⟩
      · exact ⟨_, _, rfl, by simp [sg]; omega⟩
  · obtain rfl : M = 0 := by omega
    exact ⟨s, N, by cases s <;> cases t <;> simp [hN], by cases s <;> cases t <;> simp [sg]⟩
  · obtain rfl : N = 0 := by omega
    exact ⟨!t, M, by cases s <;> cases t <;> simp [hM, Nat.not_le_of_lt hM, Nat.ne_of_gt hM], by cases s <;> cases t <;> simp [sg]⟩
  · obtain rfl : N = 0 := by omega
    obtain rfl : M = 0 := by omega
    exact ⟨false, 0, by cases s <;> cases t <;> rfl, by cases s <;> cases t <;> rfl⟩
def sameB (r q : Rt) : Bool := (r.neg == q.neg) && decide (r.num = q.num) && decide (r.den = q.den)
theorem cmpI_zero (N M : Nat) : (cmpI N M == 0) = decide (N = M) := by
  unfold cmpI
  rcases Nat.lt_trichotomy N M with h | h | h
  · have h1 : N ≠ M := by omega
    simp [h, h1]
  · subst h; simp
  · have h1 : N ≠ M := by omega
    have h2 : ¬ N < M := by omega
    simp [h, h1, h2]
theorem same_any (s t : Bool) (a1 : Option Addr) (n1 c1 : Nat) (a1' : Option Addr) (n1' c1' : Nat) (a2 : Option Addr) (n2 c2 : Nat) (a2' : Option Addr) (n2' c2' : Nat) (r q : Rt) (L : Nat) (w : World)
    (h1 : RtAt w s a1 n1 c1 a1' n1' c1' r L) (h2 : RtAt w t a2 n2 c2 a2' n2' c2' q L) (hL : L ≤ 400000) :
    Calls Tryz.prog 45 #[.agg #[.bool s, .slice a1 n1 c1, .slice a1' n1' c1'], .agg #[.bool t, .slice a2 n2 c2, .slice a2' n2' c2']] w fun e w' => e = .returned (.bool (sameB r q)) ∧ Below w.heap.size w w' := by
  have l1 := h1.n_le
  have l2 := h2.n_le
  have l3 := h1.d_le
  have l4 := h2.d_le
  obtain ⟨W0, hW0⟩ : ∃ W0, W0 = (w.alloc (.cells #[.bool s, .slice a1 n1 c1, .slice a1' n1' c1'] 31)).alloc (.cells #[.bool t, .slice a2 n2 c2, .slice a2' n2' c2'] 31) := ⟨_, rfl⟩
  have HW := Lib.hid hW0
  have hb0 : Below w.heap.size w W0 := by rw [hW0]; exact Below.alloc' (Below.alloc' (Below.refl _ _) _) _
  have A : RtBlk W0 w.heap.size s a1 n1 c1 a1' n1' c1' := by rw [hW0]; exact (RtBlk.new _ _ rfl _ _ _ _ _ _ _).keep ((Below.refl _ _).alloc (Nat.le_refl _) _)
  have C : RtBlk W0 (w.heap.size + 1) t a2 n2 c2 a2' n2' c2' := by rw [hW0]; exact RtBlk.new _ _ (by simp) _ _ _ _ _ _ _
  have HA := Lib.hid (h1.keep hb0)
  have HC := Lib.hid (h2.keep hb0)
  have hs := h1.neg
  have ht := h2.neg
  clear hW0 h1 h2
  obtain ⟨x0, x1, x2⟩ := A
  obtain ⟨y0, y1, y2⟩ := C
  have HS := Lib.hid hs
  have HT := Lib.hid ht
  clear hs ht
  by_cases hst : s = t
  · subst hst
    have HN := Lib.hid (cmpI_zero r.num q.num)
    have HD := Lib.hid (cmpI_zero r.den q.den)
    have HST := Lib.hid (show (r.neg == q.neg) = true from by rw [← HS.out, ← HT.out]; simp)
    by_cases hn : r.num = q.num
    · have hz : (cmpI r.num q.num == 0) = true := by rw [HN.out]; simpa using hn
      go_enter Tryz.func45, Tryz.ntmps45
      go_upto_region 1 with fail
      rw [← HW.out]
      go_wp2_with fail
      refine (cmp_any a1 a2 n1 n2 c1 c2 r.num q.num _ HA.out.num HC.out.num (by omega) (by omega)).mono ?_
      rintro e w1 ⟨rfl, hm1⟩
      have hB1 := below_of_drewN (B := W0.heap.size) hm1
      have hc1 := HN.out
      have x2' := cell_keep x2 hB1
      have y2' := cell_keep y2 hB1
      have HNE := Lib.hid hn
      clear hc1 hn
      generalize cmpI r.num q.num = k1 at *
      go_wp2_with fail
      refine (cmp_any a1' a2' n1' n2' c1' c2' r.den q.den _ (HA.out.den.keep hB1) (HC.out.den.keep hB1) (by omega) (by omega)).mono ?_
      rintro e w2 ⟨rfl, hm2⟩
      have hB2 := below_of_drewN (B := w1.heap.size) hm2
      have hbf := Below.then (Below.then hb0 (Nat.le_refl _) hB1) (Nat.le_refl _) hB2
      clear hm1 hm2
      go_wp2
      go_ret
      exact ⟨ret_bool (by unfold sameB; rw [HD.out, HST.out, HNE.out]; simp), hbf⟩
    · have hz : (cmpI r.num q.num == 0) = false := by rw [HN.out]; simpa using hn
      go_enter Tryz.func45, Tryz.ntmps45
      go_upto_region 1 with fail
      rw [← HW.out]
      go_wp2_with fail
      refine (cmp_any a1 a2 n1 n2 c1 c2 r.num q.num _ HA.out.num HC.out.num (by omega) (by omega)).mono ?_
      rintro e w1 ⟨rfl, hm1⟩
      have hB1 := below_of_drewN (B := W0.heap.size) hm1
      have hc1 := HN.out
      have HNE := Lib.hid hn
      have hbf := Below.then hb0 (Nat.le_refl _) hB1
      clear hc1 hn hm1
      generalize cmpI r.num q.num = k1 at *
      go_wp2
      go_ret
      exact ⟨ret_bool (by unfold sameB; simp [HNE.out]), hbf⟩
  · have hb : (s == t) = false := by cases s <;> cases t <;> simp_all
    go_enter Tryz.func45, Tryz.ntmps45
    go_upto_region 1 with fail
    rw [← HW.out]
    go_wp2
    go_ret
    exact ⟨ret_bool (by unfold sameB; rw [← HS.out, ← HT.out, hb]; rfl), hb0⟩
end Go.Proofs.YtececkbcinmmpaaGreatDoor
namespace Go.Bg
open Go.RowKit Dg
def rz (z : Int) : Rt := ⟨decide (z < 0), z.natAbs, 1⟩
theorem sg_nat (s : Bool) (N : Nat) : (sg s N).natAbs = N := by cases s <;> simp [sg]
theorem sg_neg (s : Bool) (N : Nat) : decide (sg s N < 0) = (s && decide (0 < N)) := by
  cases s
  · simp [sg]
  · by_cases h : 0 < N <;> simp [sg, h] <;> omega
theorem whole_rz (s : Bool) (N : Nat) : Rt.whole s N = rz (sg s N) := by
  unfold Rt.whole rz
  rw [sg_nat, sg_neg]
theorem whole_abs (z : Int) : Rt.whole (decide (z < 0)) z.natAbs = rz z := by
  unfold Rt.whole rz
  by_cases h : z < 0
  · have : 0 < z.natAbs := by omega
    simp [h, this]
  · simp [h]
theorem negated_rz (z : Int) : (rz z).negated = rz (-z) := by
  unfold Rt.negated rz
  simp only [Int.natAbs_neg, Rt.mk.injEq, and_true, true_and]
  by_cases h : z < 0
  · have h1 : ¬ (-z < 0) := by omega
    simp [h, h1]; omega
  · by_cases h2 : z = 0
    · subst h2; rfl
    · have h1 : -z < 0 := by omega
      have : 0 < z.natAbs := by omega
      simp [h, h1, this]; omega
end Go.Bg
namespace Go.Proofs.YtececkbcinmmpaaGreatDoor
open Go.RowKit Go.Bg Dg
theorem plus_rz (x y : Int) : (rz x).plus (rz y) = rz (x + y) := by
  obtain ⟨u, n, h, e⟩ := minus_whole (decide (x < 0)) (decide (-y < 0)) x.natAbs (-y).natAbs
  rw [whole_abs, whole_abs, Rt.minus, negated_rz, Int.neg_neg] at h
  rw [h]
  have hx : sg (decide (x < 0)) x.natAbs = x := sg_natAbs x
  have hy : sg (decide (-y < 0)) (-y).natAbs = -y := sg_natAbs (-y)
  rw [hx, hy] at e
  have : (⟨u && decide (0 < n), n, 1⟩ : Rt) = Rt.whole u n := rfl
  rw [this, whole_rz, e]
  congr 1
  omega
theorem minus_rz (x y : Int) : (rz x).minus (rz y) = rz (x - y) := by
  rw [Rt.minus, negated_rz, plus_rz]; rfl
theorem times_rz (x y : Int) : (rz x).times (rz y) = rz (x * y) := by
  unfold Rt.times
  show Rt.over _ (x.natAbs * y.natAbs) (1 * 1) = _
  rw [Nat.mul_one, Rt.over_one, ← Int.natAbs_mul]
  unfold rz
  simp only [Rt.mk.injEq, and_true, true_and]
  have hp : (0 < (x * y).natAbs) = (x ≠ 0 ∧ y ≠ 0) := by
    rw [Int.natAbs_mul]
    apply propext
    constructor
    · intro h
      constructor
      · rintro rfl; simp at h
      · rintro rfl; simp at h
    · rintro ⟨h1, h2⟩
      exact Nat.mul_pos (by omega) (by omega)
  rcases Int.lt_trichotomy x 0 with h1 | rfl | h1
  · rcases Int.lt_trichotomy y 0 with h2 | rfl | h2
    · have := Int.mul_pos_of_neg_of_neg h1 h2
      simp [h1, h2]; omega
    · simp
    · have := Int.mul_neg_of_neg_of_pos h1 h2
      have h3 : ¬ y < 0 := by omega
      simp [h1, h3, this]; omega
  · simp
  · rcases Int.lt_trichotomy y 0 with h2 | rfl | h2
    · have := Int.mul_neg_of_pos_of_neg h1 h2
      have h3 : ¬ x < 0 := by omega
      simp [h2, h3, this]; omega
    · simp
    · have := Int.mul_pos h1 h2
      have h3 : ¬ x < 0 := by omega
      have h4 : ¬ y < 0 := by omega
      have h5 : ¬ x * y < 0 := by omega
      simp [h3, h4, h5]
theorem sameB_refl (r : Rt) : sameB r r = true := by unfold sameB; simp
end Go.Proofs.YtececkbcinmmpaaGreatDoor
