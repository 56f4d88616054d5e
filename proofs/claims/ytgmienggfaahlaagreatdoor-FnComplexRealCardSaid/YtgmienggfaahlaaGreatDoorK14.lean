/-
  Contracts and lemmas: DivA DivQ KnuP KnuR.
-/
import Derived.Deep.CutBlock
import Derived.Test.YtgmienggfaahlaaGreatDoorK13
import Derived.Test.YtgmienggfaahlaaGreatDoorK04
set_option linter.unusedSimpArgs false
set_option linter.unusedVariables false
set_option maxRecDepth 100000
set_option maxHeartbeats 8000000
namespace Go.Bg
open Go.RowKit Dg
def lz (y : Nat) : Nat := 64 - bl y
theorem bl_word {y : Nat} (hy : y < W64) : bl y ≤ 64 := by
  rcases bl_top y with h | h
  · omega
  · have h1 : 2 ^ (bl y - 1) < 2 ^ 64 := Nat.lt_of_le_of_lt h hy
    have := (Nat.pow_lt_pow_iff_right (by decide)).1 h1
    omega
theorem lz_sum {y : Nat} (h0 : 0 < y) (hy : y < W64) : lz y + bl y = 64 ∧ lz y < 64 := by
  have := bl_word hy
  have := bl_pos h0
  unfold lz; omega
theorem lz_top {y : Nat} (h0 : 0 < y) (hy : y < W64) : 9223372036854775808 ≤ y * 2 ^ lz y ∧ y * 2 ^ lz y < 18446744073709551616 := by
  obtain ⟨h1, h2⟩ := lz_sum h0 hy
  have h3 := bl_lt y
  have hb := bl_pos h0
  constructor
  · rcases bl_top y with h | h
    · omega
    · have : 2 ^ (bl y - 1) * 2 ^ lz y ≤ y * 2 ^ lz y := Nat.mul_le_mul_right _ h
      rw [← Nat.pow_add, show bl y - 1 + lz y = 63 from by omega] at this
      exact this
  · have : y * 2 ^ lz y < 2 ^ bl y * 2 ^ lz y := Nat.mul_lt_mul_of_pos_right h3 (Nat.pow_pos (by decide))
    rw [← Nat.pow_add, show bl y + lz y = 64 from by omega] at this
    exact this
end Go.Bg
namespace Go.Proofs.YtgmienggfaahlaaGreatDoor
open Go.RowKit Go.Bg Dg
theorem lz64_any (y : Nat) (h0 : 0 < y) (hy : y < 18446744073709551616) (w : World) :
    Calls Tryz.prog 295 #[.int .u64 y] w fun e w' => e = .returned (.int .i64 (lz y : Nat)) ∧ w' = w := by
  refine (Tryz.bits_LeadingZeros64 (y : Int) w (by omega) (by omega)).mono ?_
  rintro e w1 ⟨rfl, rfl⟩
  refine ⟨?_, rfl⟩
  have := (lz_sum h0 hy).1
  rw [Int.toNat_natCast, bitLen_bl hy]
  congr 2
  omega
theorem bits_mask32 (x : Nat) (hx : x < 18446744073709551616) : bits .and .u64 (x : Int) 4294967295 = ((x % 4294967296 : Nat) : Int) := by
  have h := bits_and64 x 4294967295 hx (by omega)
  have h2 : x &&& 4294967295 = x % 4294967296 := Nat.and_two_pow_sub_one_eq_mod x 32
  rw [h2] at h
  exact h
theorem bitsDiv64_any (hi lo y : Nat) (h1 : hi < y) (h2 : lo < 18446744073709551616) (h3 : y < 18446744073709551616) (w : World) :
    Calls Tryz.prog 298 #[.int .u64 hi, .int .u64 lo, .int .u64 y] w fun e w' => e = .returned (.tuple #[.int .u64 (((hi * W64 + lo) / y : Nat) : Int), .int .u64 (((hi * W64 + lo) % y : Nat) : Int)]) ∧ ∃ n, w' = w.drewN n := by
  have hy0 : ((y : Int) == 0) = false := by simp; omega
  have hyh : decide ((y : Int) ≤ hi) = false := by simp; omega
  by_cases hz : hi = 0
  · subst hz
    have hyz : ¬ (y : Int) = 0 := by omega
    have hQ : IntKind.u64.wrap ((lo : Int) / (y : Int)) = ((lo / y : Nat) : Int) := by
      have : lo / y < 18446744073709551616 := Nat.lt_of_le_of_lt (Nat.div_le_self _ _) h2
      rw [IntKind.wrap_u64, show ((lo : Int) / (y : Int)) = ((lo / y : Nat) : Int) from by simp]
      generalize lo / y = z at *
      omega
    go_enter Tryz.func298, Tryz.ntmps298
    go_upto_region 6 with fail
    go_quiet (fail)
    go_wp2
    exact bodyPost_ret (v := .tuple #[.int .u64 ((lo / y : Nat) : Int), .int .u64 ((lo : Int) % (y : Int))]) (by simp [results, Tryz.results298, go_sem]) rfl ⟨by simp only [Nat.zero_mul, Nat.zero_add]; simp, _, rfl⟩
  · have hiz : ((hi : Int) == 0) = false := by simp; omega
    have HL := Lib.hid (fun w => lz64_any y (by omega) h3 w)
    have hls := lz_sum (y := y) (by omega) (by unfold W64; omega)
    have hlt := lz_top (y := y) (by omega) (by unfold W64; omega)
    obtain ⟨s, hs⟩ : ∃ s, s = lz y := ⟨_, rfl⟩
    rw [← hs] at HL hls hlt
    clear hs
    obtain ⟨t, hst⟩ : ∃ t, s + t = 64 := ⟨64 - s, by omega⟩
    have hsub : (64 : Int) - s = t := by omega
    have hY := wrap_shl y s
    rw [Nat.mod_eq_of_lt (show y * 2 ^ s < W64 from hlt.2)] at hY
    have hM := wrap_shl lo s
    have hU := bits_orS hi lo s t (by unfold W64; omega)
    have hh := half hst (hi * W64 + lo)
    rw [show (hi * W64 + lo) % W64 = lo from by unfold W64; omega, show (hi * W64 + lo) / W64 = hi from by unfold W64; omega, Nat.mod_eq_of_lt (show hi < W64 from by unfold W64; omega)] at hh
    rw [← hh] at hU
    have hdn := div_norm (X := hi * W64 + lo) (y := y) (lo := lo) hst (by
      have : (hi + 1) * W64 ≤ y * W64 := Nat.mul_le_mul_right _ h1
      unfold W64 at this ⊢; omega) (by unfold W64; omega) hlt.2
    have hm0 : lo * 2 ^ s % W64 < 18446744073709551616 := Nat.mod_lt _ W64_pos
    generalize (hi * W64 + lo) / 2 ^ t % W64 = u at *
    clear hh
    generalize lo * 2 ^ s % W64 = m at *
    obtain ⟨Y, hYe⟩ : ∃ Y, Y = y * 2 ^ s := ⟨_, rfl⟩
    rw [← hYe] at hY hlt
    have hmask := bits_mask32 Y hlt.2
    have hm : m < 18446744073709551616 := hm0
    rw [← hYe] at hdn
    have hu : u < Y := hdn.1
    have HX := Lib.hid hdn.2
    clear hdn hm0
    have hmask2 := bits_mask32 m hm
    have hH : (Y : Int) / 4294967296 = ((Y / 4294967296 : Nat) : Int) := by omega
    have hV : (m : Int) / 4294967296 = ((m / 4294967296 : Nat) : Int) := by omega
    obtain ⟨h, hhe⟩ : ∃ h, h = Y / 4294967296 := ⟨_, rfl⟩
    obtain ⟨l, hle⟩ : ∃ l, l = Y % 4294967296 := ⟨_, rfl⟩
    obtain ⟨v, hve⟩ : ∃ v, v = m / 4294967296 := ⟨_, rfl⟩
    obtain ⟨v', hve'⟩ : ∃ v', v' = m % 4294967296 := ⟨_, rfl⟩
    rw [← hhe] at hH
    rw [← hle] at hmask
    rw [← hve] at hV
    rw [← hve'] at hmask2
    have HY := Lib.hid (show Y = h * 4294967296 + l from by omega)
    have HM := Lib.hid (show m = v * 4294967296 + v' from by omega)
    have b1 : 2147483648 ≤ h := by omega
    have b2 : h < 4294967296 := by omega
    have b3 : l < 4294967296 := by omega
    have b4 : v < 4294967296 := by omega
    have b5 : v' < 4294967296 := by omega
    have hhz : ¬ (h : Int) = 0 := by omega
    have HYE := Lib.hid hYe
    have HLS := Lib.hid hls
    have HST := Lib.hid hst
    have HG := Lib.hid (Gs.start (u := u) (v := v) HY.out b1 b2 b3 b4 hu)
    clear hhe hle hve hve' hYe hls hst hlt
    have hQ : IntKind.u64.wrap ((u : Int) / (h : Int)) = ((u / h : Nat) : Int) := by
      have := HG.out.hi
      rw [IntKind.wrap_u64, show ((u : Int) / (h : Int)) = ((u / h : Nat) : Int) from by simp]
      generalize u / h = z at *
      omega
    have hR : IntKind.u64.wrap ((u : Int) - IntKind.u64.wrap (((u / h : Nat) : Int) * (h : Int))) = ((u % h : Nat) : Int) := by
      have e := HG.out.eq
      have := HG.out.hi
      simp only [IntKind.wrap_u64]
      rw [← Int.natCast_mul]
      generalize u / h * h = z at *
      generalize u % h = z2 at *
      omega
    have hT : IntKind.u64.wrap ((y : Int) * 2 ^ s) = (Y : Int) := hY
    generalize u / h = q at *
    generalize u % h = r at *
    obtain ⟨a, ha⟩ : ∃ a, a = (u * 4294967296 + v) / Y := ⟨_, rfl⟩
    obtain ⟨b, hb⟩ : ∃ b, b = (u * 4294967296 + v) % Y := ⟨_, rfl⟩
    obtain ⟨q2, hq2⟩ : ∃ q2, q2 = b / h := ⟨_, rfl⟩
    obtain ⟨r2, hr2⟩ : ∃ r2, r2 = b % h := ⟨_, rfl⟩
    obtain ⟨a2, ha2⟩ : ∃ a2, a2 = (b * 4294967296 + v') / Y := ⟨_, rfl⟩
    obtain ⟨bb, hbb⟩ : ∃ bb, bb = (b * 4294967296 + v') % Y := ⟨_, rfl⟩
    have hbY : b < Y := by rw [hb]; exact Nat.mod_lt _ (by omega)
    have hbbY : bb < Y := by rw [hbb]; exact Nat.mod_lt _ (by omega)
    have hab : a * Y + b = u * 4294967296 + v := by rw [ha, hb, Nat.mul_comm]; exact Nat.div_add_mod _ _
    have hab2 : a2 * Y + bb = b * 4294967296 + v' := by rw [ha2, hbb, Nat.mul_comm]; exact Nat.div_add_mod _ _
    have hal : a < 4294967296 := by rw [ha]; exact gs_top b4 hu
    have hal2 : a2 < 4294967296 := by rw [ha2]; exact gs_top b5 hbY
    have HA := Lib.hid ha
    have HA2 := Lib.hid ha2
    have HB := Lib.hid hb
    have HBB := Lib.hid hbb
    have HG2 := Lib.hid (Gs.start (u := b) (v := v') HY.out b1 b2 b3 b5 hbY)
    rw [← hq2, ← hr2] at HG2
    have hab3 : r2 + q2 * h = b := by rw [hr2, hq2, Nat.add_comm, Nat.mul_comm]; exact Nat.div_add_mod _ _
    have hq2l : q2 ≤ 4294967297 := HG2.out.hi
    have E1 : IntKind.u64.wrap (IntKind.u64.wrap (IntKind.u64.wrap ((u : Int) * 4294967296) + (v : Int)) - IntKind.u64.wrap ((a : Int) * (Y : Int))) = (b : Int) := by
      simp only [IntKind.wrap_u64]
      rw [← Int.natCast_mul]
      generalize a * Y = z at *
      clear ha hb hq2 hr2 ha2 hbb hab2 hab3
      omega
    have E2 : IntKind.u64.wrap (IntKind.u64.wrap (IntKind.u64.wrap ((b : Int) * 4294967296) + (v' : Int)) - IntKind.u64.wrap ((a2 : Int) * (Y : Int))) = (bb : Int) := by
      simp only [IntKind.wrap_u64]
      rw [← Int.natCast_mul]
      generalize a2 * Y = z at *
      clear ha hb hq2 hr2 ha2 hbb hab hab3
      omega
    have E3 : IntKind.u64.wrap ((b : Int) / (h : Int)) = (q2 : Int) := by
      rw [show ((b : Int) / (h : Int)) = ((b / h : Nat) : Int) from by simp, ← hq2, IntKind.wrap_u64]
      clear ha hb hq2 hr2 ha2 hbb hab hab2 hab3
      omega
    have E4 : IntKind.u64.wrap ((b : Int) - IntKind.u64.wrap ((q2 : Int) * (h : Int))) = (r2 : Int) := by
      simp only [IntKind.wrap_u64]
      rw [← Int.natCast_mul]
      generalize q2 * h = z at *
      clear ha hb hq2 hr2 ha2 hbb hab hab2
      omega
    clear ha hb hq2 hr2 ha2 hbb hab hab2 hab3
    go_enter Tryz.func298, Tryz.ntmps298
    go_wp2_with fail
    refine (HL.out _).mono ?_
    rintro e w1 ⟨rfl, rfl⟩
    go_upto_block 0 with fail
    go_cut [15, 16] from 67 to 85 (fun s15 s16 wx => s15 = .int .u64 (a : Nat) ∧ (∃ z, s16 = .int .u64 z) ∧ wx = w1)
    case first =>
      go_wp2
      go_loopw [15, 16] (fun s15 s16 wr => ∃ q r : Nat, s15 = .int .u64 q ∧ s16 = .int .u64 r ∧ Gs Y h l u v q r ∧ wr = w1) (fun s15 _ _ => (intOf s15).toNat)
      case atStart => exact ⟨q, r, rfl, rfl, HG.out, rfl⟩
      case round =>
        clear hR hQ HG hT hsub hU hM hY hH hmask hV hmask2 HL E1 E2 E3 E4
        obtain ⟨q, r, rfl, rfl, hG, rfl⟩ := hrel
        have g1 := hG.hi
        have g2 := hG.lt
        have HG := Lib.hid hG
        clear hG
        obtain ⟨p, hp⟩ : ∃ p : Nat, p = q - 1 := ⟨_, rfl⟩
        by_cases c1 : 4294967296 ≤ q
        · have hS : IntKind.u64.wrap ((q : Int) - 1) = (p : Int) := by rw [IntKind.wrap_u64]; omega
          have k1 : decide ((4294967296 : Int) ≤ (q : Int)) = true := by simp; omega
          by_cases c3 : 4294967296 ≤ r + h
          · have HK := Lib.hid (HG.out.broke HY.out b3 b4 hu (.inl c1) (by omega))
            have k3 : (4294967296 : Int) ≤ (r : Int) + (h : Int) := by omega
            rw [← hp] at HK
            clear hp  c1 c3
            go_wp2_with fail
            go_meet
            exact ⟨congrArg (fun z : Nat => Value.int .u64 (z : Int)) (HK.out.trans HA.out.symm), ⟨_, rfl⟩, by first | rfl | trivial⟩
          · have HK := Lib.hid (HG.out.next HY.out b4 hu (.inl c1) (by omega))
            have k3 : ¬ (4294967296 : Int) ≤ (r : Int) + (h : Int) := by omega
            have HM := Lib.hid (show p < q from by omega)
            rw [← hp] at HK
            clear hp  c1 c3
            go_wp2_with fail
            go_roundw
            case rel => exact ⟨p, r + h, rfl, by simp, HK.out, by first | rfl | trivial⟩
            case measure => have := HM.out; simp [intOf]; omega
        · have k1 : decide ((4294967296 : Int) ≤ (q : Int)) = false := by simp; omega
          obtain ⟨P, hPe⟩ : ∃ P, P = q * l := ⟨_, rfl⟩
          have hPl : P < 18446744073709551616 := by
            rw [hPe]
            exact Nat.lt_of_le_of_lt (Nat.mul_le_mul (Nat.le_of_lt (by omega : q < 4294967296)) (Nat.le_of_lt_succ (by omega : l < 4294967295 + 1))) (by decide)
          have hP : IntKind.u64.wrap ((q : Int) * (l : Int)) = (P : Int) := by
            rw [IntKind.wrap_u64, ← Int.natCast_mul, ← hPe]; omega
          by_cases c2 : 4294967296 * r + v < P
          · have k2 : ¬ (P : Int) ≤ 4294967296 * (r : Int) + (v : Int) := by omega
            have hd := HG.out.down HY.out b4 hu (.inr (by rw [← hPe]; exact c2))
            have hS : IntKind.u64.wrap ((q : Int) - 1) = (p : Int) := by rw [IntKind.wrap_u64]; omega
            by_cases c3 : 4294967296 ≤ r + h
            · have HK := Lib.hid (HG.out.broke HY.out b3 b4 hu (.inr (by rw [← hPe]; exact c2)) (by omega))
              have k3 : (4294967296 : Int) ≤ (r : Int) + (h : Int) := by omega
              rw [← hp] at HK
              clear hp  hPe c1 c2 c3 hd
              go_wp2_with fail
              go_meet
              exact ⟨congrArg (fun z : Nat => Value.int .u64 (z : Int)) (HK.out.trans HA.out.symm), ⟨_, rfl⟩, by first | rfl | trivial⟩
            · have HK := Lib.hid (HG.out.next HY.out b4 hu (.inr (by rw [← hPe]; exact c2)) (by omega))
              have k3 : ¬ (4294967296 : Int) ≤ (r : Int) + (h : Int) := by omega
              have HM := Lib.hid (show p < q from by omega)
              rw [← hp] at HK
              clear hp  hPe c1 c2 c3 hd
              go_wp2_with fail
              go_roundw
              case rel => exact ⟨p, r + h, rfl, by simp, HK.out, by first | rfl | trivial⟩
              case measure => have := HM.out; simp [intOf]; omega
          · have k2 : (P : Int) ≤ 4294967296 * (r : Int) + (v : Int) := by omega
            have HK := Lib.hid (HG.out.right HY.out b1 (by rw [← hPe]; exact c2))
            clear hp  hPe c1 c2
            go_wp2_with fail
            go_meet
            exact ⟨congrArg (fun z : Nat => Value.int .u64 (z : Int)) (HK.out.trans HA.out.symm), ⟨_, rfl⟩, by first | rfl | trivial⟩
    case rest =>
      obtain ⟨rfl, ⟨z, rfl⟩, rfl⟩ := hcut
      clear hR hQ HG hT hsub hU hM hY hH hmask hV hmask2 HL
      go_upto_block 2 with fail
      clear E1 E3 E4
      go_cut [18, 16] from 102 to 120 (fun s18 s16 wx => s18 = .int .u64 (a2 : Nat) ∧ (∃ z, s16 = .int .u64 z) ∧ wx = wc)
      case first =>
        go_wp2
        go_loopw [18, 16] (fun s15 s16 wr => ∃ q r : Nat, s15 = .int .u64 q ∧ s16 = .int .u64 r ∧ Gs Y h l b v' q r ∧ wr = wc) (fun s15 _ _ => (intOf s15).toNat)
        case atStart => exact ⟨q2, r2, rfl, rfl, HG2.out, rfl⟩
        case round =>
          clear E2
          obtain ⟨q, r, rfl, rfl, hG, rfl⟩ := hrel
          have g1 := hG.hi
          have g2 := hG.lt
          have HG := Lib.hid hG
          clear hG
          obtain ⟨p, hp⟩ : ∃ p : Nat, p = q - 1 := ⟨_, rfl⟩
          by_cases c1 : 4294967296 ≤ q
          · have hS : IntKind.u64.wrap ((q : Int) - 1) = (p : Int) := by rw [IntKind.wrap_u64]; omega
            have k1 : decide ((4294967296 : Int) ≤ (q : Int)) = true := by simp; omega
            by_cases c3 : 4294967296 ≤ r + h
            · have HK := Lib.hid (HG.out.broke HY.out b3 b5 hbY (.inl c1) (by omega))
              have k3 : (4294967296 : Int) ≤ (r : Int) + (h : Int) := by omega
              rw [← hp] at HK
              clear hp  c1 c3
              go_wp2_with fail
              go_meet
              exact ⟨congrArg (fun z : Nat => Value.int .u64 (z : Int)) (HK.out.trans HA2.out.symm), ⟨_, rfl⟩, by first | rfl | trivial⟩
            · have HK := Lib.hid (HG.out.next HY.out b5 hbY (.inl c1) (by omega))
              have k3 : ¬ (4294967296 : Int) ≤ (r : Int) + (h : Int) := by omega
              have HM := Lib.hid (show p < q from by omega)
              rw [← hp] at HK
              clear hp  c1 c3
              go_wp2_with fail
              go_roundw
              case rel => exact ⟨p, r + h, rfl, by simp, HK.out, by first | rfl | trivial⟩
              case measure => have := HM.out; simp [intOf]; omega
          · have k1 : decide ((4294967296 : Int) ≤ (q : Int)) = false := by simp; omega
            obtain ⟨P, hPe⟩ : ∃ P, P = q * l := ⟨_, rfl⟩
            have hPl : P < 18446744073709551616 := by
              rw [hPe]
              exact Nat.lt_of_le_of_lt (Nat.mul_le_mul (Nat.le_of_lt (by omega : q < 4294967296)) (Nat.le_of_lt_succ (by omega : l < 4294967295 + 1))) (by decide)
            have hP : IntKind.u64.wrap ((q : Int) * (l : Int)) = (P : Int) := by
              rw [IntKind.wrap_u64, ← Int.natCast_mul, ← hPe]; omega
            by_cases c2 : 4294967296 * r + v' < P
            · have k2 : ¬ (P : Int) ≤ 4294967296 * (r : Int) + (v' : Int) := by omega
              have hd := HG.out.down HY.out b5 hbY (.inr (by rw [← hPe]; exact c2))
              have hS : IntKind.u64.wrap ((q : Int) - 1) = (p : Int) := by rw [IntKind.wrap_u64]; omega
              by_cases c3 : 4294967296 ≤ r + h
              · have HK := Lib.hid (HG.out.broke HY.out b3 b5 hbY (.inr (by rw [← hPe]; exact c2)) (by omega))
                have k3 : (4294967296 : Int) ≤ (r : Int) + (h : Int) := by omega
                rw [← hp] at HK
                clear hp  hPe c1 c2 c3 hd
                go_wp2_with fail
                go_meet
                exact ⟨congrArg (fun z : Nat => Value.int .u64 (z : Int)) (HK.out.trans HA2.out.symm), ⟨_, rfl⟩, by first | rfl | trivial⟩
              · have HK := Lib.hid (HG.out.next HY.out b5 hbY (.inr (by rw [← hPe]; exact c2)) (by omega))
                have k3 : ¬ (4294967296 : Int) ≤ (r : Int) + (h : Int) := by omega
                have HM := Lib.hid (show p < q from by omega)
                rw [← hp] at HK
                clear hp  hPe c1 c2 c3 hd
                go_wp2_with fail
                go_roundw
                case rel => exact ⟨p, r + h, rfl, by simp, HK.out, by first | rfl | trivial⟩
                case measure => have := HM.out; simp [intOf]; omega
            · have k2 : (P : Int) ≤ 4294967296 * (r : Int) + (v' : Int) := by omega
              have HK := Lib.hid (HG.out.right HY.out b1 (by rw [← hPe]; exact c2))
              clear hp  hPe c1 c2
              go_wp2_with fail
              go_meet
              exact ⟨congrArg (fun z : Nat => Value.int .u64 (z : Int)) (HK.out.trans HA2.out.symm), ⟨_, rfl⟩, by first | rfl | trivial⟩
      case rest =>
        obtain ⟨rfl, ⟨z, rfl⟩, rfl⟩ := hcut
        have HF := Lib.hid (div_back HX.out HM.out HYE.out (by omega) HA.out HB.out HA2.out HBB.out)
        have HS := Lib.hid (show min s 64 = s from by have := HLS.out.2; omega)
        go_wp2_with fail
        exact bodyPost_ret (v := .tuple #[.int .u64 ((a : Int) * 4294967296 + (a2 : Int)), .int .u64 ((bb : Int) / 2 ^ min s 64)]) (by simp [results, Tryz.results298, go_sem]) rfl ⟨by rw [HS.out, ← HF.out.1, ← HF.out.2]; simp, 0, rfl⟩
end Go.Proofs.YtgmienggfaahlaaGreatDoor
namespace Go.Bg
open Go.RowKit Dg
theorem est {B d x1 x0 m q : Nat} (hd : d < B) (h0 : 0 < d) (hx : x1 < d) (hx0 : x0 < B) (hm : m + B = (B * B - 1) / d) (hq : q = (x1 * m + x0) / B + x1) :
    q * d ≤ x1 * B + x0 ∧ x1 * B + x0 < q * d + B + d := by
  have hB : 0 < B := by omega
  obtain ⟨M, hM⟩ : ∃ M, M = m + B := ⟨_, rfl⟩
  rw [← hM] at hm
  have m1 : d * M ≤ B * B - 1 := by rw [hm]; exact Nat.mul_div_le _ _
  have m2 : B * B - 1 < d * M + d := by
    have := Nat.lt_mul_div_succ (B * B - 1) h0
    rw [← hm, Nat.mul_add, Nat.mul_one] at this
    exact this
  have hq' : q = (x1 * M + x0) / B := by
    rw [hq, hM, Nat.mul_add, show x1 * m + x1 * B + x0 = x1 * m + x0 + x1 * B from by omega, Nat.add_mul_div_right _ _ hB]
  have q1 : q * B ≤ x1 * M + x0 := by rw [hq']; exact Nat.div_mul_le_self _ _
  have q2 : x1 * M + x0 < q * B + B := by
    have := Nat.lt_mul_div_succ (x1 * M + x0) hB
    rw [← hq', Nat.mul_add, Nat.mul_one, Nat.mul_comm B q] at this
    exact this
  have bb : 0 < B * B := Nat.mul_pos hB hB
  constructor
  · refine Nat.le_of_mul_le_mul_right ?_ hB
    have e1 : q * B * d ≤ (x1 * M + x0) * d := Nat.mul_le_mul_right _ q1
    have e2 : x1 * (d * M) ≤ x1 * (B * B) := Nat.mul_le_mul_left _ (by omega)
    have e3 : x0 * d ≤ x0 * B := Nat.mul_le_mul_left _ (by omega)
    have f1 : q * d * B = q * B * d := Nat.mul_right_comm _ _ _
    have f2 : (x1 * M + x0) * d = x1 * (d * M) + x0 * d := by rw [Nat.add_mul, Nat.mul_assoc, Nat.mul_comm M d]
    have f3 : (x1 * B + x0) * B = x1 * (B * B) + x0 * B := by rw [Nat.add_mul, Nat.mul_assoc]
    omega
  · refine Nat.lt_of_mul_lt_mul_right (a := B) ?_
    have e1 : (x1 * M + x0 + 1) * d ≤ (q * B + B) * d := Nat.mul_le_mul_right _ q2
    have e2 : x1 * (B * B) ≤ x1 * (d * M + d) := Nat.mul_le_mul_left _ (by omega)
    obtain ⟨e, he⟩ : ∃ e, B = d + e := ⟨B - d, by omega⟩
    have e3 : x1 * d ≤ d * d := Nat.mul_le_mul_right _ (by omega)
    have e4 : x0 * e ≤ B * e := Nat.mul_le_mul_right _ (by omega)
    have e5 : d * d ≤ B * d := Nat.mul_le_mul_right _ (by omega)
    have f0 : B * B = B * d + B * e := by rw [← Nat.mul_add, ← he]
    have f1 : (x1 * M + x0 + 1) * d = x1 * (d * M) + x0 * d + d := by rw [Nat.add_mul, Nat.add_mul, Nat.one_mul, Nat.mul_assoc, Nat.mul_comm M d]
    have f2 : (q * B + B) * d = q * d * B + B * d := by rw [Nat.add_mul, Nat.mul_right_comm]
    have f3 : (x1 * B + x0) * B = x1 * (B * B) + x0 * B := by rw [Nat.add_mul, Nat.mul_assoc]
    have f4 : (q * d + B + d) * B = q * d * B + B * B + B * d := by rw [Nat.add_mul, Nat.add_mul, Nat.mul_comm d B]
    have f5 : x1 * (d * M + d) = x1 * (d * M) + x1 * d := Nat.mul_add _ _ _
    have f6 : x0 * B = x0 * d + x0 * e := by rw [← Nat.mul_add, ← he]
    omega
def recip (y : Nat) : Nat := (W64 * W64 - 1) / (y * 2 ^ lz y) - W64
theorem recip_form {d : Nat} (hd : d < 18446744073709551616) (h : 9223372036854775808 ≤ d) :
    ((18446744073709551615 - d) * W64 + 18446744073709551615) / d = (W64 * W64 - 1) / d - W64 ∧ (W64 * W64 - 1) / d - W64 < 18446744073709551616 ∧ (W64 * W64 - 1) / d - W64 + W64 = (W64 * W64 - 1) / d := by
  have e : W64 * W64 - 1 = (18446744073709551615 - d) * W64 + 18446744073709551615 + W64 * d := by
    unfold W64; omega
  have e2 : (W64 * W64 - 1) / d = ((18446744073709551615 - d) * W64 + 18446744073709551615) / d + W64 := by
    rw [e, Nat.add_mul_div_right _ _ (by omega)]
  have e3 : ((18446744073709551615 - d) * W64 + 18446744073709551615) / d < 18446744073709551616 := by
    rw [Nat.div_lt_iff_lt_mul (by omega)]
    unfold W64; omega
  rw [e2]
  generalize ((18446744073709551615 - d) * W64 + 18446744073709551615) / d = z at *
  exact ⟨by omega, by omega, by omega⟩
end Go.Bg
namespace Go.Proofs.YtgmienggfaahlaaGreatDoor
open Go.RowKit Go.Bg Dg
theorem nlz_any (y : Nat) (h0 : 0 < y) (hy : y < 18446744073709551616) (w : World) :
    Calls Tryz.prog 243 #[.int .u64 y] w fun e w' => e = .returned (.int .u64 (lz y : Nat)) ∧ w' = w := by
  have HL := Lib.hid (show ∀ w, Calls Tryz.prog 276 #[.int .u64 y] w fun e w' => e = .returned (.int .i64 (lz y : Nat)) ∧ w' = w from by
    intro w
    refine (Tryz.bits_LeadingZeros (y : Int) w (by omega) (by omega)).mono ?_
    rintro e w1 ⟨rfl, rfl⟩
    refine ⟨?_, rfl⟩
    have := (lz_sum h0 (show y < W64 from hy)).1
    rw [Int.toNat_natCast, bitLen_bl hy]
    congr 2
    omega)
  have hl := (lz_sum h0 (show y < W64 from hy)).2
  generalize lz y = s at *
  go_enter Tryz.func243, Tryz.ntmps243
  go_wp2_with fail
  refine (HL.out _).mono ?_
  rintro e w1 ⟨rfl, rfl⟩
  go_wp2
  go_ret
  exact ⟨rfl, rfl⟩
theorem bitsDiv_any (hi lo y : Nat) (h1 : hi < y) (h2 : lo < 18446744073709551616) (h3 : y < 18446744073709551616) (w : World) :
    Calls Tryz.prog 273 #[.int .u64 hi, .int .u64 lo, .int .u64 y] w fun e w' => e = .returned (.tuple #[.int .u64 (((hi * W64 + lo) / y : Nat) : Int), .int .u64 (((hi * W64 + lo) % y : Nat) : Int)]) ∧ ∃ n, w' = w.drewN n := by
  have HD := Lib.hid (fun w => bitsDiv64_any hi lo y h1 h2 h3 w)
  have b1 : (hi * W64 + lo) / y < 18446744073709551616 := by
    rw [Nat.div_lt_iff_lt_mul (by omega)]
    have : (hi + 1) * W64 ≤ y * W64 := Nat.mul_le_mul_right _ h1
    unfold W64 at *; omega
  have b2 : (hi * W64 + lo) % y < 18446744073709551616 := Nat.lt_trans (Nat.mod_lt _ (by omega)) h3
  generalize (hi * W64 + lo) / y = q at *
  generalize (hi * W64 + lo) % y = r at *
  go_enter Tryz.func273, Tryz.ntmps273
  go_wp2_with fail
  refine (HD.out _).mono ?_
  rintro e w1 ⟨rfl, n, rfl⟩
  go_wp2
  exact bodyPost_ret (v := .tuple #[.int .u64 (q : Nat), .int .u64 (r : Nat)]) (by simp [results, Tryz.results273, go_sem]) rfl ⟨rfl, _, rfl⟩
theorem bits_not64 (d : Nat) (h : d < 18446744073709551616) : bits .xor .u64 IntKind.u64.max (d : Int) = ((18446744073709551615 - d : Nat) : Int) := by
  have k1 : BitVec.ofInt 64 IntKind.u64.max = BitVec.allOnes 64 := by decide
  have k2 : (BitVec.ofInt 64 (d : Int)).toNat = d := by
    rw [BitVec.ofInt_natCast, BitVec.toNat_ofNat]; exact Nat.mod_eq_of_lt (by omega)
  show IntKind.u64.wrap ((BitVec.ofInt 64 _ ^^^ BitVec.ofInt 64 _).toNat : Int) = _
  rw [k1, BitVec.allOnes_xor, BitVec.toNat_not, k2, IntKind.wrap_u64]
  omega
theorem recipDiv_any (d x m : Nat) (h1 : 9223372036854775808 ≤ d) (h2 : d < 18446744073709551616) (hx : x + d = 18446744073709551615) (hm : m = (x * W64 + 18446744073709551615) / d) (w : World) :
    Calls Tryz.prog 273 #[.int .u64 (x : Nat), .int .u64 18446744073709551615, .int .u64 d] w fun e w' => (∃ r : Nat, e = .returned (.tuple #[.int .u64 (m : Nat), .int .u64 (r : Nat)])) ∧ ∃ n, w' = w.drewN n := by
  have h := bitsDiv_any x 18446744073709551615 d (by omega) (by omega) h2 w
  rw [← hm] at h
  exact h.mono fun e w' ⟨h1, h2⟩ => ⟨⟨_, h1⟩, h2⟩
theorem recipWalk (y s d x m : Nat) (hx : bits .xor .u64 IntKind.u64.max (d : Int) = (x : Int)) (hxl : x < 18446744073709551616) (hy : y < 18446744073709551616) (hs : s < 64) (hm : m < 18446744073709551616) (h2 : d < 18446744073709551616) (hw : IntKind.u64.wrap ((y : Int) * 2 ^ s) = (d : Int))
    (HN : Hid (∀ w, Calls Tryz.prog 243 #[.int .u64 y] w fun e w' => e = .returned (.int .u64 (s : Nat)) ∧ w' = w))
    (HD : Hid (∀ w, Calls Tryz.prog 273 #[.int .u64 (x : Nat), .int .u64 18446744073709551615, .int .u64 d] w fun e w' => (∃ r : Nat, e = .returned (.tuple #[.int .u64 (m : Nat), .int .u64 (r : Nat)])) ∧ ∃ n, w' = w.drewN n)) (w : World) :
    Calls Tryz.prog 274 #[.int .u64 y] w fun e w' => e = .returned (.int .u64 (m : Nat)) ∧ ∃ n, w' = w.drewN n := by
  go_enter Tryz.func274, Tryz.ntmps274
  go_wp2_with fail
  refine (HN.out _).mono ?_
  rintro e w1 ⟨rfl, rfl⟩
  go_wp2_with fail
  refine (HD.out _).mono ?_
  rintro e w2 ⟨⟨r, rfl⟩, n, rfl⟩
  go_wp2
  go_ret
  exact ⟨rfl, _, rfl⟩
theorem recip_any (y : Nat) (h0 : 0 < y) (hy : y < 18446744073709551616) (w : World) :
    Calls Tryz.prog 274 #[.int .u64 y] w fun e w' => e = .returned (.int .u64 (recip y : Nat)) ∧ ∃ n, w' = w.drewN n := by
  have ht := lz_top h0 (show y < W64 from hy)
  obtain ⟨f1, f2, f3⟩ := recip_form ht.2 ht.1
  have hw := wrap_shl y (lz y)
  rw [Nat.mod_eq_of_lt (show y * 2 ^ lz y < W64 from ht.2)] at hw
  exact recipWalk y (lz y) (y * 2 ^ lz y) _ (recip y) (bits_not64 _ ht.2) (by omega) hy (lz_sum h0 hy).2 f2 ht.2 hw (Lib.hid (nlz_any y h0 hy))
    (Lib.hid (recipDiv_any _ (18446744073709551615 - y * 2 ^ lz y) _ ht.1 ht.2 (Nat.sub_add_cancel (by omega)) f1.symm)) w
end Go.Proofs.YtgmienggfaahlaaGreatDoor
namespace Go.Bg
open Go.RowKit Dg
structure Gk (B h l u z q r : Nat) : Prop where
  eq : q * h + r = u
  lo : (u * B + z) / (h * B + l) ≤ q
  hi : q < B
theorem Gk.start {B h l u z : Nat} (hB : 0 < B) (hh : 0 < h) (hl : l < B) (hz : z < B) (hu : u < h * B) : Gk B h l u z (u / h) (u % h) := by
  refine ⟨by rw [Nat.mul_comm]; exact Nat.div_add_mod _ _, ?_, (Nat.div_lt_iff_lt_mul hh).2 (by rw [Nat.mul_comm]; exact hu)⟩
  have e1 : (u * B + z) / (B * h) = u / h := by
    rw [← Nat.div_div_eq_div_mul]
    congr 1
    rw [Nat.mul_comm, Nat.mul_add_div hB, Nat.div_eq_of_lt hz, Nat.add_zero]
  rw [← e1]
  exact Nat.div_le_div_left (by rw [Nat.mul_comm]; omega) (Nat.mul_pos hB hh)
theorem Gk.down {B h l u z q r : Nat} (g : Gk B h l u z q r) (hB : 0 < B) (hh : 0 < h) (hg : r * B + z < q * l) :
    0 < q ∧ (u * B + z) / (h * B + l) ≤ q - 1 := by
  have hpos : 0 < h * B + l := Nat.lt_of_lt_of_le (Nat.mul_pos hh hB) (Nat.le_add_right _ _)
  have : (u * B + z) / (h * B + l) < q := by
    refine (Nat.div_lt_iff_lt_mul hpos).2 ?_
    rw [← g.eq, Nat.mul_add, Nat.add_mul, ← Nat.mul_assoc]
    omega
  generalize (u * B + z) / (h * B + l) = w at *
  omega
theorem Gk.next {B h l u z q r : Nat} (g : Gk B h l u z q r) (hB : 0 < B) (hh : 0 < h) (hg : r * B + z < q * l) : Gk B h l u z (q - 1) (r + h) := by
  obtain ⟨h1, h2⟩ := g.down hB hh hg
  have e := g.eq
  have := g.hi
  refine ⟨?_, h2, by omega⟩
  obtain ⟨p, rfl⟩ : ∃ p, q = p + 1 := ⟨q - 1, by omega⟩
  rw [Nat.add_mul, Nat.one_mul] at e
  rw [Nat.add_sub_cancel]
  omega
theorem Gk.right {B h l u z q r : Nat} (g : Gk B h l u z q r) (hB : 0 < B) (hh : 0 < h) (hg : q * l ≤ r * B + z) : q = (u * B + z) / (h * B + l) := by
  have hpos : 0 < h * B + l := Nat.lt_of_lt_of_le (Nat.mul_pos hh hB) (Nat.le_add_right _ _)
  refine Nat.le_antisymm ((Nat.le_div_iff_mul_le hpos).2 ?_) g.lo
  rw [← g.eq, Nat.mul_add, Nat.add_mul, ← Nat.mul_assoc]
  omega
theorem Gk.broke {B h l u z q r : Nat} (g : Gk B h l u z q r) (hB : 0 < B) (hh : 0 < h) (hl : l < B) (hr : B ≤ r) : q = (u * B + z) / (h * B + l) := by
  refine g.right hB hh ?_
  have h1 : q * l ≤ B * B := Nat.mul_le_mul (Nat.le_of_lt g.hi) (Nat.le_of_lt hl)
  have h2 : B * B ≤ r * B := Nat.mul_le_mul_right _ hr
  omega
theorem guess_off {P a b x y V U q : Nat} (hP : 0 < P) (hx : x < P) (hy : y < P) (hU : U = a * P + x) (hV : V = b * P + y) (hb : 0 < b) (hq : q = a / b) (hqb : q ≤ b) :
    U / V ≤ q ∧ q ≤ U / V + 1 := by
  have hVp : 0 < V := by
    rw [hV]; exact Nat.lt_of_lt_of_le (Nat.mul_pos hb hP) (Nat.le_add_right _ _)
  have q1 : q * b ≤ a := by rw [hq]; exact Nat.div_mul_le_self _ _
  have q2 : a < q * b + b := by
    have := Nat.lt_mul_div_succ a hb
    rw [← hq, Nat.mul_add, Nat.mul_one, Nat.mul_comm b q] at this
    exact this
  constructor
  · have : U / V < q + 1 := by
      refine (Nat.div_lt_iff_lt_mul hVp).2 ?_
      have h1 : (a + 1) * P ≤ (q * b + b) * P := Nat.mul_le_mul_right _ q2
      have h2 : (q + 1) * V = (q * b + b) * P + (q + 1) * y := by rw [hV, Nat.mul_add, ← Nat.mul_assoc, Nat.add_mul q 1 b, Nat.one_mul]
      rw [Nat.add_mul a, Nat.one_mul] at h1
      rw [hU, h2]
      generalize (q * b + b) * P = m1 at *
      generalize a * P = m2 at *
      generalize (q + 1) * y = m3 at *
      omega
    exact Nat.le_of_lt_succ this
  · by_cases h0 : q = 0
    · rw [h0]; exact Nat.zero_le _
    · have : q - 1 ≤ U / V := by
        refine (Nat.le_div_iff_mul_le hVp).2 ?_
        obtain ⟨p, rfl⟩ : ∃ p, q = p + 1 := ⟨q - 1, by omega⟩
        rw [Nat.add_sub_cancel]
        have h1 : (p + 1) * b * P ≤ a * P := Nat.mul_le_mul_right _ q1
        have h2 : (p + 1) * b * P = p * b * P + b * P := by rw [Nat.add_mul, Nat.one_mul, Nat.add_mul]
        have h3 : p * V = p * b * P + p * y := by rw [hV, Nat.mul_add, ← Nat.mul_assoc]
        have h4 : p * y ≤ b * P := Nat.mul_le_mul (by omega) (Nat.le_of_lt hy)
        rw [hU, h3]
        rw [h2] at h1
        generalize p * b * P = m1 at *
        generalize b * P = m2 at *
        generalize a * P = m3 at *
        generalize p * y = m4 at *
        omega
      exact Nat.sub_le_iff_le_add.1 this
theorem guess_top {B P h y V U : Nat} (hB : 2 ≤ B) (hy : y < P) (hV : V = h * P + y) (hU : h * P * B ≤ U) (hU2 : U < B * V) (hh : B ≤ 2 * h) : U / V ≤ B - 1 ∧ B - 1 ≤ U / V + 1 := by
  have hVp : 0 < V := by
    rcases Nat.eq_zero_or_pos V with h0 | h0
    · rw [h0, Nat.mul_zero] at hU2; omega
    · exact h0
  constructor
  · have : U / V < B := (Nat.div_lt_iff_lt_mul hVp).2 hU2
    exact Nat.le_sub_one_of_lt this
  · have : B - 2 ≤ U / V := by
      refine (Nat.le_div_iff_mul_le hVp).2 ?_
      have h1 : B * V = h * P * B + y * B := by rw [hV, Nat.mul_comm B, Nat.add_mul]
      have h2 : y * B ≤ P * B := Nat.mul_le_mul_right _ (Nat.le_of_lt hy)
      have h3 : B * P ≤ 2 * h * P := Nat.mul_le_mul_right _ hh
      have h4 : 2 * h * P ≤ 2 * V := by rw [hV, Nat.mul_assoc, Nat.mul_add]; exact Nat.le_add_right _ _
      rw [Nat.mul_comm B P] at h3
      have h5 : (B - 2) * V = B * V - 2 * V := Nat.sub_mul _ _ _
      rw [h5]
      generalize B * V = m1 at *
      generalize h * P * B = m2 at *
      generalize y * B = m3 at *
      generalize P * B = m4 at *
      generalize 2 * h * P = m5 at *
      generalize (B - 2) * V = m6 at *
      omega
    generalize U / V = q at *
    omega
def urest (B U V k : Nat) : Nat := U % (V * B ^ k)
theorem urest_lt {B U V k : Nat} (hB : 0 < B) (hV : 0 < V) : urest B U V k < V * B ^ k := Nat.mod_lt _ (Nat.mul_pos hV (Nat.pow_pos hB))
theorem urest_start {B U V k : Nat} (h : U < V * B ^ k) : urest B U V k = U := Nat.mod_eq_of_lt h
theorem urest_done (B U V : Nat) : urest B U V 0 = U % V := by unfold urest; rw [Nat.pow_zero, Nat.mul_one]
theorem usec_lt {B U V k : Nat} (hB : 0 < B) (hV : 0 < V) : urest B U V (k + 1) / B ^ k < V * B := by
  refine (Nat.div_lt_iff_lt_mul (Nat.pow_pos hB)).2 ?_
  have := urest_lt (B := B) (U := U) (V := V) (k := k + 1) hB hV
  rw [Nat.mul_assoc, Nat.mul_comm B, ← Nat.pow_succ]; exact this
theorem usec_step {B U V k : Nat} : urest B U V k = urest B U V (k + 1) % B ^ k + urest B U V (k + 1) / B ^ k % V * B ^ k := by
  unfold urest
  have e : U % (V * B ^ k) = U % (V * B ^ (k + 1)) % (B ^ k * V) := by
    rw [Nat.pow_succ, ← Nat.mul_assoc, Nat.mul_comm (B ^ k) V, Nat.mod_mul_right_mod]
  rw [e, Nat.mod_mul, Nat.mul_comm (B ^ k)]
theorem usec_digit {B U V k : Nat} : urest B U V (k + 1) / B ^ k / V = dg B (U / V) k := by
  unfold urest dg
  rw [Nat.div_div_eq_div_mul, Nat.div_div_eq_div_mul, Nat.mul_comm (B ^ k) V, Nat.pow_succ, ← Nat.mul_assoc, Nat.mod_mul_right_div_self]
theorem dg_lo {B a x k i : Nat} (hB : 0 < B) (hi : i < k) : dg B (a % B ^ k + x * B ^ k) i = dg B a i := by
  rw [← dg_mod (a % B ^ k + x * B ^ k) hi, Nat.add_mul_mod_self_right, Nat.mod_mod, dg_mod _ hi]
theorem dg_hi {B a x k i : Nat} (hB : 0 < B) : dg B (a % B ^ k + x * B ^ k) (k + i) = dg B x i := by
  rw [← Dg.dg_div, Nat.add_mul_div_right _ _ (Nat.pow_pos hB), Nat.div_eq_of_lt (Nat.mod_lt _ (Nat.pow_pos hB)), Nat.zero_add]
theorem urest_lo {B U V k i : Nat} (hB : 0 < B) (hi : i < k) : dg B (urest B U V k) i = dg B (urest B U V (k + 1)) i := by
  rw [usec_step, dg_lo hB hi]
theorem urest_hi {B U V k i : Nat} (hB : 0 < B) : dg B (urest B U V k) (k + i) = dg B (urest B U V (k + 1) / B ^ k % V) i := by
  rw [usec_step, dg_hi hB]
theorem sub_right {B n S V q : Nat} (hS : S < B ^ (n + 1)) (hV : 0 < V) (h1 : S / V ≤ q) (hle : q * V ≤ S) : q = S / V ∧ S - q * V = S % V := by
  have e : q = S / V := Nat.le_antisymm ((Nat.le_div_iff_mul_le hV).2 hle) h1
  refine ⟨e, ?_⟩
  have := Nat.div_add_mod S V
  rw [e, Nat.mul_comm]
  omega
theorem sub_wrong {S V q : Nat} (hV : 0 < V) (h1 : S / V ≤ q) (h2 : q ≤ S / V + 1) (hgt : S < q * V) : q = S / V + 1 ∧ ∀ M, q * V ≤ S + M → V ≤ M → S + M - q * V + V = M + S % V := by
  have hne : q ≠ S / V := fun e => by
    have := Nat.div_mul_le_self S V
    rw [← e] at this
    omega
  have e : q = S / V + 1 := by omega
  refine ⟨e, fun M hM hVM => ?_⟩
  have := Nat.div_add_mod S V
  have h3 : q * V = V * (S / V) + V := by rw [e, Nat.add_mul, Nat.one_mul, Nat.mul_comm]
  omega
theorem guess_fits {B n V q : Nat} (hV : V < B ^ n) (hq : q < B) (hB : 0 < B) : q * V < B ^ (n + 1) := by
  rw [Nat.pow_succ, Nat.mul_comm (B ^ n)]
  have h1 : q * V ≤ q * B ^ n := Nat.mul_le_mul_left _ (Nat.le_of_lt hV)
  have h2 : q * B ^ n < B * B ^ n := Nat.mul_lt_mul_of_pos_right hq (Nat.pow_pos hB)
  omega
end Go.Bg
namespace Go.Proofs.YtgmienggfaahlaaGreatDoor
open Go.RowKit Go.Bg Dg
theorem bor_sec {n S Y M : Nat} (hS : S < W64 ^ n) (hY : Y < W64 ^ n) (hM : M = W64 ^ n) : bor (S + M) Y n = if S < Y then 1 else 0 := by
  unfold bor
  rw [hM, Nat.add_mod_right, Nat.mod_eq_of_lt hS, Nat.mod_eq_of_lt hY]
end Go.Proofs.YtgmienggfaahlaaGreatDoor
