/-
  Contracts and lemmas: InB UqC UqU.
-/
import Derived.Test.YteidappcoicceaaGreatDoorT01
set_option linter.unusedSimpArgs false
set_option linter.unusedVariables false
set_option maxRecDepth 100000
set_option maxHeartbeats 8000000
namespace Go.Bg
theorem hex_at : ∀ d : Fin 16, (([48, 49, 50, 51, 52, 53, 54, 55, 56, 57, 97, 98, 99, 100, 101, 102] : List UInt8).take (d.val + 1)).drop d.val = [hx d.val] := by decide
theorem hex_ext (d : Nat) (h : d < 16) : (ByteArray.mk #[48, 49, 50, 51, 52, 53, 54, 55, 56, 57, 97, 98, 99, 100, 101, 102]).extract d (d + 1) = txt [hx d] := by
  have := txt_extract [48, 49, 50, 51, 52, 53, 54, 55, 56, 57, 97, 98, 99, 100, 101, 102] d (d + 1)
  rw [hex_at ⟨d, h⟩] at this
  exact this
end Go.Bg
namespace Go.Proofs.YteidappcoicceaaGreatDoor
open Go.RowKit Go.Bg Dg
def hexOf (N : Nat) : List UInt8 := if N = 0 then [48] else if N < 16 then [hx N] else [hx (N / 16), hx (N % 16)]
def HexSt (N K : Nat) (l : List UInt8) : Prop :=
  (K = N ∧ l = []) ∨ (K = N / 16 ∧ l = [hx (N % 16)]) ∨ (K = 0 ∧ 16 ≤ N ∧ l = [hx (N / 16), hx (N % 16)])
theorem inBase_any (a : Option Addr) (n c N : Nat) (w : World) (h : NatAt w a n c N) (hn : n ≤ 1) (hN : N < 256) :
    Calls Tryz.prog 13 #[.slice a n c, .int .i64 16, .bool false] w fun e w' => e = .returned (.string (txt (hexOf N))) ∧ Below w.heap.size w w' := by
  by_cases h0 : N = 0
  · subst h0
    have hn0 : n = 0 := by
      rcases h.top with h | h
      · exact h
      · have := Nat.pow_pos (n := n - 1) (show 0 < 65536 by decide); omega
    subst hn0
    go_enter Tryz.func13, Tryz.ntmps13
    go_wp2
    go_ret
    exact ⟨rfl, Below.refl _ _⟩
  · have hn1 : n = 1 := by
      have := h.lt
      rcases Nat.lt_or_ge 0 n with h | h
      · omega
      · obtain rfl : n = 0 := by omega
        simp at this; omega
    subst hn1
    have H := Lib.hid h
    clear h
    go_enter Tryz.func13, Tryz.ntmps13
    go_wp2
    go_loopg [0, 8, 9, 10] 2 (fun gk a o _ _ wr => ∃ (a1 : Option Addr) (n1 c1 K : Nat) (l : List UInt8), a = .slice a1 n1 c1 ∧ o = .string (txt l) ∧ NatAt wr a1 n1 c1 K ∧ n1 ≤ 1 ∧ K < 16 ^ gk ∧ l.length ≤ 2 ∧
        Hid (HexSt N K l) ∧ Below w.heap.size w wr)
    case atStart => exact ⟨a, 1, c, N, [], rfl, rfl, H.out, Nat.le_refl _, by omega, by simp, .inl ⟨rfl, rfl⟩, Below.refl _ _⟩
    case round =>
      obtain ⟨a1, n1, c1, K, l, rfl, rfl, hK, hn1, hlt, hl, hst, hb⟩ := hrel
      by_cases hz : n1 = 0
      · subst hz
        have hK0 : K = 0 := by have := hK.lt; simpa using this
        subst hK0
        go_wp2
        go_ret
        have hl : l = hexOf N := by
          unfold hexOf
          rcases hst.out with ⟨h1, rfl⟩ | ⟨h1, rfl⟩ | ⟨_, h2, rfl⟩
          · exact absurd h1.symm h0
          · have h16 : N < 16 := by omega
            rw [if_neg h0, if_pos h16, Nat.mod_eq_of_lt h16]
          · rw [if_neg h0, if_neg (by omega)]
        refine ⟨by rw [← hl]; rfl, hb⟩
      · obtain rfl : n1 = 1 := by omega
        have hK0 : 0 < K := by
          rcases hK.top with h | h
          · omega
          · simp at h; omega
        obtain ⟨g', rfl⟩ : ∃ g', gk = g' + 1 := ⟨gk - 1, by rcases gk with _ | gk; simp at hlt; omega; omega⟩
        have hst' : HexSt N (K / 16) (hx (K % 16) :: l) := by
          rcases hst.out with ⟨rfl, rfl⟩ | ⟨rfl, rfl⟩ | ⟨h1, _⟩
          · exact .inr (.inl ⟨rfl, rfl⟩)
          · refine .inr (.inr ⟨by omega, by omega, ?_⟩)
            rw [Nat.mod_eq_of_lt (show N / 16 < 16 by omega)]
          · omega
        have HS := Lib.hid hst'
        have hl2 : l.length ≤ 1 := by
          rcases hst.out with ⟨_, rfl⟩ | ⟨_, rfl⟩ | ⟨h1, _⟩
          · simp
          · simp
          · omega
        have hq : K / 16 < 16 ^ g' := by rw [Nat.pow_succ] at hlt; omega
        have HQ := Lib.hid hq
        have HK := Lib.hid hK
        have hls : (txt l).size ≤ 1 := by rw [txt_size]; exact hl2
        clear hst' hst hq hlt hK
        go_wp2_with (go_at_call 32; refine (byDigit_any _ _ _ _ 16 _ HK.out (by omega) (by omega) (by omega)).mono ?_; rintro e w2 ⟨a2, n2, c2, rfl, hK2, hb2⟩)
        go_roundg g'
        case measure => omega
        case rel =>
          refine ⟨a2, n2, c2, K / 16, hx (K % 16) :: l, rfl, ?_, hK2, ?_, HQ.out, by simp; omega, HS.out, Below.then hb (Nat.le_refl _) hb2⟩
          · rw [hex_ext _ (Nat.mod_lt _ (by decide)), txt_append]; rfl
          · refine hK2.len16 (m := 1) ?_
            have := HK.out.lt
            omega
theorem hexOf_len (N : Nat) : (hexOf N).length ≤ 2 ∧ 1 ≤ (hexOf N).length := by
  unfold hexOf; split
  · simp
  · split <;> simp
theorem hexOf_pad (N : Nat) (hN : N < 256) : (if (hexOf N).length = 1 then 48 :: hexOf N else hexOf N) = [hx (N / 16), hx (N % 16)] := by
  unfold hexOf
  by_cases h0 : N = 0
  · subst h0; decide
  · by_cases h1 : N < 16
    · rw [if_neg h0, if_pos h1, Nat.div_eq_of_lt h1, Nat.mod_eq_of_lt h1]
      simp [hx]
    · rw [if_neg h0, if_neg h1]; simp
theorem hex_any (N : Nat) (w : World) (hN : N < 256) :
    Calls Tryz.prog 7 #[.int .i64 N, .int .i64 2] w fun e w' => e = .returned (.string (txt [hx (N / 16), hx (N % 16)])) ∧ Below w.heap.size w w' := by
  have HP := Lib.hid (hexOf_pad N hN)
  have hlen := hexOf_len N
  obtain ⟨l, hl⟩ : ∃ l, l = hexOf N := ⟨_, rfl⟩
  have HIn := Lib.hid (fun a n c w h hn => inBase_any a n c N w h hn hN)
  rw [← hl] at HP HIn hlen
  have HLen := Lib.hid hlen
  clear hlen hl
  go_enter Tryz.func7, Tryz.ntmps7
  go_wp2_with fail
  refine (small_any N _ (by omega)).mono ?_
  rintro e w1 ⟨a, n, c, rfl, hn, hb1⟩
  go_wp2_with fail
  have hn1 : n ≤ 1 := hn.len16 (m := 1) (by omega)
  refine (HIn.out a n c _ hn hn1).mono ?_
  rintro e w2 ⟨rfl, hb2⟩
  have hb := Below.then hb1 (Nat.le_refl _) hb2
  clear hb1 hb2 hn hn1
  go_wp2
  go_loopg [5] 2 (fun gk s wr => wr = w2 ∧ ((gk = 2 ∧ s = .string (txt l)) ∨ (gk = 1 ∧ s = .string (txt [hx (N / 16), hx (N % 16)]))))
  case atStart => exact ⟨rfl, .inl ⟨rfl, rfl⟩⟩
  case round =>
    obtain ⟨rfl, ⟨rfl, rfl⟩ | ⟨rfl, rfl⟩⟩ := hrel
    · by_cases h1 : l.length = 1
      · have hs : (txt l).size = 1 := by rw [txt_size]; exact h1
        have hp : (txt (48 :: l)) = txt [hx (N / 16), hx (N % 16)] := by have := HP.out; rw [if_pos h1] at this; rw [this]
        have HP2 := Lib.hid hp
        clear hp h1
        go_wp2
        go_roundg 1
        case measure => omega
        case rel =>
          refine ⟨by first | exact trivial | rfl, .inr ⟨rfl, ?_⟩⟩
          rw [← HP2.out]
          exact congrArg Value.string (txt_append [48] l)
      · have hs : (txt l).size = 2 := by rw [txt_size]; have := HLen.out; omega
        have hp : (txt l) = txt [hx (N / 16), hx (N % 16)] := by have := HP.out; rw [if_neg h1] at this; rw [this]
        have HP2 := Lib.hid hp
        clear hp h1
        go_wp2
        go_ret
        exact ⟨by rw [← HP2.out]; rfl, hb⟩
    · have hs : (txt [hx (N / 16), hx (N % 16)]).size = 2 := txt_size _
      obtain ⟨s, hS⟩ : ∃ s, s = txt [hx (N / 16), hx (N % 16)] := ⟨_, rfl⟩
      rw [← hS] at hs ⊢
      have HS := Lib.hid hS
      clear hS
      go_wp2
      go_ret
      exact ⟨by rw [← HS.out]; rfl, hb⟩
theorem unhex_any (d : Nat) (w : World) (hd : d < 16) :
    Calls Tryz.prog 58 #[.int .u8 (hx d).toNat] w fun e w' => e = .returned (.tuple #[.int .i32 d, .bool true]) ∧ w = w' := by
  have h := hx_toNat ⟨d, hd⟩
  simp only at h
  by_cases h10 : d < 10
  · rw [if_pos h10] at h
    rw [h]
    clear h
    go_enter Tryz.func58, Tryz.ntmps58
    go_wp2
    go_ret2
    exact ⟨by simp; omega, rfl⟩
  · rw [if_neg h10] at h
    rw [h]
    clear h
    go_enter Tryz.func58, Tryz.ntmps58
    go_wp2
    go_ret2
    exact ⟨by simp; omega, rfl⟩
theorem or_nib : ∀ a b : Fin 16, bits .or .i32 (((a.val : Nat) : Int) * 16) ((b.val : Nat) : Int) = ((16 * a.val + b.val : Nat) : Int) := by decide
theorem uqChar_any (t t2 t4 : ByteArray) (a b : Nat) (w : World) (ha : a < 16) (hb : b < 16) (h4 : 4 ≤ t.size) (hsz : t.size ≤ 100000) (hs0 : t[0]'(by omega) = 92) (hs1 : t[1]'(by omega) = 120)
    (ht2 : t.extract 2 t.size = t2) (hz2 : t2.size + 2 = t.size) (hx0 : t2[0]'(by omega) = hx a) (hx1 : t2[1]'(by omega) = hx b) (ht4 : t2.extract 2 t2.size = t4) :
    Calls Tryz.prog 28 #[.string t, .int .u8 34] w fun e w' => e = .returned (.tuple #[.int .i32 (16 * a + b : Nat), .bool false, .string t4, .nilIface]) ∧ w = w' := by
  have h22 : 2 ≤ t2.size := by omega
  have hn0 : ((t.size : Int) == 0) = false := beq_eq_false_iff_ne.2 (by omega)
  go_enter Tryz.func28, Tryz.ntmps28
  go_wp2
  go_loopg [7, 13, 14, 15, 16] 2 (fun gk er v j _ _ wr => wr = w ∧ er = .nilIface ∧ ((gk = 2 ∧ j = .int .i64 0 ∧ v = .int .i32 0) ∨ (gk = 1 ∧ j = .int .i64 1 ∧ v = .int .i32 a) ∨ (gk = 0 ∧ j = .int .i64 2 ∧ v = .int .i32 (16 * a + b : Nat))))
  case atStart => exact ⟨rfl, rfl, .inl ⟨rfl, rfl, rfl⟩⟩
  case round =>
    obtain ⟨rfl, rfl, ⟨rfl, rfl, rfl⟩ | ⟨rfl, rfl, rfl⟩ | ⟨rfl, rfl, rfl⟩⟩ := hrel
    · go_wp2_with (go_at_call 58; refine (unhex_any a _ ha).mono ?_; rintro e w2 ⟨rfl, rfl⟩)
      go_roundg 1
      case measure => omega
      case rel => exact ⟨by first | exact trivial | rfl, rfl, .inr (.inl ⟨rfl, rfl, by simp⟩)⟩
    · have hor := or_nib ⟨a, ha⟩ ⟨b, hb⟩
      simp only at hor
      go_wp2_with (go_at_call 58; refine (unhex_any b _ hb).mono ?_; rintro e w2 ⟨rfl, rfl⟩)
      go_roundg 0
      case measure => omega
      case rel => exact ⟨by first | exact trivial | rfl, rfl, .inr (.inr ⟨rfl, rfl, by first | rfl | rw [hor]⟩)⟩
    · go_wp2
      refine bodyPost_ret (v := .tuple #[.int .i32 (16 * a + b : Nat), .bool false, .string t4, .nilIface]) (by simp [results, Tryz.results28, go_sem]) rfl ⟨rfl, rfl⟩
theorem runIndexByte (s : ByteArray) (c : Nat) (w : World) :
    (callFunc 146 #[.string s, .int .u8 c]).run Tryz.prog w = .ok (.value (.int .i64 (Lib.indexByte s.data.toList (UInt8.ofNat c)))) w := by
  rw [run_callFunc_extern Tryz.func146 (by kernel_rfl) (by kernel_rfl) (by kernel_rfl) (e := Extern.BytealgIndexByte.indexByte) (by kernel_rfl), Lib.run_indexByteString]
  simp [Result.andThen]
theorem index_any (s : ByteArray) (c : Nat) (w : World) :
    Calls Tryz.prog 98 #[.string s, .int .u8 c] w fun e w' => e = .returned (.int .i64 (Lib.indexByte s.data.toList (UInt8.ofNat c))) ∧ w = w' := by
  have hx := fun w => runIndexByte s c w
  go_enter Tryz.func98, Tryz.ntmps98
  generalize Lib.indexByte s.data.toList (UInt8.ofNat c) = k at *
  go_wp2
  go_ret
  exact ⟨rfl, rfl⟩
theorem contains_any (s : ByteArray) (c : Nat) (w : World) :
    Calls Tryz.prog 99 #[.string s, .int .u8 c] w fun e w' => e = .returned (.bool (Lib.indexByte s.data.toList (UInt8.ofNat c) != -1)) ∧ w = w' := by
  have hx := fun w => index_any s c w
  go_enter Tryz.func99, Tryz.ntmps99
  generalize Lib.indexByte s.data.toList (UInt8.ofNat c) = k at *
  go_wp2_with (go_at_call 98; refine (hx _).mono ?_; rintro e w2 ⟨rfl, rfl⟩)
  go_ret
  exact ⟨rfl, rfl⟩
end Go.Proofs.YteidappcoicceaaGreatDoor
