/-
  Contracts and lemmas: UqE UqR.
-/
import Derived.Lib.BufSteps
import Derived.Test.YteidappcoicceaaGreatDoorT02
import Derived.BigQuiet
import Derived.Deep.QuietTactic
set_option linter.unusedSimpArgs false
set_option linter.unusedVariables false
set_option maxRecDepth 100000
set_option maxHeartbeats 8000000
namespace Go.Bg
theorem ext0 (l : List UInt8) (n : Nat) (h : n = l.length) : (txt l).extract 0 n = txt l := by
  rw [txt_extract, h]; simp
theorem ext_rest (l : List UInt8) (k : Nat) : (txt l).extract k (txt l).size = txt (l.drop k) := by
  rw [txt_extract, txt_size, List.take_length]
def nats (l : List UInt8) : List Int := l.map fun b => ((b.toNat : Nat) : Int)
theorem nats_txt (l : List UInt8) : strOfNums (nats l) = txt l := by
  unfold strOfNums nats txt
  congr 2
  rw [List.map_map]
  induction l with
  | nil => rfl
  | cons b l ih => simp [ih]
def byteCells (l : List UInt8) : List Value := l.map fun b => .int .u8 ((b.toNat : Nat) : Int)
theorem byteCells_snoc (l : List UInt8) (b : UInt8) : byteCells (l ++ [b]) = byteCells l ++ [.int .u8 ((b.toNat : Nat) : Int)] := by simp [byteCells]
theorem buf_cellsB {B : Nat} {e : TypeId} {v : Value} {n : Nat} {l : List UInt8} {W0 w : World} (h : Lib.OwnBuf B e v n (byteCells l) W0 w) (hn : n = l.length) (hl : 0 < l.length) :
    ∃ g cap, v = .slice (some ⟨g, 0, none⟩) l.length cap ∧ ∀ i, i < l.length → w.cell? ⟨g, 0 + i, none⟩ = some (.int .u8 ((nats l).getD i 0)) := by
  subst hn
  rcases h.1.2 with ⟨_, h0⟩ | ⟨g, cap, cur, fz, rfl, _⟩
  · omega
  · refine ⟨g, cap, rfl, fun i hi => ?_⟩
    have := h.1.cells (g := g) (by simp [Value.ownBlock]) i (.int .u8 ((nats l).getD i 0)) (by simp [byteCells, nats, List.getD, hi])
    by_cases hi0 : i = 0 <;> simpa [Addr.add, hi0] using this
end Go.Bg
namespace Go.Proofs.YteidappcoicceaaGreatDoor
open Go.RowKit Go.Bg Dg
theorem infoByte : (Tryz.prog.info? 5).map (fun i => (i.zero, i.size, i.bytes)) = some (some (.int .u8 0), 1, 1) := by kernel_rfl
theorem uqChar_txt (b : UInt8) (r : List UInt8) (hr : r.length ≤ 99990) (w : World) :
    Calls Tryz.prog 28 #[.string (txt (92 :: 120 :: hx (b.toNat / 16) :: hx (b.toNat % 16) :: r)), .int .u8 34] w fun e w' => e = .returned (.tuple #[.int .i32 (b.toNat : Nat), .bool false, .string (txt r), .nilIface]) ∧ w = w' := by
  have hb := b.toNat_lt
  have h := uqChar_any (txt (92 :: 120 :: hx (b.toNat / 16) :: hx (b.toNat % 16) :: r)) (txt (hx (b.toNat / 16) :: hx (b.toNat % 16) :: r)) (txt r) (b.toNat / 16) (b.toNat % 16) w (by omega) (by omega)
    (by rw [txt_size]; simp) (by rw [txt_size]; simp; omega) (by rw [txt_get]; rfl) (by rw [txt_get]; rfl) (by rw [ext_rest]; rfl) (by rw [txt_size, txt_size]; rfl) (by rw [txt_get]; rfl) (by rw [txt_get]; rfl) (by rw [ext_rest]; rfl)
  have e : 16 * (b.toNat / 16) + b.toNat % 16 = b.toNat := by omega
  rw [e] at h
  exact h
theorem unquoteEsc_any (l : List UInt8) (h0 : 0 < l.length) (hl : l.length ≤ 1000) (w : World) :
    Calls Tryz.prog 60 #[.string (txt (34 :: (escs l ++ [34]))), .bool true] w fun e w' => e = .returned (.tuple #[.string (txt l), .string ⟨#[]⟩, .nilIface]) ∧ Below w.heap.size w w' := by
  obtain ⟨i0, hi, hz0, hz1, hz2⟩ := info_parts infoByte
  obtain ⟨s, hs⟩ : ∃ s, s = txt (34 :: (escs l ++ [34])) := ⟨_, rfl⟩
  obtain ⟨s1, hs1⟩ : ∃ s1, s1 = txt (escs l ++ [34]) := ⟨_, rfl⟩
  obtain ⟨k, hk⟩ : ∃ k, k = (escs l).length := ⟨_, rfl⟩
  have hkn : k = 4 * l.length := by rw [hk, escs_len]
  have hsz : s.size = k + 2 := by rw [hs, txt_size, hk]; simp
  have hk1 : k + 2 ≤ s.size := by omega
  have hk2 : s.size ≤ k + 2 := by omega
  have hk3 : k ≤ 4000 := by omega
  clear hsz
  have hp0 : 0 < s.size := Nat.lt_of_lt_of_le (Nat.succ_pos _) hk1
  have hx0 : s[0]'hp0 = 34 := by subst hs; rw [txt_get]; rfl
  have hex : s.extract 1 s.size = s1 := by rw [hs, hs1, ext_rest]; rfl
  have he0 : s.extract 0 (k + 2) = s := by rw [hs]; exact ext0 _ _ (by rw [hk]; simp)
  have cI : ∀ w, Calls Tryz.prog 98 #[.string s1, .int .u8 34] w fun e w' => e = .returned (.int .i64 k) ∧ w = w' := fun w => by
    have h := index_any s1 34 w
    have e : Lib.indexByte s1.data.toList (UInt8.ofNat 34) = (k : Nat) := by
      rw [hs1, txt_list, hk]
      exact indexByte_at _ _ _ fun x hx => (escs_mem l x hx).1
    rw [e] at h
    exact h
  have cC : ∀ w, Calls Tryz.prog 99 #[.string s, .int .u8 92] w fun e w' => e = .returned (.bool true) ∧ w = w' := fun w => by
    have h := contains_any s 92 w
    have e : (Lib.indexByte s.data.toList (UInt8.ofNat 92) != -1) = true := by
      have := indexByte_has s.data.toList 92 (by
        rw [hs, txt_list]
        obtain ⟨b, l', rfl⟩ : ∃ b l', l = b :: l' := by
          cases l with
          | nil => simp at h0
          | cons b l' => exact ⟨b, l', rfl⟩
        rw [escs_cons]; simp)
      have h9 : (UInt8.ofNat 92) = 92 := rfl
      rw [h9]
      simp; omega
    rw [e] at h
    exact h
  have HS := Lib.hid hs
  have HS1 := Lib.hid hs1
  have HK := Lib.hid hkn
  rw [← hs]
  clear hs hs1 hk hkn
  go_enter Tryz.func60, Tryz.ntmps60
  go_wp2_with (first
    | (go_at_call 98; refine (cI _).mono ?_; rintro e w2 ⟨rfl, rfl⟩)
    | (go_at_call 99; refine (cC _).mono ?_; rintro e w2 ⟨rfl, rfl⟩)
    | (at_make; refine wpList_make_own _ rfl _ _ 30 rfl w.heap.size 5 i0 (.int .u8 0) 1 Tryz.underlying30 hi hz0 hz1 _ _ _ (6 * l.length + 3) rfl rfl (by have := HK.out; omega) (by rw [hz2]; omega) (by unfold maxLen; omega) (Nat.le_refl _) ?_; intro w1 hown hg))
  have hb0 : Lib.OwnBuf w.heap.size 5 (.slice (some ⟨w.heap.size, 0, none⟩) 0 (6 * l.length + 3)) 0 (byteCells []) w w1 := ⟨World.ownsRowF_of hown, (Below.refl _ _).grown hg (Nat.le_refl _) (by intro k hk; cases hk), hg.size⟩
  have HB0 := Lib.hid hb0
  clear hown hg hb0 cI cC he0 hex hx0
  go_loopg [0, 4, 5, 6, 14, 16, 17, 18, 19] l.length (fun gk i o4 o5 o6 bv _ _ _ _ wr => o4 = .string ⟨#[]⟩ ∧ o5 = .string ⟨#[]⟩ ∧ o6 = .nilIface ∧ ∃ l1 l2 : List UInt8, Hid (l = l1 ++ l2) ∧ l2.length = gk ∧ i = .string (txt (escs l2 ++ [34])) ∧
      Hid (Lib.OwnBuf w.heap.size 5 bv l1.length (byteCells l1) w wr))
  case atStart => exact ⟨rfl, rfl, rfl, [], l, rfl, rfl, by rw [HS1.out], HB0.out⟩
  case round =>
    obtain ⟨rfl, rfl, rfl, l1, l2, hl12, hgk, rfl, hbr⟩ := hrel
    have hlen : l1.length + l2.length = l.length := by have := hl12.out; rw [this]; simp
    cases l2 with
    | nil =>
      obtain ⟨t, ht⟩ : ∃ t, t = txt (escs [] ++ [34]) := ⟨_, rfl⟩
      rw [← ht]
      have hp : 0 < t.size := by rw [ht, txt_size]; simp
      have hp1 : t.size ≤ 1 := by rw [ht, txt_size]; simp [escs]
      have h34 : t[0]'hp = 34 := by subst ht; rw [txt_get]; rfl
      have hext : t.extract 1 t.size = ⟨#[]⟩ := by rw [ht, ext_rest]; rfl
      clear ht
      have hl1 : l1 = l := by have := hl12.out; simpa using this.symm
      subst hl1
      obtain ⟨g, cap, rfl, hcells⟩ := buf_cellsB hbr.out rfl h0
      have hcv := run_convert_bytes_arg wr 30 5 Tryz.underlying30 Tryz.underlying5 g 0 _ cap (nats l1) (by simp [nats]) hcells 9 Tryz.underlying9
      rw [nats_txt] at hcv
      clear hcells
      go_wp2
      exact bodyPost_ret (v := .tuple #[.string (txt l1), .string ⟨#[]⟩, .nilIface]) (by simp [results, Tryz.results60, go_sem]) rfl ⟨rfl, hbr.out.2.1⟩
    | cons b l2 =>
      obtain ⟨g', rfl⟩ : ∃ g', gk = g' + 1 := ⟨l2.length, by simp at hgk; omega⟩
      have cU := fun w => uqChar_txt b (escs l2 ++ [34]) (by simp [escs_len]; simp at hlen; omega) w
      have hcons : escs (b :: l2) ++ [34] = 92 :: 120 :: hx (b.toNat / 16) :: hx (b.toNat % 16) :: (escs l2 ++ [34]) := by rw [escs_cons]; rfl
      rw [hcons]
      obtain ⟨t, ht⟩ : ∃ t, t = txt (92 :: 120 :: hx (b.toNat / 16) :: hx (b.toNat % 16) :: (escs l2 ++ [34])) := ⟨_, rfl⟩
      rw [← ht] at cU ⊢
      have hp : 0 < t.size := by rw [ht, txt_size]; simp
      have h92 : t[0]'hp = 92 := by subst ht; rw [txt_get]; rfl
      have hb := b.toNat_lt
      have hb1 := hbr.out
      obtain ⟨c, hc⟩ : ∃ c, c = b.toNat := ⟨_, rfl⟩
      rw [← hc] at hb cU
      have HC := Lib.hid hc
      clear hcons ht hc
      by_cases hc1 : c < 128
      all_goals go_wp2_with (first
        | (go_at_call 28; refine (cU _).mono ?_; rintro e w2 ⟨rfl, rfl⟩)
        | (at_builtin; refine Lib.wpList_append_byte rfl _ _ 30 rfl w.heap.size 5 i0 Tryz.underlying30 hi hz0 hz1 hz2 _ _ _ rfl w _ _ (by exact hb1) rfl (by omega) ?_; intro v2 w2 hb2))
      all_goals (
        go_roundg g'
        case measure => omega
        case rel =>
          refine ⟨rfl, rfl, rfl, l1 ++ [b], l2, by rw [hl12.out]; simp [Hid], by simp at hgk; exact hgk, rfl, ?_⟩
          have h9 := hb2
          rw [HC.out] at h9
          rw [byteCells_snoc]
          simpa [Hid] using h9)
theorem unquoteRaw_any (l : List UInt8) (hl : l.length ≤ 1000) (hq : ∀ x ∈ l, x ≠ 96 ∧ x ≠ 13) (w : World) :
    Calls Tryz.prog 60 #[.string (txt (96 :: (l ++ [96]))), .bool true] w fun e w' => e = .returned (.tuple #[.string (txt l), .string ⟨#[]⟩, .nilIface]) ∧ Below w.heap.size w w' := by
  obtain ⟨s, hs⟩ : ∃ s, s = txt (96 :: (l ++ [96])) := ⟨_, rfl⟩
  obtain ⟨s1, hs1⟩ : ∃ s1, s1 = txt (l ++ [96]) := ⟨_, rfl⟩
  obtain ⟨k, hk⟩ : ∃ k, k = l.length := ⟨_, rfl⟩
  have hsz : s.size = k + 2 := by rw [hs, txt_size, hk]; simp
  have hk1 : k + 2 ≤ s.size := by omega
  have hk2 : s.size ≤ k + 2 := by omega
  have hk3 : k ≤ 4000 := by omega
  clear hsz
  have hp0 : 0 < s.size := Nat.lt_of_lt_of_le (Nat.succ_pos _) hk1
  have hx0 : s[0]'hp0 = 96 := by subst hs; rw [txt_get]; rfl
  have hex : s.extract 1 s.size = s1 := by rw [hs, hs1, ext_rest]; rfl
  have he0 : s.extract 0 (k + 2) = s := by rw [hs]; exact ext0 _ _ (by rw [hk]; simp)
  have he1 : s.extract 1 (k + 1) = txt l := by rw [hs, txt_extract, hk]; simp
  have he2 : s.extract (k + 2) s.size = ⟨#[]⟩ := by rw [hs, ext_rest, hk]; simp [txt]
  have cI : ∀ w, Calls Tryz.prog 98 #[.string s1, .int .u8 96] w fun e w' => e = .returned (.int .i64 k) ∧ w = w' := fun w => by
    have h := index_any s1 96 w
    have e : Lib.indexByte s1.data.toList (UInt8.ofNat 96) = (k : Nat) := by
      rw [hs1, txt_list, hk]
      exact indexByte_at _ _ _ fun x hx => (hq x hx).1
    rw [e] at h
    exact h
  have cC : ∀ w, Calls Tryz.prog 99 #[.string s, .int .u8 13] w fun e w' => e = .returned (.bool false) ∧ w = w' := fun w => by
    have h := contains_any s 13 w
    have e : (Lib.indexByte s.data.toList (UInt8.ofNat 13) != -1) = false := by
      have := indexByte_not s.data.toList 13 (by
        rw [hs, txt_list]
        intro x hx
        simp at hx
        rcases hx with rfl | hx | rfl
        · decide
        · exact (hq x hx).2
        · decide)
      have h9 : (UInt8.ofNat 13) = 13 := rfl
      rw [h9, this]; rfl
    rw [e] at h
    exact h
  obtain ⟨z, hz⟩ : ∃ z, z = txt l := ⟨_, rfl⟩
  rw [← hz] at he1 ⊢
  rw [← hs]
  clear hs hs1 hk hz hq hl
  go_enter Tryz.func60, Tryz.ntmps60
  go_wp2_with (first
    | (go_at_call 98; refine (cI _).mono ?_; rintro e w2 ⟨rfl, rfl⟩)
    | (go_at_call 99; refine (cC _).mono ?_; rintro e w2 ⟨rfl, rfl⟩))
  go_quiet (fail)
  go_wp2
  refine bodyPost_ret (v := .tuple #[.string z, .string ⟨#[]⟩, .nilIface]) (by simp [results, Tryz.results60, go_sem, he1, he2]) rfl ⟨rfl, below_of_drewN ⟨_, rfl⟩⟩
theorem validNone_any (w : World) : Calls Tryz.prog 100 #[.string ⟨#[]⟩] w fun e w' => e = .returned (.bool true) ∧ w = w' := by
  go_enter Tryz.func100, Tryz.ntmps100
  go_wp2
  go_loopw [0] (fun s wr => s = .string ⟨#[]⟩ ∧ wr = w) (fun _ _ => 0)
  case atStart => exact ⟨rfl, rfl⟩
  case round =>
    obtain ⟨rfl, rfl⟩ := hrel
    go_wp2
    go_ret
    exact ⟨rfl, rfl⟩
theorem unquoteNone_any (w : World) :
    Calls Tryz.prog 60 #[.string (txt [34, 34]), .bool true] w fun e w' => e = .returned (.tuple #[.string (txt []), .string ⟨#[]⟩, .nilIface]) ∧ Below w.heap.size w w' := by
  obtain ⟨s, hs⟩ : ∃ s, s = txt [34, 34] := ⟨_, rfl⟩
  obtain ⟨s1, hs1⟩ : ∃ s1, s1 = txt [34] := ⟨_, rfl⟩
  have hk1 : 2 ≤ s.size := by rw [hs, txt_size]; decide
  have hk2 : s.size ≤ 2 := by rw [hs, txt_size]; decide
  have hp0 : 0 < s.size := by rw [hs, txt_size]; decide
  have hx0 : s[0]'hp0 = 34 := by subst hs; rw [txt_get]; rfl
  have hex : s.extract 1 s.size = s1 := by rw [hs, hs1, ext_rest]; rfl
  have he0 : s.extract 0 2 = s := by rw [hs]; exact ext0 _ _ rfl
  have he1 : s.extract 1 1 = ⟨#[]⟩ := by rw [hs, txt_extract]; rfl
  have he2 : s.extract 2 s.size = ⟨#[]⟩ := by rw [hs, ext_rest]; rfl
  have cI : ∀ w, Calls Tryz.prog 98 #[.string s1, .int .u8 34] w fun e w' => e = .returned (.int .i64 0) ∧ w = w' := fun w => by
    have h := index_any s1 34 w
    have e : Lib.indexByte s1.data.toList (UInt8.ofNat 34) = 0 := by rw [hs1]; decide
    rw [e] at h
    exact h
  have cC : ∀ w, Calls Tryz.prog 99 #[.string s, .int .u8 92] w fun e w' => e = .returned (.bool false) ∧ w = w' := fun w => by
    have h := contains_any s 92 w
    have e : (Lib.indexByte s.data.toList (UInt8.ofNat 92) != -1) = false := by rw [hs]; decide
    rw [e] at h
    exact h
  have cN : ∀ w, Calls Tryz.prog 99 #[.string s, .int .u8 10] w fun e w' => e = .returned (.bool false) ∧ w = w' := fun w => by
    have h := contains_any s 10 w
    have e : (Lib.indexByte s.data.toList (UInt8.ofNat 10) != -1) = false := by rw [hs]; decide
    rw [e] at h
    exact h
  rw [← hs]
  clear hs hs1
  go_enter Tryz.func60, Tryz.ntmps60
  go_wp2_with (first
    | (go_at_call 98; refine (cI _).mono ?_; rintro e w2 ⟨rfl, rfl⟩)
    | (go_at_call 99; refine (cC _).mono ?_; rintro e w2 ⟨rfl, rfl⟩)
    | (go_at_call 99; refine (cN _).mono ?_; rintro e w2 ⟨rfl, rfl⟩)
    | (go_at_call 100; refine (validNone_any _).mono ?_; rintro e w2 ⟨rfl, rfl⟩))
  go_quiet (fail)
  go_wp2
  refine bodyPost_ret (v := .tuple #[.string (txt []), .string ⟨#[]⟩, .nilIface]) (by simp [results, Tryz.results60, go_sem, he1, he2]; rfl) rfl ⟨rfl, below_of_drewN ⟨_, rfl⟩⟩
theorem unquoteBad_any (s : ByteArray) (hl : s.size ≤ 1000) (hq : ∀ h : 0 < s.size, s[0]'h ≠ 34 ∧ s[0]'h ≠ 96 ∧ s[0]'h ≠ 39) (te : TypeId) (pe : Value) (w : World) (hE : w.cell? ⟨0, 0, none⟩ = some (.iface te pe)) :
    Calls Tryz.prog 60 #[.string s, .bool true] w fun e w' => e = .returned (.tuple #[.string ⟨#[]⟩, .string s, .iface te pe]) ∧ Below w.heap.size w w' := by
  by_cases h2 : s.size < 2
  · go_enter Tryz.func60, Tryz.ntmps60
    go_wp2_with fail
    go_quiet (fail)
    go_wp2
    exact bodyPost_ret (v := .tuple #[.string ⟨#[]⟩, .string s, .iface te pe]) (by simp [results, Tryz.results60, go_sem]) rfl ⟨rfl, below_of_drewN ⟨_, rfl⟩⟩
  · obtain ⟨s1, hs1⟩ : ∃ s1, s.extract 1 s.size = s1 := ⟨_, rfl⟩
    have hp0 : 0 < s.size := by omega
    obtain ⟨x, hx⟩ : ∃ x, s[0]'hp0 = x := ⟨_, rfl⟩
    have hq := hq hp0
    rw [hx] at hq
    obtain ⟨h34, h96, h39⟩ := hq
    obtain ⟨j, hj⟩ : ∃ j, j = Lib.indexByte s1.data.toList (UInt8.ofNat x.toNat) := ⟨_, rfl⟩
    have hj1 : -1 ≤ j := by rw [hj]; exact Lib.indexByte_ge _ _
    have cI : ∀ w, Calls Tryz.prog 98 #[.string s1, .int .u8 (x.toNat : Nat)] w fun e w' => e = .returned (.int .i64 j) ∧ w = w' := fun w => by
      have h := index_any s1 x.toNat w
      rw [← hj] at h
      exact h
    have n34 : (((x.toNat : Nat) : Int) == 34) = false := beq_eq_false_iff_ne.2 fun h => h34 (UInt8.toNat_inj.1 (show x.toNat = (34 : UInt8).toNat from by have : (34 : UInt8).toNat = 34 := rfl; omega))
    have n96 : (((x.toNat : Nat) : Int) == 96) = false := beq_eq_false_iff_ne.2 fun h => h96 (UInt8.toNat_inj.1 (show x.toNat = (96 : UInt8).toNat from by have : (96 : UInt8).toNat = 96 := rfl; omega))
    have n39 : (((x.toNat : Nat) : Int) == 39) = false := beq_eq_false_iff_ne.2 fun h => h39 (UInt8.toNat_inj.1 (show x.toNat = (39 : UInt8).toNat from by have : (39 : UInt8).toNat = 39 := rfl; omega))
    have hsz2 : 2 ≤ s.size := by omega
    clear hj h2 h34 h96 h39 hq
    by_cases h0 : j < 0
    all_goals (
      go_enter Tryz.func60, Tryz.ntmps60
      go_wp2_with (go_at_call 98; refine (cI _).mono ?_; rintro e w2 ⟨rfl, rfl⟩)
      go_quiet (fail)
      go_wp2
      exact bodyPost_ret (v := .tuple #[.string ⟨#[]⟩, .string s, .iface te pe]) (by simp [results, Tryz.results60, go_sem]) rfl ⟨rfl, below_of_drewN ⟨_, rfl⟩⟩)
theorem cellAt_keep {w w1 : World} {p : Addr} {v : Value} (h : w.cell? p = some v) (hb : Below w.heap.size w w1) : w1.cell? p = some v := by
  rw [hb.cell (p := p) (block_lt h)]; exact h
theorem unquoteOk_any (s z : ByteArray) (w : World) (h : ∀ w, Calls Tryz.prog 60 #[.string s, .bool true] w fun e w' => e = .returned (.tuple #[.string z, .string ⟨#[]⟩, .nilIface]) ∧ Below w.heap.size w w') :
    Calls Tryz.prog 30 #[.string s] w fun e w' => e = .returned (.tuple #[.string z, .nilIface]) ∧ Below w.heap.size w w' := by
  go_enter Tryz.func30, Tryz.ntmps30
  go_wp2_with (go_at_call 60; refine (h _).mono ?_; rintro e w2 ⟨rfl, hb⟩)
  exact bodyPost_ret (v := .tuple #[.string z, .nilIface]) (by simp [results, Tryz.results30, go_sem]) rfl ⟨rfl, hb⟩
theorem unquoteErr_any (s : ByteArray) (hl : s.size ≤ 1000) (hq : ∀ h : 0 < s.size, s[0]'h ≠ 34 ∧ s[0]'h ≠ 96 ∧ s[0]'h ≠ 39) (te : TypeId) (pe : Value) (w : World) (hE : w.cell? ⟨0, 0, none⟩ = some (.iface te pe)) :
    Calls Tryz.prog 30 #[.string s] w fun e w' => e = .returned (.tuple #[.string ⟨#[]⟩, .iface te pe]) ∧ Below w.heap.size w w' := by
  have c := unquoteBad_any s hl hq te pe w hE
  by_cases h0 : 0 < s.size
  · go_enter Tryz.func30, Tryz.ntmps30
    go_wp2_with (go_at_call 60; refine c.mono ?_; rintro e w2 ⟨rfl, hb⟩)
    have hE2 := cellAt_keep hE hb
    clear hE
    go_quiet (fail)
    go_wp2
    exact bodyPost_ret (v := .tuple #[.string ⟨#[]⟩, .iface te pe]) (by simp [results, Tryz.results30, go_sem]) rfl ⟨rfl, hb.trans (below_of_drewN ⟨_, rfl⟩)⟩
  · have hz : s.size = 0 := by omega
    go_enter Tryz.func30, Tryz.ntmps30
    go_wp2_with (go_at_call 60; refine c.mono ?_; rintro e w2 ⟨rfl, hb⟩)
    exact bodyPost_ret (v := .tuple #[.string ⟨#[]⟩, .iface te pe]) (by simp [results, Tryz.results30, go_sem]) rfl ⟨rfl, hb⟩
end Go.Proofs.YteidappcoicceaaGreatDoor
