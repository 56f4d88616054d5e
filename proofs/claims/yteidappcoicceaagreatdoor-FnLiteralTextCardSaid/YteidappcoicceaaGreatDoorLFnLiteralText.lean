/-
  FnLiteralText walked.
-/
import Derived.Test.YteidappcoicceaaGreatDoorT05
set_option linter.unusedSimpArgs false
set_option linter.unusedVariables false
namespace Go.Proofs.YteidappcoicceaaGreatDoor
open Go.RowKit Go.Bg Dg

/-- a byte that stands as it is between back quotes -/
def rawOk (x : UInt8) : Prop := x.toNat < 128 ∧ x ≠ 96 ∧ x ≠ 13

set_option maxRecDepth 100000 in
set_option maxHeartbeats 4000000 in
theorem litOkEsc (l : List UInt8) (hl : l.length ≤ 1000) : LitOk (txt (34 :: (escs l ++ [34]))) (txt l) := fun w => unquoteOk_any _ _ w fun w => by
  cases l with
  | nil => exact unquoteNone_any w
  | cons x l => exact unquoteEsc_any (x :: l) (by simp) hl w
theorem litOkRaw (l : List UInt8) (hl : l.length ≤ 1000) (h : ∀ x ∈ l, rawOk x) : LitOk (txt (96 :: (l ++ [96]))) (txt l) := fun w => unquoteOk_any _ _ w fun w => unquoteRaw_any l hl (fun x hx => (h x hx).2) w

set_option maxRecDepth 100000 in
set_option maxHeartbeats 4000000 in
theorem lawFnLiteralText_any (s : ByteArray) (b : Bool) (w : World) :
    Calls Tryz.prog 4 #[.string s, .bool b] w fun e w' => e = .returned (.bool true) ∧ Below w.heap.size w w' := by
  by_cases h1 : 2147483647 < s.size
  · go_enter Tryz.func4, Tryz.ntmps4
    go_wp2
    go_ret
    exact ⟨rfl, Below.refl _ _⟩
  by_cases h2 : 200 < s.size
  · go_enter Tryz.func4, Tryz.ntmps4
    go_wp2
    go_ret
    exact ⟨rfl, Below.refl _ _⟩
  obtain ⟨l, hl⟩ : ∃ l, l = s.data.toList := ⟨_, rfl⟩
  have hsl : s = txt l := txt_of hl.symm
  have hll : l.length = s.size := by rw [hsl, txt_size]
  have HL := Lib.hid hsl
  have HN := Lib.hid hll
  clear hl hsl hll
  go_enter Tryz.func4, Tryz.ntmps4
  go_wp2
  go_loopg [4, 5, 6] s.size (fun gk o4 t i wr => o4 = .bool false ∧ ∃ k : Nat, k + gk = s.size ∧ i = .int .i64 k ∧ t = .string (txt (escs (l.take k))) ∧ Hid (b = true → ∀ x ∈ l.take k, rawOk x) ∧ Below w.heap.size w wr)
  case atStart => exact ⟨rfl, 0, by omega, rfl, by simp [escs, txt], by simp [Hid], Below.refl _ _⟩
  case round =>
    obtain ⟨rfl, k, hk, rfl, rfl, hraw, hb⟩ := hrel
    by_cases hlt : k < s.size
    · obtain ⟨x, hxe⟩ : ∃ x, s[k]'hlt = x := ⟨_, rfl⟩
      have hxl : l.take (k + 1) = l.take k ++ [x] := by
        have h9 : k < l.length := by rw [HN.out]; exact hlt
        have e9 : l[k]'h9 = x := by
          have e := HL.out
          subst e
          rw [← hxe, txt_get]
        rw [List.take_add_one, List.getElem?_eq_getElem h9, e9]; rfl
      have hsz : (txt (escs (l.take k))).size ≤ 900 := by
        rw [txt_size, escs_len, List.length_take]; omega
      have hx2 := x.toNat_lt
      have cH := fun w => hex_any x.toNat w hx2
      have hz2 : (txt [hx (x.toNat / 16), hx (x.toNat % 16)]).size = 2 := txt_size _
      have hcat : txt (escs (l.take k)) ++ (ByteArray.mk #[92, 120] ++ txt [hx (x.toNat / 16), hx (x.toNat % 16)]) = txt (escs (l.take (k + 1))) := by
        rw [hxl, escs_append]
        rw [show ByteArray.mk #[92, 120] = txt [92, 120] from rfl, txt_append, txt_append]
        rfl
      have HC := Lib.hid hcat
      obtain ⟨g', rfl⟩ : ∃ g', gk = g' + 1 := ⟨gk - 1, by omega⟩
      obtain ⟨T, hT⟩ : ∃ T, T = txt (escs (l.take k)) := ⟨_, rfl⟩
      obtain ⟨X, hX⟩ : ∃ X, X = txt [hx (x.toNat / 16), hx (x.toNat % 16)] := ⟨_, rfl⟩
      rw [← hT] at hsz HC ⊢
      rw [← hX] at hz2 HC cH
      have HXL := Lib.hid hxl
      clear hT hX hcat hxl
      have hkz : (k : Int) < (s.size : Int) := by omega
      by_cases hbad : b = true ∧ ¬ rawOk x
      · obtain ⟨rfl, hbad⟩ := hbad
        by_cases h128 : 128 ≤ x.toNat
        · have hz : (128 : Int) ≤ (x.toNat : Int) := by omega
          clear hraw hbad
          go_wp2
          go_ret
          exact ⟨rfl, hb⟩
        · have hz : ¬ (128 : Int) ≤ (x.toNat : Int) := by omega
          have h913 : x = 96 ∨ x = 13 := by
            by_cases e1 : x = 96
            · exact .inl e1
            · by_cases e2 : x = 13
              · exact .inr e2
              · exact absurd ⟨by omega, e1, e2⟩ hbad
          clear hraw hbad hz2 cH HC HXL hx2
          rcases h913 with rfl | rfl
          all_goals (
            clear hz h128
            go_wp2
            go_ret
            exact ⟨rfl, hb⟩)
      · have hraw2 : Hid (b = true → ∀ y ∈ l.take (k + 1), rawOk y) := by
          intro hbt y hy
          rw [HXL.out] at hy
          rcases List.mem_append.1 hy with hy | hy
          · exact hraw.out hbt y hy
          · have : y = x := by simpa using hy
            subst this
            exact Classical.byContradiction fun h => hbad ⟨hbt, h⟩
        cases b with
        | false =>
          clear hbad hraw
          go_wp2_with (go_at_call 7; refine (cH _).mono ?_; rintro e w2 ⟨rfl, hb2⟩)
          go_roundg g'
          case measure => omega
          case rel => exact ⟨rfl, k + 1, by omega, rfl, by rw [← HC.out], hraw2, Below.then hb (Nat.le_refl _) hb2⟩
        | true =>
          have hok : rawOk x := Classical.byContradiction fun h => hbad ⟨rfl, h⟩
          obtain ⟨o1, o2, o3⟩ := hok
          have n96 : (((x.toNat : Nat) : Int) == 96) = false := beq_eq_false_iff_ne.2 fun h => o2 (UInt8.toNat_inj.1 (show x.toNat = (96 : UInt8).toNat from by have : (96 : UInt8).toNat = 96 := rfl; omega))
          have n13 : (((x.toNat : Nat) : Int) == 13) = false := beq_eq_false_iff_ne.2 fun h => o3 (UInt8.toNat_inj.1 (show x.toNat = (13 : UInt8).toNat from by have : (13 : UInt8).toNat = 13 := rfl; omega))
          clear hbad hraw o2 o3
          go_wp2_with (go_at_call 7; refine (cH _).mono ?_; rintro e w2 ⟨rfl, hb2⟩)
          go_roundg g'
          case measure => omega
          case rel => exact ⟨rfl, k + 1, by omega, rfl, by rw [← HC.out], hraw2, Below.then hb (Nat.le_refl _) hb2⟩
    · have hks : l.take k = l := List.take_of_length_le (by rw [HN.out]; omega)
      have hraw2 : b = true → ∀ x ∈ l, rawOk x := by have := hraw.out; rw [hks] at this; exact this
      have hkz : ¬ (k : Int) < (s.size : Int) := by omega
      have hl2 : l.length ≤ 1000 := by rw [HN.out]; omega
      have cE := fun w => litText_any _ _ (litOkEsc l hl2) w
      rw [← HL.out] at cE
      have hc1 : ByteArray.mk #[34] ++ txt (escs l) ++ ByteArray.mk #[34] = txt (34 :: (escs l ++ [34])) := by
        rw [show ByteArray.mk #[34] = txt [34] from rfl, txt_append, txt_append]; rfl
      have hsz : (txt (escs l)).size ≤ 900 := by rw [txt_size, escs_len, HN.out]; omega
      rw [← hc1] at cE
      rw [hks]
      have HR := Lib.hid hraw2
      generalize txt (escs l) = T at *
      clear hraw hraw2 hc1 hks
      have hfk := field_kind
      unfold txt9 at cE
      cases b with
      | false =>
        go_wp2_with fail
        refine (cE _).mono ?_
        rintro e w2 ⟨rfl, hb2⟩
        have hb3 := Below.alloc' (Below.then hb (Nat.le_refl _) hb2)
        go_wp2
        go_ret
        exact ⟨rfl, hb3 _⟩
      | true =>
        have hr := HR.out rfl
        have cR := fun w => litText_any _ _ (litOkRaw l hl2 hr) w
        rw [← HL.out] at cR
        have hc2 : txt [96] ++ s ++ txt [96] = txt (96 :: (l ++ [96])) := by
          rw [HL.out, txt_append, txt_append]; rfl
        rw [← hc2] at cR
        have hz96 : (txt [96]).size = 1 := txt_size _
        have hcv : ∀ (g : Nat) (w : World), w.cell? ⟨g, 0, none⟩ = some (.int .u8 96) → (convert 30 9 (.slice (some ⟨g, 0, none⟩) 1 1)).run Tryz.prog w = .ok (.string (txt [96])) w := fun g w hc =>
          run_convert_bytes_arg w 30 5 Tryz.underlying30 Tryz.underlying5 g 0 1 1 [96] rfl (fun i hi => by
            obtain rfl : i = 0 := by omega
            exact hc) 9 Tryz.underlying9
        unfold txt9 at cR
        clear hc2 hr HR
        generalize txt [96] = Q at *
        go_wp2_with fail
        refine (cE _).mono ?_
        rintro e w2 ⟨rfl, hb2⟩
        obtain ⟨W3, hW3⟩ : ∃ W3, W3 = w2.alloc (.cells #[.int .i64 2, .bool false, .string s, .bool false, .slice none 0 0, .slice none 0 0, .bool false, .slice none 0 0, .slice none 0 0] 26) := ⟨_, rfl⟩
        have hbw : w.heap.size ≤ w2.heap.size := (Below.then hb (Nat.le_refl _) hb2).size
        have hb3 : Below w.heap.size w W3 := by rw [hW3]; exact Below.alloc' (Below.then hb (Nat.le_refl _) hb2) _
        have hZ : BlkAt W3 w2.heap.size #[.int .i64 2, .bool false, .string s, .bool false, .slice none 0 0, .slice none 0 0, .bool false, .slice none 0 0, .slice none 0 0] 26 := by rw [hW3]; exact BlkAt.new _ _ _
        have hcv1 := hcv W3.heap.size (W3.alloc (.cells #[.int .u8 96] 5)) (by simp)
        have hcv2 := hcv (W3.heap.size + 1) ((W3.alloc (.cells #[.int .u8 96] 5)).alloc (.cells #[.int .u8 96] 5)) (by simp)
        have HW3 := Lib.hid hW3
        clear hcv hW3 cE
        go_upto_region 14 with fail
        rw [← HW3.out]
        go_wp2_with fail
        refine (cR _).mono ?_
        rintro e w4 ⟨rfl, hb4⟩
        have hbA : Below W3.heap.size W3 w4 := Below.then (Below.alloc' (Below.alloc' (Below.refl _ _) _) _) (Nat.le_refl _) hb4
        have hZ4 := hZ.keep hbA
        have HB4 := Lib.hid (Below.then hb3 (Nat.le_refl _) hbA)
        clear hbA hb4 hZ hb3 hcv1 hcv2 cR HW3
        have rc0 := (hZ4).cell 0; have rc1 := (hZ4).cell 1; have rc2 := (hZ4).cell 2; have rc3 := (hZ4).cell 3; have rc4 := (hZ4).cell 4; have rc5 := (hZ4).cell 5; have rc6 := (hZ4).cell 6; have rc7 := (hZ4).cell 7; have rc8 := (hZ4).cell 8; simp only [List.getElem?_toArray, List.getElem?_cons_zero, List.getElem?_cons_succ] at rc0 rc1 rc2 rc3 rc4 rc5 rc6 rc7 rc8
        have rf0 := (hZ4).frozen 0; have rf1 := (hZ4).frozen 1; have rf2 := (hZ4).frozen 2; have rf3 := (hZ4).frozen 3; have rf4 := (hZ4).frozen 4; have rf5 := (hZ4).frozen 5; have rf6 := (hZ4).frozen 6; have rf7 := (hZ4).frozen 7; have rf8 := (hZ4).frozen 8
        clear hZ4
        go_wp2
        go_ret
        refine ⟨rfl, ?_⟩
        iterate 9 refine Below.setCell ?_ (by exact hbw) _
        exact HB4.out
end Go.Proofs.YteidappcoicceaaGreatDoor
