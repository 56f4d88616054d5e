/-
  Contracts and lemmas: CpxS.
-/
import Derived.Test.YtececkbcinmmpaaGreatDoorN2
set_option linter.unusedSimpArgs false
set_option linter.unusedVariables false
set_option maxRecDepth 100000
set_option maxHeartbeats 8000000
namespace Go.Proofs.YtececkbcinmmpaaGreatDoor
open Go.RowKit Go.Bg Dg
def rawSign (s : Bool) (n : Nat) : Int := if n = 0 then 0 else if s then -1 else 1
theorem rawSign_rt {w : World} {s : Bool} {a : Option Addr} {n c : Nat} {a' : Option Addr} {n' c' L : Nat} {r : Rt} (h : RtAt w s a n c a' n' c' r L) : rawSign s n = r.signOf := by
  unfold rawSign
  by_cases h0 : n = 0
  · subst h0
    have hN : r.num = 0 := by have := h.num.lt; simpa using this
    rw [if_pos rfl]
    exact (if_pos hN).symm
  · have hN : r.num ≠ 0 := by
      rcases h.num.top with h1 | h1
      · omega
      · have : 0 < 65536 ^ (n - 1) := Nat.pow_pos (by decide)
        omega
    rw [if_neg h0, h.neg]
    exact (if_neg hN).symm
theorem rawSign_one {s : Bool} {n : Nat} (h : rawSign s n ≠ 0) : rawSign s n = 1 ∨ rawSign s n = -1 := by
  unfold rawSign at h ⊢
  by_cases h0 : n = 0
  · exact absurd (if_pos h0) h
  · rw [if_neg h0]; cases s
    · exact .inl rfl
    · exact .inr rfl
theorem signRaw_any (s : Bool) (a : Option Addr) (n c : Nat) (a' : Option Addr) (n' c' : Nat) (w : World) :
    Calls Tryz.prog 26 #[.agg #[.bool s, .slice a n c, .slice a' n' c']] w fun e w' => e = .returned (.int .i64 (rawSign s n)) ∧ Below w.heap.size w w' := by
  have hb := (Below.refl w.heap.size w).alloc (Nat.le_refl _) (.cells #[.bool s, .slice a n c, .slice a' n' c'] 31)
  by_cases h0 : n = 0
  · subst h0
    rw [show rawSign s 0 = 0 from rfl]
    go_enter Tryz.func26, Tryz.ntmps26
    go_wp2
    go_ret
    exact ⟨rfl, hb⟩
  · have hr : rawSign s n = if s then -1 else 1 := if_neg h0
    have hz : ((n : Int) == 0) = false := by simp; omega
    rw [hr]
    clear hr h0
    cases s
    · go_enter Tryz.func26, Tryz.ntmps26
      go_wp2
      go_ret
      exact ⟨rfl, hb⟩
    · go_enter Tryz.func26, Tryz.ntmps26
      go_wp2
      go_ret
      exact ⟨rfl, hb⟩
theorem ratSign_any (b : Nat) (r : Rt) (w : World) (h : RatAt 139 w b r.neg r.num r.den) :
    Calls Tryz.prog 119 #[.pointer (some ⟨b, 0, none⟩)] w fun e w' => e = .returned (.int .i64 r.signOf) ∧ w = w' := by
  have HA := Lib.hid h.a
  clear h
  go_enter Tryz.func119, Tryz.ntmps119
  go_wp2_with fail
  refine (intSign_any b 0 r.neg r.num _ HA.out).mono ?_
  rintro e w1 ⟨rfl, rfl⟩
  rw [show (if r.num = 0 then (0 : Int) else if r.neg then -1 else 1) = r.signOf from rfl]
  go_wp2
  go_ret
  exact ⟨rfl, rfl⟩
theorem signRat_any (b : Nat) (r : Rt) (w : World) (h : RatAt 139 w b r.neg r.num r.den) :
    Calls Tryz.prog 62 #[.iface 106 (.agg #[.pointer (some ⟨b, 0, none⟩)])] w fun e w' => e = .returned (.int .i64 r.signOf) ∧ Below w.heap.size w w' := by
  obtain ⟨W0, hW0⟩ : ∃ W0, W0 = w.alloc (.cells #[.pointer (some ⟨b, 0, none⟩)] 106) := ⟨_, rfl⟩
  have HW := Lib.hid hW0
  have hb0 : Below w.heap.size w W0 := by rw [hW0]; exact Below.alloc' (Below.refl _ _) _
  have hx : W0.cell? ⟨w.heap.size, 0, none⟩ = some (.pointer (some ⟨b, 0, none⟩)) := by rw [hW0]; exact alloc_new _ _ _ rfl rfl
  have HH := Lib.hid (h.keep hb0)
  clear hW0 h
  obtain ⟨t1, t2, t3, t4, t5, t6, t7, t8, t9⟩ := ta_ratVal
  go_enter Tryz.func62, Tryz.ntmps62
  go_wp2_with fail
  rw [← HW.out]
  refine (ratSign_any b r _ HH.out).mono ?_
  rintro e w1 ⟨rfl, rfl⟩
  go_wp2
  go_ret
  exact ⟨rfl, hb0⟩
theorem signOf_tri (r : Rt) : r.signOf = 0 ∨ r.signOf = 1 ∨ r.signOf = -1 := by
  by_cases h : r.signOf = 0
  · exact .inl h
  · exact .inr (signOf_one h)
theorem or_sign {x y : Int} (hx : x = 0 ∨ x = 1 ∨ x = -1) (hy : y = 0 ∨ y = 1 ∨ y = -1) : (bits .or .i64 x y = 0) = (x = 0 ∧ y = 0) := by
  rcases hx with rfl | rfl | rfl <;> rcases hy with rfl | rfl | rfl <;> decide
theorem signC_any (b1 b2 : Nat) (r q : Rt) (w : World) (h1 : RatAt 139 w b1 r.neg r.num r.den) (h2 : RatAt 139 w b2 q.neg q.num q.den) :
    Calls Tryz.prog 62 #[.iface 115 (.agg #[.iface 106 (.agg #[.pointer (some ⟨b1, 0, none⟩)]), .iface 106 (.agg #[.pointer (some ⟨b2, 0, none⟩)])])] w fun e w' => ∃ s, e = .returned (.int .i64 s) ∧ ((s = 0) = (r.signOf = 0 ∧ q.signOf = 0)) ∧ Below w.heap.size w w' := by
  obtain ⟨W0, hW0⟩ : ∃ W0, W0 = w.alloc (.cells #[.iface 106 (.agg #[.pointer (some ⟨b1, 0, none⟩)]), .iface 106 (.agg #[.pointer (some ⟨b2, 0, none⟩)])] 115) := ⟨_, rfl⟩
  have HW := Lib.hid hW0
  have hb0 : Below w.heap.size w W0 := by rw [hW0]; exact Below.alloc' (Below.refl _ _) _
  have c0 : W0.cell? ⟨w.heap.size, 0, none⟩ = some (.iface 106 (.agg #[.pointer (some ⟨b1, 0, none⟩)])) := by rw [hW0]; exact alloc_new _ _ _ rfl rfl
  have c1 : W0.cell? ⟨w.heap.size, 1, none⟩ = some (.iface 106 (.agg #[.pointer (some ⟨b2, 0, none⟩)])) := by rw [hW0]; exact alloc_new _ _ _ rfl rfl
  have H1 := Lib.hid (h1.keep hb0)
  have H2 := Lib.hid (h2.keep hb0)
  have HS := Lib.hid (or_sign (signOf_tri r) (signOf_tri q))
  clear hW0 h1 h2
  obtain ⟨t1, t2, t3, t4, t5, t6, t7, t8, t9⟩ := ta_complexVal
  go_enter Tryz.func62, Tryz.ntmps62
  go_upto_region 22 with fail
  rw [← HW.out]
  have hd0 : Below W0.heap.size W0 W0.drew := (Below.refl _ _).drew
  go_region_held3 (fun w' => w'.cell? ⟨w.heap.size, 0, none⟩ = some (.iface 106 (.agg #[.pointer (some ⟨b1, 0, none⟩)])) ∧ w'.cell? ⟨w.heap.size, 1, none⟩ = some (.iface 106 (.agg #[.pointer (some ⟨b2, 0, none⟩)])))
    (first | with_reducible exact ⟨c0, c1⟩ | exact ⟨cell_keep c0 (by assumption), cell_keep c1 (by assumption)⟩)
    (first | (go_at_call 62; (with_reducible refine (signRat_any b1 r _ ?_).mono ?_); exact H1.out.keep (by assumption); rintro e w1 ⟨rfl, hB1⟩; have hb1 := Below.then hd0 (Nat.le_refl _) hB1) | (go_at_call 62; (with_reducible refine (signRat_any b2 q _ ?_).mono ?_); exact H2.out.keep (by assumption); rintro e w2 ⟨rfl, hB2⟩; have hb2 := Below.then hb1 (Nat.le_refl _) hB2))
  go_wp2
  go_ret
  exact ⟨_, rfl, HS.out, Below.then hb0 (Nat.le_refl _) hb2⟩
theorem implSignC_any (x : Vl) (r q : Rt) (w : World) (hK : Thr w) (hT : ThrD w) (h : VlAt w x) (hm : MadeC x r q) :
    Calls Tryz.prog 38 #[.agg #[.int .i64 x.kind, .bool x.truth, .string x.text, .bool x.neg, .slice x.wa x.wn x.wc, .slice x.da x.dn x.dc, .bool x.ineg, .slice x.ia x.inn x.ic, .slice x.ea x.en x.ec]] w fun e w' => ∃ s, e = .returned (.int .i64 s) ∧ ((s = 0) = (r.signOf = 0 ∧ q.signOf = 0)) ∧ Below w.heap.size w w' := by
  obtain ⟨W0, hW0⟩ : ∃ W0, W0 = w.alloc (.cells #[.int .i64 x.kind, .bool x.truth, .string x.text, .bool x.neg, .slice x.wa x.wn x.wc, .slice x.da x.dn x.dc, .bool x.ineg, .slice x.ia x.inn x.ic, .slice x.ea x.en x.ec] 26) := ⟨_, rfl⟩
  have HW := Lib.hid hW0
  have hb0 : Below w.heap.size w W0 := by rw [hW0]; exact Below.alloc' (Below.refl _ _) _
  have X : Box9 W0 w.heap.size x := by rw [hW0]; exact Box9.new w x _ rfl
  have HX := Lib.hid (h.keep hb0)
  have HK := Lib.hid (hK.keep hb0)
  have HT := Lib.hid (hT.keep hb0)
  have HM := Lib.hid hm
  clear hW0 h hm hK hT
  go_enter Tryz.func38, Tryz.ntmps38
  go_upto_region 1 with fail
  rw [← HW.out]
  obtain ⟨xc0, xc1, xc2, xc3, xc4, xc5, xc6, xc7, xc8⟩ := (X).all
  go_wp2_with fail
  refine (HM.out _ HK.out HT.out HX.out).mono ?_
  rintro e w1 ⟨u, rfl, ⟨b1, b2, rfl, hu1, hu2, -, -⟩, hB1⟩
  have H1 := Lib.hid hu1
  have H2 := Lib.hid hu2
  have hb1 := Below.then hb0 (Nat.le_refl _) hB1
  clear xc0 xc1 xc2 xc3 xc4 xc5 xc6 xc7 xc8 hu1 hu2 hB1
  go_wp2_with fail
  refine (signC_any b1 b2 r q _ H1.out H2.out).mono ?_
  rintro e w2 ⟨s, rfl, hs, hB2⟩
  have HS := Lib.hid hs
  have hb2 := Below.then hb1 (Nat.le_refl _) hB2
  clear hs
  go_wp2
  go_ret
  exact ⟨_, rfl, HS.out, hb2⟩
end Go.Proofs.YtececkbcinmmpaaGreatDoor
