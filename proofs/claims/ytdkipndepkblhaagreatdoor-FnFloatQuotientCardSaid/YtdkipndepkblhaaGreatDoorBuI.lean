/-
  An Int told: Sign, Bits, plain, number.
  An Int told: number, Val.
  An Int told: parts, told.
  An Int told: told.
-/
import Derived.Test.YtdkipndepkblhaaGreatDoorBuG
import Derived.Test.YtdkipndepkblhaaGreatDoorBuE
set_option linter.unusedSimpArgs false
set_option linter.unusedVariables false
namespace Go.Proofs.YtdkipndepkblhaaGreatDoor
open Go.RowKit Go.Bg Dg

set_option maxRecDepth 100000 in
set_option maxHeartbeats 1000000 in
theorem intSign_any (b o : Nat) (s : Bool) (N : Nat) (w : World) (h : BigAt 151 w b o s N) :
    Calls Tryz.prog 174 #[.pointer (some ⟨b, o, none⟩)] w fun e w' => e = .returned (.int .i64 (if N = 0 then 0 else if s then -1 else 1)) ∧ w = w' := by
  obtain ⟨a, n, c, h0, h1, hN⟩ := h.val
  have hp := natAt_pos_len hN.num
  have hcm := hN.num.cm
  have hnc := hN.num.nc
  clear h hN
  by_cases hn : n = 0
  · subst hn
    have e : N = 0 := by simp at hp; omega
    subst e
    clear hp
    go_enter Tryz.func174, Tryz.ntmps174
    go_wp2
    go_ret
    exact ⟨rfl, rfl⟩
  · have hz : ((n : Int) == 0) = false := by simpa using hn
    have e : N ≠ 0 := by
      intro e; subst e
      have : decide (0 < n) = true := by simp; omega
      rw [this] at hp; simp at hp
    have HE := Lib.hid e
    clear hp e
    cases s
    · go_enter Tryz.func174, Tryz.ntmps174
      go_wp2
      go_ret
      exact ⟨rfl, rfl⟩
    · go_enter Tryz.func174, Tryz.ntmps174
      go_wp2
      go_ret
      exact ⟨rfl, rfl⟩

set_option maxRecDepth 100000 in
set_option maxHeartbeats 1000000 in
theorem intBits_any (b o : Nat) (s : Bool) (N : Nat) (w : World) (h : BigAt 151 w b o s N) :
    Calls Tryz.prog 175 #[.pointer (some ⟨b, o, none⟩)] w fun e w' => ∃ a n c, e = .returned (.slice a n c) ∧ BigN 151 w a n c N ∧ w = w' := by
  obtain ⟨a, n, c, h0, h1, hN⟩ := h.val
  have HN := Lib.hid hN
  clear h hN
  go_enter Tryz.func175, Tryz.ntmps175
  go_wp2
  go_ret
  exact ⟨_, _, _, rfl, HN.out, rfl⟩

/-- words that are the number N, none 0 on top -/
structure PlainAt (w : World) (a : Option Addr) (n c N : Nat) : Prop where
  ws : WordsAt w a n c (dg W64 N)
  lt : N < W64 ^ n
  top : n = 0 ∨ W64 ^ (n - 1) ≤ N

theorem plainAt_one {w : World} {g : Nat} {T : TypeId} (hg : BlkAt w g #[.int .u64 1] T) : PlainAt w (some ⟨g, 0, none⟩) 1 1 1 := by
  have hd : dg W64 1 0 = 1 := by simp [dg, Nat.mod_eq_of_lt W64_gt]
  refine ⟨⟨fun _ => ⟨g, 0, rfl, fun i hi => ?_⟩, fun i _ => dg_lt W64_pos _ _, Nat.le_refl _, by simp [maxLen], by simp⟩, by rw [Nat.pow_one]; exact W64_gt, .inr (by simp)⟩
  obtain rfl : i = 0 := by omega
  rw [hg.cell]
  show some (Value.int .u64 1) = some (Value.int .u64 (dg W64 1 0 : Nat))
  rw [hd]; rfl

theorem PlainAt.keep {w w' : World} {a : Option Addr} {n c N : Nat} (h : PlainAt w a n c N) (hb : Below w.heap.size w w') : PlainAt w' a n c N := ⟨h.ws.keep hb, h.lt, h.top⟩

set_option maxRecDepth 100000 in
set_option maxHeartbeats 1000000 in
theorem plain_any (b o : Nat) (s : Bool) (N : Nat) (w : World) (h : BigAt 151 w b o s N) (L : Nat) (hL : L ≤ 100000) (hN : N < W64 ^ L) :
    Calls Tryz.prog 119 #[.pointer (some ⟨b, o, none⟩)] w fun e w' => ∃ a n c, e = .returned (.slice a n c) ∧ PlainAt w' a n c N ∧ Below w.heap.size w w' := by
  obtain ⟨i0, hi, hz0, hz1, hz2⟩ := info_parts infoUint
  have HH := Lib.hid h
  have HL := Lib.hid hN
  clear h hN
  go_enter Tryz.func119, Tryz.ntmps119
  go_wp2_with fail
  refine (intBits_any b o s N _ HH.out).mono ?_
  rintro e w1 ⟨a, n, c, rfl, hB, rfl⟩
  have hlt := hB.num.lt
  have htop := hB.num.top
  have hlen : n ≤ 100000 := Nat.le_trans (len_le W64_gt htop HL.out) hL
  have HT := Lib.hid htop
  have HLT := Lib.hid hlt
  have h := hB.num
  clear htop hlt hB
  go_wp2
  go_loopw [3, 5, 9] (fun out _ i wr => ∃ k : Nat, k ≤ n ∧ i = .int .i64 k ∧ wr.ownsRow w.heap.size 44 1 out k ((List.range k).map (wv (dg W64 N))) ∧ Below w.heap.size w wr)
    (fun _ _ i _ => n - (intOf i).toNat)
  case atStart => exact ⟨0, Nat.zero_le _, rfl, World.ownsRow_nil _ _ _ _, Below.refl _ _⟩
  case round =>
    obtain ⟨k, hk, rfl, hown, hbel⟩ := hrel
    by_cases k1 : k < n
    · have h' := h.keep hbel
      obtain ⟨b1, o1, rfl, _⟩ := h'.form (by omega)
      have e1 := h'.cell k1
      have hnc := h'.nc
      have hcm := h'.cm
      clear h' h
      go_wp2_with (at_builtin; refine wpList_app1 rfl _ _ 22 rfl w.heap.size 44 i0 _ 8 Tryz.underlying22 hi hz0 hz1 hz2 rfl (by decide) _ _ _ _ rfl rfl rfl hown rfl (by omega) hbel.size ?_; intro v' w1 hown1 hbel1 hne1)
      go_roundw
      case rel => exact ⟨k + 1, by omega, by go_num, by rw [map_range_succ]; simpa [wv] using hown1, hbel.trans hbel1⟩
      case measure => simp [intOf]; omega
    · obtain rfl : k = n := by omega
      go_wp2
      go_ret
      obtain ⟨a1, c1, rfl, _, hnc, hcm, hnil, hcells⟩ := buf_of_own hown
      exact ⟨_, _, _, rfl, ⟨⟨hcells (wv (dg W64 N)) (fun i hi => by simp [hi]), fun i _ => dg_lt W64_pos _ _, hnc, hcm, hnil⟩, HLT.out, HT.out⟩, hbel⟩
end Go.Proofs.YtdkipndepkblhaaGreatDoor

set_option linter.unusedSimpArgs false
set_option linter.unusedVariables false
namespace Go.Bg
open Go.RowKit Dg
theorem WordsAt.setCell {w : World} {a : Option Addr} {n c s o : Nat} {f : Nat → Nat} (h : WordsAt w a n c f) (v : Value) (hs : NoInt w s) : WordsAt (w.setCell ⟨s, o, none⟩ v) a n c f := by
  refine ⟨fun hn => ?_, h.lt, h.nc, h.cm, h.nil⟩
  obtain ⟨b, off, rfl, hc⟩ := h.cells hn
  refine ⟨b, off, rfl, fun i hi => ?_⟩
  have h1 := hc i hi
  rw [cell?_setCell_ne]
  · exact h1
  · intro e; subst e; exact hs _ _ _ h1
theorem noInt_of_blk {w : World} {g : Nat} {cur : Array Value} {e : TypeId} (h : BlkAt w g cur e) (hn : ∀ (i : Nat) k v, cur[i]? ≠ some (.int k v)) : NoInt w g := by
  intro o k v hc
  rw [h.cell] at hc
  exact hn o k v hc
theorem noInt_num {b : Bool} {a : Option Addr} {n c : Nat} : ∀ (i : Nat) k v, (#[.bool b, .slice a n c] : Array Value)[i]? ≠ some (.int k v) := by
  intro i k v h
  match i, h with
  | 0, h => simp at h
  | 1, h => simp at h
  | i + 2, h => simp at h
end Go.Bg
namespace Go.Proofs.YtdkipndepkblhaaGreatDoor
open Go.RowKit Go.Bg Dg

theorem PlainAt.setCell {w : World} {a : Option Addr} {n c N s o : Nat} (h : PlainAt w a n c N) (v : Value) (hs : NoInt w s) : PlainAt (w.setCell ⟨s, o, none⟩ v) a n c N := ⟨h.ws.setCell v hs, h.lt, h.top⟩

theorem sign_lt (s : Bool) (N : Nat) (hs : s = true → 0 < N) : decide ((if N = 0 then (0 : Int) else if s then -1 else 1) < 0) = s := by
  cases s
  · by_cases h : N = 0 <;> simp [h]
  · have := hs rfl
    have h : N ≠ 0 := by omega
    simp [h]

set_option maxRecDepth 100000 in
set_option maxHeartbeats 1000000 in
theorem number_any (b o : Nat) (s : Bool) (N : Nat) (w : World) (h : BigAt 151 w b o s N) (L : Nat) (hL : L ≤ 100000) (hN : N < W64 ^ L) :
    Calls Tryz.prog 117 #[.pointer (some ⟨b, o, none⟩)] w fun e w' => ∃ a n c, e = .returned (.agg #[.bool s, .slice a n c]) ∧ PlainAt w' a n c N ∧ Below w.heap.size w w' := by
  obtain ⟨W0, hW0⟩ : ∃ W0, W0 = w.alloc (.cells #[.bool false, .slice none 0 0] 24) := ⟨_, rfl⟩
  have HW := Lib.hid hW0
  have hb0 : Below w.heap.size w W0 := by rw [hW0]; exact Below.alloc' (Below.refl _ _) _
  have hz : BlkAt W0 w.heap.size #[.bool false, .slice none 0 0] 24 := by rw [hW0]; exact BlkAt.new _ _ _
  have HH := Lib.hid (h.keep hb0)
  have HS := Lib.hid (sign_lt s N h.zero)
  have HL := Lib.hid hN
  clear hW0 h hN
  go_enter Tryz.func117, Tryz.ntmps117
  go_upto_region 1 with fail
  rw [← HW.out]
  go_wp2_with fail
  refine (intSign_any b o s N _ HH.out).mono ?_
  rintro e w1 ⟨rfl, rfl⟩
  generalize (if N = 0 then (0 : Int) else if s then -1 else 1) = sg at *
  go_wp2_with fail
  refine (plain_any b o s N _ HH.out L hL HL.out).mono ?_
  rintro e w2 ⟨a, n, c, rfl, hP, hB⟩
  have hz2 := hz.keep hB
  have c0 := hz2.cell 0
  have c1 := hz2.cell 1
  have f0 := hz2.frozen 0
  have f1 := hz2.frozen 1
  simp only [List.getElem?_toArray, List.getElem?_cons_zero, List.getElem?_cons_succ] at c0 c1
  have hbf := Below.then hb0 (Nat.le_refl _) hB
  have ni := noInt_of_blk hz2 noInt_num
  have HP := Lib.hid (show PlainAt ((w2.setCell ⟨w.heap.size, 0, none⟩ (.bool s)).setCell ⟨w.heap.size, 1, none⟩ (.slice a n c)) a n c N from
    (hP.setCell _ ni).setCell _ (ni.setCell (by intro k n h; cases h)))
  have HBF := Lib.hid (show Below w.heap.size w ((w2.setCell ⟨w.heap.size, 0, none⟩ (.bool s)).setCell ⟨w.heap.size, 1, none⟩ (.slice a n c)) from
    (hbf.setCell (Nat.le_refl _) _).setCell (Nat.le_refl _) _)
  have hs := HS.out
  clear hz hz2 ni hP hbf hb0
  go_wp2
  exact bodyPost_ret (v := .agg #[.bool s, .slice a n c]) (by simp [results, Tryz.results117, go_sem, c0, c1]) rfl ⟨_, _, _, rfl, HP.out, HBF.out⟩

/-- an integer as Val hands it over -/
def AInt (w : World) (v : Value) (z : Int) : Prop :=
  (v = .iface 2 (.int .i64 z) ∧ fit64 z = true) ∨ ∃ b o s N, v = .iface 85 (.pointer (some ⟨b, o, none⟩)) ∧ BigAt 151 w b o s N ∧ sg s N = z

set_option maxRecDepth 100000 in
set_option maxHeartbeats 1000000 in
theorem valInt_any (v : Value) (z : Int) (w : World) (h : CInt w v z) :
    Calls Tryz.prog 116 #[v] w fun e w' => ∃ u, e = .returned u ∧ AInt w' u z ∧ Below w.heap.size w w' := by
  rcases h with ⟨rfl, f1⟩ | ⟨b, o, s, N, rfl, hI, hz⟩
  · obtain ⟨t1, t2, t3, t4, t5, t6, t7, t8, t9⟩ := ta_int64Val
    have F := Lib.hid f1
    clear f1
    go_enter Tryz.func116, Tryz.ntmps116
    go_wp2
    go_ret
    exact ⟨_, rfl, .inl ⟨rfl, F.out⟩, Below.refl _ _⟩
  · obtain ⟨t1, t2, t3, t4, t5, t6, t7, t8, t9⟩ := ta_intVal
    have F := Lib.hid hI
    clear hI
    go_enter Tryz.func116, Tryz.ntmps116
    go_wp2
    go_ret
    have hb := Below.alloc' (Below.refl w.heap.size w) (.cells #[.pointer (some ⟨b, o, none⟩)] 93)
    exact ⟨_, rfl, .inr ⟨b, o, s, N, rfl, F.out.keep hb, hz⟩, hb⟩
end Go.Proofs.YtdkipndepkblhaaGreatDoor

set_option linter.unusedSimpArgs false
set_option linter.unusedVariables false
namespace Go.Proofs.YtdkipndepkblhaaGreatDoor
open Go.RowKit Go.Bg Dg

theorem sg_abs {s : Bool} {N : Nat} (h : s = true → 0 < N) : decide (sg s N < 0) = s ∧ (sg s N).natAbs = N := by
  unfold sg
  cases s
  · simp
  · have := h rfl
    simp; omega

set_option maxRecDepth 100000 in
set_option maxHeartbeats 1000000 in
theorem partsInt_any (v : Value) (z : Int) (w : World) (h : CInt w v z) (L : Nat) (hL : L ≤ 100000) (hz : z.natAbs < W64 ^ L) :
    Calls Tryz.prog 56 #[v] w fun e w' => ∃ a n c a' n' c', e = .returned (.tuple #[.agg #[.bool (decide (z < 0)), .slice a n c], .slice a' n' c']) ∧ PlainAt w' a n c z.natAbs ∧ PlainAt w' a' n' c' 1 ∧ Below w.heap.size w w' := by
  obtain ⟨W0, hW0⟩ : ∃ W0, W0 = w.alloc (.cells #[.bool false, .slice none 0 0] 24) := ⟨_, rfl⟩
  have HW := Lib.hid hW0
  have hb0 : Below w.heap.size w W0 := by rw [hW0]; exact Below.alloc' (Below.refl _ _) _
  have hr : BlkAt W0 w.heap.size #[.bool false, .slice none 0 0] 24 := by rw [hW0]; exact BlkAt.new _ _ _
  have HH := Lib.hid (h.keep hb0)
  have HZ := Lib.hid hz
  clear hW0 h hz
  go_enter Tryz.func56, Tryz.ntmps56
  go_upto_region 1 with fail
  rw [← HW.out]
  go_wp2_with fail
  refine (valInt_any v z _ HH.out).mono ?_
  rintro e w1 ⟨u, rfl, hA, hB1⟩
  have hr1 := hr.keep hB1
  have hb1 := Below.then hb0 (Nat.le_refl _) hB1
  clear hr hB1
  rcases hA with ⟨rfl, hf⟩ | ⟨b, o, s, N, rfl, hI, e1⟩
  · obtain ⟨t1, t2, t3, t4, t5, t6⟩ := ta_any_int64
    have HF := Lib.hid (fit64_bd hf)
    clear hf
    obtain ⟨W2, hW2⟩ : ∃ W2, W2 = w1.alloc (.cells #[.bool false, .slice none 0 0] 143) := ⟨_, rfl⟩
    have HW2 := Lib.hid hW2
    have hN2 : NewInt W2 w1.heap.size 0 := by rw [hW2]; exact newInt_is w1
    have hb2 : Below w1.heap.size w1 W2 := by rw [hW2]; exact Below.alloc' (Below.refl _ _) _
    have hr2 := hr1.keep hb2
    have hbw2 := Below.then hb1 (Nat.le_refl _) hb2
    have hlt := hr1.lt
    have hs2 : W2.heap.size = w1.heap.size + 1 := by rw [hW2]; simp
    clear hW2
    go_wp2_with fail
    rw [← HW2.out]
    refine (setInt64_any w1.heap.size 0 z HF.out _ hN2).mono ?_
    rintro e w2 ⟨rfl, hI, hU⟩
    have hr3 := hU.upd.blk hr2 (Nat.ne_of_lt hlt)
    have hbw3 := hU.upd.below hbw2 (by omega) (fun k _ e => by subst e; omega)
    go_wp2_with fail
    refine (number_any w1.heap.size 0 _ _ _ hI L hL HZ.out).mono ?_
    rintro e w3 ⟨a, n, c, rfl, hP, hB3⟩
    have hr4 := hr3.keep hB3
    have hbw4 := Below.then hbw3 (Nat.le_refl _) hB3
    have hrz := hr4.keep ((Below.refl _ _).alloc (Nat.le_refl _) (.cells #[.int .u64 1] 44))
    have hbz := Below.alloc' hbw4 (.cells #[.int .u64 1] 44)
    have c0 := hrz.cell 0
    have c1 := hrz.cell 1
    have f0 := hrz.frozen 0
    have f1 := hrz.frozen 1
    simp only [List.getElem?_toArray, List.getElem?_cons_zero, List.getElem?_cons_succ] at c0 c1
    have ni := noInt_of_blk hrz noInt_num
    go_wp2
    exact bodyPost_ret (v := .tuple #[.agg #[.bool (decide (z < 0)), .slice a n c], .slice (some ⟨w3.heap.size, 0, none⟩) 1 1]) (by simp [results, Tryz.results56, go_sem, c0, c1]) rfl
      ⟨_, _, _, _, _, _, rfl, ((hP.keep (Below.alloc' (Below.refl _ _) _)).setCell _ ni).setCell _ (ni.setCell (by intro k n h; cases h)), ((plainAt_one (BlkAt.new w3 _ _)).setCell _ ni).setCell _ (ni.setCell (by intro k n h; cases h)), (hbz.setCell (Nat.le_refl _) _).setCell (Nat.le_refl _) _⟩
  · obtain ⟨t1, t2, t3, t4, t5, t6⟩ := ta_any_pInt
    obtain ⟨es, en⟩ := sg_abs hI.zero
    rw [e1] at es en
    have HE := Lib.hid es
    have HEN := Lib.hid en
    have HI := Lib.hid hI
    clear hI e1 es en
    go_wp2_with fail
    refine (number_any b o s _ _ HI.out L hL (by rw [← HEN.out]; exact HZ.out)).mono ?_
    rintro e w2 ⟨a, n, c, rfl, hP, hB2⟩
    have hr2 := hr1.keep hB2
    have hb2 := Below.then hb1 (Nat.le_refl _) hB2
    have hrz := hr2.keep ((Below.refl _ _).alloc (Nat.le_refl _) (.cells #[.int .u64 1] 44))
    have hbz := Below.alloc' hb2 (.cells #[.int .u64 1] 44)
    have c0 := hrz.cell 0
    have c1 := hrz.cell 1
    have f0 := hrz.frozen 0
    have f1 := hrz.frozen 1
    simp only [List.getElem?_toArray, List.getElem?_cons_zero, List.getElem?_cons_succ] at c0 c1
    have ni := noInt_of_blk hrz noInt_num
    go_wp2
    exact bodyPost_ret (v := .tuple #[.agg #[.bool s, .slice a n c], .slice (some ⟨w2.heap.size, 0, none⟩) 1 1]) (by simp [results, Tryz.results56, go_sem, c0, c1]) rfl
      ⟨_, _, _, _, _, _, by rw [HE.out], by rw [HEN.out]; exact ((hP.keep (Below.alloc' (Below.refl _ _) _)).setCell _ ni).setCell _ (ni.setCell (by intro k n h; cases h)), ((plainAt_one (BlkAt.new w2 _ _)).setCell _ ni).setCell _ (ni.setCell (by intro k n h; cases h)), (hbz.setCell (Nat.le_refl _) _).setCell (Nat.le_refl _) _⟩
end Go.Proofs.YtdkipndepkblhaaGreatDoor

set_option linter.unusedSimpArgs false
set_option linter.unusedVariables false
namespace Go.Bg
open Go.RowKit Dg
/-- no word lies in this block -/
def NoU (w : World) (s : Nat) : Prop := ∀ o x, w.cell? ⟨s, o, none⟩ ≠ some (.int .u64 x)
theorem noU_of_blk {w : World} {g : Nat} {cur : Array Value} {e : TypeId} (h : BlkAt w g cur e) (hn : ∀ (i : Nat) x, cur[i]? ≠ some (.int .u64 x)) : NoU w g := by
  intro o x hc
  rw [h.cell] at hc
  exact hn o x hc
theorem noU_vals (k : Int) : ∀ (i : Nat) x, (#[.int .i64 k, .bool false, .string ⟨#[]⟩, .bool false, .slice none 0 0, .slice none 0 0, .bool false, .slice none 0 0, .slice none 0 0] : Array Value)[i]? ≠ some (.int .u64 x) := by
  intro i x h
  match i, h with
  | 0, h => simp at h
  | 1, h => simp at h
  | 2, h => simp at h
  | 3, h => simp at h
  | 4, h => simp at h
  | 5, h => simp at h
  | 6, h => simp at h
  | 7, h => simp at h
  | 8, h => simp at h
  | i + 9, h => simp at h
theorem WordsAt.updU {w w' : World} {a : Option Addr} {n c : Nat} {f : Nat → Nat} {S : Nat → Prop} (h : WordsAt w a n c f) (hu : Upd S w w') (hS : ∀ k, S k → NoU w k) : WordsAt w' a n c f := by
  refine ⟨fun hn => ?_, h.lt, h.nc, h.cm, h.nil⟩
  obtain ⟨b, off, rfl, hc⟩ := h.cells hn
  refine ⟨b, off, rfl, fun i hi => ?_⟩
  have h1 := hc i hi
  rw [hu.cell (p := ⟨b, off + i, none⟩) (block_lt h1) (fun s => hS b s _ _ h1)]
  exact h1
theorem nilWords (w : World) : WordsAt w none 0 0 (fun _ => 0) := ⟨fun h => by omega, fun i h => by omega, Nat.le_refl _, by simp [maxLen], fun _ => rfl⟩
end Go.Bg
namespace Go.Proofs.YtdkipndepkblhaaGreatDoor
open Go.RowKit Go.Bg Dg

theorem methodKind64 (x : Value) (w : World) : (method 400 82 x "Kind").run Tryz.prog w = .ok (320, x) w := by kernel_rfl
theorem methodKindInt (x : Value) (w : World) : (method 400 93 x "Kind").run Tryz.prog w = .ok (326, x) w := by kernel_rfl

set_option maxRecDepth 100000 in
theorem kind64_any (x : Value) (w : World) : Calls Tryz.prog 320 #[x] w fun e w' => e = .returned (.int .i64 3) ∧ Below w.heap.size w w' := by
  go_enter Tryz.func320, Tryz.ntmps320
  go_wp2
  go_ret
  exact ⟨rfl, Below.refl _ _⟩
set_option maxRecDepth 100000 in
theorem kindInt_any (p : Value) (w : World) : Calls Tryz.prog 326 #[.agg #[p]] w fun e w' => e = .returned (.int .i64 3) ∧ Below w.heap.size w w' := by
  have HB := Lib.hid (fun o => (Below.refl w.heap.size w).alloc (Nat.le_refl _) o)
  go_enter Tryz.func326, Tryz.ntmps326
  go_wp2
  go_ret
  exact ⟨rfl, HB.out _⟩

theorem told_val {w : World} {a : Option Addr} {n c N : Nat} (h : PlainAt w a n c N) : val W64 (dg W64 N) n = N := by
  rw [val_dg, Nat.mod_eq_of_lt h.lt]
theorem told_intB {w : World} {z : Int} {a : Option Addr} {n c : Nat} (h : PlainAt w a n c z.natAbs) :
    intB ⟨3, false, ⟨#[]⟩, decide (z < 0), a, n, c, dg W64 z.natAbs, none, 0, 0, fun _ => 0, false, none, 0, 0, fun _ => 0, none, 0, 0, fun _ => 0⟩ = true := by
  have hv := told_val h
  have ht : n = 0 ∨ dg W64 z.natAbs (n - 1) ≠ 0 := by
    rcases h.top with h0 | h0
    · exact .inl h0
    · by_cases hn : n = 0
      · exact .inl hn
      · right
        have hlt := h.lt
        rw [show n = n - 1 + 1 from by omega, Nat.pow_succ] at hlt
        have hq : z.natAbs / W64 ^ (n - 1) < W64 := (Nat.div_lt_iff_lt_mul (Nat.pow_pos W64_pos)).2 (by rw [Nat.mul_comm]; exact hlt)
        have hp : 0 < z.natAbs / W64 ^ (n - 1) := Nat.div_pos h0 (Nat.pow_pos W64_pos)
        rw [dg, Nat.mod_eq_of_lt hq]
        omega
  unfold intB isNumB hasW Vl.restB
  simp only [hv]
  by_cases hz : z < 0
  · have : 0 < z.natAbs := by omega
    simp [hz, this, ht]
  · simp [hz, ht]

set_option maxRecDepth 100000 in
set_option maxHeartbeats 1000000 in
theorem toldInt_any (v : Value) (z : Int) (w : World) (h : CInt w v z) (L : Nat) (hL : L ≤ 100000) (hz : z.natAbs < W64 ^ L) :
    Calls Tryz.prog 37 #[v] w fun e w' => ∃ x : Vl, e = .returned (.agg #[.int .i64 x.kind, .bool x.truth, .string x.text, .bool x.neg, .slice x.wa x.wn x.wc, .slice x.da x.dn x.dc, .bool x.ineg, .slice x.ia x.inn x.ic, .slice x.ea x.en x.ec]) ∧ VlAt w' x ∧ intB x = true ∧ x.neg = decide (z < 0) ∧ val W64 x.wf x.wn = z.natAbs ∧ Below w.heap.size w w' := by
  have HH := Lib.hid h
  have HZ := Lib.hid hz
  clear hz
  rcases h with ⟨rfl, _⟩ | ⟨b, o, s, N, rfl, _, _⟩
  · have hm := methodKind64
    have hb0 : Below w.heap.size w (w.alloc (.cells #[.int .i64 0, .bool false, .string ⟨#[]⟩, .bool false, .slice none 0 0, .slice none 0 0, .bool false, .slice none 0 0, .slice none 0 0] 26)) := Below.alloc' (Below.refl _ _) _
    have hR0 := BlkAt.new w #[.int .i64 0, .bool false, .string ⟨#[]⟩, .bool false, .slice none 0 0, .slice none 0 0, .bool false, .slice none 0 0, .slice none 0 0] 26
    go_enter Tryz.func37, Tryz.ntmps37
    go_wp2_with fail
    refine (kind64_any _ _).mono ?_
    rintro e w1 ⟨rfl, hB1⟩
    have hR1 := (hR0.keep hB1).keep ((Below.refl _ _).alloc (Nat.le_refl _) (.cells #[.int .i64 3, .bool false, .string ⟨#[]⟩, .bool false, .slice none 0 0, .slice none 0 0, .bool false, .slice none 0 0, .slice none 0 0] 26))
    have hO1 := BlkAt.new w1 #[.int .i64 3, .bool false, .string ⟨#[]⟩, .bool false, .slice none 0 0, .slice none 0 0, .bool false, .slice none 0 0, .slice none 0 0] 26
    have hb1 := Below.alloc' (Below.then hb0 (Nat.le_refl _) hB1) (.cells #[.int .i64 3, .bool false, .string ⟨#[]⟩, .bool false, .slice none 0 0, .slice none 0 0, .bool false, .slice none 0 0, .slice none 0 0] 26)
    have hlt1 := (hR0.keep hB1).lt
    clear hR0 hb0 hB1
    go_wp2_with fail
    refine (kind64_any _ _).mono ?_
    rintro e w2 ⟨rfl, hB2⟩
    have hR2 := hR1.keep hB2
    have hO2 := hO1.keep hB2
    have hb2 := Below.then hb1 (Nat.le_refl _) hB2
    clear hR1 hO1 hb1 hB2
    go_wp2_with fail
    refine (partsInt_any _ z _ (HH.out.keep hb2) L hL HZ.out).mono ?_
    rintro e w3 ⟨a, n, c, au, nu, cu, rfl, hP, -, hB3⟩
    have hR3 := hR2.keep hB3
    have hO3 := hO2.keep hB3
    have hb3 := Below.then hb2 (Nat.le_refl _) hB3
    have hne : w.heap.size ≠ w1.heap.size := Nat.ne_of_lt hlt1
    clear hR2 hO2 hb2 hB3
    have oc0 := hO3.cell 0
    have oc1 := hO3.cell 1
    have oc2 := hO3.cell 2
    have oc3 := hO3.cell 3
    have oc4 := hO3.cell 4
    have oc5 := hO3.cell 5
    have oc6 := hO3.cell 6
    have oc7 := hO3.cell 7
    have oc8 := hO3.cell 8
    have of0 := hO3.frozen 0
    have of1 := hO3.frozen 1
    have of2 := hO3.frozen 2
    have of3 := hO3.frozen 3
    have of4 := hO3.frozen 4
    have of5 := hO3.frozen 5
    have of6 := hO3.frozen 6
    have of7 := hO3.frozen 7
    have of8 := hO3.frozen 8
    have rc0 := hR3.cell 0
    have rc1 := hR3.cell 1
    have rc2 := hR3.cell 2
    have rc3 := hR3.cell 3
    have rc4 := hR3.cell 4
    have rc5 := hR3.cell 5
    have rc6 := hR3.cell 6
    have rc7 := hR3.cell 7
    have rc8 := hR3.cell 8
    have rf0 := hR3.frozen 0
    have rf1 := hR3.frozen 1
    have rf2 := hR3.frozen 2
    have rf3 := hR3.frozen 3
    have rf4 := hR3.frozen 4
    have rf5 := hR3.frozen 5
    have rf6 := hR3.frozen 6
    have rf7 := hR3.frozen 7
    have rf8 := hR3.frozen 8
    simp only [List.getElem?_toArray, List.getElem?_cons_zero, List.getElem?_cons_succ] at oc0 oc1 oc2 oc3 oc4 oc5 oc6 oc7 oc8 rc0 rc1 rc2 rc3 rc4 rc5 rc6 rc7 rc8
    have HU := Lib.hid ((((((((((((Upd.refl (fun k => k = w1.heap.size ∨ k = w.heap.size) w3).setCell (p := ⟨w1.heap.size, 3, none⟩) (Or.inl rfl) (.bool (decide (z < 0)))).setCell (p := ⟨w1.heap.size, 4, none⟩) (Or.inl rfl) (.slice a n c)).setCell (p := ⟨w.heap.size, 0, none⟩) (Or.inr rfl) (.int .i64 3)).setCell (p := ⟨w.heap.size, 1, none⟩) (Or.inr rfl) (.bool false)).setCell (p := ⟨w.heap.size, 2, none⟩) (Or.inr rfl) (.string ⟨#[]⟩)).setCell (p := ⟨w.heap.size, 3, none⟩) (Or.inr rfl) (.bool (decide (z < 0)))).setCell (p := ⟨w.heap.size, 4, none⟩) (Or.inr rfl) (.slice a n c)).setCell (p := ⟨w.heap.size, 5, none⟩) (Or.inr rfl) (.slice none 0 0)).setCell (p := ⟨w.heap.size, 6, none⟩) (Or.inr rfl) (.bool false)).setCell (p := ⟨w.heap.size, 7, none⟩) (Or.inr rfl) (.slice none 0 0)).setCell (p := ⟨w.heap.size, 8, none⟩) (Or.inr rfl) (.slice none 0 0))
    have HB := Lib.hid ((((((((((((hb3).setCell (p := ⟨w1.heap.size, 3, none⟩) (Nat.le_of_lt hlt1) (.bool (decide (z < 0)))).setCell (p := ⟨w1.heap.size, 4, none⟩) (Nat.le_of_lt hlt1) (.slice a n c)).setCell (p := ⟨w.heap.size, 0, none⟩) (Nat.le_refl _) (.int .i64 3)).setCell (p := ⟨w.heap.size, 1, none⟩) (Nat.le_refl _) (.bool false)).setCell (p := ⟨w.heap.size, 2, none⟩) (Nat.le_refl _) (.string ⟨#[]⟩)).setCell (p := ⟨w.heap.size, 3, none⟩) (Nat.le_refl _) (.bool (decide (z < 0)))).setCell (p := ⟨w.heap.size, 4, none⟩) (Nat.le_refl _) (.slice a n c)).setCell (p := ⟨w.heap.size, 5, none⟩) (Nat.le_refl _) (.slice none 0 0)).setCell (p := ⟨w.heap.size, 6, none⟩) (Nat.le_refl _) (.bool false)).setCell (p := ⟨w.heap.size, 7, none⟩) (Nat.le_refl _) (.slice none 0 0)).setCell (p := ⟨w.heap.size, 8, none⟩) (Nat.le_refl _) (.slice none 0 0))
    have HNO := Lib.hid (noU_of_blk hO3 (noU_vals _))
    have HNR := Lib.hid (noU_of_blk hR3 (noU_vals _))
    have HP := Lib.hid hP
    clear hm hP hb3 hO3 hR3
    go_wp2
    refine bodyPost_ret (v := .agg #[.int .i64 3, .bool false, .string ⟨#[]⟩, .bool (decide (z < 0)), .slice a n c, .slice none 0 0, .bool false, .slice none 0 0, .slice none 0 0]) (by simp [results, Tryz.results37, go_sem, rc0, rc1, rc2, rc3, rc4, rc5, rc6, rc7, rc8]) rfl
      ⟨⟨3, false, ⟨#[]⟩, decide (z < 0), a, n, c, dg W64 z.natAbs, none, 0, 0, fun _ => 0, false, none, 0, 0, fun _ => 0, none, 0, 0, fun _ => 0⟩, rfl, ⟨HP.out.ws.updU HU.out ?_, nilWords _, nilWords _, nilWords _, Nat.zero_le _, by simp⟩, ?_, rfl, ?_, HB.out⟩
    · rintro k (rfl | rfl)
      · exact HNO.out
      · exact HNR.out
    · exact told_intB HP.out
    · exact told_val HP.out
  · have hm := methodKindInt
    have hb0 : Below w.heap.size w (w.alloc (.cells #[.int .i64 0, .bool false, .string ⟨#[]⟩, .bool false, .slice none 0 0, .slice none 0 0, .bool false, .slice none 0 0, .slice none 0 0] 26)) := Below.alloc' (Below.refl _ _) _
    have hR0 := BlkAt.new w #[.int .i64 0, .bool false, .string ⟨#[]⟩, .bool false, .slice none 0 0, .slice none 0 0, .bool false, .slice none 0 0, .slice none 0 0] 26
    go_enter Tryz.func37, Tryz.ntmps37
    go_wp2_with fail
    refine (kindInt_any _ _).mono ?_
    rintro e w1 ⟨rfl, hB1⟩
    have hR1 := (hR0.keep hB1).keep ((Below.refl _ _).alloc (Nat.le_refl _) (.cells #[.int .i64 3, .bool false, .string ⟨#[]⟩, .bool false, .slice none 0 0, .slice none 0 0, .bool false, .slice none 0 0, .slice none 0 0] 26))
    have hO1 := BlkAt.new w1 #[.int .i64 3, .bool false, .string ⟨#[]⟩, .bool false, .slice none 0 0, .slice none 0 0, .bool false, .slice none 0 0, .slice none 0 0] 26
    have hb1 := Below.alloc' (Below.then hb0 (Nat.le_refl _) hB1) (.cells #[.int .i64 3, .bool false, .string ⟨#[]⟩, .bool false, .slice none 0 0, .slice none 0 0, .bool false, .slice none 0 0, .slice none 0 0] 26)
    have hlt1 := (hR0.keep hB1).lt
    clear hR0 hb0 hB1
    go_wp2_with fail
    refine (kindInt_any _ _).mono ?_
    rintro e w2 ⟨rfl, hB2⟩
    have hR2 := hR1.keep hB2
    have hO2 := hO1.keep hB2
    have hb2 := Below.then hb1 (Nat.le_refl _) hB2
    clear hR1 hO1 hb1 hB2
    go_wp2_with fail
    refine (partsInt_any _ z _ (HH.out.keep hb2) L hL HZ.out).mono ?_
    rintro e w3 ⟨a, n, c, au, nu, cu, rfl, hP, -, hB3⟩
    have hR3 := hR2.keep hB3
    have hO3 := hO2.keep hB3
    have hb3 := Below.then hb2 (Nat.le_refl _) hB3
    have hne : w.heap.size ≠ w1.heap.size := Nat.ne_of_lt hlt1
    clear hR2 hO2 hb2 hB3
    have oc0 := hO3.cell 0
    have oc1 := hO3.cell 1
    have oc2 := hO3.cell 2
    have oc3 := hO3.cell 3
    have oc4 := hO3.cell 4
    have oc5 := hO3.cell 5
    have oc6 := hO3.cell 6
    have oc7 := hO3.cell 7
    have oc8 := hO3.cell 8
    have of0 := hO3.frozen 0
    have of1 := hO3.frozen 1
    have of2 := hO3.frozen 2
    have of3 := hO3.frozen 3
    have of4 := hO3.frozen 4
    have of5 := hO3.frozen 5
    have of6 := hO3.frozen 6
    have of7 := hO3.frozen 7
    have of8 := hO3.frozen 8
    have rc0 := hR3.cell 0
    have rc1 := hR3.cell 1
    have rc2 := hR3.cell 2
    have rc3 := hR3.cell 3
    have rc4 := hR3.cell 4
    have rc5 := hR3.cell 5
    have rc6 := hR3.cell 6
    have rc7 := hR3.cell 7
    have rc8 := hR3.cell 8
    have rf0 := hR3.frozen 0
    have rf1 := hR3.frozen 1
    have rf2 := hR3.frozen 2
    have rf3 := hR3.frozen 3
    have rf4 := hR3.frozen 4
    have rf5 := hR3.frozen 5
    have rf6 := hR3.frozen 6
    have rf7 := hR3.frozen 7
    have rf8 := hR3.frozen 8
    simp only [List.getElem?_toArray, List.getElem?_cons_zero, List.getElem?_cons_succ] at oc0 oc1 oc2 oc3 oc4 oc5 oc6 oc7 oc8 rc0 rc1 rc2 rc3 rc4 rc5 rc6 rc7 rc8
    have HU := Lib.hid ((((((((((((Upd.refl (fun k => k = w1.heap.size ∨ k = w.heap.size) w3).setCell (p := ⟨w1.heap.size, 3, none⟩) (Or.inl rfl) (.bool (decide (z < 0)))).setCell (p := ⟨w1.heap.size, 4, none⟩) (Or.inl rfl) (.slice a n c)).setCell (p := ⟨w.heap.size, 0, none⟩) (Or.inr rfl) (.int .i64 3)).setCell (p := ⟨w.heap.size, 1, none⟩) (Or.inr rfl) (.bool false)).setCell (p := ⟨w.heap.size, 2, none⟩) (Or.inr rfl) (.string ⟨#[]⟩)).setCell (p := ⟨w.heap.size, 3, none⟩) (Or.inr rfl) (.bool (decide (z < 0)))).setCell (p := ⟨w.heap.size, 4, none⟩) (Or.inr rfl) (.slice a n c)).setCell (p := ⟨w.heap.size, 5, none⟩) (Or.inr rfl) (.slice none 0 0)).setCell (p := ⟨w.heap.size, 6, none⟩) (Or.inr rfl) (.bool false)).setCell (p := ⟨w.heap.size, 7, none⟩) (Or.inr rfl) (.slice none 0 0)).setCell (p := ⟨w.heap.size, 8, none⟩) (Or.inr rfl) (.slice none 0 0))
    have HB := Lib.hid ((((((((((((hb3).setCell (p := ⟨w1.heap.size, 3, none⟩) (Nat.le_of_lt hlt1) (.bool (decide (z < 0)))).setCell (p := ⟨w1.heap.size, 4, none⟩) (Nat.le_of_lt hlt1) (.slice a n c)).setCell (p := ⟨w.heap.size, 0, none⟩) (Nat.le_refl _) (.int .i64 3)).setCell (p := ⟨w.heap.size, 1, none⟩) (Nat.le_refl _) (.bool false)).setCell (p := ⟨w.heap.size, 2, none⟩) (Nat.le_refl _) (.string ⟨#[]⟩)).setCell (p := ⟨w.heap.size, 3, none⟩) (Nat.le_refl _) (.bool (decide (z < 0)))).setCell (p := ⟨w.heap.size, 4, none⟩) (Nat.le_refl _) (.slice a n c)).setCell (p := ⟨w.heap.size, 5, none⟩) (Nat.le_refl _) (.slice none 0 0)).setCell (p := ⟨w.heap.size, 6, none⟩) (Nat.le_refl _) (.bool false)).setCell (p := ⟨w.heap.size, 7, none⟩) (Nat.le_refl _) (.slice none 0 0)).setCell (p := ⟨w.heap.size, 8, none⟩) (Nat.le_refl _) (.slice none 0 0))
    have HNO := Lib.hid (noU_of_blk hO3 (noU_vals _))
    have HNR := Lib.hid (noU_of_blk hR3 (noU_vals _))
    have HP := Lib.hid hP
    clear hm hP hb3 hO3 hR3
    go_wp2
    refine bodyPost_ret (v := .agg #[.int .i64 3, .bool false, .string ⟨#[]⟩, .bool (decide (z < 0)), .slice a n c, .slice none 0 0, .bool false, .slice none 0 0, .slice none 0 0]) (by simp [results, Tryz.results37, go_sem, rc0, rc1, rc2, rc3, rc4, rc5, rc6, rc7, rc8]) rfl
      ⟨⟨3, false, ⟨#[]⟩, decide (z < 0), a, n, c, dg W64 z.natAbs, none, 0, 0, fun _ => 0, false, none, 0, 0, fun _ => 0, none, 0, 0, fun _ => 0⟩, rfl, ⟨HP.out.ws.updU HU.out ?_, nilWords _, nilWords _, nilWords _, Nat.zero_le _, by simp⟩, ?_, rfl, ?_, HB.out⟩
    · rintro k (rfl | rfl)
      · exact HNO.out
      · exact HNR.out
    · exact told_intB HP.out
    · exact told_val HP.out
end Go.Proofs.YtdkipndepkblhaaGreatDoor
