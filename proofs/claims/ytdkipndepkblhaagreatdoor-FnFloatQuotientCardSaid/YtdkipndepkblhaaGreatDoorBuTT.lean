/-
  copy of words: what it leaves, told by its row.
  Room of one's own: what a call that writes a number into it may turn; nat.make, set, setWord, mulAddWW into it.
  subVW: what may turn told by its blocks; in place.
  nat.sub into one's own room. PRINTED BY wip/gen_owns.py.
  An Int of one's own as a register: what a call on it leaves, and what it leaves of the others.
-/
import Derived.Test.YtdkipndepkblhaaGreatDoorBuO
import Derived.Test.YtdkipndepkblhaaGreatDoorBuOO
import Derived.Test.YtdkipndepkblhaaGreatDoorShI
import Derived.Test.YtdkipndepkblhaaGreatDoorBuZ
import Derived.Test.YtdkipndepkblhaaGreatDoorBuS
set_option linter.unusedSimpArgs false
set_option linter.unusedVariables false
namespace Go.Proofs.YtdkipndepkblhaaGreatDoor
open Go.RowKit Go.Bg Dg

theorem wpList_copy_words {P : Program} {w : World} {ops : Array Oper} {rest : List Oper} {o : Oper} {a : Act} {Q : Exit → Act → World → Prop} (hgd : o.guard = none) (d s : Operand) (dT sT : TypeId)
    (ho : o.op = .call { callee := .builtin .copy, args := #[d, s], argTypes := #[dT, sT] }) (elem : TypeId) (hu : P.underlying dT = some (.slice elem)) (hsz : (P.info? elem).map (·.size) = some 1)
    (g off n dCap b o1 sCap X : Nat) (hd : a.eval d = .slice (some ⟨g, off, none⟩) n dCap) (hs : a.eval s = .slice (some ⟨b, o1, none⟩) n sCap)
    (cur : Array Value) (T : TypeId) (hg : BlkAt w g cur T) (h1 : WCells w b o1 n (dg W64 X)) (hfit : off + n ≤ cur.size)
    (h : ∀ w', RowUp T w w' g off n cur (dg W64 X) → wpList P ops Q rest (a.put o.dst (goInt n)) w') : wpList P ops Q (o :: rest) a w := by
  have hl := wlf_len X 0 n
  refine wpList_copy_own hgd d s dT sT ho elem hu hsz g off n dCap ⟨b, o1, none⟩ n sCap hd hs cur T hg (wlf X 0 n) (by rw [hl]; exact (Nat.min_self n).symm) ?_ (by rw [hl]; exact hfit) (wlf_one _ _ _) ?_
  · intro j v hj
    have hjn : j < n := by
      have := (List.getElem?_eq_some_iff.1 hj).1
      rwa [hl] at this
    rw [wlf_get hjn] at hj
    rw [← hj, Addr.add_lit, Nat.zero_add]
    exact h1 j hjn
  · rw [hl]
    refine h _ ⟨⟨rfl, rfl, rfl, by simp [World.setRow], fun k hk hn => setRow_other w g k _ hn⟩, _, setRow_heap w g _ _ T _ hg, ?_, ?_, ?_⟩
    · simp [hl]; omega
    · intro i hi
      simp only [List.getElem?_toArray]
      rw [List.getElem?_append_right (by simp; omega), List.getElem?_append_left (by rw [hl]; simp; omega)]
      have e : off + i - (List.take off cur.toList).length = i := by simp; omega
      rw [e, wlf_get hi, Nat.zero_add]
    · intro j hj
      simp only [List.getElem?_toArray]
      rcases hj with hj | hj
      · rw [List.getElem?_append_left (by simp; omega), List.getElem?_take_of_lt hj]
        simp
      · rw [List.getElem?_append_right (by simp; omega), List.getElem?_append_right (by rw [hl]; simp; omega), List.getElem?_drop, hl]
        have e : off + n + (j - (List.take off cur.toList).length - n) = j := by simp; omega
        rw [e]
        simp
end Go.Proofs.YtdkipndepkblhaaGreatDoor

set_option linter.unusedSimpArgs false
set_option linter.unusedVariables false
namespace Go.Bg
open Go.RowKit Dg
/-- the block of a slice -/
def InB (a : Option Addr) (k : Nat) : Prop := ∃ p, a = some p ∧ p.block = k
theorem inB_none {k : Nat} (h : InB none k) : False := by obtain ⟨p, h, _⟩ := h; cases h
theorem inB_some {b o k : Nat} {f : Option Nat} (h : InB (some ⟨b, o, f⟩) k) : b = k := by obtain ⟨p, h, e⟩ := h; injection h with h; rw [← e, ← h]
theorem inB_is (b o : Nat) (f : Option Nat) : InB (some ⟨b, o, f⟩) b := ⟨_, rfl, rfl⟩

/-- words in the block g: one's own room, or new -/
def MadeG (T : TypeId) (g n : Nat) (w : World) (e : Ending) (w' : World) : Prop :=
  ∃ c cur, e = .returned (.slice (some ⟨g, 0, none⟩) n c) ∧ BlkAt w' g cur T ∧ cur.size = c ∧ n ≤ c ∧ c ≤ maxLen ∧ Below w.heap.size w w'
/-- a number in one's own room, or in a new one -/
def GivesI (T : TypeId) (a : Option Addr) (N : Nat) (w : World) (e : Ending) (w' : World) : Prop :=
  ∃ a' n' c', e = .returned (.slice a' n' c') ∧ BigN T w' a' n' c' N ∧ Upd (InB a) w w' ∧ ∀ k, InB a' k → InB a k ∨ w.heap.size ≤ k

/-- nothing but new memory has turned -/
theorem Upd.toBelow {S : Nat → Prop} {w w' : World} (h : Upd S w w') (hS : ∀ k, k < w.heap.size → ¬ S k) : Below w.heap.size w w' :=
  ⟨h.os, h.tape, h.output, h.size, fun k hk => h.block k hk (hS k hk)⟩
theorem Upd.room {a : Option Addr} {g : Nat} {w w1 w2 : World} (hb : Below w.heap.size w w1) (hg : InB a g ∨ w.heap.size ≤ g) (u : Upd (· = g) w1 w2) : Upd (InB a) w w2 :=
  ⟨u.os.trans hb.os, u.tape.trans hb.tape, u.output.trans hb.output, Nat.le_trans hb.size u.size, fun k hk hs => by
    have hne : ¬ k = g := fun e => by
      subst e
      rcases hg with h | h
      · exact hs h
      · omega
    exact (u.block k (Nat.lt_of_lt_of_le hk hb.size) hne).trans (hb.block k hk)⟩

/-- the words written, without those that are 0 at the end -/
theorem givesI_row {T : TypeId} {a : Option Addr} {g c m N : Nat} {cur : Array Value} {w w1 w2 : World} (hb : Below w.heap.size w w1) (hg : InB a g ∨ w.heap.size ≤ g) (hs : cur.size = c) (hR : RowUp T w1 w2 g 0 m cur (dg W64 N)) (hm : m ≤ c) (hc : c ≤ maxLen) (hN : N < W64 ^ m) :
    Cells w2 (some ⟨g, 0, none⟩) m (fun i => .int .u64 (dg W64 N i : Nat)) ∧ GivesI T a N w (.returned (.slice (some ⟨g, 0, none⟩) (tlen (dg W64 N) m) c)) w2 := by
  obtain ⟨cur', hk1, hk2, hk3, hk4⟩ := hR.blk
  obtain ⟨hcl, hbn⟩ := bigN_row (c := c) (m := m) hk1 (hk2.trans hs) (fun i hi => by have := hk3 i hi; rwa [Nat.zero_add] at this) hm hc hN
  exact ⟨hcl, _, _, _, rfl, hbn, Upd.room hb hg hR.upd, fun k hk => by rw [← inB_some hk]; exact hg⟩
/-- a number's words, copied -/
theorem bigN_copied {T : TypeId} {w w1 w2 : World} {a : Option Addr} {n c N g c' : Nat} {cur : Array Value} (h : NumAt .u64 W64 w a n c N) (hR : RowUp T w1 w2 g 0 n cur (dg W64 N)) (hs : cur.size = c') (hn : n ≤ c') (hc : c' ≤ maxLen) : BigN T w2 (some ⟨g, 0, none⟩) n c' N := by
  obtain ⟨cur', hk1, hk2, hk3, hk4⟩ := hR.blk
  refine ⟨⟨h.lt, h.top, hn, hc, fun _ => ⟨g, 0, rfl, fun i hi => ?_⟩⟩, .inr ⟨g, cur', rfl, hk1, hk2.trans hs⟩⟩
  rw [hk1.cell]; exact hk3 i hi
/-- nothing, in the same room -/
theorem BigN.empty {T : TypeId} {w : World} {a : Option Addr} {n c N : Nat} (h : BigN T w a n c N) : BigN T w a 0 c 0 :=
  ⟨⟨by simp, .inl rfl, Nat.zero_le _, h.num.cm, fun h => absurd h (Nat.lt_irrefl _)⟩, h.buf⟩
theorem GivesI.empty {T : TypeId} {w : World} {a : Option Addr} {n c N : Nat} (h : BigN T w a n c N) : GivesI T a 0 w (.returned (.slice a 0 c)) w :=
  ⟨_, _, _, rfl, h.empty, Upd.refl _ _, fun k hk => .inl hk⟩
/-- a number whose block is not among those that may turn -/
theorem BigN.apart {T : TypeId} {w w' : World} {a : Option Addr} {n c N : Nat} {S : Nat → Prop} (h : BigN T w a n c N) (hu : Upd S w w') (hs : ∀ k, InB a k → ¬ S k) : BigN T w' a n c N := by
  rcases h.buf with ⟨rfl, rfl⟩ | ⟨g, cur, rfl, hg, hz⟩
  · refine ⟨⟨h.num.lt, h.num.top, h.num.nc, h.num.cm, fun hn => ?_⟩, .inl ⟨rfl, rfl⟩⟩
    obtain ⟨b, off, e, _⟩ := h.num.cells hn
    cases e
  · have hn := hs g (inB_is _ _ _)
    refine ⟨⟨h.num.lt, h.num.top, h.num.nc, h.num.cm, fun hn' => ⟨g, 0, rfl, fun i hi => ?_⟩⟩, .inr ⟨g, cur, rfl, hu.blk hg hn, hz⟩⟩
    rw [hu.cell (p := ⟨g, 0 + i, none⟩) hg.lt hn]
    exact h.num.cell hi
theorem BigN.inLt {T : TypeId} {w : World} {a : Option Addr} {n c N : Nat} (h : BigN T w a n c N) : ∀ k, InB a k → k < w.heap.size := by
  intro k hk
  rcases h.buf with ⟨rfl, _⟩ | ⟨g, cur, rfl, hg, _⟩
  · exact (inB_none hk).elim
  · rw [← inB_some hk]; exact hg.lt
theorem BigN.start {T : TypeId} {w : World} {b o n c N : Nat} (h : BigN T w (some ⟨b, o, none⟩) n c N) : o = 0 ∧ ∃ cur, BlkAt w b cur T ∧ cur.size = c := by
  rcases h.buf with ⟨h, _⟩ | ⟨g', cur, h, hg, hsz⟩
  · cases h
  · injection h with h
    injection h with h h' _
    subst h h'
    exact ⟨rfl, cur, hg, hsz⟩
/-- a big integer whose words' slice is told, its sign too (where it is 0 as well) -/
structure OwnI (T : TypeId) (w : World) (b o : Nat) (s : Bool) (a : Option Addr) (n c N : Nat) : Prop where
  blk : Strct T w b
  c0 : w.cell? ⟨b, o, none⟩ = some (.bool s)
  c1 : w.cell? ⟨b, o + 1, none⟩ = some (.slice a n c)
  num : BigN T w a n c N
theorem OwnI.stored {T : TypeId} {w : World} {b o : Nat} {a : Option Addr} {n c N : Nat} {s : Bool} (hb : Strct T w b) (h0 : ∃ u, w.cell? ⟨b, o, none⟩ = some u) (h1 : ∃ u, w.cell? ⟨b, o + 1, none⟩ = some u) (hN : BigN T w a n c N) :
    OwnI T ((w.setCell ⟨b, o + 1, none⟩ (.slice a n c)).setCell ⟨b, o, none⟩ (.bool s)) b o s a n c N := by
  obtain ⟨u0, h0⟩ := h0
  obtain ⟨u1, h1⟩ := h1
  have e : ∀ (i j : Nat) (v : Value) (w : World), i ≠ j → (w.setCell ⟨b, i, none⟩ v).cell? ⟨b, j, none⟩ = w.cell? ⟨b, j, none⟩ := fun i j v w h => World.cell?_setCell_other _ _ _ _ (fun hh => h (by injection hh))
  refine ⟨(hb.set _ _).set _ _, ?_, ?_, (hN.set hb _ _).set (hb.set _ _) _ _⟩
  · refine World.cell?_setCell_same (u := u0) _ _ _ ?_
    rw [e _ _ _ _ (by omega)]; exact h0
  · rw [e _ _ _ _ (by omega)]
    exact World.cell?_setCell_same (u := u1) _ _ _ h1
theorem OwnI.toAt {T : TypeId} {w : World} {b o : Nat} {a : Option Addr} {n c N : Nat} {s : Bool} (h : OwnI T w b o s a n c N) (hz : s = true → 0 < N) : BigAt T w b o s N := ⟨h.blk, ⟨a, n, c, h.c0, h.c1, h.num⟩, hz⟩
theorem OwnI.apart {T : TypeId} {w w' : World} {b o : Nat} {a : Option Addr} {n c N : Nat} {s : Bool} {S : Nat → Prop} (h : OwnI T w b o s a n c N) (hu : Upd S w w') (hb : ¬ S b) (ha : ∀ k, InB a k → ¬ S k) : OwnI T w' b o s a n c N :=
  ⟨h.blk.upd hu hb, by rw [hu.cell (p := ⟨b, o, none⟩) h.blk.lt hb]; exact h.c0, by rw [hu.cell (p := ⟨b, o + 1, none⟩) h.blk.lt hb]; exact h.c1, h.num.apart hu ha⟩
theorem OwnI.keep {T : TypeId} {w w' : World} {b o : Nat} {a : Option Addr} {n c N : Nat} {s : Bool} (h : OwnI T w b o s a n c N) (hb : Below w.heap.size w w') : OwnI T w' b o s a n c N :=
  ⟨h.blk.keep hb, cell_keep h.c0 hb, cell_keep h.c1 hb, h.num.keep hb⟩
/-- words lie in no struct's block -/
theorem Strct.notIn {T : TypeId} {w : World} {b : Nat} {a : Option Addr} {n c N : Nat} (h : Strct T w b) (hN : BigN T w a n c N) : ¬ InB a b := by
  obtain ⟨cur, e, h, hne⟩ := h
  intro hk
  rcases hN.buf with ⟨rfl, _⟩ | ⟨g, cur2, rfl, hg, _⟩
  · exact inB_none hk
  · have e2 := inB_some hk
    subst e2
    unfold BlkAt at hg h
    rw [hg] at h; injection h with h; injection h with _ h2 _; exact hne h2.symm
end Go.Bg
namespace Go.Proofs.YtdkipndepkblhaaGreatDoor
open Go.RowKit Go.Bg Dg

set_option maxRecDepth 100000 in
set_option maxHeartbeats 1000000 in
theorem make_one0 (az : Option Addr) (w : World) :
    Calls Tryz.prog 184 #[.slice az 0 0, .int .i64 1] w (MadeIs 151 1 w) := by
  have hmk : ∀ w : World, (Instr.makeSlice 141 (.int .i64 1) (.int .i64 1)).run Tryz.prog w = .ok (.slice (some ⟨w.heap.size, 0, none⟩) 1 1) (w.alloc (.cells (Array.replicate 1 (.int .u64 0)) 151)) :=
    run_make_nat 141 151 Tryz.underlying141 infoWord 1 1 (Nat.le_refl _) (by omega)
  go_enter Tryz.func184, Tryz.ntmps184
  go_wp2
  go_ret
  exact .inr ⟨1, by omega, Nat.le_refl _, by omega, rfl, rfl⟩

/-- nat.make in one's own room: where its words lie -/
theorem make_into (az : Option Addr) (nz cz Z n : Nat) (w : World) (hz : BigN 151 w az nz cz Z) (h1 : 1 ≤ n) (hn : n ≤ 1000000) :
    ∃ g, (InB az g ∨ w.heap.size ≤ g) ∧ Calls Tryz.prog 184 #[.slice az nz cz, .int .i64 n] w (MadeG 151 g n w) := by
  have hnz := hz.num.nc
  have hcm := hz.num.cm
  have fin : ∀ e w1, MadeIs 151 n w e w1 → MadeG 151 w.heap.size n w e w1 := by
    rintro e w1 (⟨h, _⟩ | ⟨c, hc0, hc1, hc2, rfl, rfl⟩)
    · omega
    · exact ⟨c, _, rfl, BlkAt.new _ _ _, by simp, hc1, by unfold maxLen; omega, Below.alloc' (Below.refl _ _) _⟩
  rcases hz.buf with ⟨rfl, rfl⟩ | ⟨g, cur, rfl, hg, hs⟩
  · obtain rfl : nz = 0 := by omega
    exact ⟨w.heap.size, .inr (Nat.le_refl _), (make_nil n hn w).mono fin⟩
  · by_cases hr : n ≤ cz
    · refine ⟨g, .inl (inB_is _ _ _), (make_self g nz cz n w hr hnz (by unfold maxLen at hcm; omega)).mono ?_⟩
      rintro e w1 ⟨rfl, rfl⟩
      exact ⟨cz, cur, rfl, hg, hs, hr, hcm, Below.refl _ _⟩
    · by_cases h2 : 2 ≤ n
      · exact ⟨w.heap.size, .inr (Nat.le_refl _), (make_new _ nz cz n w (by omega) h2 hn hnz (fun h => by cases h)).mono fin⟩
      · obtain rfl : n = 1 := by omega
        obtain rfl : cz = 0 := by omega
        obtain rfl : nz = 0 := by omega
        exact ⟨w.heap.size, .inr (Nat.le_refl _), (make_one0 _ w).mono fin⟩

set_option maxRecDepth 100000 in
set_option maxHeartbeats 1000000 in
theorem natSet_into (az : Option Addr) (nz cz Z : Nat) (a : Option Addr) (n c N : Nat) (w : World) (hz : BigN 151 w az nz cz Z) (h : NumAt .u64 W64 w a n c N) (h0 : 0 < n) (hn : n ≤ 1000000) (hd : ∀ k, InB a k → ¬ InB az k) :
    Calls Tryz.prog 132 #[.slice az nz cz, .slice a n c] w (GivesI 151 az N w) := by
  obtain ⟨g, hg, hmk⟩ := make_into az nz cz Z n w hz h0 hn
  obtain ⟨b1, o1, rfl, hl1⟩ := h.form h0
  have hne : b1 ≠ g := fun e => by
    rcases hg with hg | hg
    · exact hd b1 (inB_is _ _ _) (e ▸ hg)
    · omega
  have HM := Lib.hid hmk
  have HG := Lib.hid hg
  have HH := Lib.hid h
  have hcm := h.cm
  have hnc := h.nc
  have hczm := hz.num.cm
  have hncz := hz.num.nc
  unfold maxLen at hcm hczm
  clear hmk hg h hz hd
  go_enter Tryz.func132, Tryz.ntmps132
  go_wp2_with fail
  refine HM.out.mono ?_
  rintro e w1 ⟨c', cur, rfl, hK, hs, hc1, hc2, hb⟩
  have HW := Lib.hid ((HH.out.keep hb).wcells0 (Nat.le_refl n))
  have HK := Lib.hid hK
  have HB := Lib.hid hb
  have HF := Lib.hid (show 0 + n ≤ cur.size from by omega)
  have hcm2 := hc2
  unfold maxLen at hcm2
  clear hK hb
  go_wp2_with ((with_reducible refine wpList_copy_words (o := ⟨some 11, _, _, _, _, _⟩) rfl (.tmp 9) (.tmp 10) 141 141 rfl 151 Tryz.underlying141 infoWordSize g 0 n c' b1 o1 c N rfl rfl cur 151 HK.out HW.out HF.out ?_); intro w2 hR2)
  have HE := Lib.hid (⟨_, _, _, rfl, bigN_copied HH.out hR2 hs hc1 hc2, Upd.room HB.out HG.out hR2.upd, fun k hk => by rw [← inB_some hk]; exact HG.out⟩ : GivesI 151 az N w (.returned (.slice (some ⟨g, 0, none⟩) n c')) w2)
  clear hR2
  go_wp2
  go_ret
  exact HE.out

set_option maxRecDepth 100000 in
set_option maxHeartbeats 1000000 in
theorem natSet0_any (az : Option Addr) (nz cz Z : Nat) (a : Option Addr) (c : Nat) (w : World) (hz : BigN 151 w az nz cz Z) :
    Calls Tryz.prog 132 #[.slice az nz cz, .slice a 0 c] w fun e w' => e = .returned (.slice az 0 cz) ∧ w' = w := by
  have hczm := hz.num.cm
  have hncz := hz.num.nc
  unfold maxLen at hczm
  rcases hz.buf with ⟨rfl, rfl⟩ | ⟨g, cur, rfl, _, _⟩
  · obtain rfl : nz = 0 := by omega
    clear hz
    go_enter Tryz.func132, Tryz.ntmps132
    go_wp2_with fail
    refine (make_nil 0 (by omega) _).mono ?_
    rintro e w1 (⟨_, rfl, rfl⟩ | ⟨c', h0, _⟩)
    case inr => omega
    go_wp2_with (with_reducible refine wpList_copy_nothing (o := ⟨some 11, _, _, _, _, _⟩) rfl (.tmp 9) (.tmp 10) 141 141 rfl 151 Tryz.underlying141 infoWordSize _ _ _ _ _ _ rfl rfl (by simp) ?_)
    go_wp2
    go_ret
    exact ⟨rfl, rfl⟩
  · have HM := Lib.hid (fun w => make_self g nz cz 0 w (Nat.zero_le _) hncz hczm)
    clear hz
    go_enter Tryz.func132, Tryz.ntmps132
    go_wp2_with fail
    refine (HM.out _).mono ?_
    rintro e w1 ⟨rfl, rfl⟩
    go_wp2_with (with_reducible refine wpList_copy_nothing (o := ⟨some 11, _, _, _, _, _⟩) rfl (.tmp 9) (.tmp 10) 141 141 rfl 151 Tryz.underlying141 infoWordSize _ _ _ _ _ _ rfl rfl (by simp) ?_)
    go_wp2
    go_ret
    exact ⟨rfl, rfl⟩

set_option maxRecDepth 100000 in
set_option maxHeartbeats 1000000 in
theorem setWord_into (az : Option Addr) (nz cz Z x : Nat) (hx : x < 18446744073709551616) (w : World) (hz : BigN 151 w az nz cz Z) :
    Calls Tryz.prog 145 #[.slice az nz cz, .int .u64 x] w (GivesI 151 az x w) := by
  have hczm := hz.num.cm
  have hncz := hz.num.nc
  unfold maxLen at hczm
  by_cases h0 : x = 0
  · subst h0
    have HE := Lib.hid (GivesI.empty hz)
    rcases hz.buf with ⟨rfl, rfl⟩ | ⟨g, cur, rfl, _, _⟩
    · obtain rfl : nz = 0 := by omega
      clear hz
      go_enter Tryz.func145, Tryz.ntmps145
      go_wp2
      go_ret
      exact HE.out
    · clear hz
      go_enter Tryz.func145, Tryz.ntmps145
      go_wp2
      go_ret
      exact HE.out
  · have hz0 : ((x : Int) == 0) = false := by simpa using h0
    obtain ⟨g, hg, hmk⟩ := make_into az nz cz Z 1 w hz (Nat.le_refl _) (by omega)
    have HM := Lib.hid (show Calls Tryz.prog 184 #[.slice az nz cz, .int .i64 1] w (MadeG 151 g 1 w) from hmk)
    have HG := Lib.hid hg
    have HX := Lib.hid hx
    clear hz hmk hg
    go_enter Tryz.func145, Tryz.ntmps145
    go_wp2_with fail
    refine HM.out.mono ?_
    rintro e w1 ⟨c', cur, rfl, hK, hs, hc1, hc2, hb⟩
    obtain ⟨u0, c0⟩ : ∃ u, w1.cell? ⟨g, 0, none⟩ = some u := ⟨cur[0]'(by omega), by rw [hK.cell, Array.getElem?_eq_getElem]⟩
    have f0 := hK.frozen 0
    have hd : dg W64 x 0 = x := by unfold dg; rw [Nat.pow_zero, Nat.div_one]; exact Nat.mod_eq_of_lt HX.out
    have hR : RowUp 151 w1 (w1.setCell ⟨g, 0, none⟩ (.int .u64 (x : Nat))) g 0 1 cur (dg W64 x) := by
      have := (RowUp.start hK 0 (dg W64 x)).step (x := x) (by omega) hd.symm
      simpa using this
    have HE := Lib.hid (⟨_, _, _, rfl, by
      obtain ⟨cur', hk1, hk2, hk3, hk4⟩ := hR.blk
      refine ⟨⟨by rw [Nat.pow_one]; exact HX.out, .inr (by simp; omega), hc1, hc2, fun _ => ⟨g, 0, rfl, fun i hi => ?_⟩⟩, .inr ⟨g, cur', rfl, hk1, hk2.trans hs⟩⟩
      rw [hk1.cell]
      exact hk3 i hi, Upd.room hb HG.out hR.upd, fun k hk => by rw [← inB_some hk]; exact HG.out⟩ : GivesI 151 az x w (.returned (.slice (some ⟨g, 0, none⟩) 1 c')) (w1.setCell ⟨g, 0, none⟩ (.int .u64 (x : Nat))))
    have hcm2 := hc2
    unfold maxLen at hcm2
    clear hK hR hb hd hx
    go_wp2
    go_ret
    exact HE.out

set_option maxRecDepth 100000 in
set_option maxHeartbeats 2000000 in
theorem natMulW_into (az : Option Addr) (nz cz Z : Nat) (a1 : Option Addr) (n1 c1 N1 y : Nat) (w : World) (h0 : BigN 151 w az nz cz Z) (h1 : BigN 151 w a1 n1 c1 N1) (hb1 : n1 ≤ 900000) (hy : y < W64) :
    Calls Tryz.prog 221 #[.slice az nz cz, .slice a1 n1 c1, .int .u64 y, .int .u64 0] w (GivesI 151 az (N1 * y) w) := by
  have hm1 := h1.num.cm
  have hc1 := h1.num.nc
  have hczm := h0.num.cm
  have hncz := h0.num.nc
  unfold maxLen at hm1 hczm
  by_cases z1 : n1 = 0
  · subst z1
    have e0 : N1 = 0 := by have := h1.num.lt; simpa using this
    subst e0
    have HS := Lib.hid (show Calls Tryz.prog 145 #[.slice az nz cz, .int .u64 0] w (GivesI 151 az 0 w) from setWord_into az nz cz Z 0 (by decide) w h0)
    rw [Nat.zero_mul]
    clear h0 h1
    go_enter Tryz.func221, Tryz.ntmps221
    go_wp2_with fail
    refine HS.out.mono ?_
    rintro e w1 ⟨a, n, c, rfl, hE⟩
    have HE := Lib.hid hE
    clear hE
    go_wp2
    go_ret
    exact ⟨_, _, _, rfl, HE.out⟩
  · have hz1 : ((n1 : Int) == 0) = false := by simpa using z1
    by_cases y0 : y = 0
    · subst y0
      have HS := Lib.hid (show Calls Tryz.prog 145 #[.slice az nz cz, .int .u64 0] w (GivesI 151 az 0 w) from setWord_into az nz cz Z 0 (by decide) w h0)
      rw [Nat.mul_zero]
      clear h0 h1
      go_enter Tryz.func221, Tryz.ntmps221
      go_wp2_with fail
      refine HS.out.mono ?_
      rintro e w1 ⟨a, n, c, rfl, hE⟩
      have HE := Lib.hid hE
      clear hE
      go_wp2
      go_ret
      exact ⟨_, _, _, rfl, HE.out⟩
    · have hy1 : ((y : Int) == 0) = false := by simpa using y0
      have hy2 : y < 18446744073709551616 := hy
      obtain ⟨g, hg, hmk⟩ := make_into az nz cz Z (n1 + 1) w h0 (by omega) (by omega)
      obtain ⟨b1, o1, rfl, hl1⟩ := h1.num.form (by omega)
      have HM := Lib.hid hmk
      have hci : ((n1 + 1 : Nat) : Int) = (n1 : Int) + 1 := by omega
      rw [hci] at HM
      have HG := Lib.hid hg
      have HB1 := Lib.hid h1
      have HY := Lib.hid hy
      clear h0 h1 hy hmk hg hci
      go_enter Tryz.func221, Tryz.ntmps221
      go_wp2_with fail
      refine HM.out.mono ?_
      rintro e w1 ⟨c, cur, rfl, hK, hsz, hcn1, hcn2, hB1⟩
      have HD1 := Lib.hid (HB1.out.num.keep hB1)
      have hx1 : (n1 : Int) ≤ c := by omega
      have HBK := Lib.hid hK
      have HBD := Lib.hid hB1
      have HLT := Lib.hid (show N1 * y < W64 ^ (n1 + 1) from by
        rw [Nat.pow_succ]
        exact Nat.mul_lt_mul_of_lt_of_le HB1.out.num.lt (Nat.le_of_lt HY.out) W64_pos)
      have HCA := Lib.hid (show (N1 % W64 ^ n1 * y) / W64 ^ n1 = dg W64 (N1 * y) n1 from by
        rw [Nat.mod_eq_of_lt HB1.out.num.lt]
        have hu : dg W64 (N1 * y) n1 = N1 * y / W64 ^ n1 % W64 := rfl
        rw [hu]
        refine (Nat.mod_eq_of_lt (Nat.div_lt_of_lt_mul ?_)).symm
        rw [← Nat.pow_succ]; exact HLT.out)
      have hcm2 := hcn2
      unfold maxLen at hcm2
      clear hK hB1
      go_wp2_with fail
      refine (mulAddVWW0_any g 0 n1 c b1 o1 c1 cur N1 y _ HBK.out (by omega) (by omega) (by omega) hcn2 (HD1.out.wcells0 (Nat.le_refl _)) (by omega) (by unfold maxLen; omega) (.inr (Nat.zero_le _)) HY.out).mono ?_
      rintro e w2 ⟨rfl, hR2⟩
      rw [HCA.out]
      clear hx1
      have hroom := hR2.room (j := n1) (by omega)
      obtain ⟨⟨u0, p0⟩, f0⟩ := hroom
      obtain ⟨W3, hW3⟩ : ∃ W3, W3 = w2.setCell ⟨g, n1, none⟩ (.int .u64 (dg W64 (N1 * y) n1 : Nat)) := ⟨_, rfl⟩
      have HR3 := Lib.hid (hR2.step (by omega) rfl)
      have HW3 := Lib.hid hW3
      simp only [Nat.zero_add] at HR3
      rw [← hW3] at HR3
      have hEE := givesI_row HBD.out HG.out hsz HR3.out (by omega) hcn2 HLT.out
      have HCL := Lib.hid hEE.1
      have HEE := Lib.hid hEE.2
      clear hEE hR2 hW3
      go_wp2_with fail
      rw [← HW3.out]
      refine (norm_any (some ⟨g, 0, none⟩) (n1 + 1) c (dg W64 (N1 * y)) _ (by omega) (by omega) hcn2 (by simp) HCL.out).mono ?_
      rintro e w4 ⟨rfl, rfl⟩
      go_wp2
      go_ret
      exact HEE.out
end Go.Proofs.YtdkipndepkblhaaGreatDoor

set_option linter.unusedSimpArgs false
set_option linter.unusedVariables false
namespace Go.Bg
open Go.RowKit Dg
/-- a copy of cells as one step of a region that draws its order: what may turn is told by its blocks -/
theorem step_copy_upd {P : Program} {ops : Array Oper} {o : Oper} {a : Act} {w : World} {K : Act → World → Prop} {Q : Exit → Act → World → Prop} {E : Prop} (hgd : o.guard = none) (d s : Operand) (dT sT : TypeId)
    (ho : o.op = .call { callee := .builtin .copy, args := #[d, s], argTypes := #[dT, sT] }) (elem : TypeId) (hu : P.underlying dT = some (.slice elem)) (hsz : (P.info? elem).map (·.size) = some 1)
    (dp sp : Option Addr) (dLen dCap sLen sCap : Nat) (hd : a.eval d = .slice dp dLen dCap) (hs : a.eval s = .slice sp sLen sCap)
    (g off : Nat) (cur : List Value) (t : TypeId) (hg : w.heap[g]? = some (.cells cur.toArray t (0, 0))) (cs : List Value) (hn : cs.length = Nat.min sLen dLen)
    (hpos : 0 < cs.length → dp = some ⟨g, off, none⟩ ∧ ∃ ad, sp = some ad ∧ ∀ j v, cs[j]? = some v → w.cell? (ad.add j) = some v)
    (hfit : off + cs.length ≤ cur.length) (h1 : ∀ v ∈ cs, v.oneCell' = true) (S : Nat → Prop) (w0 : World) (hb : Upd S w0 w) (hSg : S g)
    (h : ∀ w', Hid (w'.heap[g]? = some (.cells (splice cur off cs).toArray t (0, 0))) → Upd S w0 w' → K (a.put o.dst (goInt cs.length)) w') :
    if Region.wanted o (yielded ops a.tmps) = true then Oper.wp P o a w K Q else E := by
  have hw : Region.wanted o (yielded ops a.tmps) = true := by simp [Region.wanted, hgd]
  rw [if_pos hw]
  by_cases h0 : cs.length = 0
  · obtain rfl : cs = [] := List.eq_nil_of_length_eq_zero h0
    have hrun := run_copy_none (P := P) w dT sT o.type elem dp sp dLen dCap sLen sCap hu hsz (by simpa using hn.symm)
    unfold Oper.wp
    simp [execOp, ho, resolve, invoke, builtin, hd, hs, hrun, Result.andThen]
    exact h w (show _ = _ by simpa [splice] using hg) hb
  · obtain ⟨rfl, ad, rfl, hsrc⟩ := hpos (by omega)
    have hrun := run_copy_row (P := P) w dT sT o.type elem g off dLen dCap ad sLen sCap cur.toArray t cs hu hsz hg hn hsrc (by simpa using hfit) h1
    unfold Oper.wp
    simp [execOp, ho, resolve, invoke, builtin, hd, hs, hrun, Result.andThen]
    exact h _ (show _ = _ by simpa [splice] using setRow_heap w g _ _ t _ hg) (hb.trans ⟨rfl, rfl, rfl, by simp [World.setRow], fun k hk hn => setRow_other w g k _ (fun e => hn (e ▸ hSg))⟩)
theorem rowU_spliced {T : TypeId} {w w2 : World} {g o k n X : Nat} {cur cur' : Array Value} {h : Nat → Nat} (hkn : k ≤ n) (hsz : cur'.size = cur.size) (hfit : o + n ≤ cur.size)
    (h3 : ∀ i, i < k → cur'[o + i]? = some (.int .u64 (h i : Nat))) (h4 : ∀ j, (j < o ∨ o + k ≤ j) → cur'[j]? = cur[j]?)
    (hg : w2.heap[g]? = some (.cells (splice cur'.toList (o + k) (wlf X k (n - k))).toArray T (0, 0))) (hb : Upd (· = g) w w2) (he : ∀ i, k ≤ i → i < n → h i = dg W64 X i) : RowUp T w w2 g o n cur h :=
  ⟨hb, (rowB_spliced (B := 0) (w := w) hkn hsz hfit h3 h4 hg ⟨hb.os, hb.tape, hb.output, hb.size, fun k hk => absurd hk (Nat.not_lt_zero _)⟩ he).blk⟩
end Go.Bg

namespace Go.Proofs.YtdkipndepkblhaaGreatDoor
open Go.RowKit Go.Bg Dg

set_option maxRecDepth 100000 in
set_option maxHeartbeats 1000000 in
theorem subVW_self (g o n c0 : Nat) (cur : Array Value) (X y : Nat) (w : World) (hg : BlkAt w g cur 151) (hn1 : 1 ≤ n) (hn : n ≤ 1000000) (hr : o + n ≤ cur.size) (h0 : n ≤ c0) (h0m : c0 ≤ maxLen)
    (h1 : WCells w g o n (dg W64 X)) (hy : y < W64) (hXy : y ≤ X) :
    Calls Tryz.prog 189 #[.slice (some ⟨g, o, none⟩) n c0, .slice (some ⟨g, o, none⟩) n c0, .int .u64 y] w
      (VecIs g o n cur (dg W64 (X - y)) (bor X y n) w) := by
  unfold maxLen at h0m
  obtain ⟨j, hj, hj1⟩ := infoWordJ
  have hy' : y < 18446744073709551616 := W64_lt hy
  have HG := Lib.hid hg
  have H1 := Lib.hid h1
  have HCU := Lib.hid (show ∀ i, i < n → cur[o + i]? = some (.int .u64 (dg W64 X i : Nat)) from fun i hi => by rw [← hg.cell]; exact h1 i hi)
  have e1 := h1 0 (by omega)
  rw [Nat.add_zero] at e1
  have d1 : dg W64 X 0 < 18446744073709551616 := W64_lt (dg_lt W64_pos _ _)
  have HS := Lib.hid (subw_step hXy 0)
  have HY := Lib.hid (show ∀ k, 1 ≤ k → dg W64 y k = 0 from fun k hk => dg_of_lt (Nat.lt_of_lt_of_le hy (by obtain ⟨d, rfl⟩ : ∃ d, k = d + 1 := ⟨k - 1, by omega⟩; rw [Nat.pow_succ]; exact Nat.le_mul_of_pos_left _ (Nat.pow_pos W64_pos))))
  have hy0 : dg W64 y 0 = y := by simp [dg, Nat.mod_eq_of_lt hy]
  rw [hy0, bor_zero] at HS
  have HYL := Lib.hid hy
  clear hy0
  have hroom := (RowUp.start hg o (dg W64 (X - y))).room (j := o) (by omega)
  have f0 := hroom.2
  clear hroom
  have hn0 : ((n : Int) == 0) = false := by simp; omega
  clear hg h1 hy
  generalize hx : dg W64 X 0 = x at *
  have HE := Lib.hid (show (x + 18446744073709551616 - y - 0) % 18446744073709551616 = dg W64 (X - y) 0 from HS.out.1)
  have HF := Lib.hid (show (if x < y + 0 then 1 else 0 : Nat) = bor X y 1 from HS.out.2)
  have hdl : (x + 18446744073709551616 - y - 0) % 18446744073709551616 < 18446744073709551616 := Nat.mod_lt _ (by decide)
  have hcl : (if x < y + 0 then 1 else 0 : Nat) ≤ 1 := by split <;> omega
  have HC := Lib.hid (fun w => bitsSub_any x y 0 (by omega) w)
  generalize (x + 18446744073709551616 - y - 0) % 18446744073709551616 = s at *
  generalize hcc : (if x < y + 0 then 1 else 0 : Nat) = cc at *
  clear hx hcc
  go_enter Tryz.func189, Tryz.ntmps189
  go_wp2_with fail
  refine (HC.out _).mono ?_
  rintro e w1 ⟨rfl, rfl⟩
  have HR := Lib.hid ((RowUp.start HG.out o (dg W64 (X - y))).step (by omega) HE.out)
  simp only [Nat.add_zero, Nat.zero_add] at HR
  obtain ⟨W1, hW1⟩ : ∃ W1, W1 = w.setCell ⟨g, o, none⟩ (.int .u64 (s : Nat)) := ⟨_, rfl⟩
  have HW1 := Lib.hid hW1
  rw [← hW1] at HR
  have HQ := Lib.hid (fun q => Lib.run_neq_ptr_same (P := Tryz.prog) (W1.drewN q) ⟨g, o, none⟩ Tryz.underlying207 hj)
  clear hW1
  by_cases hc0 : cc = 0
  · subst hc0
    go_upto_region 8 with fail
    rw [← HW1.out]
    have hq := HQ.out
    have HNC := Lib.hid (show bor X y 1 = 0 from HF.out.symm)
    go_quiet (fail)
    go_wp2
    go_ret
    refine ⟨ret_u64 (bor_none HYL.out HNC.out (by omega) (by omega)).symm, ?_⟩
    refine RowUp.drewN (RowUp.rest HR.out hn1 (fun i hi hi2 => ?_)) _
    rw [HCU.out i hi2, subw_same HYL.out hXy HNC.out (by omega) hi]
  · obtain rfl : cc = 1 := by omega
    have HC1 := Lib.hid (show bor X y 1 = 1 from HF.out.symm)
    go_upto_region 11 with fail
    rw [← HW1.out]
    clear f0 e1 hc0 hcl
    go_wp2
    go_loopw [6, 9, 10] (fun _ i _ wr => ∃ k : Nat, 1 ≤ k ∧ k ≤ n ∧ i = .int .i64 k ∧ bor X y k = 1 ∧ RowUp 151 w wr g o k cur (dg W64 (X - y)))
      (fun _ i _ _ => n - (intOf i).toNat)
    case atStart => exact ⟨1, Nat.le_refl _, hn1, rfl, HC1.out, HR.out⟩
    case round =>
      obtain ⟨k, hk0, hk, rfl, hca, hR⟩ := hrel
      have HCA := Lib.hid hca
      clear hca
      by_cases k1 : k < n
      · have e1 := hR.read HG.out (H1.out k k1) (.inr (Nat.le_refl _)) (Nat.le_refl _)
        have d1 : dg W64 X k < 18446744073709551616 := W64_lt (dg_lt W64_pos _ _)
        have HS2 := Lib.hid (subw_step hXy k)
        rw [HCA.out, HY.out k hk0] at HS2
        have HRR := Lib.hid hR
        have hroom := hR.room (j := o + k) (by omega)
        have f0 := hroom.2
        clear hR hroom
        generalize hx : dg W64 X k = xk at *
        clear hx
        by_cases hm : xk = 0
        · subst hm
          have HE2 := Lib.hid (show 18446744073709551615 = dg W64 (X - y) k from by rw [← HS2.out.1])
          have HF2 := Lib.hid (show bor X y (k + 1) = 1 from by rw [← HS2.out.2]; rfl)
          go_wp2
          go_roundw
          case rel => exact ⟨k + 1, by omega, by omega, by go_num, HF2.out, HRR.out.step (x := 18446744073709551615) (by omega) HE2.out⟩
          case measure => simp [intOf]; omega
        · have hmb : ((xk : Int) != 0) = true := by simp; omega
          have hxw : 1 ≤ xk := by omega
          have HE2 := Lib.hid (show xk - 1 = dg W64 (X - y) k from by rw [← HS2.out.1]; omega)
          have HF2 := Lib.hid (show bor X y (k + 1) = 0 from by rw [← HS2.out.2]; exact if_neg (by omega))
          have hcast : ((xk - 1 : Nat) : Int) = xk - 1 := by omega
          go_upto_region 17 with fail
          obtain ⟨W2, hW2⟩ : ∃ W2, W2 = wr.setCell ⟨g, o + k, none⟩ (.int .u64 ((xk : Int) - 1)) := ⟨_, rfl⟩
          have HR2 := Lib.hid (HRR.out.step (x := xk - 1) (by omega) HE2.out)
          rw [hcast, ← hW2] at HR2
          rw [← hW2]
          have HQ2 := Lib.hid (fun q => Lib.run_neq_ptr_same (P := Tryz.prog) (W2.drewN q) ⟨g, o, none⟩ Tryz.underlying207 hj)
          clear hW2 hcast f0 e1
          have hq := HQ2.out
          go_quiet (fail)
          go_wp2
          go_ret
          refine ⟨ret_u64 (bor_none HYL.out HF2.out (by omega) (by omega)).symm, ?_⟩
          refine RowUp.drewN (RowUp.rest HR2.out (by omega) (fun i hi hi2 => ?_)) _
          rw [HCU.out i hi2, subw_same HYL.out hXy HF2.out (by omega) hi]
      · obtain rfl : k = n := by omega
        go_wp2
        go_ret
        exact ⟨ret_u64 HCA.out.symm, hR⟩
set_option maxRecDepth 100000 in
set_option maxHeartbeats 4000000 in
theorem subVW_upd (g o n c0 b1 o1 c1 : Nat) (cur cur1 : Array Value) (T1 : TypeId) (X y : Nat) (w : World) (hg : BlkAt w g cur 151) (hg1 : BlkAt w b1 cur1 T1) (hn1 : 1 ≤ n) (hn : n ≤ 1000000) (hr : o + n ≤ cur.size) (h0 : n ≤ c0) (h0m : c0 ≤ maxLen)
    (h1 : WCells w b1 o1 n (dg W64 X)) (h1c : n ≤ c1) (h1m : c1 ≤ maxLen) (hne : b1 ≠ g) (hy : y < W64) (hXy : y ≤ X) :
    Calls Tryz.prog 189 #[.slice (some ⟨g, o, none⟩) n c0, .slice (some ⟨b1, o1, none⟩) n c1, .int .u64 y] w
      (VecIs g o n cur (dg W64 (X - y)) (bor X y n) w) := by
  unfold maxLen at h0m h1m
  obtain ⟨j, hj, hj1⟩ := infoWordJ
  have hy' : y < 18446744073709551616 := W64_lt hy
  have HG := Lib.hid hg
  have HG1 := Lib.hid hg1
  have H1 := Lib.hid h1
  have e1 := h1 0 (by omega)
  rw [Nat.add_zero] at e1
  have d1 : dg W64 X 0 < 18446744073709551616 := W64_lt (dg_lt W64_pos _ _)
  have HS := Lib.hid (subw_step hXy 0)
  have HY := Lib.hid (show ∀ k, 1 ≤ k → dg W64 y k = 0 from fun k hk => dg_of_lt (Nat.lt_of_lt_of_le hy (by obtain ⟨d, rfl⟩ : ∃ d, k = d + 1 := ⟨k - 1, by omega⟩; rw [Nat.pow_succ]; exact Nat.le_mul_of_pos_left _ (Nat.pow_pos W64_pos))))
  have hy0 : dg W64 y 0 = y := by simp [dg, Nat.mod_eq_of_lt hy]
  rw [hy0, bor_zero] at HS
  have HYL := Lib.hid hy
  clear hy0
  have hroom := (RowUp.start hg o (dg W64 (X - y))).room (j := o) (by omega)
  obtain ⟨⟨u0, p0⟩, f0⟩ := hroom
  have HX := Lib.hid (show dg W64 X 0 = dg W64 X 0 from rfl)
  have hn0 : ((n : Int) == 0) = false := by simp; omega
  clear hg hg1 h1 hy
  generalize hx : dg W64 X 0 = x at *
  have HE := Lib.hid (show (x + 18446744073709551616 - y - 0) % 18446744073709551616 = dg W64 (X - y) 0 from HS.out.1)
  have HF := Lib.hid (show (if x < y + 0 then 1 else 0 : Nat) = bor X y 1 from HS.out.2)
  have hdl : (x + 18446744073709551616 - y - 0) % 18446744073709551616 < 18446744073709551616 := Nat.mod_lt _ (by decide)
  have hcl : (if x < y + 0 then 1 else 0 : Nat) ≤ 1 := by split <;> omega
  have HC := Lib.hid (fun w => bitsSub_any x y 0 (by omega) w)
  generalize (x + 18446744073709551616 - y - 0) % 18446744073709551616 = s at *
  generalize hcc : (if x < y + 0 then 1 else 0 : Nat) = cc at *
  clear hx hcc
  go_enter Tryz.func189, Tryz.ntmps189
  go_wp2_with fail
  refine (HC.out _).mono ?_
  rintro e w1 ⟨rfl, rfl⟩
  have HR := Lib.hid ((RowUp.start HG.out o (dg W64 (X - y))).step (by omega) HE.out)
  simp only [Nat.add_zero, Nat.zero_add] at HR
  obtain ⟨W1, hW1⟩ : ∃ W1, W1 = w.setCell ⟨g, o, none⟩ (.int .u64 (s : Nat)) := ⟨_, rfl⟩
  have HW1 := Lib.hid hW1
  rw [← hW1] at HR
  obtain ⟨cur', hk1, hk2, hk3, hk4⟩ := HR.out.blk
  have hk5 := HR.out.upd.blk HG1.out hne
  have HQ := Lib.hid (fun q => run_neq_ptr_other (P := Tryz.prog) (a := ⟨g, o, none⟩) (b := ⟨b1, o1, none⟩) (W1.drewN q) Tryz.underlying207 hj (by rw [hj1]; decide) (by intro h; injection h with h _ _; exact hne h.symm) hk1 hk5)
  clear hW1
  by_cases hc0 : cc = 0
  · subst hc0
    go_upto_region 8 with fail
    rw [← HW1.out]
    have hq := HQ.out
    go_quiet (fail)
    go_upto_region 9 with fail
    have hbd : Below W1.heap.size W1 (W1.drewN (nq + 1)) := below_drewN (Below.refl _ _) (nq + 1)
    have hk1' := hk1.keep hbd
    have HG2 := Lib.hid (show (W1.drewN (nq + 1)).heap[g]? = some (.cells cur'.toList.toArray 151 (0, 0)) from by unfold BlkAt at hk1'; simpa using hk1')
    have HSRC := Lib.hid (show ∀ j v, (wlf X 1 (n - 1))[j]? = some v → (W1.drewN (nq + 1)).cell? ((⟨b1, o1 + 1, none⟩ : Addr).add j) = some v from by
      intro j v hjv
      have hjn : j < n - 1 := by
        have := (List.getElem?_eq_some_iff.1 hjv).1
        rwa [wlf_len] at this
      rw [wlf_get hjn] at hjv
      rw [← hjv, Addr.add_lit, show o1 + 1 + j = o1 + (1 + j) from by omega]
      exact cell_keep (HR.out.read HG.out (H1.out (1 + j) (by omega)) (.inl hne) (by omega)) hbd)
    have HB2 := Lib.hid (HR.out.upd.then (hbd.mono (Nat.le_refl _)))
    have HT := Lib.hid (show o + 1 + (wlf X 1 (n - 1)).length ≤ cur'.toList.length from by rw [wlf_len]; simp; omega)
    have HL := Lib.hid (wlf_len X 1 (n - 1))
    have hn1i : (1 : Int) ≤ n := by omega
    have HNC := Lib.hid (show bor X y 1 = 0 from HF.out.symm)
    clear hbd hk1'
    go_region_law (refine step_copy_upd rfl (.tmp 40) (.tmp 42) 140 140 rfl 151 Tryz.underlying140 infoWordSize _ _ _ _ _ _ rfl rfl g (o + 1) cur'.toList 151 HG2.out (wlf X 1 (n - 1)) (by rw [HL.out]; exact (Nat.min_self _).symm) (fun h0 => by rw [HL.out] at h0; exact ⟨if_neg (by omega), ⟨b1, o1 + 1, none⟩, if_neg (by omega), HSRC.out⟩) HT.out (wlf_one _ _ _) (· = g) w HB2.out rfl ?_; intro w4 hg4 hb4)
    all_goals go_wp2
    all_goals
      go_ret
      refine ⟨ret_u64 ?_, rowU_spliced (k := 1) (by omega) hk2 (by omega) hk3 hk4 hg4 hb4 (fun i hi _ => subw_same HYL.out hXy HNC.out (by omega) hi)⟩
      exact (bor_none HYL.out HNC.out (by omega) (by omega)).symm
  · obtain rfl : cc = 1 := by omega
    have HC1 := Lib.hid (show bor X y 1 = 1 from HF.out.symm)
    go_upto_region 11 with fail
    rw [← HW1.out]
    clear hk1 hk2 hk3 hk4 hk5 p0 f0 e1 hc0 hcl
    go_wp2
    go_loopw [6, 9, 10] (fun _ i _ wr => ∃ k : Nat, 1 ≤ k ∧ k ≤ n ∧ i = .int .i64 k ∧ bor X y k = 1 ∧ RowUp 151 w wr g o k cur (dg W64 (X - y)))
      (fun _ i _ _ => n - (intOf i).toNat)
    case atStart => exact ⟨1, Nat.le_refl _, hn1, rfl, HC1.out, HR.out⟩
    case round =>
      obtain ⟨k, hk0, hk, rfl, hca, hR⟩ := hrel
      have HCA := Lib.hid hca
      clear hca
      by_cases k1 : k < n
      · have e1 := hR.read HG.out (H1.out k k1) (.inl hne) (Nat.le_refl _)
        have d1 : dg W64 X k < 18446744073709551616 := W64_lt (dg_lt W64_pos _ _)
        have HS2 := Lib.hid (subw_step hXy k)
        rw [HCA.out, HY.out k hk0] at HS2
        have HRR := Lib.hid hR
        have hroom := hR.room (j := o + k) (by omega)
        obtain ⟨⟨u0, p0⟩, f0⟩ := hroom
        clear hR
        generalize hx : dg W64 X k = xk at *
        clear hx
        by_cases hm : xk = 0
        · subst hm
          have HE2 := Lib.hid (show 18446744073709551615 = dg W64 (X - y) k from by rw [← HS2.out.1])
          have HF2 := Lib.hid (show bor X y (k + 1) = 1 from by rw [← HS2.out.2]; rfl)
          go_wp2
          go_roundw
          case rel => exact ⟨k + 1, by omega, by omega, by go_num, HF2.out, HRR.out.step (x := 18446744073709551615) (by omega) HE2.out⟩
          case measure => simp [intOf]; omega
        · have hmb : ((xk : Int) != 0) = true := by simp; omega
          have hxw : 1 ≤ xk := by omega
          have HE2 := Lib.hid (show xk - 1 = dg W64 (X - y) k from by rw [← HS2.out.1]; omega)
          have HF2 := Lib.hid (show bor X y (k + 1) = 0 from by rw [← HS2.out.2]; exact if_neg (by omega))
          have hcast : ((xk - 1 : Nat) : Int) = xk - 1 := by omega
          go_upto_region 17 with fail
          obtain ⟨W2, hW2⟩ : ∃ W2, W2 = wr.setCell ⟨g, o + k, none⟩ (.int .u64 ((xk : Int) - 1)) := ⟨_, rfl⟩
          have HR2 := Lib.hid (HRR.out.step (x := xk - 1) (by omega) HE2.out)
          rw [hcast, ← hW2] at HR2
          rw [← hW2]
          obtain ⟨cur', hk1, hk2, hk3, hk4⟩ := HR2.out.blk
          have hk5 := HR2.out.upd.blk HG1.out hne
          have HQ2 := Lib.hid (fun q => run_neq_ptr_other (P := Tryz.prog) (a := ⟨g, o, none⟩) (b := ⟨b1, o1, none⟩) (W2.drewN q) Tryz.underlying207 hj (by rw [hj1]; decide) (by intro h; injection h with h _ _; exact hne h.symm) hk1 hk5)
          clear hW2 hcast p0 f0 e1
          have hq := HQ2.out
          go_quiet (fail)
          go_upto_region 18 with fail
          clear hq
          have hbd : Below W2.heap.size W2 (W2.drewN (nq + 1)) := below_drewN (Below.refl _ _) (nq + 1)
          have hk1' := hk1.keep hbd
          have HG2 := Lib.hid (show (W2.drewN (nq + 1)).heap[g]? = some (.cells cur'.toList.toArray 151 (0, 0)) from by unfold BlkAt at hk1'; simpa using hk1')
          have HSRC := Lib.hid (show ∀ j v, (wlf X (k + 1) (n - (k + 1)))[j]? = some v → (W2.drewN (nq + 1)).cell? ((⟨b1, o1 + (k + 1), none⟩ : Addr).add j) = some v from by
            intro j v hjv
            have hjn : j < n - (k + 1) := by
              have := (List.getElem?_eq_some_iff.1 hjv).1
              rwa [wlf_len] at this
            rw [wlf_get hjn] at hjv
            rw [← hjv, Addr.add_lit, show o1 + (k + 1) + j = o1 + (k + 1 + j) from by omega]
            exact cell_keep (HR2.out.read HG.out (H1.out (k + 1 + j) (by omega)) (.inl hne) (by omega)) hbd)
          have HB2 := Lib.hid (HR2.out.upd.then (hbd.mono (Nat.le_refl _)))
          have HT := Lib.hid (show o + (k + 1) + (wlf X (k + 1) (n - (k + 1))).length ≤ cur'.toList.length from by rw [wlf_len]; simp; omega)
          have HL := Lib.hid (wlf_len X (k + 1) (n - (k + 1)))
          have s1 : IntKind.i64.wrap ((k : Int) + 1) = (k : Int) + 1 := IntWalk.i64_in _ (by omega)
          have s2 : (0 : Int) ≤ (k : Int) + 1 := by omega
          have s3 : (k : Int) + 1 ≤ n := by omega
          have s4 : ((k : Int) + 1).toNat = k + 1 := by omega
          clear hbd hk1'
          go_region_law (refine step_copy_upd rfl (.tmp 69) (.tmp 73) 140 140 rfl 151 Tryz.underlying140 infoWordSize (if c0 = k + 1 then some ⟨g, o, none⟩ else some ⟨g, o + (k + 1), none⟩) (if c1 = k + 1 then some ⟨b1, o1, none⟩ else some ⟨b1, o1 + (k + 1), none⟩) (n - (k + 1)) (c0 - (k + 1)) (n - (k + 1)) (c1 - (k + 1)) (by simp [Act.eval, Act.put]) (by simp [Act.eval, Act.put]) g (o + (k + 1)) cur'.toList 151 HG2.out (wlf X (k + 1) (n - (k + 1))) (by rw [HL.out]; exact (Nat.min_self _).symm) (fun h0 => by rw [HL.out] at h0; exact ⟨if_neg (by omega), ⟨b1, o1 + (k + 1), none⟩, if_neg (by omega), HSRC.out⟩) HT.out (wlf_one _ _ _) (· = g) w HB2.out rfl ?_; intro w4 hg4 hb4)
          all_goals go_wp2
          all_goals
            go_ret
            refine ⟨ret_u64 ?_, rowU_spliced (k := k + 1) (by omega) hk2 (by omega) hk3 hk4 hg4 hb4 (fun i hi _ => subw_same HYL.out hXy HF2.out (by omega) hi)⟩
            exact (bor_none HYL.out HF2.out (by omega) (by omega)).symm
      · obtain rfl : k = n := by omega
        go_wp2
        go_ret
        exact ⟨ret_u64 HCA.out.symm, hR⟩
end Go.Proofs.YtdkipndepkblhaaGreatDoor

set_option linter.unusedSimpArgs false
set_option linter.unusedVariables false
namespace Go.Proofs.YtdkipndepkblhaaGreatDoor
open Go.RowKit Go.Bg Dg

set_option maxRecDepth 100000 in
set_option maxHeartbeats 2000000 in
theorem natSub_apart (g : Nat) (az : Option Addr) (nz cz : Nat) (b1 o1 b2 o2 n1 n2 c1 c2 N1 N2 : Nat) (w : World) (hgg : InB az g ∨ w.heap.size ≤ g) (hmk : Calls Tryz.prog 184 #[.slice az nz cz, .int .i64 n1] w (MadeG 151 g n1 w))
    (h1 : BigN 151 w (some ⟨b1, o1, none⟩) n1 c1 N1) (h2 : BigN 151 w (some ⟨b2, o2, none⟩) n2 c2 N2) (hb1 : n1 ≤ 900000) (hle : N2 ≤ N1) (h0 : 0 < n2) (hge : n2 ≤ n1) (hne : b1 ≠ g) :
    Calls Tryz.prog 126 #[.slice az nz cz, .slice (some ⟨b1, o1, none⟩) n1 c1, .slice (some ⟨b2, o2, none⟩) n2 c2] w (GivesI 151 az (N1 - N2) w) := by
  have hm1 := h1.num.cm
  have hm2 := h2.num.cm
  have hc1 := h1.num.nc
  have hc2 := h2.num.nc
  unfold maxLen at hm1 hm2
  obtain ⟨-, curA, hA, -⟩ := h1.start
  have hz1 : ((n1 : Int) == 0) = false := by simp; omega
  have hz2 : ((n2 : Int) == 0) = false := by simp; omega
  have HB1 := Lib.hid h1
  have HB2 := Lib.hid h2
  have HM := Lib.hid hmk
  have HG := Lib.hid hgg
  clear h1 h2 hmk hgg
  go_enter Tryz.func126, Tryz.ntmps126
  go_wp2_with fail
  refine HM.out.mono ?_
  rintro e w1 ⟨c, cur, rfl, hK, hsz, hcn1, hcn2, hB1⟩
  have hbd : Below w1.heap.size w1 w1.drew := (Below.refl _ _).drew
  have hg2 := hK.keep hbd
  have hbw := hB1.trans (hbd.mono hB1.size)
  have HD1 := Lib.hid (HB1.out.num.keep hbw)
  have HD2 := Lib.hid (HB2.out.num.keep hbw)
  have hA1 := hA.keep hbw
  clear hA
  have hca := bor_le N1 N2 n2
  have HH := Lib.hid (sub_high hle HB1.out.num.lt HB2.out.num.lt hge)
  have HLT := Lib.hid (show N1 - N2 < W64 ^ n1 from Nat.lt_of_le_of_lt (Nat.sub_le _ _) HB1.out.num.lt)
  have hx1 : (n2 : Int) ≤ c := by omega
  have hx2 : (n2 : Int) ≤ c1 := by omega
  have hx3 : (n2 : Int) ≤ c2 := by omega
  have HBD := Lib.hid hbw
  have HBK := Lib.hid hg2
  have hcm2 := hcn2
  unfold maxLen at hcm2
  clear hK hg2 hbd hB1 hbw
  have HLE := Lib.hid hle
  generalize hcar : bor N1 N2 n2 = cr at *
  go_upto_region 10 with fail
  go_region_held3 (fun _ => True) (exact trivial) ((go_at_call 188; (with_reducible refine (subVV_any g 0 n2 c b1 o1 c1 b2 o2 c2 _ N1 N2 HLE.out _ HBK.out ?_ ?_ ?_ ?_ ?_ ?_ ?_ ?_ ?_ ?_ ?_ ?_).mono ?_); omega; omega; omega; exact hcn2; exact HD1.out.wcells0 hge; omega; (unfold maxLen; omega); exact HD2.out.wcells0 (Nat.le_refl _); omega; (unfold maxLen; omega); exact .inr (Nat.zero_le _); exact .inr (Nat.zero_le _); rintro e w2 ⟨rfl, hR2⟩; rw [hcar]))
  clear hx1 hx2 hx3
  by_cases hgt : n2 < n1
  · have hd : decide (n2 < n1) = true := by simpa using hgt
    have hx1 : (n2 : Int) ≤ n1 := by omega
    have hx2 : (n2 : Int) ≤ c := by omega
    have hx3 : (n2 : Int) ≤ c1 := by omega
    have hn1 : ¬ c = n2 := by omega
    have hn2 : ¬ c1 = n2 := by omega
    have HU2 := Lib.hid hR2.upd
    obtain ⟨cur2, hk1, hk2, hk3, hk4⟩ := hR2.blk
    have HSZ := Lib.hid hsz
    have HK4 := Lib.hid hk4
    have HQ1 := Lib.hid (hR2.upd.blk hA1 hne)
    have HW1 := Lib.hid (show WCells w2 b1 (o1 + n2) (n1 - n2) (dg W64 (N1 / W64 ^ n2)) from fun i hi => by
      have := (HD1.out.wcells (k := n2) (m := n1 - n2) (by omega)) i hi
      rw [hR2.upd.cell (p := ⟨b1, o1 + n2 + i, none⟩) (block_lt this) hne]
      exact this)
    clear hA1
    have HK := Lib.hid (show cur2.size = c from by rw [hk2, hsz])
    have HK1 := Lib.hid hk1
    have HK3 := Lib.hid hk3
    clear hk1 hk2 hk3 hk4 hR2 hsz
    go_upto_region 12 with fail
    have hd2 : Below w2.heap.size w2 w2.drew := (Below.refl _ _).drew
    go_region_held3 (fun _ => True) (exact trivial) ((go_at_call 189; (with_reducible refine (subVW_upd g n2 (n1 - n2) (c - n2) b1 (o1 + n2) (c1 - n2) cur2 curA 151 (N1 / W64 ^ n2) cr _ ?_ ?_ ?_ ?_ ?_ ?_ ?_ ?_ ?_ ?_ ?_ ?_ HH.out.2.1).mono ?_); exact HK1.out.keep (by assumption); exact HQ1.out.keep (by assumption); omega; omega; (rw [HK.out]; omega); omega; (unfold maxLen; omega); (intro j hj; exact cell_keep (HW1.out j hj) (by assumption)); omega; (unfold maxLen; omega); exact hne; (unfold W64; omega); rintro e w3 ⟨rfl, hR3⟩; rw [HH.out.2.2.1]))
    have hR : RowUp 151 w1.drew w3 g 0 n1 cur (dg W64 (N1 - N2)) := by
      obtain ⟨cur3, q1, q2, q3, q4⟩ := hR3.blk
      refine ⟨(HU2.out.then hd2).trans hR3.upd, cur3, q1, q2.trans (HK.out.trans HSZ.out.symm), fun i hi => ?_, fun j hj => ?_⟩
      · by_cases hlo : i < n2
        · rw [Nat.zero_add, q4 i (.inl hlo)]
          have := HK3.out i hlo
          simpa using this
        · have := q3 (i - n2) (by omega)
          rw [show n2 + (i - n2) = i from by omega] at this
          rw [Nat.zero_add, this, ← HH.out.1, dg_div, show n2 + (i - n2) = i from by omega]
      · rw [q4 j (by omega)]
        exact HK4.out j (by omega)
    have hEE := givesI_row HBD.out HG.out HSZ.out hR hcn1 hcn2 HLT.out
    have HCL := Lib.hid hEE.1
    have HEE := Lib.hid hEE.2
    clear hEE hR hR3
    go_wp2_with fail
    refine (norm_any (some ⟨g, 0, none⟩) n1 c (dg W64 (N1 - N2)) _ (by omega) (by omega) hcn2 (by simp) HCL.out).mono ?_
    rintro e w5 ⟨rfl, rfl⟩
    go_wp2
    go_ret
    exact HEE.out
  · have hd : decide (n2 < n1) = false := by simpa using hgt
    obtain rfl : n1 = n2 := by omega
    have hcr : cr = 0 := HH.out.2.2.2 rfl
    subst hcr
    have hEE := givesI_row HBD.out HG.out hsz hR2 hcn1 hcn2 HLT.out
    have HCL := Lib.hid hEE.1
    have HEE := Lib.hid hEE.2
    clear hEE hR2 hgt hsz
    go_wp2_with fail
    refine (norm_any (some ⟨g, 0, none⟩) n1 c (dg W64 (N1 - N2)) _ (by omega) (by omega) hcn2 (by simp) HCL.out).mono ?_
    rintro e w4 ⟨rfl, rfl⟩
    go_wp2
    go_ret
    exact HEE.out

set_option maxRecDepth 100000 in
set_option maxHeartbeats 2000000 in
theorem natSub_same (g : Nat) (az : Option Addr) (nz cz : Nat) (b1 o1 b2 o2 n1 n2 c1 c2 N1 N2 : Nat) (w : World) (hgg : InB az g ∨ w.heap.size ≤ g) (hmk : Calls Tryz.prog 184 #[.slice az nz cz, .int .i64 n1] w (MadeG 151 g n1 w))
    (h1 : BigN 151 w (some ⟨b1, o1, none⟩) n1 c1 N1) (h2 : BigN 151 w (some ⟨b2, o2, none⟩) n2 c2 N2) (hb1 : n1 ≤ 900000) (hle : N2 ≤ N1) (h0 : 0 < n2) (hge : n2 ≤ n1) (hne : b1 = g) :
    Calls Tryz.prog 126 #[.slice az nz cz, .slice (some ⟨b1, o1, none⟩) n1 c1, .slice (some ⟨b2, o2, none⟩) n2 c2] w (GivesI 151 az (N1 - N2) w) := by
  have hm1 := h1.num.cm
  have hm2 := h2.num.cm
  have hc1 := h1.num.nc
  have hc2 := h2.num.nc
  unfold maxLen at hm1 hm2
  obtain ⟨ho1, curA, hA, hAs⟩ := h1.start
  subst ho1
  subst hne
  have hz1 : ((n1 : Int) == 0) = false := by simp; omega
  have hz2 : ((n2 : Int) == 0) = false := by simp; omega
  have HB1 := Lib.hid h1
  have HB2 := Lib.hid h2
  have HM := Lib.hid hmk
  have HG := Lib.hid hgg
  clear h1 h2 hmk hgg
  go_enter Tryz.func126, Tryz.ntmps126
  go_wp2_with fail
  refine HM.out.mono ?_
  rintro e w1 ⟨c, cur, rfl, hK, hsz, hcn1, hcn2, hB1⟩
  have hbd : Below w1.heap.size w1 w1.drew := (Below.refl _ _).drew
  have hg2 := hK.keep hbd
  have hbw := hB1.trans (hbd.mono hB1.size)
  have HD1 := Lib.hid (HB1.out.num.keep hbw)
  have HD2 := Lib.hid (HB2.out.num.keep hbw)
  obtain rfl : c = c1 := by
    have h2 := hA.keep hB1
    unfold BlkAt at h2 hK
    rw [h2] at hK
    injection hK with hK
    injection hK with hK _ _
    rw [← hsz, ← hAs, hK]
  clear hA hAs
  have hca := bor_le N1 N2 n2
  have HH := Lib.hid (sub_high hle HB1.out.num.lt HB2.out.num.lt hge)
  have HLT := Lib.hid (show N1 - N2 < W64 ^ n1 from Nat.lt_of_le_of_lt (Nat.sub_le _ _) HB1.out.num.lt)
  have hx1 : (n2 : Int) ≤ c := by omega
  have hx2 : (n2 : Int) ≤ c := by omega
  have hx3 : (n2 : Int) ≤ c2 := by omega
  have HBD := Lib.hid hbw
  have HBK := Lib.hid hg2
  have hcm2 := hcn2
  unfold maxLen at hcm2
  clear hK hg2 hbd hB1 hbw
  have HLE := Lib.hid hle
  generalize hcar : bor N1 N2 n2 = cr at *
  go_upto_region 10 with fail
  go_region_held3 (fun _ => True) (exact trivial) ((go_at_call 188; (with_reducible refine (subVV_any b1 0 n2 c b1 0 c b2 o2 c2 _ N1 N2 HLE.out _ HBK.out ?_ ?_ ?_ ?_ ?_ ?_ ?_ ?_ ?_ ?_ ?_ ?_).mono ?_); omega; omega; omega; exact hcn2; exact HD1.out.wcells0 hge; omega; (unfold maxLen; omega); exact HD2.out.wcells0 (Nat.le_refl _); omega; (unfold maxLen; omega); exact .inr (Nat.zero_le _); exact .inr (Nat.zero_le _); rintro e w2 ⟨rfl, hR2⟩; rw [hcar]))
  clear hx1 hx2 hx3
  by_cases hgt : n2 < n1
  · have hd : decide (n2 < n1) = true := by simpa using hgt
    have hx1 : (n2 : Int) ≤ n1 := by omega
    have hx2 : (n2 : Int) ≤ c := by omega
    have hx3 : (n2 : Int) ≤ c := by omega
    have hn1 : ¬ c = n2 := by omega
    have hn2 : ¬ c = n2 := by omega
    have HU2 := Lib.hid hR2.upd
    obtain ⟨cur2, hk1, hk2, hk3, hk4⟩ := hR2.blk
    have HSZ := Lib.hid hsz
    have HK4 := Lib.hid hk4
    have HW1 := Lib.hid (show WCells w2 b1 n2 (n1 - n2) (dg W64 (N1 / W64 ^ n2)) from fun i hi => by
      have := (HD1.out.wcells (k := n2) (m := n1 - n2) (by omega)) i hi
      rw [Nat.zero_add] at this
      rw [hk1.cell, hk4 _ (by omega), ← HBK.out.cell]
      exact this)
    have HK := Lib.hid (show cur2.size = c from by rw [hk2, hsz])
    have HK1 := Lib.hid hk1
    have HK3 := Lib.hid hk3
    clear hk1 hk2 hk3 hk4 hR2 hsz
    go_upto_region 12 with fail
    have hd2 : Below w2.heap.size w2 w2.drew := (Below.refl _ _).drew
    go_region_held3 (fun _ => True) (exact trivial) ((go_at_call 189; (with_reducible refine (subVW_self b1 n2 (n1 - n2) (c - n2) cur2 (N1 / W64 ^ n2) cr _ ?_ ?_ ?_ ?_ ?_ ?_ ?_ ?_ HH.out.2.1).mono ?_); exact HK1.out.keep (by assumption); omega; omega; (rw [HK.out]; omega); omega; (unfold maxLen; omega); (intro j hj; exact cell_keep (HW1.out j hj) (by assumption)); (unfold W64; omega); rintro e w3 ⟨rfl, hR3⟩; rw [HH.out.2.2.1]))
    have hR : RowUp 151 w1.drew w3 b1 0 n1 cur (dg W64 (N1 - N2)) := by
      obtain ⟨cur3, q1, q2, q3, q4⟩ := hR3.blk
      refine ⟨(HU2.out.then hd2).trans hR3.upd, cur3, q1, q2.trans (HK.out.trans HSZ.out.symm), fun i hi => ?_, fun j hj => ?_⟩
      · by_cases hlo : i < n2
        · rw [Nat.zero_add, q4 i (.inl hlo)]
          have := HK3.out i hlo
          simpa using this
        · have := q3 (i - n2) (by omega)
          rw [show n2 + (i - n2) = i from by omega] at this
          rw [Nat.zero_add, this, ← HH.out.1, dg_div, show n2 + (i - n2) = i from by omega]
      · rw [q4 j (by omega)]
        exact HK4.out j (by omega)
    have hEE := givesI_row HBD.out HG.out HSZ.out hR hcn1 hcn2 HLT.out
    have HCL := Lib.hid hEE.1
    have HEE := Lib.hid hEE.2
    clear hEE hR hR3
    go_wp2_with fail
    refine (norm_any (some ⟨b1, 0, none⟩) n1 c (dg W64 (N1 - N2)) _ (by omega) (by omega) hcn2 (by simp) HCL.out).mono ?_
    rintro e w5 ⟨rfl, rfl⟩
    go_wp2
    go_ret
    exact HEE.out
  · have hd : decide (n2 < n1) = false := by simpa using hgt
    obtain rfl : n1 = n2 := by omega
    have hcr : cr = 0 := HH.out.2.2.2 rfl
    subst hcr
    have hEE := givesI_row HBD.out HG.out hsz hR2 hcn1 hcn2 HLT.out
    have HCL := Lib.hid hEE.1
    have HEE := Lib.hid hEE.2
    clear hEE hR2 hgt hsz
    go_wp2_with fail
    refine (norm_any (some ⟨b1, 0, none⟩) n1 c (dg W64 (N1 - N2)) _ (by omega) (by omega) hcn2 (by simp) HCL.out).mono ?_
    rintro e w4 ⟨rfl, rfl⟩
    go_wp2
    go_ret
    exact HEE.out

theorem natSub_into (az : Option Addr) (nz cz Z : Nat) (a1 a2 : Option Addr) (n1 n2 c1 c2 N1 N2 : Nat) (w : World) (h0 : BigN 151 w az nz cz Z) (h1 : BigN 151 w a1 n1 c1 N1) (h2 : BigN 151 w a2 n2 c2 N2) (hb1 : n1 ≤ 900000) (hle : N2 ≤ N1) (h20 : 0 < n2) :
    Calls Tryz.prog 126 #[.slice az nz cz, .slice a1 n1 c1, .slice a2 n2 c2] w (GivesI 151 az (N1 - N2) w) := by
  have hge : n2 ≤ n1 := len_le W64_gt h2.num.top (Nat.lt_of_le_of_lt hle h1.num.lt)
  obtain ⟨g, hg, hmk⟩ := make_into az nz cz Z n1 w h0 (by omega) (by omega)
  obtain ⟨b1, o1, rfl, hl1⟩ := h1.num.form (by omega)
  obtain ⟨b2, o2, rfl, hl2⟩ := h2.num.form (by omega)
  by_cases hne : b1 = g
  · exact natSub_same g az nz cz b1 o1 b2 o2 n1 n2 c1 c2 N1 N2 w hg hmk h1 h2 hb1 hle h20 hge hne
  · exact natSub_apart g az nz cz b1 o1 b2 o2 n1 n2 c1 c2 N1 N2 w hg hmk h1 h2 hb1 hle h20 hge hne

set_option maxRecDepth 100000 in
set_option maxHeartbeats 1000000 in
theorem natSub0_into (az : Option Addr) (nz cz Z : Nat) (a1 a2 : Option Addr) (n1 c1 c2 N1 : Nat) (w : World) (h0 : BigN 151 w az nz cz Z) (h1 : BigN 151 w a1 n1 c1 N1) (hb1 : n1 ≤ 900000) (h10 : 0 < n1) (hd : ∀ k, InB a1 k → ¬ InB az k) :
    Calls Tryz.prog 126 #[.slice az nz cz, .slice a1 n1 c1, .slice a2 0 c2] w (GivesI 151 az N1 w) := by
  have HS := Lib.hid (natSet_into az nz cz Z a1 n1 c1 N1 w h0 h1.num h10 (by omega) hd)
  have hz1 : ((n1 : Int) == 0) = false := by simp; omega
  clear h0 h1 hd
  go_enter Tryz.func126, Tryz.ntmps126
  go_wp2_with fail
  refine HS.out.mono ?_
  rintro e w1 ⟨a, n, c, rfl, hE⟩
  have HE := Lib.hid hE
  clear hE
  go_wp2
  go_ret
  exact ⟨_, _, _, rfl, HE.out⟩
end Go.Proofs.YtdkipndepkblhaaGreatDoor

set_option linter.unusedSimpArgs false
set_option linter.unusedVariables false
namespace Go.Bg
open Go.RowKit Dg
/-- a register: the Int's block, its sign, its words' slice, its number -/
structure Rg where
  b : Nat
  s : Bool
  a : Option Addr
  n : Nat
  c : Nat
  N : Nat
/-- it stands so in the heap -/
structure Rg.At (T : TypeId) (w : World) (x : Rg) : Prop where
  blk : Strct T w x.b
  c0 : w.cell? ⟨x.b, 0, none⟩ = some (.bool x.s)
  c1 : w.cell? ⟨x.b, 1, none⟩ = some (.slice x.a x.n x.c)
  num : BigN T w x.a x.n x.c x.N
/-- its blocks -/
def Rg.S (x : Rg) (k : Nat) : Prop := k = x.b ∨ InB x.a k
/-- the blocks of two are others -/
def Rg.Off (x y : Rg) : Prop := ∀ k, x.S k → ¬ y.S k
/-- a call has made x' of x -/
structure Rg.To (T : TypeId) (x x' : Rg) (w w' : World) : Prop where
  b : x'.b = x.b
  at' : x'.At T w'
  upd : Upd x.S w w'
  room : ∀ k, InB x'.a k → InB x.a k ∨ w.heap.size ≤ k

theorem Rg.At.lt {T : TypeId} {w : World} {x : Rg} (h : x.At T w) : ∀ k, x.S k → k < w.heap.size := by
  rintro k (rfl | hk)
  · exact h.blk.lt
  · exact h.num.inLt k hk
theorem Rg.At.keep {T : TypeId} {w w' : World} {x : Rg} (h : x.At T w) (hb : Below w.heap.size w w') : x.At T w' :=
  ⟨h.blk.keep hb, cell_keep h.c0 hb, cell_keep h.c1 hb, h.num.keep hb⟩
theorem Rg.At.apart {T : TypeId} {w w' : World} {x : Rg} {S : Nat → Prop} (h : x.At T w) (hu : Upd S w w') (hs : ∀ k, x.S k → ¬ S k) : x.At T w' :=
  ⟨h.blk.upd hu (hs _ (.inl rfl)), by rw [hu.cell (p := ⟨x.b, 0, none⟩) h.blk.lt (hs _ (.inl rfl))]; exact h.c0, by rw [hu.cell (p := ⟨x.b, 1, none⟩) h.blk.lt (hs _ (.inl rfl))]; exact h.c1, h.num.apart hu (fun k hk => hs k (.inr hk))⟩
theorem Rg.Off.symm {x y : Rg} (h : x.Off y) : y.Off x := fun k h1 h2 => h k h2 h1
theorem Rg.Off.ne {x y : Rg} (h : x.Off y) : x.b ≠ y.b := fun e => h x.b (.inl rfl) (.inl e)
theorem Rg.Off.dat {x y : Rg} (h : x.Off y) : ∀ k, InB x.a k → ¬ InB y.a k := fun k h1 h2 => h k (.inr h1) (.inr h2)
theorem Rg.To.S {T : TypeId} {x x' : Rg} {w w' : World} (h : x.To T x' w w') : ∀ k, x'.S k → x.S k ∨ w.heap.size ≤ k := by
  rintro k (rfl | hk)
  · rw [h.b]; exact .inl (.inl rfl)
  · exact (h.room k hk).imp .inr id
/-- the others are as they were, and apart from it -/
theorem Rg.At.other {T : TypeId} {w w' : World} {x x' y : Rg} (h : y.At T w) (ht : x.To T x' w w') (ho : y.Off x) : y.At T w' := h.apart ht.upd ho
theorem Rg.Off.to {T : TypeId} {w w' : World} {x x' y : Rg} (ho : y.Off x) (h : y.At T w) (ht : x.To T x' w w') : y.Off x' := fun k h1 h2 => by
  rcases ht.S k h2 with h3 | h3
  · exact ho k h1 h3
  · have := h.lt k h1; omega
theorem Rg.To.trans {T : TypeId} {w w1 w2 : World} {x y z : Rg} (h : x.To T y w w1) (k : y.To T z w1 w2) : x.To T z w w2 :=
  ⟨k.b.trans h.b, k.at', ⟨k.upd.os.trans h.upd.os, k.upd.tape.trans h.upd.tape, k.upd.output.trans h.upd.output, Nat.le_trans h.upd.size k.upd.size, fun i hi hs => by
    have h1 : ¬ y.S i := fun e => by
      rcases h.S i e with h2 | h2
      · exact hs h2
      · omega
    exact (k.upd.block i (Nat.lt_of_lt_of_le hi h.upd.size) h1).trans (h.upd.block i hi hs)⟩, fun i hi => by
    rcases k.room i hi with h1 | h1
    · exact h.room i h1
    · exact .inr (Nat.le_trans h.upd.size h1)⟩
theorem Rg.At.notIn {T : TypeId} {w : World} {x y : Rg} (h : x.At T w) (k : y.At T w) : ¬ InB y.a x.b := h.blk.notIn k.num
/-- the words' slice stored, then the sign -/
theorem Rg.At.done {T : TypeId} {w w0 w1 : World} {x : Rg} (h : x.At T w) (hb : Below w.heap.size w w0) (hU : Upd (InB x.a) w0 w1) {a : Option Addr} {n c N : Nat} (hN : BigN T w1 a n c N) (hP : ∀ k, InB a k → InB x.a k ∨ w0.heap.size ≤ k) (s : Bool) :
    x.To T ⟨x.b, s, a, n, c, N⟩ w ((w1.setCell ⟨x.b, 1, none⟩ (.slice a n c)).setCell ⟨x.b, 0, none⟩ (.bool s)) := by
  have h0 := h.keep hb
  have hn := h.notIn h
  have hs := h0.blk.upd hU hn
  have c0 : w1.cell? ⟨x.b, 0, none⟩ = some (.bool x.s) := by rw [hU.cell (p := ⟨x.b, 0, none⟩) h0.blk.lt hn]; exact h0.c0
  have c1 : w1.cell? ⟨x.b, 1, none⟩ = some (.slice x.a x.n x.c) := by rw [hU.cell (p := ⟨x.b, 1, none⟩) h0.blk.lt hn]; exact h0.c1
  have ho := OwnI.stored (o := 0) (s := s) hs ⟨_, c0⟩ ⟨_, c1⟩ hN
  refine ⟨rfl, ⟨ho.blk, ho.c0, ho.c1, ho.num⟩, (((Upd.of_below hb).trans (hU.mono (fun k _ hk => .inr hk))).setCell (p := ⟨x.b, 1, none⟩) (.inl rfl) _).setCell (p := ⟨x.b, 0, none⟩) (.inl rfl) _, fun k hk => (hP k hk).imp id (Nat.le_trans hb.size)⟩
/-- as BigAt, where its sign is none of 0 -/
theorem Rg.At.big {T : TypeId} {w : World} {x : Rg} (h : x.At T w) (hz : x.s = true → 0 < x.N) : BigAt T w x.b 0 x.s x.N := ⟨h.blk, ⟨_, _, _, h.c0, h.c1, h.num⟩, hz⟩
end Go.Bg
namespace Go.Proofs.YtdkipndepkblhaaGreatDoor
open Go.RowKit Go.Bg Dg

/-- an Int that has been made, and where its words lie -/
def IntOwn (d p : Nat) (s : Bool) (N : Nat) (w : World) (e : Ending) (w' : World) : Prop :=
  e = .returned (.pointer (some ⟨d, p, none⟩)) ∧ Upd (· = d) w w' ∧ ∃ g n c, OwnI 151 w' d p s (some ⟨g, 0, none⟩) n c N ∧ w.heap.size ≤ g

theorem NewInt.madeO {w w1 : World} {b o : Nat} (h : NewInt w b o) (hb : Below w.heap.size w w1) {a : Option Addr} {n c N : Nat} {s : Bool} (hN : BigN 151 w1 a n c N) (hp : ∀ k, InB a k → InB none k ∨ w.heap.size ≤ k) (h0 : 0 < N) :
    IntOwn b o s N w (.returned (.pointer (some ⟨b, o, none⟩))) ((w1.setCell ⟨b, o + 1, none⟩ (.slice a n c)).setCell ⟨b, o, none⟩ (.bool s)) := by
  have h' := h.keep hb
  have hn : 0 < n := by have := natAt_pos_len hN.num; simpa [h0] using this
  obtain ⟨g, off, rfl, hl⟩ := hN.num.form hn
  obtain ⟨ho, -⟩ := hN.start
  subst ho
  refine ⟨rfl, ((Upd.of_below hb).trans (Upd.set1 _ _ _ _)).trans (Upd.set1 _ _ _ _), g, n, c, OwnI.stored h'.blk h'.c0 ⟨_, h'.c1⟩ hN, ?_⟩
  rcases hp g (inB_is _ _ _) with h | h
  · exact (inB_none h).elim
  · exact h

/-- the registers' words -/
abbrev RA (w : World) (x : Rg) : Prop := Rg.At 151 w x
abbrev RTo (x x' : Rg) (w w' : World) : Prop := Rg.To 151 x x' w w'
end Go.Proofs.YtdkipndepkblhaaGreatDoor
