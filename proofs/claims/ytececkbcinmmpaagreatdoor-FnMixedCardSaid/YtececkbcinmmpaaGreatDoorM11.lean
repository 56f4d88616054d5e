/-
  Contracts and lemmas: BigJ TolA TolB TolC TolD BigK BigL BigM RatA Shelf.
-/
import Derived.Test.YtececkbcinmmpaaGreatDoorM10
import Derived.Test.YtececkbcinmmpaaGreatDoorM06
import Derived.Laws.CopyOwn
import Derived.Lib.Builder
import Derived.Shelf.Small.Bits
import Derived.Shelf.Strconv.Itoa0
import Derived.Shelf.Bits.Mul64
import Derived.Test.YtececkbcinmmpaaGreatDoorProg
set_option linter.unusedSimpArgs false
set_option linter.unusedVariables false
set_option maxRecDepth 100000
set_option maxHeartbeats 8000000
namespace Go.Proofs.YtececkbcinmmpaaGreatDoor
open Go.RowKit Go.Bg Dg
theorem fit64_bd {z : Int} (h : fit64 z = true) : -9223372036854775808 ≤ z ∧ z < 9223372036854775808 := by
  unfold fit64 at h; simpa using h
theorem intSign_any (b o : Nat) (s : Bool) (N : Nat) (w : World) (h : BigAt 139 w b o s N) :
    Calls Tryz.prog 118 #[.pointer (some ⟨b, o, none⟩)] w fun e w' => e = .returned (.int .i64 (if N = 0 then 0 else if s then -1 else 1)) ∧ w = w' := by
  obtain ⟨a, n, c, h0, h1, hN⟩ := h.val
  have hp := natAt_pos_len hN.num
  have hcm := hN.num.cm
  have hnc := hN.num.nc
  clear h hN
  by_cases hn : n = 0
  · subst hn
    have e : N = 0 := by simp at hp; omega
    subst e
    clear hp
    go_enter Tryz.func118, Tryz.ntmps118
    go_wp2
    go_ret
    exact ⟨rfl, rfl⟩
  · have hz : ((n : Int) == 0) = false := by simpa using hn
    have e : N ≠ 0 := by
      intro e; subst e
      have : decide (0 < n) = true := by simp; omega
      rw [this] at hp; simp at hp
    have HE := Lib.hid e
    clear hp e
    cases s
    · go_enter Tryz.func118, Tryz.ntmps118
      go_wp2
      go_ret
      exact ⟨rfl, rfl⟩
    · go_enter Tryz.func118, Tryz.ntmps118
      go_wp2
      go_ret
      exact ⟨rfl, rfl⟩
theorem intBits_any (b o : Nat) (s : Bool) (N : Nat) (w : World) (h : BigAt 139 w b o s N) :
    Calls Tryz.prog 193 #[.pointer (some ⟨b, o, none⟩)] w fun e w' => ∃ a n c, e = .returned (.slice a n c) ∧ BigN 139 w a n c N ∧ w = w' := by
  obtain ⟨a, n, c, h0, h1, hN⟩ := h.val
  have HN := Lib.hid hN
  clear h hN
  go_enter Tryz.func193, Tryz.ntmps193
  go_wp2
  go_ret
  exact ⟨_, _, _, rfl, HN.out, rfl⟩
structure PlainAt (w : World) (a : Option Addr) (n c N : Nat) : Prop where
  ws : WordsAt w a n c (dg W64 N)
  lt : N < W64 ^ n
  top : n = 0 ∨ W64 ^ (n - 1) ≤ N
theorem PlainAt.keep {w w' : World} {a : Option Addr} {n c N : Nat} (h : PlainAt w a n c N) (hb : Below w.heap.size w w') : PlainAt w' a n c N := ⟨h.ws.keep hb, h.lt, h.top⟩
theorem plain_any (b o : Nat) (s : Bool) (N : Nat) (w : World) (h : BigAt 139 w b o s N) (L : Nat) (hL : L ≤ 100000) (hN : N < W64 ^ L) :
    Calls Tryz.prog 137 #[.pointer (some ⟨b, o, none⟩)] w fun e w' => ∃ a n c, e = .returned (.slice a n c) ∧ PlainAt w' a n c N ∧ Below w.heap.size w w' := by
  obtain ⟨i0, hi, hz0, hz1, hz2⟩ := info_parts infoUint
  have HH := Lib.hid h
  have HL := Lib.hid hN
  clear h hN
  go_enter Tryz.func137, Tryz.ntmps137
  go_wp2_with fail
  refine (intBits_any b o s N _ HH.out).mono ?_
  rintro e w1 ⟨a, n, c, rfl, hB, rfl⟩
  have hlt := hB.num.lt
  have htop := hB.num.top
  have hlen : n ≤ 100000 := Nat.le_trans (len_le W64_gt htop HL.out) hL
  have HT := Lib.hid htop
  have HLT := Lib.hid hlt
  have h := hB.num
  clear htop hlt hB
  go_wp2
  go_loopw [3, 5, 9] (fun out _ i wr => ∃ k : Nat, k ≤ n ∧ i = .int .i64 k ∧ wr.ownsRow w.heap.size 53 1 out k ((List.range k).map (wv (dg W64 N))) ∧ Below w.heap.size w wr)
    (fun _ _ i _ => n - (intOf i).toNat)
  case atStart => exact ⟨0, Nat.zero_le _, rfl, World.ownsRow_nil _ _ _ _, Below.refl _ _⟩
  case round =>
    obtain ⟨k, hk, rfl, hown, hbel⟩ := hrel
    by_cases k1 : k < n
    · have h' := h.keep hbel
      obtain ⟨b1, o1, rfl, _⟩ := h'.form (by omega)
      have e1 := h'.cell k1
      have hnc := h'.nc
      have hcm := h'.cm
      clear h' h
      go_wp2_with (at_builtin; refine wpList_app1 rfl _ _ 22 rfl w.heap.size 53 i0 _ 8 Tryz.underlying22 hi hz0 hz1 hz2 rfl (by decide) _ _ _ _ rfl rfl rfl hown rfl (by omega) hbel.size ?_; intro v' w1 hown1 hbel1 hne1)
      go_roundw
      case rel => exact ⟨k + 1, by omega, by go_num, by rw [map_range_succ]; simpa [wv] using hown1, hbel.trans hbel1⟩
      case measure => simp [intOf]; omega
    · obtain rfl : k = n := by omega
      go_wp2
      go_ret
      obtain ⟨a1, c1, rfl, _, hnc, hcm, hnil, hcells⟩ := buf_of_own hown
      exact ⟨_, _, _, rfl, ⟨⟨hcells (wv (dg W64 N)) (fun i hi => by simp [hi]), fun i _ => dg_lt W64_pos _ _, hnc, hcm, hnil⟩, HLT.out, HT.out⟩, hbel⟩
end Go.Proofs.YtececkbcinmmpaaGreatDoor
namespace Go.Bg
open Go.RowKit Dg
theorem WordsAt.setCell {w : World} {a : Option Addr} {n c s o : Nat} {f : Nat → Nat} (h : WordsAt w a n c f) (v : Value) (hs : NoInt w s) : WordsAt (w.setCell ⟨s, o, none⟩ v) a n c f := by
  refine ⟨fun hn => ?_, h.lt, h.nc, h.cm, h.nil⟩
  obtain ⟨b, off, rfl, hc⟩ := h.cells hn
  refine ⟨b, off, rfl, fun i hi => ?_⟩
  have h1 := hc i hi
  rw [cell?_setCell_ne]
  · exact h1
  · intro e; subst e; exact hs _ _ _ h1
theorem noInt_of_blk {w : World} {g : Nat} {cur : Array Value} {e : TypeId} (h : BlkAt w g cur e) (hn : ∀ (i : Nat) k v, cur[i]? ≠ some (.int k v)) : NoInt w g := by
  intro o k v hc
  rw [h.cell] at hc
  exact hn o k v hc
theorem noInt_num {b : Bool} {a : Option Addr} {n c : Nat} : ∀ (i : Nat) k v, (#[.bool b, .slice a n c] : Array Value)[i]? ≠ some (.int k v) := by
  intro i k v h
  match i, h with
  | 0, h => simp at h
  | 1, h => simp at h
  | i + 2, h => simp at h
end Go.Bg
namespace Go.Proofs.YtececkbcinmmpaaGreatDoor
open Go.RowKit Go.Bg Dg
theorem PlainAt.setCell {w : World} {a : Option Addr} {n c N s o : Nat} (h : PlainAt w a n c N) (v : Value) (hs : NoInt w s) : PlainAt (w.setCell ⟨s, o, none⟩ v) a n c N := ⟨h.ws.setCell v hs, h.lt, h.top⟩
theorem sign_lt (s : Bool) (N : Nat) (hs : s = true → 0 < N) : decide ((if N = 0 then (0 : Int) else if s then -1 else 1) < 0) = s := by
  cases s
  · by_cases h : N = 0 <;> simp [h]
  · have := hs rfl
    have h : N ≠ 0 := by omega
    simp [h]
theorem number_any (b o : Nat) (s : Bool) (N : Nat) (w : World) (h : BigAt 139 w b o s N) (L : Nat) (hL : L ≤ 100000) (hN : N < W64 ^ L) :
    Calls Tryz.prog 134 #[.pointer (some ⟨b, o, none⟩)] w fun e w' => ∃ a n c, e = .returned (.agg #[.bool s, .slice a n c]) ∧ PlainAt w' a n c N ∧ Below w.heap.size w w' := by
  obtain ⟨W0, hW0⟩ : ∃ W0, W0 = w.alloc (.cells #[.bool false, .slice none 0 0] 24) := ⟨_, rfl⟩
  have HW := Lib.hid hW0
  have hb0 : Below w.heap.size w W0 := by rw [hW0]; exact Below.alloc' (Below.refl _ _) _
  have hz : BlkAt W0 w.heap.size #[.bool false, .slice none 0 0] 24 := by rw [hW0]; exact BlkAt.new _ _ _
  have HH := Lib.hid (h.keep hb0)
  have HS := Lib.hid (sign_lt s N h.zero)
  have HL := Lib.hid hN
  clear hW0 h hN
  go_enter Tryz.func134, Tryz.ntmps134
  go_upto_region 1 with fail
  rw [← HW.out]
  go_wp2_with fail
  refine (intSign_any b o s N _ HH.out).mono ?_
  rintro e w1 ⟨rfl, rfl⟩
  generalize (if N = 0 then (0 : Int) else if s then -1 else 1) = sg at *
  go_wp2_with fail
  refine (plain_any b o s N _ HH.out L hL HL.out).mono ?_
  rintro e w2 ⟨a, n, c, rfl, hP, hB⟩
  have hz2 := hz.keep hB
  have c0 := hz2.cell 0
  have c1 := hz2.cell 1
  have f0 := hz2.frozen 0
  have f1 := hz2.frozen 1
  simp only [List.getElem?_toArray, List.getElem?_cons_zero, List.getElem?_cons_succ] at c0 c1
  have hbf := Below.then hb0 (Nat.le_refl _) hB
  have ni := noInt_of_blk hz2 noInt_num
  have HP := Lib.hid (show PlainAt ((w2.setCell ⟨w.heap.size, 0, none⟩ (.bool s)).setCell ⟨w.heap.size, 1, none⟩ (.slice a n c)) a n c N from
    (hP.setCell _ ni).setCell _ (ni.setCell (by intro k n h; cases h)))
  have HBF := Lib.hid (show Below w.heap.size w ((w2.setCell ⟨w.heap.size, 0, none⟩ (.bool s)).setCell ⟨w.heap.size, 1, none⟩ (.slice a n c)) from
    (hbf.setCell (Nat.le_refl _) _).setCell (Nat.le_refl _) _)
  have hs := HS.out
  clear hz hz2 ni hP hbf hb0
  go_wp2
  exact bodyPost_ret (v := .agg #[.bool s, .slice a n c]) (by simp [results, Tryz.results134, go_sem, c0, c1]) rfl ⟨_, _, _, rfl, HP.out, HBF.out⟩
theorem sg_abs {s : Bool} {N : Nat} (h : s = true → 0 < N) : decide (sg s N < 0) = s ∧ (sg s N).natAbs = N := by
  unfold sg
  cases s
  · simp
  · have := h rfl
    simp; omega
end Go.Proofs.YtececkbcinmmpaaGreatDoor
namespace Go.Bg
open Go.RowKit Dg
def NoU (w : World) (s : Nat) : Prop := ∀ o x, w.cell? ⟨s, o, none⟩ ≠ some (.int .u64 x)
theorem noU_of_blk {w : World} {g : Nat} {cur : Array Value} {e : TypeId} (h : BlkAt w g cur e) (hn : ∀ (i : Nat) x, cur[i]? ≠ some (.int .u64 x)) : NoU w g := by
  intro o x hc
  rw [h.cell] at hc
  exact hn o x hc
theorem noU_vals (k : Int) : ∀ (i : Nat) x, (#[.int .i64 k, .bool false, .string ⟨#[]⟩, .bool false, .slice none 0 0, .slice none 0 0, .bool false, .slice none 0 0, .slice none 0 0] : Array Value)[i]? ≠ some (.int .u64 x) := by
  intro i x h
  match i, h with
  | 0, h => simp at h
  | 1, h => simp at h
  | 2, h => simp at h
  | 3, h => simp at h
  | 4, h => simp at h
  | 5, h => simp at h
  | 6, h => simp at h
  | 7, h => simp at h
  | 8, h => simp at h
  | i + 9, h => simp at h
theorem WordsAt.updU {w w' : World} {a : Option Addr} {n c : Nat} {f : Nat → Nat} {S : Nat → Prop} (h : WordsAt w a n c f) (hu : Upd S w w') (hS : ∀ k, S k → NoU w k) : WordsAt w' a n c f := by
  refine ⟨fun hn => ?_, h.lt, h.nc, h.cm, h.nil⟩
  obtain ⟨b, off, rfl, hc⟩ := h.cells hn
  refine ⟨b, off, rfl, fun i hi => ?_⟩
  have h1 := hc i hi
  rw [hu.cell (p := ⟨b, off + i, none⟩) (block_lt h1) (fun s => hS b s _ _ h1)]
  exact h1
theorem nilWords (w : World) : WordsAt w none 0 0 (fun _ => 0) := ⟨fun h => by omega, fun i h => by omega, Nat.le_refl _, by simp [maxLen], fun _ => rfl⟩
end Go.Bg
namespace Go.Proofs.YtececkbcinmmpaaGreatDoor
open Go.RowKit Go.Bg Dg
theorem told_val {w : World} {a : Option Addr} {n c N : Nat} (h : PlainAt w a n c N) : val W64 (dg W64 N) n = N := by
  rw [val_dg, Nat.mod_eq_of_lt h.lt]
end Go.Proofs.YtececkbcinmmpaaGreatDoor
namespace Go.Bg
open Go.RowKit Dg
theorem bigAt_new {T T2 : TypeId} {w : World} {s : Bool} {a : Option Addr} {n c N : Nat} (hN : BigN T w a n c N) (hT : T2 ≠ T) (hz : s = true → 0 < N) :
    BigAt T (w.alloc (.cells #[.bool s, .slice a n c] T2)) w.heap.size 0 s N := by
  have hb := BlkAt.new w #[.bool s, .slice a n c] T2
  exact ⟨⟨_, _, hb, hT⟩, ⟨a, n, c, hb.cell 0, hb.cell 1, hN.keep ((Below.refl _ _).alloc (Nat.le_refl _) _)⟩, hz⟩
theorem run_neq_ptr_other {P : Program} (w : World) {tp te : TypeId} {j : TypeInfo} {a b : Addr} {ca cb : Array Value} {ta tb : TypeId} (hp : P.underlying tp = some (.pointer te)) (hte : P.info? te = some j) (hsz : j.size ≠ 0)
    (hne : a ≠ b) (ha : w.heap[a.block]? = some (.cells ca ta (0, 0))) (hb : w.heap[b.block]? = some (.cells cb tb (0, 0))) :
    (binOp .neq tp (.pointer (some a)) (.pointer (some b))).run P w = .ok (.bool true) w := by
  have h : ∀ d : Nat, (Op.equalIn (d + 1) tp (.pointer (some a)) (.pointer (some b))).run P w = .ok false w := fun d => by
    simp [Op.equalIn, run_underlying hp, sizeOf, typeInfo, hte, hsz, run_sameAddr_other w hne ha hb]
  simp only [binOp]
  simp [Op.equal, Op.maxDepth, h 9999]
def wl (N n : Nat) : List Value := (List.range n).map (fun i => Value.int .u64 (dg W64 N i : Nat))
theorem wl_get {N n i : Nat} (h : i < n) : (wl N n)[i]? = some (.int .u64 (dg W64 N i : Nat)) := by simp [wl, h]
theorem wl_len (N n : Nat) : (wl N n).length = n := by simp [wl]
theorem bigN_spliced {T : TypeId} {w w' : World} {g c n N : Nat} {a : Option Addr} (hN : NumAt .u64 W64 w a n c N) {c' : Nat} (hc' : n ≤ c') (hm : c' ≤ maxLen) (cur : List Value) (hl : cur.length = c')
    (hg : w'.heap[g]? = some (.cells (splice cur 0 (wl N n)).toArray T (0, 0))) : BigN T w' (some ⟨g, 0, none⟩) n c' N := by
  have hb : BlkAt w' g (splice cur 0 (wl N n)).toArray T := hg
  have hs : (splice cur 0 (wl N n)).length = c' := by simp [splice, wl_len]; omega
  refine ⟨⟨hN.lt, hN.top, hc', hm, fun hn => ⟨g, 0, rfl, fun i hi => ?_⟩⟩, .inr ⟨g, _, rfl, hb, by simpa using hs⟩⟩
  rw [hb.cell]
  simp only [Nat.zero_add, List.getElem?_toArray, splice, List.take_zero, List.nil_append]
  rw [List.getElem?_append_left (by rw [wl_len]; exact hi)]
  exact wl_get hi
end Go.Bg
namespace Go.Proofs.YtececkbcinmmpaaGreatDoor
open Go.RowKit Go.Bg Dg
theorem infoWordSize : (Tryz.prog.info? 139).map (·.size) = some 1 := by kernel_rfl
theorem natSet_nil (a : Option Addr) (n c N : Nat) (w : World) (h : NumAt .u64 W64 w a n c N) (hn : n ≤ 1000000) :
    Calls Tryz.prog 152 #[.slice none 0 0, .slice a n c] w (GivesN 139 N w) := by
  have HH := Lib.hid h
  have hnc := h.nc
  have hcm := h.cm
  unfold maxLen at hcm
  by_cases h0 : n = 0
  · subst h0
    have HN := Lib.hid (show N = 0 from by have := h.lt; simpa using this)
    clear h
    go_enter Tryz.func152, Tryz.ntmps152
    go_wp2_with fail
    refine (make_nil 0 (by omega) _).mono ?_
    rintro e w1 (⟨_, rfl, rfl⟩ | ⟨c', h0, _⟩)
    case inr => omega
    go_wp2_with (with_reducible refine wpList_copy_nothing (o := ⟨some 11, _, _, _, _, _⟩) rfl (.tmp 9) (.tmp 10) 153 153 rfl 139 Tryz.underlying153 infoWordSize _ _ _ _ _ _ rfl rfl (by simp) ?_)
    go_wp2
    go_ret
    exact ⟨none, 0, 0, rfl, by rw [HN.out]; exact BigN.nil _ _, Below.refl _ _⟩
  · clear h
    go_enter Tryz.func152, Tryz.ntmps152
    go_wp2_with fail
    refine (make_nil n hn _).mono ?_
    rintro e w1 (⟨h, _⟩ | ⟨c', hc0, hc1, hc2, rfl, hw⟩)
    case inl => omega
    have hb : BlkAt w1 w.heap.size (Array.replicate c' (.int .u64 0)) 139 := by rw [hw]; exact BlkAt.new _ _ _
    have hB1 : Below w.heap.size w w1 := by rw [hw]; exact (Below.refl _ _).alloc (Nat.le_refl _) _
    have H1 := Lib.hid (HH.out.keep hB1)
    have hg : w1.heap[w.heap.size]? = some (.cells (List.replicate c' (Value.int .u64 0)).toArray 139 (0, 0)) := by
      have := hb; unfold BlkAt at this; simpa using this
    have HG := Lib.hid hg
    have HB := Lib.hid hB1
    have HC := Lib.hid (show ∃ ad, a = some ad ∧ ∀ j v, (wl N n)[j]? = some v → w1.cell? (ad.add j) = some v from by
      obtain ⟨b, off, rfl, hcell⟩ := H1.out.cells (by omega)
      refine ⟨_, rfl, fun j v hj => ?_⟩
      have hjn : j < n := by
        have := (List.getElem?_eq_some_iff.1 hj).1
        rwa [wl_len] at this
      rw [wl_get hjn] at hj
      rw [← hj, ← hcell j hjn]
      unfold Addr.add
      split
      · next h => subst h; rfl
      · rfl)
    clear hb hB1 hg hw
    have HM := Lib.hid (show (wl N n).length = Nat.min n n from by rw [wl_len]; exact (Nat.min_self n).symm)
    have HT := Lib.hid (show 0 + (wl N n).length ≤ (List.replicate c' (Value.int .u64 0)).length from by rw [wl_len]; simp; omega)
    have HO := Lib.hid (show ∀ v ∈ wl N n, v.oneCell' = true from by intro v hv; simp only [wl, List.mem_map] at hv; obtain ⟨_, _, rfl⟩ := hv; rfl)
    go_wp2_with ((with_reducible refine wpList_copy_splice (o := ⟨some 11, _, _, _, _, _⟩) rfl (.tmp 9) (.tmp 10) 153 153 rfl 139 Tryz.underlying153 infoWordSize _ _ _ _ _ _ rfl rfl w.heap.size 0 _ _ HG.out (wl N n) HM.out (fun _ => ⟨rfl, HC.out⟩) HT.out HO.out w.heap.size w HB.out (Nat.le_refl _) ?_); intro w2 hg2 hb2)
    go_wp2
    go_ret
    exact ⟨_, _, _, rfl, bigN_spliced H1.out hc1 (by unfold maxLen; omega) _ (by simp) hg2, hb2⟩
theorem intSet_new (b o b1 o1 : Nat) (s : Bool) (N : Nat) (w : World) (h : NewInt w b o) (h1 : BigAt 139 w b1 o1 s N) (hne : b ≠ b1 ∨ o ≠ o1) (L : Nat) (hL : L ≤ 1000000) (hN : N < W64 ^ L) :
    Calls Tryz.prog 182 #[.pointer (some ⟨b, o, none⟩), .pointer (some ⟨b1, o1, none⟩)] w (IntIs b o s N w) := by
  obtain ⟨j, hj, hj2⟩ := Option.map_eq_some_iff.1 infoBigIntSize
  obtain ⟨cur1, e1, k1, _⟩ := h.blk
  obtain ⟨cur2, e2, k2, _⟩ := h1.blk
  have hq := run_neq_ptr_other (P := Tryz.prog) (a := ⟨b, o, none⟩) (b := ⟨b1, o1, none⟩) w Tryz.underlying94 hj (by rw [hj2]; decide) (by intro h; injection h with h h' _; omega) k1 k2
  obtain ⟨a, n, c, p0, p1, hNN⟩ := h1.val
  have hn : n ≤ 1000000 := Nat.le_trans (len_le W64_gt hNN.num.top hN) hL
  have HZ := Lib.hid h1.zero
  have HH := Lib.hid h
  have HN := Lib.hid hNN
  have H1 := Lib.hid h1
  have q1 := h.c1
  clear h h1 hNN hN k1 k2 hj2
  have hd0 : Below w.heap.size w w.drew := (Below.refl _ _).drew
  go_enter Tryz.func182, Tryz.ntmps182
  go_upto_region 2 with fail
  go_region_with
    ((go_at_call 152; (with_reducible refine (natSet_nil a n c N _ ?_ hn).mono ?_); exact (HN.out.keep hd0).num; rintro e w1 ⟨a2, n2, c2, rfl, hN2, hB⟩; have hB1 := Below.then hd0 (Nat.le_refl _) hB; have HF := Lib.hid (HH.out.made hB1 hN2 HZ.out); have h' := HH.out.keep hB1; obtain ⟨u0, k0⟩ := h'.c0; have k1 := h'.c1; have f0 := h'.blk.frozen o; have f1 := h'.blk.frozen (o + 1); have p0' : w1.cell? ⟨b1, o1, none⟩ = some (.bool s) := cell_keep p0 hB1; have p0'' : ∀ v, (w1.setCell ⟨b, o + 1, none⟩ v).cell? ⟨b1, o1, none⟩ = some (.bool s) := (fun v => by
      rw [World.cell?_setCell_other _ _ _ _ (fun hh => ?_)]
      · exact p0'
      · injection hh with hb ho _
        subst hb
        subst ho
        rw [k1] at p0'
        cases p0'); have k0' : ∀ v, (w1.setCell ⟨b, o + 1, none⟩ v).cell? ⟨b, o, none⟩ = some u0 := (fun v => by rw [World.cell?_setCell_other _ _ _ _ (fun hh => by injection hh with _ hh _; omega)]; exact k0); clear h' p0'))
  all_goals
    clear p0 p1 q1
    go_wp2
    go_ret
    exact HF.out
end Go.Proofs.YtececkbcinmmpaaGreatDoor
namespace Go.Bg
open Go.RowKit Dg
structure RatAt (T : TypeId) (w : World) (b : Nat) (s : Bool) (N D : Nat) : Prop where
  a : BigAt T w b 0 s N
  d : BigAt T w b 2 false D
  pos : 0 < D
theorem RatAt.keep {T : TypeId} {w w' : World} {b : Nat} {s : Bool} {N D : Nat} (h : RatAt T w b s N D) (hb : Below w.heap.size w w') : RatAt T w' b s N D := ⟨h.a.keep hb, h.d.keep hb, h.pos⟩
theorem RatAt.upd {T : TypeId} {w w' : World} {b : Nat} {s : Bool} {N D : Nat} {S : Nat → Prop} (h : RatAt T w b s N D) (hu : Upd S w w') (hs : ¬ S b) (hS : ∀ k, k < w.heap.size → S k → Strct T w k) : RatAt T w' b s N D := ⟨h.a.upd hu hs hS, h.d.upd hu hs hS, h.pos⟩
structure UpdB (T : TypeId) (b : Nat) (w w' : World) : Prop where
  upd : Upd (· = b) w w'
  blk : Strct T w b → Strct T w' b
theorem UpdB.refl (T : TypeId) (b : Nat) (w : World) : UpdB T b w w := ⟨Upd.refl _ _, id⟩
theorem UpdB.trans {T : TypeId} {b : Nat} {w w1 w2 : World} (h : UpdB T b w w1) (k : UpdB T b w1 w2) : UpdB T b w w2 := ⟨h.upd.trans k.upd, fun x => k.blk (h.blk x)⟩
theorem UpdI.toB {T : TypeId} {b o : Nat} {w w' : World} (h : UpdI T b o w w') : UpdB T b w w' := ⟨h.upd, h.blk⟩
theorem UpdB.of_below {T : TypeId} {b : Nat} {w w' : World} (h : Below w.heap.size w w') : UpdB T b w w' := ⟨Upd.of_below h, fun x => x.keep h⟩
theorem UpdB.set {T : TypeId} (w : World) (b i : Nat) (v : Value) : UpdB T b w (w.setCell ⟨b, i, none⟩ v) := ⟨Upd.set1 w b i v, fun x => x.set _ _⟩
theorem RatAt.other {T : TypeId} {w w' : World} {b d : Nat} {s : Bool} {N D : Nat} (h : RatAt T w b s N D) (hs : Strct T w d) (hu : UpdB T d w w') (hne : b ≠ d) : RatAt T w' b s N D :=
  h.upd hu.upd hne (fun k _ e => e ▸ hs)
theorem UpdB.below {T : TypeId} {B b : Nat} {w0 w w' : World} (h : UpdB T b w w') (hb : Below B w0 w) (hB : B ≤ w.heap.size) (hn : B ≤ b) : Below B w0 w' :=
  h.upd.below hb hB (fun k _ e => e ▸ hn)
end Go.Bg
namespace Go.Proofs.YtececkbcinmmpaaGreatDoor
open Go.RowKit Go.Bg Dg
def NewRat (w : World) (b : Nat) : Prop := BlkAt w b #[.bool false, .slice none 0 0, .bool false, .slice none 0 0] 170
theorem NewRat.blk {w : World} {b : Nat} (h : NewRat w b) : Strct 139 w b := ⟨_, _, h, by decide⟩
theorem NewRat.a {w : World} {b : Nat} (h : NewRat w b) : NewInt w b 0 := ⟨h.blk, ⟨_, BlkAt.cell h 0⟩, BlkAt.cell h 1⟩
theorem NewRat.d {w : World} {b : Nat} (h : NewRat w b) : NewInt w b 2 := ⟨h.blk, ⟨_, BlkAt.cell h 2⟩, BlkAt.cell h 3⟩
theorem NewRat.keep {w w' : World} {b : Nat} (h : NewRat w b) (hb : Below w.heap.size w w') : NewRat w' b := BlkAt.keep h hb
def RatIs (b : Nat) (s : Bool) (N D : Nat) (w : World) (e : Ending) (w' : World) : Prop :=
  e = .returned (.pointer (some ⟨b, 0, none⟩)) ∧ RatAt 139 w' b s N D ∧ UpdB 139 b w w'
theorem ratAt_den {w : World} {b : Nat} {s : Bool} {N D : Nat} (h : BigAt 139 w b 0 s N) (h2 : w.cell? ⟨b, 2, none⟩ = some (.bool false)) (h3 : ∃ u, w.cell? ⟨b, 3, none⟩ = some u)
    {a : Option Addr} {n c : Nat} (hN : BigN 139 w a n c D) (hp : 0 < D) : RatAt 139 (w.setCell ⟨b, 3, none⟩ (.slice a n c)) b s N D := by
  obtain ⟨u3, h3⟩ := h3
  have e : ∀ (j : Nat), j ≠ 3 → (w.setCell ⟨b, 3, none⟩ (.slice a n c)).cell? ⟨b, j, none⟩ = w.cell? ⟨b, j, none⟩ := fun j h => World.cell?_setCell_other _ _ _ _ (fun hh => h (by injection hh with _ hh _; exact hh.symm))
  obtain ⟨a0, n0, c0, p0, p1, hA⟩ := h.val
  refine ⟨⟨h.blk.set _ _, ⟨a0, n0, c0, ?_, ?_, hA.set h.blk _ _⟩, h.zero⟩, ⟨h.blk.set _ _, ⟨a, n, c, ?_, ?_, hN.set h.blk _ _⟩, by simp⟩, hp⟩
  · rw [e _ (by decide)]; exact p0
  · rw [e _ (by decide)]; exact p1
  · rw [e _ (by decide)]; exact h2
  · exact World.cell?_setCell_same (u := u3) _ _ _ h3
theorem ratSetInt_new (b b1 o1 : Nat) (s : Bool) (N : Nat) (w : World) (h : NewRat w b) (h1 : BigAt 139 w b1 o1 s N) (hne : b ≠ b1) (L : Nat) (hL : L ≤ 1000000) (hN : N < W64 ^ L) :
    Calls Tryz.prog 176 #[.pointer (some ⟨b, 0, none⟩), .pointer (some ⟨b1, o1, none⟩)] w (RatIs b s N 1 w) := by
  have HS := Lib.hid (intSet_new b 0 b1 o1 s N w h.a h1 (.inl hne) L hL hN)
  have HH := Lib.hid h
  have HQ := Lib.hid (BlkAt.cell h 3)
  have HQ2 := Lib.hid (BlkAt.cell h 2)
  clear h h1 hN
  go_enter Tryz.func176, Tryz.ntmps176
  go_wp2_with fail
  refine HS.out.mono ?_
  rintro e w1 ⟨rfl, hI, hU⟩
  have q3 : w1.cell? ⟨b, 3, none⟩ = some (.slice none 0 0) := by rw [hU.rest 3 (by decide) (by decide), HQ.out]; rfl
  have q2 : w1.cell? ⟨b, 2, none⟩ = some (.bool false) := by rw [hU.rest 2 (by decide) (by decide), HQ2.out]; rfl
  have Q2 := Lib.hid q2
  have HI := Lib.hid hI
  have HU := Lib.hid hU
  clear q2 hI hU
  go_wp2_with fail
  refine (setWord_nil 1 (by omega) _).mono ?_
  rintro e w2 ⟨a, n, c, rfl, hN, hB⟩
  have HI2 := Lib.hid (HI.out.keep hB)
  have k3 := cell_keep q3 hB
  have HR := Lib.hid (ratAt_den HI2.out (cell_keep Q2.out hB) ⟨_, k3⟩ hN (by omega))
  have HF := Lib.hid ((HU.out.toB.trans (UpdB.of_below hB)).trans (UpdB.set w2 b 3 (.slice a n c)))
  have f3 := HI2.out.blk.frozen 3
  clear q3 hN hB
  go_wp2
  go_ret
  exact ⟨rfl, HR.out, HF.out⟩
theorem ratNum_any (b : Nat) (w : World) : Calls Tryz.prog 136 #[.pointer (some ⟨b, 0, none⟩)] w fun e w' => e = .returned (.pointer (some ⟨b, 0, none⟩)) ∧ w = w' := by
  go_enter Tryz.func136, Tryz.ntmps136
  go_wp2
  go_ret
  exact ⟨rfl, rfl⟩
theorem ratDenom_any (b : Nat) (s : Bool) (D : Nat) (w : World) (h : BigAt 139 w b 2 s D) (hD : 0 < D) :
    Calls Tryz.prog 138 #[.pointer (some ⟨b, 0, none⟩)] w fun e w' => e = .returned (.pointer (some ⟨b, 2, none⟩)) ∧ w = w' := by
  obtain ⟨a, n, c, h0, h1, hN⟩ := h.val
  have hp := natAt_pos_len hN.num
  have hn : 0 < n := by simpa [hD] using hp
  have hz : ((n : Int) == 0) = false := by simp; omega
  have hcm := hN.num.cm
  have hnc := hN.num.nc
  clear hp h hN
  go_enter Tryz.func138, Tryz.ntmps138
  go_wp2
  go_ret
  exact ⟨rfl, rfl⟩
end Go.Proofs.YtececkbcinmmpaaGreatDoor
namespace Go.Proofs
open Go.Shelf
def Tryz.lays125_ren : Go.Shelf.Ren := ⟨fun | 125 => 280 | 128 => 304 | 129 => 305 | n => n, fun | 46 => 53 | 3 => 3 | 51 => 119 | 53 => 165 | 4 => 4 | 5 => 5 | 9 => 9 | n => n, fun | n => n⟩
theorem Tryz.lays125 : Go.Proofs.Lays.n125 Tryz.prog Tryz.lays125_ren := {
  mixed := by kernel_rfl
  f125 := Tryz.func280.trans (congrArg some (by kernel_rfl))
  f128 := Tryz.func304.trans (congrArg some (by kernel_rfl))
  f129 := Tryz.func305.trans (congrArg some (by kernel_rfl))
  t3 := Tryz.underlying3
  a3 := Tryz.isAgg3
  z3 := Tryz.sizeOf3
  v3 := Tryz.zeroValue3
  t4 := Tryz.underlying4
  a4 := Tryz.isAgg4
  z4 := Tryz.sizeOf4
  v4 := Tryz.zeroValue4
  t5 := Tryz.underlying5
  a5 := Tryz.isAgg5
  z5 := Tryz.sizeOf5
  v5 := Tryz.zeroValue5
  t9 := Tryz.underlying9
  a9 := Tryz.isAgg9
  z9 := Tryz.sizeOf9
  v9 := Tryz.zeroValue9
  t46 := Tryz.underlying53
  a46 := Tryz.isAgg53
  z46 := Tryz.sizeOf53
  v46 := Tryz.zeroValue53
  t51 := Tryz.underlying119
  a51 := Tryz.isAgg119
  z51 := Tryz.sizeOf119
  v51 := Tryz.zeroValue119
  t53 := Tryz.underlying165
  a53 := Tryz.isAgg165
  z53 := Tryz.sizeOf165
  v53 := Tryz.zeroValue165 }
theorem Tryz.bits_Len (x : Int) (w : World) (h0 : 0 ≤ x) (h1 : x ≤ 18446744073709551615) :
    Calls Tryz.prog 280 #[.int .u64 x] w fun e w' => e = .returned (.int .i64 (Lib.bitLen x.toNat)) ∧ w' = w := Any.bits_Len Tryz.lays125 x w h0 h1
def Tryz.lays134_ren : Go.Shelf.Ren := ⟨fun | 134 => 301 | 129 => 305 | n => n, fun | 53 => 165 | 3 => 3 | 4 => 4 | 46 => 53 | 5 => 5 | 9 => 9 | n => n, fun | n => n⟩
theorem Tryz.lays134 : Go.Proofs.Lays.n134 Tryz.prog Tryz.lays134_ren := {
  mixed := by kernel_rfl
  f129 := Tryz.func305.trans (congrArg some (by kernel_rfl))
  f134 := Tryz.func301.trans (congrArg some (by kernel_rfl))
  t3 := Tryz.underlying3
  a3 := Tryz.isAgg3
  z3 := Tryz.sizeOf3
  v3 := Tryz.zeroValue3
  t4 := Tryz.underlying4
  a4 := Tryz.isAgg4
  z4 := Tryz.sizeOf4
  v4 := Tryz.zeroValue4
  t5 := Tryz.underlying5
  a5 := Tryz.isAgg5
  z5 := Tryz.sizeOf5
  v5 := Tryz.zeroValue5
  t9 := Tryz.underlying9
  a9 := Tryz.isAgg9
  z9 := Tryz.sizeOf9
  v9 := Tryz.zeroValue9
  t46 := Tryz.underlying53
  a46 := Tryz.isAgg53
  z46 := Tryz.sizeOf53
  v46 := Tryz.zeroValue53
  t53 := Tryz.underlying165
  a53 := Tryz.isAgg165
  z53 := Tryz.sizeOf165
  v53 := Tryz.zeroValue165 }
theorem Tryz.bits_LeadingZeros64 (x : Int) (w : World) (h0 : 0 ≤ x) (h1 : x ≤ 18446744073709551615) :
    Calls Tryz.prog 301 #[.int .u64 x] w fun e w' => e = .returned (.int .i64 (64 - (Lib.bitLen x.toNat : Int))) ∧ w' = w := Any.bits_LeadingZeros64 Tryz.lays134 x w h0 h1
def Tryz.lays130_ren : Go.Shelf.Ren := ⟨fun | 130 => 285 | 125 => 280 | 128 => 304 | 129 => 305 | n => n, fun | 46 => 53 | 3 => 3 | 51 => 119 | 53 => 165 | 4 => 4 | 5 => 5 | 9 => 9 | n => n, fun | n => n⟩
theorem Tryz.lays130 : Go.Proofs.Lays.n130 Tryz.prog Tryz.lays130_ren := {
  mixed := by kernel_rfl
  f125 := Tryz.func280.trans (congrArg some (by kernel_rfl))
  f128 := Tryz.func304.trans (congrArg some (by kernel_rfl))
  f129 := Tryz.func305.trans (congrArg some (by kernel_rfl))
  f130 := Tryz.func285.trans (congrArg some (by kernel_rfl))
  t3 := Tryz.underlying3
  a3 := Tryz.isAgg3
  z3 := Tryz.sizeOf3
  v3 := Tryz.zeroValue3
  t4 := Tryz.underlying4
  a4 := Tryz.isAgg4
  z4 := Tryz.sizeOf4
  v4 := Tryz.zeroValue4
  t5 := Tryz.underlying5
  a5 := Tryz.isAgg5
  z5 := Tryz.sizeOf5
  v5 := Tryz.zeroValue5
  t9 := Tryz.underlying9
  a9 := Tryz.isAgg9
  z9 := Tryz.sizeOf9
  v9 := Tryz.zeroValue9
  t46 := Tryz.underlying53
  a46 := Tryz.isAgg53
  z46 := Tryz.sizeOf53
  v46 := Tryz.zeroValue53
  t51 := Tryz.underlying119
  a51 := Tryz.isAgg119
  z51 := Tryz.sizeOf119
  v51 := Tryz.zeroValue119
  t53 := Tryz.underlying165
  a53 := Tryz.isAgg165
  z53 := Tryz.sizeOf165
  v53 := Tryz.zeroValue165 }
theorem Tryz.bits_LeadingZeros (x : Int) (w : World) (h0 : 0 ≤ x) (h1 : x ≤ 18446744073709551615) :
    Calls Tryz.prog 285 #[.int .u64 x] w fun e w' => e = .returned (.int .i64 (64 - (Lib.bitLen x.toNat : Int))) ∧ w' = w := Any.bits_LeadingZeros Tryz.lays130 x w h0 h1
open Go.RowKit Go.Lib in
def Tryz.lays212_ren : Go.Shelf.Ren := ⟨fun | 212 => 255 | 263 => 289 | 264 => 290 | n => n, fun | 46 => 53 | 51 => 119 | 146 => 271 | 53 => 165 | 148 => 273 | n => n, fun | n => n⟩
theorem Tryz.lays212 : Go.Proofs.Lays.n212 Tryz.prog Tryz.lays212_ren := {
  mixed := by kernel_rfl
  f212 := Tryz.func255.trans (congrArg some (by kernel_rfl))
  f263 := Tryz.func289.trans (congrArg some (by kernel_rfl))
  f264 := Tryz.func290.trans (congrArg some (by kernel_rfl))
  t46 := Tryz.underlying53
  a46 := Tryz.isAgg53
  z46 := Tryz.sizeOf53
  v46 := Tryz.zeroValue53
  t51 := Tryz.underlying119
  a51 := Tryz.isAgg119
  z51 := Tryz.sizeOf119
  v51 := Tryz.zeroValue119
  t53 := Tryz.underlying165
  a53 := Tryz.isAgg165
  z53 := Tryz.sizeOf165
  v53 := Tryz.zeroValue165
  t146 := Tryz.underlying271
  a146 := Tryz.isAgg271
  z146 := Tryz.sizeOf271
  v146 := Tryz.zeroValue271
  t148 := Tryz.underlying273
  a148 := Tryz.isAgg273
  z148 := Tryz.sizeOf273
  v148 := Tryz.zeroValue273 }
open Go.RowKit Go.Lib in
theorem Tryz.bits_Mul (x y : Nat) (hx : x < 18446744073709551616) (hy : y < 18446744073709551616) (w : World) :
    Calls Tryz.prog 255 #[.int .u64 x, .int .u64 y] w fun e w' => e = .returned (.tuple #[.int .u64 ((x * y / 18446744073709551616 : Nat) : Int), .int .u64 ((x * y % 18446744073709551616 : Nat) : Int)]) ∧ w' = w := Any.bits_Mul Tryz.lays212 x y hx hy w
end Go.Proofs
