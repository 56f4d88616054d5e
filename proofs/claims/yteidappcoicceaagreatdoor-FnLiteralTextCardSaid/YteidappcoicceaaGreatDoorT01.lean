/-
  Contracts and lemmas: Mu KitP Spec1 Spec2 Spec3 UqP.
-/
import Derived.Test.YteidappcoicceaaGreatDoorProg
import Derived.Conc.MuLone
import Derived.Test.YteidappcoicceaaGreatDoorT00
import Derived.KernelRfl
import Derived.WalkKit
import Derived.Lib.Bytealg
import Derived.Lib.SmallJoins
import Derived.Lib.ValidAsc
set_option linter.unusedSimpArgs false
set_option linter.unusedVariables false
set_option maxRecDepth 100000
set_option maxHeartbeats 8000000
namespace Go.Proofs.YteidappcoicceaaGreatDoor
open Go.RowKit Go.Bg Dg Go.MuLone
abbrev muLink : Go.Conc.Locks.MuLink := { lock := 62, unlock := 63, ilock := 103, iunlock := 104, lockSlow := 153, unlockSlow := 156, disable := 149, enable := 151, acquire := 152, relMerge := 154, cas32 := 150, add32 := 155, tMutex := 134, tIMutex := 132, tPMutex := 192, tPIMutex := 239, tPI32 := 241, tUP := 243, tNoCopy := 129, tU32 := 130 }
theorem muLib : Go.Conc.Locks.MuLib Tryz.prog muLink :=
  ⟨Tryz.func62, Tryz.func63, Tryz.func103, Tryz.func104, Tryz.func149, Tryz.func151, Tryz.func152, Tryz.func154, Tryz.func150, Tryz.func155, Tryz.underlying132, Tryz.runUnderlying132, Tryz.sizeOf132, Tryz.isAgg132, Tryz.zeroValue132, Tryz.underlying134, Tryz.runUnderlying134, Tryz.sizeOf134, Tryz.isAgg134, Tryz.zeroValue134, Tryz.underlying192, Tryz.runUnderlying192, Tryz.sizeOf192, Tryz.isAgg192, Tryz.zeroValue192, Tryz.underlying239, Tryz.runUnderlying239, Tryz.sizeOf239, Tryz.isAgg239, Tryz.zeroValue239, Tryz.underlying241, Tryz.runUnderlying241, Tryz.sizeOf241, Tryz.isAgg241, Tryz.zeroValue241, Tryz.underlying243, Tryz.runUnderlying243, Tryz.sizeOf243, Tryz.isAgg243, Tryz.zeroValue243, Tryz.underlying129, Tryz.runUnderlying129, Tryz.sizeOf129, Tryz.isAgg129, Tryz.zeroValue129, Tryz.underlying21, Tryz.runUnderlying21, Tryz.sizeOf21, Tryz.isAgg21, Tryz.zeroValue21, (by kernel_rfl)⟩
def TextAt (w : World) (b : Nat) (s : ByteArray) : Prop :=
  BlkAt w b #[.int .i32 0, .int .u32 0, .string s, .pointer none, .pointer none] 136
theorem stringOf_any (b : Nat) (s : ByteArray) (w : World) (h : TextAt w b s) :
    Calls Tryz.prog 38 #[.pointer (some ⟨b, 0, none⟩)] w fun e w' => e = .returned (.string s) ∧
      w' = (w.setCell ⟨b, 0, none⟩ (.int .i32 1)).setCell ⟨b, 0, none⟩ (.int .i32 0) := by
  have h0 := h.cell 0
  have h2 := h.cell 2
  have h3 := h.cell 3
  simp only [List.getElem?_toArray, List.getElem?_cons_zero, List.getElem?_cons_succ] at h0 h2 h3
  have f0 := h.frozen 0
  clear h
  go_enter_defers Tryz.func38, Tryz.ntmps38
  go_wp2_with (go_at_call 62; refine (lock_free muLib ⟨b, 0, none⟩ _ h0 f0).mono ?_; rintro e w' ⟨rfl, rfl⟩)
  refine leaves_cons (f := 63) (args := #[.pointer (some ⟨b, 0, none⟩)]) (by simp) (by simp [go_sem]) ?_
  refine (unlock_deferred muLib ⟨b, 0, none⟩ .returning _ ?_ ?_).mono ?_
  · exact World.cell?_setCell_same w ⟨b, 0, none⟩ (.int .i32 1) h0
  · simp [f0]
  rintro e u' w'' ⟨rfl, rfl, rfl⟩
  exact ⟨_, results_tmp rfl _ _ _, rfl, rfl⟩
end Go.Proofs.YteidappcoicceaaGreatDoor
namespace Go.Proofs.YteidappcoicceaaGreatDoor
theorem infoInt : (Tryz.prog.info? 3).map (fun i => (i.zero, i.size, i.bytes)) = some (some (.int .i64 0), 1, 8) := by kernel_rfl
end Go.Proofs.YteidappcoicceaaGreatDoor
namespace Go.Proofs.YteidappcoicceaaGreatDoor
open Go.RowKit Go.Bg Dg
theorem trim_any (a : Option Addr) (n c : Nat) (f : Nat → Nat) (w : World)
    (hn : n ≤ 1000000000) (hnc : n ≤ c) (hc : Cells w a n (fun i => .int .i64 (f i : Nat))) :
    Calls Tryz.prog 37 #[.slice a n c] w fun e w' => e = .returned (.slice a (tlen f n) c) ∧ w = w' := by
  go_enter Tryz.func37, Tryz.ntmps37
  go_wp2
  go_loop [0] (fun v => ∃ m : Nat, m ≤ n ∧ v = .slice a m c ∧ tlen f m = tlen f n) (fun v => sliceLen v)
  case atStart => exact ⟨n, Nat.le_refl _, rfl, rfl⟩
  case round =>
    obtain ⟨m, hm, rfl, ht⟩ := hrel
    have HT := Lib.hid ht; clear ht
    by_cases h0 : 0 < m
    · obtain ⟨b, off, rfl, hcell⟩ := hc (by omega)
      have hcm := hcell (m - 1) (by omega)
      obtain ⟨k, rfl⟩ : ∃ k, m = k + 1 := ⟨m - 1, by omega⟩
      clear hc hcell
      simp only [Nat.add_sub_cancel] at hcm
      go_wp2
      · have hz : ((f k : Int) == 0) = true := by assumption
        have hz : f k = 0 := by simpa using hz
        go_round
        case rel => exact ⟨k, by omega, rfl, by rw [← HT.out, tlen, if_pos hz]⟩
        case measure => simp [sliceLen]
      · have hz : ((f k : Int) == 0) = false := by assumption
        have hz : f k ≠ 0 := by simpa using hz
        go_ret
        exact ⟨ret_slice (by rw [← HT.out, tlen, if_neg hz]), rfl⟩
    · obtain rfl : m = 0 := by omega
      go_wp2
      go_ret
      exact ⟨ret_slice HT.out, rfl⟩
def dig (X k : Nat) : Value := .int .i64 (dg 65536 X k : Nat)
theorem natAt_of_row {w : World} {g n cap X : Nat} (hX : X < 65536 ^ n) (hnc : n ≤ cap) (hcm : cap ≤ maxLen) (hcell : ∀ i, i < n → w.cell? ⟨g, i, none⟩ = some (dig X i)) :
    NatAt w (some ⟨g, 0, none⟩) (tlen (dg 65536 X) n) cap X :=
  ⟨tlen_lt hX, tlen_top hX, Nat.le_trans (tlen_le _ _) hnc, hcm, fun _ => ⟨g, 0, rfl, fun i hi => by rw [Nat.zero_add]; exact hcell i (Nat.lt_of_lt_of_le hi (tlen_le _ _))⟩⟩
theorem row_cells {w : World} {g n : Nat} {f : Nat → Value} (h : ∀ i, i < n → w.cell? ⟨g, i, none⟩ = ((List.range n).map f)[i]?) : ∀ i, i < n → w.cell? ⟨g, i, none⟩ = some (f i) := by
  intro i hi
  rw [h i hi]; simp [hi]
theorem small_any (n : Nat) (w : World) (hn : n ≤ 9000000000000000000) : Calls Tryz.prog 14 #[.int .i64 n] w (Gives .i64 65536 n w) := by
  obtain ⟨i0, hi, hz0, hz1, hz2⟩ := info_parts infoInt
  go_enter Tryz.func14, Tryz.ntmps14
  go_wp2
  go_loopw [0, 3] (fun m out wr => ∃ k : Nat, k ≤ 5 ∧ m = .int .i64 (n / 65536 ^ k : Nat) ∧ (k = 0 ∨ 65536 ^ (k - 1) ≤ n) ∧
      wr.ownsRow w.heap.size 3 1 out k ((List.range k).map (dig n)) ∧ out ≠ .slice none 0 0 ∧ Below w.heap.size w wr)
    (fun m _ _ => (intOf m).toNat)
  case atStart => exact ⟨0, Nat.zero_le _, by simp, .inl rfl, World.ownsRow_made w #[] 0 (Nat.le_refl _) (by simp [maxLen]) rfl, by simp, (Below.refl _ _).alloc (Nat.le_refl _) _⟩
  case round =>
    obtain ⟨k, hk, rfl, htop, hown, hne, hbel⟩ := hrel
    have hq : n / 65536 ^ k ≤ 9000000000000000000 := Nat.le_trans (Nat.div_le_self _ _) hn
    by_cases hpos : 0 < n / 65536 ^ k
    · have hk4 : k + 1 ≤ 5 := by
        have : 65536 ^ k ≤ n := by
          refine Nat.le_of_not_lt fun h => ?_
          rw [Nat.div_eq_of_lt h] at hpos; omega
        refine Nat.lt_of_not_le fun h => ?_
        obtain rfl : k = 5 := by omega
        simp at this; omega
      have ht : 65536 ^ k ≤ n := by
        refine Nat.le_of_not_lt fun h => ?_
        rw [Nat.div_eq_of_lt h] at hpos; omega
      have hd : n / 65536 ^ k % 65536 = dg 65536 n k := rfl
      have hs : n / 65536 ^ (k + 1) = n / 65536 ^ k / 65536 := by rw [Nat.pow_succ, Nat.div_div_eq_div_mul]
      have H1 := Lib.hid hd
      have H2 := Lib.hid hs
      have H3 := Lib.hid ht
      clear hd hs ht
      generalize n / 65536 ^ k = q at *
      go_wp2_with (at_builtin; refine wpList_app1 rfl _ _ 35 rfl w.heap.size 3 i0 _ 8 Tryz.underlying35 hi hz0 hz1 hz2 rfl (by decide) _ _ _ _ rfl rfl rfl hown rfl (by omega) (hbel).size ?_; intro v' w1 hown1 hbel1 hne1)
      have hown1 : w1.ownsRow w.heap.size 3 1 v' (k + 1) ((List.range (k + 1)).map (dig n)) := by
        rw [map_range_succ, dig, ← H1.out]; exact hown1
      go_roundw
      case rel => exact ⟨k + 1, hk4, by rw [H2.out]; rfl, .inr H3.out, hown1, hne1, hbel.trans hbel1⟩
      case measure => simp [intOf]; omega
    · have h0 : n / 65536 ^ k = 0 := Nat.eq_zero_of_not_pos hpos
      rw [h0]
      have hlt : n < 65536 ^ k := by
        refine Nat.lt_of_not_le fun h => ?_
        have := Nat.div_pos h (Nat.pow_pos (by decide))
        omega
      have HL := Lib.hid hlt
      have HT := Lib.hid htop
      clear hlt htop h0 hpos hq
      go_wp2
      obtain ⟨g, cap, rfl, hg, hgs, hnc, hcm, hcell⟩ := own_form hown hne
      have HC := Lib.hid (row_cells hcell)
      go_ret
      exact ⟨_, _, _, rfl, ⟨HL.out, HT.out, hnc, hcm, fun _ => ⟨g, 0, rfl, fun i hi => by rw [Nat.zero_add]; exact HC.out i hi⟩⟩, hbel⟩
def GivesQ (Q r : Nat) (w : World) (e : Ending) (w' : World) : Prop :=
  ∃ a n c, e = .returned (.tuple #[.slice a n c, .int .i64 r]) ∧ NatAt w' a n c Q ∧ Below w.heap.size w w'
theorem rowIs_cells {w : World} {b : Nat} {t : TypeId} {n : Nat} {f : Nat → Value} (h : w.rowIs b t n f) : ∀ i, i < n → w.cell? ⟨b, i, none⟩ = some (f i) := fun _ hi => h.cell hi
theorem byDigit_any (a1 : Option Addr) (n1 c1 N d : Nat) (w : World) (h1 : NatAt w a1 n1 c1 N) (hb1 : n1 ≤ 1000000) (hd1 : 1 ≤ d) (hd2 : d ≤ 65535) :
    Calls Tryz.prog 32 #[.slice a1 n1 c1, .int .i64 d] w (GivesQ (N / d) (N % d) w) := by
  have hmk := run_make_row' (P := Tryz.prog) 35 3 (.int .i64 0) 8 Tryz.underlying35 infoInt rfl .i64 .i64 n1 (by omega) (by omega)
  go_enter Tryz.func32, Tryz.ntmps32
  go_wp2
  go_loopw [7, 8] (fun rest i wr => ∃ m : Nat, m ≤ n1 ∧ i = .int .i64 ((m : Int) - 1) ∧ rest = .int .i64 (N / 65536 ^ m % d : Nat) ∧
      wr.rowIs w.heap.size 3 n1 (fun j => if j < m then .int .i64 0 else dig (N / d) j) ∧ Below w.heap.size w wr)
    (fun _ i _ => (intOf i + 1).toNat)
  case atStart =>
    exact ⟨n1, Nat.le_refl _, rfl, by rw [Nat.div_eq_of_lt h1.lt]; simp, (World.rowIs_made w (.int .i64 0) n1 3).congr (fun i hi => by rw [if_pos hi]), (Below.refl _ _).alloc (Nat.le_refl _) _⟩
  case round =>
    obtain ⟨m, hm, rfl, rfl, hrow, hbel⟩ := hrel
    have h1' := h1.keep hbel
    have hl1 := h1.lt
    clear h1 hmk
    by_cases h0 : 0 < m
    · obtain ⟨k, rfl⟩ : ∃ k, m = k + 1 := ⟨m - 1, by omega⟩
      obtain ⟨b1, o1, rfl, _⟩ := h1'.form (by omega)
      have e1 := h1'.cell (i := k) (by omega)
      have d1 : dg 65536 N k < 65536 := dg_lt (by decide) _ _
      have hst := byDigit_step (B := 65536) (by decide) N d k (by omega)
      have hr : N / 65536 ^ (k + 1) % d < d := Nat.mod_lt _ (by omega)
      have hk : ((k + 1 : Nat) : Int) - 1 = k := by omega
      rw [hk]
      have hfz := hrow.frozen k
      have hlt := hrow.lt
      have hold := hrow.cell (i := k) (by omega)
      simp only [if_pos (Nat.lt_succ_self k)] at hold
      have HR := Lib.hid hrow
      have fin : ∀ (v : Int), v = ((N / 65536 ^ (k + 1) % d : Nat) : Int) * 65536 + (dg 65536 N k : Nat) →
          (wr.setCell ⟨w.heap.size, k, none⟩ (.int .i64 (v / d))).rowIs w.heap.size 3 n1 (fun j => if j < k then .int .i64 0 else dig (N / d) j) ∧ Value.int .i64 (v % d) = .int .i64 (N / 65536 ^ k % d : Nat) := by
        intro v hv
        have hv' : v = ((N / 65536 ^ (k + 1) % d * 65536 + dg 65536 N k : Nat) : Int) := by rw [hv]; simp
        refine ⟨(hrow.set k _).congr fun j hj => ?_, by rw [hv', ← hst.2]; simp⟩
        by_cases hjk : j = k
        · subst hjk
          rw [if_pos rfl, if_neg (by omega), dig, ← hst.1, hv']; simp
        · rw [if_neg hjk]
          by_cases hj2 : j < k
          · rw [if_pos hj2, if_pos (by omega)]
          · rw [if_neg hj2, if_neg (by omega)]
      have HF := Lib.hid fin
      clear fin hst hrow hl1 hk h1'
      generalize N / 65536 ^ (k + 1) % d = r at *
      generalize dg 65536 N k = x at *
      go_wp2
      have F := HF.out _ rfl
      go_roundw
      case rel => exact ⟨k, by omega, rfl, F.2, F.1, hbel.setCell (Nat.le_refl _) _⟩
      case measure => simp [intOf]
    · obtain rfl : m = 0 := by omega
      have hq : N / d < 65536 ^ n1 := Nat.lt_of_le_of_lt (Nat.div_le_self _ _) hl1
      have HL := Lib.hid hq
      have hrow' : wr.rowIs w.heap.size 3 n1 (dig (N / d)) := hrow.congr fun i hi => by simp
      have HC := Lib.hid (rowIs_cells hrow')
      have hr : N / 65536 ^ 0 % d = N % d := by simp
      rw [hr]
      clear hrow hrow' hl1 hq h1' hr
      go_wp2_with (go_at_call 37; refine (trim_any _ _ _ (dg 65536 (N / d)) _ (by omega) (Nat.le_refl _) (fun _ => ⟨_, 0, rfl, fun i hi => by rw [Nat.zero_add]; exact HC.out i hi⟩)).mono ?_; rintro e w2 ⟨rfl, rfl⟩)
      go_ret2
      exact ⟨_, _, _, rfl, natAt_of_row HL.out (Nat.le_refl _) (by unfold maxLen; omega) HC.out, hbel⟩
end Go.Proofs.YteidappcoicceaaGreatDoor
namespace Go.Bg
def txt (l : List UInt8) : ByteArray := ⟨l.toArray⟩
theorem txt_list (l : List UInt8) : (txt l).data.toList = l := by simp [txt]
theorem txt_size (l : List UInt8) : (txt l).size = l.length := by simp [txt, ByteArray.size]
theorem txt_of {s : ByteArray} {l : List UInt8} (h : s.data.toList = l) : s = txt l := by
  subst h; exact (Go.Joins.bytes_eta s).symm
theorem txt_append (a b : List UInt8) : txt a ++ txt b = txt (a ++ b) := by
  refine txt_of ?_
  rw [Go.Joins.data_append]; simp [txt_list]
theorem txt_extract (l : List UInt8) (i j : Nat) : (txt l).extract i j = txt ((l.take j).drop i) := by
  refine txt_of ?_
  simp [txt, ByteArray.data_extract, List.drop_take]
theorem txt_get (l : List UInt8) (i : Nat) (h : i < (txt l).size) : (txt l)[i]'h = l[i]'(by rwa [txt_size] at h) := by
  simp [txt]; rfl
def hx (d : Nat) : UInt8 := if d < 10 then UInt8.ofNat (48 + d) else UInt8.ofNat (87 + d)
def esc1 (b : UInt8) : List UInt8 := [92, 120, hx (b.toNat / 16), hx (b.toNat % 16)]
def escs (l : List UInt8) : List UInt8 := l.flatMap esc1
theorem escs_cons (b : UInt8) (l : List UInt8) : escs (b :: l) = 92 :: 120 :: hx (b.toNat / 16) :: hx (b.toNat % 16) :: escs l := by simp [escs, esc1]
theorem escs_append (a b : List UInt8) : escs (a ++ b) = escs a ++ escs b := by simp [escs]
theorem escs_len (l : List UInt8) : (escs l).length = 4 * l.length := by
  induction l with
  | nil => rfl
  | cons b l ih => rw [escs_cons]; simp [ih]; omega
theorem hx_toNat : ∀ d : Fin 16, (hx d.val).toNat = if d.val < 10 then 48 + d.val else 87 + d.val := by decide
theorem hx_not : ∀ d : Fin 16, hx d.val ≠ 34 ∧ hx d.val ≠ 10 ∧ hx d.val ≠ 92 := by decide
theorem escs_mem (l : List UInt8) (c : UInt8) (h : c ∈ escs l) : c ≠ 34 ∧ c ≠ 10 := by
  induction l with
  | nil => simp [escs] at h
  | cons b l ih =>
    rw [escs_cons] at h
    have h1 := hx_not ⟨b.toNat / 16, by have := b.toNat_lt; omega⟩
    have h2 := hx_not ⟨b.toNat % 16, by omega⟩
    simp only [List.mem_cons] at h
    rcases h with rfl | rfl | rfl | rfl | h
    · decide
    · decide
    · exact ⟨h1.1, h1.2.1⟩
    · exact ⟨h2.1, h2.2.1⟩
    · exact ih h
end Go.Bg
namespace Go.Bg
open Go.Lib
theorem indexByte_not (l : List UInt8) (c : UInt8) (h : ∀ x ∈ l, x ≠ c) : indexByte l c = -1 := by
  induction l with
  | nil => rfl
  | cons b l ih =>
    have hb : (b == c) = false := by simpa using h b (by simp)
    have hl := ih fun x hx => h x (by simp [hx])
    simp [indexByte, hb, hl]
theorem indexByte_at (l r : List UInt8) (c : UInt8) (h : ∀ x ∈ l, x ≠ c) : indexByte (l ++ c :: r) c = (l.length : Nat) := by
  induction l with
  | nil => simp [indexByte]
  | cons b l ih =>
    have hb : (b == c) = false := by simpa using h b (by simp)
    have hl := ih fun x hx => h x (by simp [hx])
    have : ¬ ((l.length : Nat) : Int) = -1 := by omega
    simp [indexByte, hb, hl, this]
theorem indexByte_has (l : List UInt8) (c : UInt8) (h : c ∈ l) : 0 ≤ indexByte l c := by
  induction l with
  | nil => cases h
  | cons b l ih =>
    by_cases hb : b = c
    · simp [indexByte, hb]
    · have hl := ih (by simp at h; rcases h with h | h; exact absurd h.symm hb; exact h)
      have : ¬ indexByte l c = -1 := by omega
      simp [indexByte, hb, this]; omega
end Go.Bg
