/-
  What a reading of the arguments gives: the nine cells of a value.
-/
import Derived.Test.YtdkipndepkblhaaGreatDoorProg
import Derived.KernelRfl
import Derived.ChangeSlices
import Derived.WideShapes
import Derived.Test.YtdkipndepkblhaaGreatDoorBuA
set_option linter.unusedSimpArgs false
set_option linter.unusedVariables false
namespace Go.Bg
open Go.RowKit Go.ChangeShapes Go.WideShapes Dg

theorem spot_none {w : World} {a : Addr} {v : Value} (h : w.cell? a = some v) : a = ⟨a.block, a.off, none⟩ := by
  obtain ⟨b, o, s⟩ := a
  cases s with
  | none => rfl
  | some k =>
    simp only [World.cell?] at h
    split at h <;> simp at h

theorem open_words {H : Type} {enc : TypeId × Value → H} {P : Program} {w : World} {base : Nat} {spare : Nat → Bool} {held : Bool} {t e : TypeId} {fuel : Nat} {cs : List Value} {x : DataW H × List MemPlace}
    (ht : P.underlying t = some (.slice e)) (he : P.underlying e = some (.int .u64)) (hc : P.cellsOf e = 1)
    (h : DataW.trod enc P w base spare held fuel t cs = some x) : ∃ a n c f, cs = [.slice a n c] ∧ WordsAt w a n c f := by
  rcases open_ints ht he hc h with ⟨rfl, _⟩ | ⟨a, len, cap, zs, rfl, _, hlc, hcm, hlen, _, hcell, hwf⟩
  · exact ⟨none, 0, 0, fun _ => 0, rfl, ⟨fun h => by omega, fun i h => by omega, Nat.le_refl _, by simp [maxLen], fun _ => rfl⟩⟩
  · have hz : len ≤ zs.length := by rw [hlen]; split <;> omega
    have hbd : ∀ i, i < len → 0 ≤ zs.getD i 0 ∧ zs.getD i 0 < 18446744073709551616 := by
      intro i hi
      have hm : zs.getD i 0 ∈ zs := by
        rw [List.getD_eq_getElem?_getD, List.getElem?_eq_getElem (show i < zs.length by omega)]
        exact List.getElem_mem _
      have := hwf _ hm
      simp [Lit.wf, IntKind.min, IntKind.max, IntKind.bits, IntKind.signed] at this
      simp only [List.getD_eq_getElem?_getD]
      omega
    refine ⟨some a, len, cap, fun i => (zs.getD i 0).toNat, rfl, ⟨fun h0 => ?_, fun i hi => ?_, hlc, hcm, by simp⟩⟩
    · have c0 := hcell 0 (by omega)
      have hs := spot_none (by simpa [Addr.add] using c0)
      refine ⟨a.block, a.off, by rw [← hs], fun i hi => ?_⟩
      have hci := hcell i (by omega)
      have hb := hbd i hi
      have e : a.add i = ⟨a.block, a.off + i, none⟩ := by
        rw [hs]; unfold Addr.add; split
        · next h => subst h; rfl
        · rfl
      rw [e] at hci
      rw [hci]
      simp only [Option.some.injEq, Value.int.injEq, true_and]
      omega
    · have hb := hbd i hi
      show (zs.getD i 0).toNat < W64
      unfold W64
      omega
end Go.Bg

namespace Go.Bg
theorem trodVars_len {H : Type} {enc : TypeId × Value → H} {P : Program} {w : World} {sp : Nat → Bool} : ∀ {ns : List String} {gs : List (DataW H)} {ps : List MemPlace}, DataW.TrodVars enc P w sp ns gs ps → gs.length = ns.length
  | [], [], _, _ => rfl
  | [], _ :: _, _, h => h.elim
  | _ :: _, [], _, h => h.elim
  | n :: ns, d :: ds, ps, h => by
    obtain ⟨_, _, _, _, _, _, _, _, _, _, hs, _⟩ := h
    simp [trodVars_len hs]
theorem list4 {α : Type} {l : List α} (h : l.length = 4) : ∃ c0 c1 c2 c3, l = [c0, c1, c2, c3] := by
  match l, h with
  | [c0, c1, c2, c3], _ => exact ⟨c0, c1, c2, c3, rfl⟩
theorem array9 {α : Type} {cs : Array α} (h : cs.size = 9) : ∃ c0 c1 c2 c3 c4 c5 c6 c7 c8, cs = #[c0, c1, c2, c3, c4, c5, c6, c7, c8] := by
  obtain ⟨l⟩ := cs
  match l, h with
  | [c0, c1, c2, c3, c4, c5, c6, c7, c8], _ => exact ⟨c0, c1, c2, c3, c4, c5, c6, c7, c8, rfl⟩
theorem list7 {α : Type} {l : List α} (h : l.length = 7) : ∃ c0 c1 c2 c3 c4 c5 c6, l = [c0, c1, c2, c3, c4, c5, c6] := by
  match l, h with
  | [c0, c1, c2, c3, c4, c5, c6], _ => exact ⟨c0, c1, c2, c3, c4, c5, c6, rfl⟩
theorem list2 {α : Type} {l : List α} (h : l.length = 2) : ∃ c0 c1, l = [c0, c1] := by
  match l, h with
  | [c0, c1], _ => exact ⟨c0, c1, rfl⟩
end Go.Bg
namespace Go.Proofs.YtdkipndepkblhaaGreatDoor
open Go.RowKit Go.ChangeShapes Go.WideShapes Go.Bg Dg

theorem cellsValue : Tryz.prog.cellsOf 26 = 9 := by kernel_rfl
theorem cellsNumber : Tryz.prog.cellsOf 24 = 2 := by kernel_rfl
theorem cellsWords : Tryz.prog.cellsOf 22 = 1 := by kernel_rfl
theorem cellsUint : Tryz.prog.cellsOf 44 = 1 := by kernel_rfl
theorem cellsInt : Tryz.prog.cellsOf 3 = 1 := by kernel_rfl
theorem cellsBool : Tryz.prog.cellsOf 4 = 1 := by kernel_rfl
theorem cellsString : Tryz.prog.cellsOf 9 = 1 := by kernel_rfl

set_option maxRecDepth 100000 in
theorem open_num {H : Type} {enc : TypeId × Value → H} {w : World} {base : Nat} {spare : Nat → Bool} {held : Bool} {fuel : Nat} {c0 c1 : Value} {x : DataW H × List MemPlace}
    (h : DataW.trod enc Tryz.prog w base spare held fuel 24 [c0, c1] = some x) : ∃ b a n c f, c0 = .bool b ∧ c1 = .slice a n c ∧ WordsAt w a n c f := by
  obtain ⟨xs, n, _, rfl, hl, hlen, hf⟩ := DataW.trod_struct Tryz.underlying24 h
  obtain ⟨y0, y1, rfl⟩ := list2 hlen
  have h0 := hf 0 _ rfl
  have h1 := hf 1 _ rfl
  simp only [cellsBool, cellsWords, List.drop_zero, List.take_succ_cons, List.take_zero, List.drop_succ_cons, List.getElem?_cons_zero, List.getElem?_cons_succ] at h0 h1
  obtain ⟨b, e0, _⟩ := DataW.trod_bool Tryz.underlying4 h0
  obtain ⟨a, m, c, f, e1, hw⟩ := open_words Tryz.underlying22 Tryz.underlying44 cellsUint h1
  injection e0 with e0 _
  injection e1 with e1 _
  exact ⟨b, a, m, c, f, e0, e1, hw⟩

set_option maxRecDepth 100000 in
theorem open_vl {H : Type} {enc : TypeId × Value → H} {w : World} {base : Nat} {spare : Nat → Bool} {held : Bool} {r : Reach} {b0 : Nat} {v : Value} {d : DataW H} {ps : List MemPlace}
    (hval : Value.okWide Tryz.prog w r b0 26 v) (h : DataW.Trod enc Tryz.prog w base spare held 26 v d ps) : ∃ x : Vl, v = .agg #[.int .i64 x.kind, .bool x.truth, .string x.text, .bool x.neg, .slice x.wa x.wn x.wc, .slice x.da x.dn x.dc, .bool x.ineg, .slice x.ia x.inn x.ic, .slice x.ea x.en x.ec] ∧ VlAt w x := by
  obtain ⟨cs, rfl, hsz⟩ := okWide_struct Tryz.underlying26 hval
  obtain ⟨c0, c1, c2, c3, c4, c5, c6, c7, c8, rfl⟩ := array9 (hsz.trans cellsValue)
  obtain ⟨fuel, hf⟩ := h
  obtain ⟨xs, n, _, _, hl, hlen, hg⟩ := DataW.trod_struct Tryz.underlying26 hf
  obtain ⟨y0, y1, y2, y3, y4, y5, y6, rfl⟩ := list7 hlen
  have g0 := hg 0 _ rfl
  have g1 := hg 1 _ rfl
  have g2 := hg 2 _ rfl
  have g3 := hg 3 _ rfl
  have g4 := hg 4 _ rfl
  have g5 := hg 5 _ rfl
  have g6 := hg 6 _ rfl
  simp only [Value.cells, cellsInt, cellsBool, cellsString, cellsNumber, cellsWords, List.drop_zero, List.take_succ_cons, List.take_zero, List.drop_succ_cons, List.getElem?_cons_zero, List.getElem?_cons_succ] at g0 g1 g2 g3 g4 g5 g6
  obtain ⟨k, e0, _, hk⟩ := DataW.trod_int Tryz.underlying3 g0
  obtain ⟨tr, e1, _⟩ := DataW.trod_bool Tryz.underlying4 g1
  obtain ⟨tx, e2, _, htx⟩ := DataW.trod_string Tryz.underlying9 g2
  obtain ⟨ng, wa, wn, wc, wf, e3, e4, hw⟩ := open_num g3
  obtain ⟨da, dn, dc, df, e5, hd⟩ := open_words Tryz.underlying22 Tryz.underlying44 cellsUint g4
  obtain ⟨ig, ia, inn, ic, jf, e6, e7, hi⟩ := open_num g5
  obtain ⟨ea, en, ec, ef, e8, he⟩ := open_words Tryz.underlying22 Tryz.underlying44 cellsUint g6
  injection e0 with e0 _
  injection e1 with e1 _
  injection e2 with e2 _
  injection e5 with e5 _
  injection e8 with e8 _
  subst e0 e1 e2 e3 e4 e5 e6 e7 e8
  refine ⟨⟨k, tr, tx, ng, wa, wn, wc, wf, da, dn, dc, df, ig, ia, inn, ic, jf, ea, en, ec, ef⟩, rfl, ⟨hw, hd, hi, he, htx, ?_⟩⟩
  simp [Lit.wf, IntKind.min, IntKind.max, IntKind.bits, IntKind.signed] at hk
  show -9223372036854775808 ≤ k ∧ k ≤ 9223372036854775807
  omega

set_option maxRecDepth 100000 in
theorem open_u8 {H : Type} {enc : TypeId × Value → H} {w : World} {base : Nat} {spare : Nat → Bool} {held : Bool} {r : Reach} {b0 : Nat} {v : Value} {d : DataW H} {ps : List MemPlace}
    (hval : Value.okWide Tryz.prog w r b0 5 v) (h : DataW.Trod enc Tryz.prog w base spare held 5 v d ps) : ∃ n : Nat, v = .int .u8 n ∧ n < 256 := by
  obtain ⟨n, rfl, _, _, hw⟩ := open_int Tryz.underlying5 hval h
  simp [Lit.wf, IntKind.min, IntKind.max, IntKind.bits, IntKind.signed] at hw
  exact ⟨n.toNat, by rw [Int.toNat_of_nonneg (by omega)], by omega⟩
end Go.Proofs.YtdkipndepkblhaaGreatDoor
