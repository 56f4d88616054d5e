/-
  Contracts and lemmas: OpsRQuo MixB Open OpenT Open4 ThrL CmpB SpT SpUp.
-/
import Derived.Test.YtececkbcinmmpaaGreatDoorM36
import Derived.Test.YtececkbcinmmpaaGreatDoorM38
import Derived.Test.YtececkbcinmmpaaGreatDoorM37
import Derived.Test.YtececkbcinmmpaaGreatDoorProg
import Derived.KernelRfl
import Derived.ChangeSlices
import Derived.WideShapes
import Derived.Test.YtececkbcinmmpaaGreatDoorM04
import Derived.ChangeShapes
import Derived.LaidLaws
import Derived.ChangeArms
import Derived.Test.YtececkbcinmmpaaGreatDoorM15
import Derived.Test.YtececkbcinmmpaaGreatDoorM12
set_option linter.unusedSimpArgs false
set_option linter.unusedVariables false
set_option maxRecDepth 100000
set_option maxHeartbeats 8000000
namespace Go.Proofs.YtececkbcinmmpaaGreatDoor
open Go.RowKit Go.Bg Dg
theorem bndQuo (r q : Rt) (L : Nat) (hr : r.num < W64 ^ L ∧ r.den < W64 ^ L) (hq : q.num < W64 ^ L ∧ q.den < W64 ^ L) (hd : 0 < r.den) (he : 0 < q.den) (h0 : 0 < q.num) : (Rt.times r q.upside).num < W64 ^ (L + L + 1) ∧ (Rt.times r q.upside).den < W64 ^ (L + L + 1) ∧ ROk (Rt.times r q.upside) := by
  obtain ⟨s, N, D⟩ := r
  obtain ⟨t, M, E⟩ := q
  dsimp only at hr hq hd he h0
  rw [← times_over]
  have h3 := pow_step (L + L)
  have a1 : N * E < W64 ^ (L + L) := by rw [Nat.pow_add]; exact Nat.mul_lt_mul'' hr.1 hq.2
  have a2 : M * D < W64 ^ (L + L) := by rw [Nat.pow_add]; exact Nat.mul_lt_mul'' hq.1 hr.2
  have a3 : D * E < W64 ^ (L + L) := by rw [Nat.pow_add]; exact Nat.mul_lt_mul'' hr.2 hq.2
  have e1 := sg_nat s (N * E)
  have e2 := sg_nat t (M * D)
  have e3 : 0 < D * E := Nat.mul_pos hd he
  have e4 : 0 < M * D := Nat.mul_pos h0 hd
  have hx : (N * E) < W64 ^ (L + L + 1) ∧ (M * D) < W64 ^ (L + L + 1) ∧ 0 < (M * D) := by
    generalize W64 ^ (L + L + 1) = P at *
    generalize W64 ^ (L + L) = Q at *
    refine ⟨?_, ?_, ?_⟩ <;> omega
  have hz := fun s => over_lt (s := s) hx.1 hx.2.1
  exact ⟨(hz _).1, (hz _).2, rok_over _ _ _ hx.2.2⟩
def mixZ (k : Nat) (r q : Rt) : Rt := if k = 0 then Rt.plus r q else if k = 1 then Rt.minus r q else if k = 2 then Rt.times r q else Rt.times r q.upside
def Mixd (w : World) (v1 : Value) (r : Rt) (v2 : Value) (q : Rt) : Prop := (∃ z, CInt w v1 z ∧ r = rz z ∧ CRat w v2 q) ∨ (CRat w v1 r ∧ ∃ z, CInt w v2 z ∧ q = rz z)
theorem binMix_any (k : Nat) (hk : k < 4) (v1 v2 : Value) (r q : Rt) (w : World) (hK : Thr w) (hT : ThrD w) (h : Mixd w v1 r v2 q) (h0 : k = 3 → 0 < q.num) (L : Nat) (hL : L + L ≤ 38) (hr : r.num < W64 ^ L ∧ r.den < W64 ^ L) (hq : q.num < W64 ^ L ∧ q.den < W64 ^ L) :
    Calls Tryz.prog 48 #[v1, .int .i64 (opTok k), v2] w fun e w' => ∃ u, e = .returned u ∧ CRat w' u (mixZ k r q) ∧ Below w.heap.size w w' := by
  have hm : Calls Tryz.prog 73 #[v1, v2] w (MatR r q w) := by
    rcases h with ⟨z, h1, rfl, h2⟩ | ⟨h1, z, h2, rfl⟩
    · exact matchIR_any v1 v2 z q w h1 h2 L (by omega) hr.1
    · exact matchRI_any v2 v1 z r w h2 h1 L (by omega) hq.1
  rcases (by omega : k = 0 ∨ k = 1 ∨ k = 2 ∨ k = 3) with rfl | rfl | rfl | rfl
  · exact (binRAdd_any v1 v2 r q w hK hT hm L L hL hr hq).mono fun e w' ⟨u, he, hu, _, _, _, hB, _⟩ => ⟨u, he, hu, hB⟩
  · exact (binRSub_any v1 v2 r q w hK hT hm L L hL hr hq).mono fun e w' ⟨u, he, hu, _, _, _, hB, _⟩ => ⟨u, he, hu, hB⟩
  · rcases h with ⟨z, h1, rfl, b, s, N, D, rfl, hR, rfl⟩ | ⟨⟨b, s, N, D, rfl, hR, rfl⟩, z, h2, rfl⟩
    · exact (binRMulM_any _ _ _ _ _ _ _ _ w hK hT (matchIRA_any v1 b z s N D w h1 hR L (by omega) hr.1) L L hL hr hq).mono fun e w' ⟨u, he, hu, _, _, _, hB, _⟩ => ⟨u, he, hu, hB⟩
    · exact (binRMulM_any _ _ _ _ _ _ _ _ w hK hT (matchRIA_any v2 b z s N D w h2 hR L (by omega) hq.1) L L hL hr hq).mono fun e w' ⟨u, he, hu, _, _, _, hB, _⟩ => ⟨u, he, hu, hB⟩
  · exact (binRQuo_any v1 v2 r q w hK hT hm (h0 rfl) L L hL hr hq).mono fun e w' ⟨u, he, hu, _, _, _, hB, _⟩ => ⟨u, he, hu, hB⟩
theorem bndMix (k : Nat) (hk : k < 4) (r q : Rt) (L : Nat) (hr : r.num < W64 ^ L ∧ r.den < W64 ^ L) (hq : q.num < W64 ^ L ∧ q.den < W64 ^ L) (hd : 0 < r.den) (he : 0 < q.den) (h0 : k = 3 → 0 < q.num) : (mixZ k r q).num < W64 ^ (L + L + 1) ∧ (mixZ k r q).den < W64 ^ (L + L + 1) ∧ ROk (mixZ k r q) := by
  rcases (by omega : k = 0 ∨ k = 1 ∨ k = 2 ∨ k = 3) with rfl | rfl | rfl | rfl
  · exact bndAdd r q L hr hq hd he
  · exact bndSub r q L hr hq hd he
  · have h := bndMul r q L hr hq hd he
    have hp : W64 ^ (L + L) ≤ W64 ^ (L + L + 1) := Nat.pow_le_pow_right W64_pos (by omega)
    exact ⟨Nat.lt_of_lt_of_le h.1 hp, Nat.lt_of_lt_of_le h.2.1 hp, h.2.2⟩
  · exact bndQuo r q L hr hq hd he (h0 rfl)
def MixV (x : Vl) (r : Rt) (P : World → Value → Prop) : Prop := MadeAs x P ∧ (∀ (w w' : World) v, P w v → Below w.heap.size w w' → P w' v) ∧ r.num < W64 ^ 10 ∧ r.den < W64 ^ 10 ∧ 0 < r.den
theorem implMix_any (k : Nat) (hk : k < 4) (x y : Vl) (r q : Rt) (P1 P2 : World → Value → Prop) (w : World) (hK : Thr w) (hT : ThrD w) (h1 : VlAt w x) (h2 : VlAt w y) (m1 : MixV x r P1) (m2 : MixV y q P2) (hmix : ∀ w v1 v2, P1 w v1 → P2 w v2 → Mixd w v1 r v2 q) (h0 : k = 3 → 0 < q.num) :
    Calls Tryz.prog 20 #[.int .i64 k, .agg #[.int .i64 x.kind, .bool x.truth, .string x.text, .bool x.neg, .slice x.wa x.wn x.wc, .slice x.da x.dn x.dc, .bool x.ineg, .slice x.ia x.inn x.ic, .slice x.ea x.en x.ec], .agg #[.int .i64 y.kind, .bool y.truth, .string y.text, .bool y.neg, .slice y.wa y.wn y.wc, .slice y.da y.dn y.dc, .bool y.ineg, .slice y.ia y.inn y.ic, .slice y.ea y.en y.ec]] w (GivesV (IsQ (mixZ k r q) 21) w) := by
  obtain ⟨k1, kk1, a1, a2, a3⟩ := m1
  obtain ⟨k2, kk2, b1, b2, b3⟩ := m2
  exact implBinaryQ_any k (by omega) x y P1 P2 (mixZ k r q) 21 w h1 h2 k1 k2 kk1 (by omega) (bndMix k hk r q 10 ⟨a1, a2⟩ ⟨b1, b2⟩ a3 b3 h0)
    (fun v1 v2 w' hb c1 c2 => binMix_any k hk v1 v2 r q w' (hK.keep hb) (hT.keep hb) (hmix w' v1 v2 c1 c2) h0 10 (by omega) ⟨a1, a2⟩ ⟨b1, b2⟩)
theorem mixV_whole {w : World} {x : Vl} (h : VlAt w x) (hb : wholeB x 10 = true) : MixV x (Rt.whole x.neg (val W64 x.wf x.wn)) (fun w v => ∃ z, CInt w v z ∧ Rt.whole x.neg (val W64 x.wf x.wn) = rz z) := by
  obtain ⟨h1, h2⟩ := wholeB_parts hb
  refine ⟨fun w' h' => ?_, fun _ _ _ ⟨z, h, e⟩ hb => ⟨z, h.keep hb, e⟩, Nat.lt_of_lt_of_le (val_lt h.ws.lt) (Nat.pow_le_pow_right W64_pos h2), ?_, Nat.one_pos⟩
  · refine (madeInt_any x w' h' h1 (by omega)).mono ?_
    rintro e w1 ⟨u, rfl, hu, hB⟩
    exact ⟨u, rfl, ⟨_, hu, whole_rz _ _⟩, hB⟩
  · exact Nat.one_lt_pow (by decide) W64_gt
theorem mixV_rat {w : World} {x : Vl} (h : VlAt w x) (hb : lratB x 10 = true) : MixV x (vrt x) (fun w v => CRat w v (vrt x)) :=
  ⟨madeAs_rat hb (by omega), fun _ _ _ h hb => h.keep hb, (lrat_lt2 h hb).1, (lrat_lt2 h hb).2, (numV_rat hb (by omega)).ok.den⟩
end Go.Proofs.YtececkbcinmmpaaGreatDoor
namespace Go.Bg
open Go.RowKit Go.ChangeShapes Go.WideShapes Dg
theorem spot_none {w : World} {a : Addr} {v : Value} (h : w.cell? a = some v) : a = ⟨a.block, a.off, none⟩ := by
  obtain ⟨b, o, s⟩ := a
  cases s with
  | none => rfl
  | some k =>
    simp only [World.cell?] at h
    split at h <;> simp at h
theorem open_words {H : Type} {enc : TypeId × Value → H} {P : Program} {w : World} {base : Nat} {spare : Nat → Bool} {held : Bool} {t e : TypeId} {fuel : Nat} {cs : List Value} {x : DataW H × List MemPlace}
    (ht : P.underlying t = some (.slice e)) (he : P.underlying e = some (.int .u64)) (hc : P.cellsOf e = 1)
    (h : DataW.trod enc P w base spare held fuel t cs = some x) : ∃ a n c f, cs = [.slice a n c] ∧ WordsAt w a n c f := by
  rcases open_ints ht he hc h with ⟨rfl, _⟩ | ⟨a, len, cap, zs, rfl, _, hlc, hcm, hlen, _, hcell, hwf⟩
  · exact ⟨none, 0, 0, fun _ => 0, rfl, ⟨fun h => by omega, fun i h => by omega, Nat.le_refl _, by simp [maxLen], fun _ => rfl⟩⟩
  · have hz : len ≤ zs.length := by rw [hlen]; split <;> omega
    have hbd : ∀ i, i < len → 0 ≤ zs.getD i 0 ∧ zs.getD i 0 < 18446744073709551616 := by
      intro i hi
      have hm : zs.getD i 0 ∈ zs := by
        rw [List.getD_eq_getElem?_getD, List.getElem?_eq_getElem (show i < zs.length by omega)]
        exact List.getElem_mem _
      have := hwf _ hm
      simp [Lit.wf, IntKind.min, IntKind.max, IntKind.bits, IntKind.signed] at this
      simp only [List.getD_eq_getElem?_getD]
      omega
    refine ⟨some a, len, cap, fun i => (zs.getD i 0).toNat, rfl, ⟨fun h0 => ?_, fun i hi => ?_, hlc, hcm, by simp⟩⟩
    · have c0 := hcell 0 (by omega)
      have hs := spot_none (by simpa [Addr.add] using c0)
      refine ⟨a.block, a.off, by rw [← hs], fun i hi => ?_⟩
      have hci := hcell i (by omega)
      have hb := hbd i hi
      have e : a.add i = ⟨a.block, a.off + i, none⟩ := by
        rw [hs]; unfold Addr.add; split
        · next h => subst h; rfl
        · rfl
      rw [e] at hci
      rw [hci]
      simp only [Option.some.injEq, Value.int.injEq, true_and]
      omega
    · have hb := hbd i hi
      show (zs.getD i 0).toNat < W64
      unfold W64
      omega
end Go.Bg
namespace Go.Bg
theorem trodVars_len {H : Type} {enc : TypeId × Value → H} {P : Program} {w : World} {sp : Nat → Bool} : ∀ {ns : List String} {gs : List (DataW H)} {ps : List MemPlace}, DataW.TrodVars enc P w sp ns gs ps → gs.length = ns.length
  | [], [], _, _ => rfl
  | [], _ :: _, _, h => h.elim
  | _ :: _, [], _, h => h.elim
  | n :: ns, d :: ds, ps, h => by
    obtain ⟨_, _, _, _, _, _, _, _, _, _, hs, _⟩ := h
    simp [trodVars_len hs]
theorem list4 {α : Type} {l : List α} (h : l.length = 4) : ∃ c0 c1 c2 c3, l = [c0, c1, c2, c3] := by
  match l, h with
  | [c0, c1, c2, c3], _ => exact ⟨c0, c1, c2, c3, rfl⟩
theorem array9 {α : Type} {cs : Array α} (h : cs.size = 9) : ∃ c0 c1 c2 c3 c4 c5 c6 c7 c8, cs = #[c0, c1, c2, c3, c4, c5, c6, c7, c8] := by
  obtain ⟨l⟩ := cs
  match l, h with
  | [c0, c1, c2, c3, c4, c5, c6, c7, c8], _ => exact ⟨c0, c1, c2, c3, c4, c5, c6, c7, c8, rfl⟩
theorem list7 {α : Type} {l : List α} (h : l.length = 7) : ∃ c0 c1 c2 c3 c4 c5 c6, l = [c0, c1, c2, c3, c4, c5, c6] := by
  match l, h with
  | [c0, c1, c2, c3, c4, c5, c6], _ => exact ⟨c0, c1, c2, c3, c4, c5, c6, rfl⟩
theorem list2 {α : Type} {l : List α} (h : l.length = 2) : ∃ c0 c1, l = [c0, c1] := by
  match l, h with
  | [c0, c1], _ => exact ⟨c0, c1, rfl⟩
end Go.Bg
namespace Go.Proofs.YtececkbcinmmpaaGreatDoor
open Go.RowKit Go.ChangeShapes Go.WideShapes Go.Bg Dg
theorem cellsValue : Tryz.prog.cellsOf 26 = 9 := by kernel_rfl
theorem cellsNumber : Tryz.prog.cellsOf 24 = 2 := by kernel_rfl
theorem cellsWords : Tryz.prog.cellsOf 22 = 1 := by kernel_rfl
theorem cellsUint : Tryz.prog.cellsOf 53 = 1 := by kernel_rfl
theorem cellsInt : Tryz.prog.cellsOf 3 = 1 := by kernel_rfl
theorem cellsBool : Tryz.prog.cellsOf 4 = 1 := by kernel_rfl
theorem cellsString : Tryz.prog.cellsOf 9 = 1 := by kernel_rfl
theorem open_num {H : Type} {enc : TypeId × Value → H} {w : World} {base : Nat} {spare : Nat → Bool} {held : Bool} {fuel : Nat} {c0 c1 : Value} {x : DataW H × List MemPlace}
    (h : DataW.trod enc Tryz.prog w base spare held fuel 24 [c0, c1] = some x) : ∃ b a n c f, c0 = .bool b ∧ c1 = .slice a n c ∧ WordsAt w a n c f := by
  obtain ⟨xs, n, _, rfl, hl, hlen, hf⟩ := DataW.trod_struct Tryz.underlying24 h
  obtain ⟨y0, y1, rfl⟩ := list2 hlen
  have h0 := hf 0 _ rfl
  have h1 := hf 1 _ rfl
  simp only [cellsBool, cellsWords, List.drop_zero, List.take_succ_cons, List.take_zero, List.drop_succ_cons, List.getElem?_cons_zero, List.getElem?_cons_succ] at h0 h1
  obtain ⟨b, e0, _⟩ := DataW.trod_bool Tryz.underlying4 h0
  obtain ⟨a, m, c, f, e1, hw⟩ := open_words Tryz.underlying22 Tryz.underlying53 cellsUint h1
  injection e0 with e0 _
  injection e1 with e1 _
  exact ⟨b, a, m, c, f, e0, e1, hw⟩
theorem open_vl {H : Type} {enc : TypeId × Value → H} {w : World} {base : Nat} {spare : Nat → Bool} {held : Bool} {r : Reach} {b0 : Nat} {v : Value} {d : DataW H} {ps : List MemPlace}
    (hval : Value.okWide Tryz.prog w r b0 26 v) (h : DataW.Trod enc Tryz.prog w base spare held 26 v d ps) : ∃ x : Vl, v = .agg #[.int .i64 x.kind, .bool x.truth, .string x.text, .bool x.neg, .slice x.wa x.wn x.wc, .slice x.da x.dn x.dc, .bool x.ineg, .slice x.ia x.inn x.ic, .slice x.ea x.en x.ec] ∧ VlAt w x := by
  obtain ⟨cs, rfl, hsz⟩ := okWide_struct Tryz.underlying26 hval
  obtain ⟨c0, c1, c2, c3, c4, c5, c6, c7, c8, rfl⟩ := array9 (hsz.trans cellsValue)
  obtain ⟨fuel, hf⟩ := h
  obtain ⟨xs, n, _, _, hl, hlen, hg⟩ := DataW.trod_struct Tryz.underlying26 hf
  obtain ⟨y0, y1, y2, y3, y4, y5, y6, rfl⟩ := list7 hlen
  have g0 := hg 0 _ rfl
  have g1 := hg 1 _ rfl
  have g2 := hg 2 _ rfl
  have g3 := hg 3 _ rfl
  have g4 := hg 4 _ rfl
  have g5 := hg 5 _ rfl
  have g6 := hg 6 _ rfl
  simp only [Value.cells, cellsInt, cellsBool, cellsString, cellsNumber, cellsWords, List.drop_zero, List.take_succ_cons, List.take_zero, List.drop_succ_cons, List.getElem?_cons_zero, List.getElem?_cons_succ] at g0 g1 g2 g3 g4 g5 g6
  obtain ⟨k, e0, _, hk⟩ := DataW.trod_int Tryz.underlying3 g0
  obtain ⟨tr, e1, _⟩ := DataW.trod_bool Tryz.underlying4 g1
  obtain ⟨tx, e2, _, htx⟩ := DataW.trod_string Tryz.underlying9 g2
  obtain ⟨ng, wa, wn, wc, wf, e3, e4, hw⟩ := open_num g3
  obtain ⟨da, dn, dc, df, e5, hd⟩ := open_words Tryz.underlying22 Tryz.underlying53 cellsUint g4
  obtain ⟨ig, ia, inn, ic, jf, e6, e7, hi⟩ := open_num g5
  obtain ⟨ea, en, ec, ef, e8, he⟩ := open_words Tryz.underlying22 Tryz.underlying53 cellsUint g6
  injection e0 with e0 _
  injection e1 with e1 _
  injection e2 with e2 _
  injection e5 with e5 _
  injection e8 with e8 _
  subst e0 e1 e2 e3 e4 e5 e6 e7 e8
  refine ⟨⟨k, tr, tx, ng, wa, wn, wc, wf, da, dn, dc, df, ig, ia, inn, ic, jf, ea, en, ec, ef⟩, rfl, ⟨hw, hd, hi, he, htx, ?_⟩⟩
  simp [Lit.wf, IntKind.min, IntKind.max, IntKind.bits, IntKind.signed] at hk
  show -9223372036854775808 ≤ k ∧ k ≤ 9223372036854775807
  omega
theorem open_u8 {H : Type} {enc : TypeId × Value → H} {w : World} {base : Nat} {spare : Nat → Bool} {held : Bool} {r : Reach} {b0 : Nat} {v : Value} {d : DataW H} {ps : List MemPlace}
    (hval : Value.okWide Tryz.prog w r b0 5 v) (h : DataW.Trod enc Tryz.prog w base spare held 5 v d ps) : ∃ n : Nat, v = .int .u8 n ∧ n < 256 := by
  obtain ⟨n, rfl, _, _, hw⟩ := open_int Tryz.underlying5 hval h
  simp [Lit.wf, IntKind.min, IntKind.max, IntKind.bits, IntKind.signed] at hw
  exact ⟨n.toNat, by rw [Int.toNat_of_nonneg (by omega)], by omega⟩
end Go.Proofs.YtececkbcinmmpaaGreatDoor
namespace Go.Bg
open Go.ChangeShapes Go.WideShapes
theorem trodAll_four {H : Type} {enc : TypeId × Value → H} {P : Program} {w : World} {base : Nat} {spare : Nat → Bool} {held : Bool} {t t' t'' t3 : TypeId} {args : Array Value} {ds : List (DataW H)} {ps : List MemPlace} (h : DataW.TrodAll enc P w base spare held [t, t', t'', t3] args.toList ds ps) :
    ∃ v v' v'' v3 d d' d'' d3 p p' p'' p3, args = #[v, v', v'', v3] ∧ ds = [d, d', d'', d3] ∧ ps = p ++ p' ++ p'' ++ p3 ∧ DataW.Trod enc P w base spare held t v d p ∧ DataW.Trod enc P w base spare held t' v' d' p' ∧ DataW.Trod enc P w base spare held t'' v'' d'' p'' ∧ DataW.Trod enc P w base spare held t3 v3 d3 p3 := by
  obtain ⟨v, vs, d, ds', p, q, hargs, rfl, rfl, hd, hrest⟩ := trodAll_cons h
  obtain ⟨v', vs', d', ds'', p', q', rfl, rfl, rfl, hd', hrest'⟩ := trodAll_cons hrest
  obtain ⟨v'', vs'', d'', ds''', p'', q'', rfl, rfl, rfl, hd'', hrest''⟩ := trodAll_cons hrest'
  obtain ⟨v3, vs3, d3, ds4, p3, q3, rfl, rfl, rfl, hd3, hrest3⟩ := trodAll_cons hrest''
  obtain ⟨rfl, rfl, rfl⟩ := trodAll_nil hrest3
  exact ⟨v, v', v'', v3, d, d', d'', d3, p, p', p'', p3, by cases args; simp_all, rfl, by simp, hd, hd', hd'', hd3⟩
theorem trodAll_mk4 {H : Type} {enc : TypeId × Value → H} {P : Program} {w : World} {base : Nat} {spare : Nat → Bool} {held : Bool} {t t' t'' t3 : TypeId} {v v' v'' v3 : Value} {d d' d'' d3 : DataW H} {p p' p'' p3 : List MemPlace} (h : DataW.Trod enc P w base spare held t v d p) (h' : DataW.Trod enc P w base spare held t' v' d' p')
    (h'' : DataW.Trod enc P w base spare held t'' v'' d'' p'') (h3 : DataW.Trod enc P w base spare held t3 v3 d3 p3) : DataW.TrodAll enc P w base spare held [t, t', t'', t3] [v, v', v'', v3] [d, d', d'', d3] (p ++ (p' ++ (p'' ++ p3))) := ⟨p, p' ++ (p'' ++ p3), h, trodAll_mk3 h' h'' h3, rfl⟩
end Go.Bg
namespace Go.Bg
open Go.RowKit Dg
theorem laid_lit {P : Program} {w : World} {n : String} {k : IntKind} {z : Int} {g : Nat} {t : TypeId} (hg : P.globalNamed n = some g) (ht : (P.globals[g]?).map (·.type) = some t) (hu : P.underlying t = some (.int k)) :
    ∀ {laid : List (String × DataW Unit)} {ps : List MemPlace}, DataW.LaidVars P w laid ps → (n, DataW.lit (.int k z)) ∈ laid → w.cell? ⟨g, 0, none⟩ = some (.int k z)
  | [], _, _, hm => by cases hm
  | (m, d) :: r, _, ⟨g', t', cs, fuel, p, q, hg', ht', hv, hd, hr, _⟩, hm => by
    rcases List.mem_cons.1 hm with e | hm
    · obtain ⟨rfl, rfl⟩ := Prod.mk.inj e
      obtain rfl := Option.some.inj (hg.symm.trans hg')
      obtain rfl := Option.some.inj (ht.symm.trans ht')
      obtain ⟨z', hc, hx, _⟩ := DataW.trod_int hu hd
      obtain rfl : z = z' := by
        have := congrArg Prod.fst hx
        simpa using this
      have h0 := World.var?_cell hg hv 0
      rw [h0, ← Array.getElem?_toList, hc]
      rfl
    · exact laid_lit hg ht hu hr hm
end Go.Bg
namespace Go.Proofs.YtececkbcinmmpaaGreatDoor
open Go.RowKit Go.Bg Dg
theorem times_any (s1 s2 : Bool) (a1 : Option Addr) (n1 c1 : Nat) (a1' : Option Addr) (n1' c1' : Nat) (a2 : Option Addr) (n2 c2 : Nat) (a2' : Option Addr) (n2' c2' : Nat) (x y : Rt) (L : Nat) (w : World)
    (hx : RtAt w s1 a1 n1 c1 a1' n1' c1' x L) (hy : RtAt w s2 a2 n2 c2 a2' n2' c2' y L) (hxd : 0 < x.den) (hyd : 0 < y.den) (hL2 : L ≤ 20000) :
    Calls Tryz.prog 23 #[.agg #[.bool s1, .slice a1 n1 c1, .slice a1' n1' c1'], .agg #[.bool s2, .slice a2 n2 c2, .slice a2' n2' c2']] w (GivesR (x.times y) (2 * L) w) := by
  have hn1 := hx.n_le
  have hd1 := hx.d_le
  have hn2 := hy.n_le
  have hd2 := hy.d_le
  obtain ⟨W0, hW0⟩ : ∃ W0, W0 = ((w.alloc (.cells #[.bool s1, .slice a1 n1 c1, .slice a1' n1' c1'] 31)).alloc (.cells #[.bool s2, .slice a2 n2 c2, .slice a2' n2' c2'] 31)).alloc (.cells #[.bool false, .slice none 0 0, .slice none 0 0] 31) := ⟨_, rfl⟩
  have P := plusW w s1 s2 (.slice a1 n1 c1) (.slice a1' n1' c1') (.slice a2 n2 c2) (.slice a2' n2' c2') 31
  rw [← hW0] at P
  have HW := Lib.hid hW0
  clear hW0
  have XN := Lib.hid (show ∀ W', Below W0.heap.size W0 W' → NatAt W' a1 n1 c1 x.num from fun W' hb => (hx.num.keep P.below).keep hb)
  have XD := Lib.hid (show ∀ W', Below W0.heap.size W0 W' → NatAt W' a1' n1' c1' x.den from fun W' hb => (hx.den.keep P.below).keep hb)
  have YN := Lib.hid (show ∀ W', Below W0.heap.size W0 W' → NatAt W' a2 n2 c2 y.num from fun W' hb => (hy.num.keep P.below).keep hb)
  have YD := Lib.hid (show ∀ W', Below W0.heap.size W0 W' → NatAt W' a2' n2' c2' y.den from fun W' hb => (hy.den.keep P.below).keep hb)
  have hneg : s1 = x.neg := hx.neg
  have hneg2 : s2 = y.neg := hy.neg
  have HLN := Lib.hid (show x.num * y.num < 65536 ^ (2 * L) from by rw [Nat.two_mul, Nat.pow_add]; exact Nat.mul_lt_mul'' hx.numL hy.numL)
  have HLD := Lib.hid (show x.den * y.den < 65536 ^ (2 * L) from by rw [Nat.two_mul, Nat.pow_add]; exact Nat.mul_lt_mul'' hx.denL hy.denL)
  have HDP := Lib.hid (Nat.mul_pos hxd hyd)
  have HRES := Lib.hid (show x.times y = Rt.over (!(s1 == s2)) (x.num * y.num) (x.den * y.den) from by unfold Rt.times; rw [hneg, hneg2]; rfl)
  clear hx hy hxd hyd hneg hneg2
  go_enter Tryz.func23, Tryz.ntmps23
  go_wp2_with fail
  rw [← HW.out]
  have hb0 : Below W0.heap.size W0 W0.drew := (Below.refl _ _).drew
  go_region_held3 (fun w' => w'.cell? ⟨w.heap.size, 0, none⟩ = some (.bool s1) ∧ w'.cell? ⟨w.heap.size, 1, none⟩ = some (.slice a1 n1 c1) ∧ w'.cell? ⟨w.heap.size, 2, none⟩ = some (.slice a1' n1' c1') ∧
      w'.cell? ⟨w.heap.size + 1, 0, none⟩ = some (.bool s2) ∧ w'.cell? ⟨w.heap.size + 1, 1, none⟩ = some (.slice a2 n2 c2) ∧ w'.cell? ⟨w.heap.size + 1, 2, none⟩ = some (.slice a2' n2' c2'))
    (first | exact ⟨P.x0, P.x1, P.x2, P.y0, P.y1, P.y2⟩ | exact ⟨cell_keep P.x0 (by assumption), cell_keep P.x1 (by assumption), cell_keep P.x2 (by assumption), cell_keep P.y0 (by assumption), cell_keep P.y1 (by assumption), cell_keep P.y2 (by assumption)⟩ | (refine ⟨?_, ?_, ?_, ?_, ?_, ?_⟩ <;> (rw [cell?_setCell_ne (by omega), cell?_setCell_ne (by omega), cell?_setCell_ne (by omega)]) <;> first | exact cell_keep P.x0 (by assumption) | exact cell_keep P.x1 (by assumption) | exact cell_keep P.x2 (by assumption) | exact cell_keep P.y0 (by assumption) | exact cell_keep P.y1 (by assumption) | exact cell_keep P.y2 (by assumption)))
    (first | (go_at_call 50; (with_reducible refine (mul_any a1 a2 n1 n2 c1 c2 x.num y.num _ (XN.out _ (by assumption)) (YN.out _ (by assumption)) (by omega) (by omega)).mono ?_); rintro e w1 ⟨aM, nM, cM, rfl, hM, hB1⟩; have hb1 := Below.then hb0 (Nat.le_refl _) hB1) | (go_at_call 50; (with_reducible refine (mul_any a1' a2' n1' n2' c1' c2' x.den y.den _ (XD.out _ (by assumption)) (YD.out _ (by assumption)) (by omega) (by omega)).mono ?_); rintro e w3 ⟨aD, nD, cD, rfl, hD, hB3⟩; have hb3 := Below.then hb1 (Nat.le_refl _) hB3) | (go_at_call 51; (with_reducible refine (over_any (!(s1 == s2)) aM nM cM aD nD cD (x.num * y.num) (x.den * y.den) (2 * L) _ (hM.keep hB3) hD HLN.out HLD.out HDP.out (by omega)).mono ?_); rintro e w5 ⟨sR, aR, nR, cR, aE, nE, cE, rfl, hR, hB5⟩; have hb5 := Below.then hb3 (Nat.le_refl _) hB5; have R5 := P.res.below P.res.lt hb5; obtain ⟨⟨u0, r0⟩, ⟨u1, r1⟩, ⟨u2, r2⟩⟩ := (R5).cells; have f0 := (R5).frozen 0; have f1 := (R5).frozen 1; have f2 := (R5).frozen 2))
  have hbf := Below.then P.below (Nat.le_refl _) hb5
  go_wp2
  exact bodyPost_ret (v := .agg #[.bool sR, .slice aR nR cR, .slice aE nE cE]) (by simp [results, Tryz.results23, go_sem, r0, r1, r2]) rfl (givesR_end R5 (by omega) hbf (by rw [HRES.out]; exact hR))
theorem upside_any (s : Bool) (a : Option Addr) (n c : Nat) (a' : Option Addr) (n' c' L : Nat) (r : Rt) (w : World) (h : RtAt w s a n c a' n' c' r L) :
    Calls Tryz.prog 27 #[.agg #[.bool s, .slice a n c, .slice a' n' c']] w (GivesR r.upside L w) := by
  have HH := Lib.hid h
  clear h
  have hb := ((Below.refl w.heap.size w).alloc (Nat.le_refl _) (.cells #[.bool s, .slice a n c, .slice a' n' c'] 31)).alloc (by simp) (.cells #[.bool s, .slice a' n' c', .slice a n c] 31)
  have HB := Lib.hid hb
  clear hb
  go_enter Tryz.func27, Tryz.ntmps27
  go_wp2
  exact bodyPost_ret (v := .agg #[.bool s, .slice a' n' c', .slice a n c]) (by simp [results, Tryz.results27, go_sem]) rfl
    ⟨_, _, _, _, _, _, _, rfl, ⟨HH.out.neg, HH.out.den.keep HB.out, HH.out.num.keep HB.out, HH.out.denL, HH.out.numL⟩, HB.out⟩
end Go.Proofs.YtececkbcinmmpaaGreatDoor
