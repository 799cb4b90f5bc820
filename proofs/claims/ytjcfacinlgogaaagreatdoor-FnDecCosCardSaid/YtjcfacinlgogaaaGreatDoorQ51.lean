/- An angle and its fraction; a small fraction. Conditions: texts shorter than 2^31. The walk's cosine is the plain one. Conditions: an angle below 10. The cosine of a text, and the law in plain numbers. Conditions: at most 18 places, below 10. -/
import Derived.Test.YtjcfacinlgogaaaGreatDoorQ45
import Derived.Test.YtjcfacinlgogaaaGreatDoorQ49
import Derived.Test.YtjcfacinlgogaaaGreatDoorQ33
import Derived.Test.YtjcfacinlgogaaaGreatDoorQ47
import Derived.Test.YtjcfacinlgogaaaGreatDoorQ37
import Derived.Test.YtjcfacinlgogaaaGreatDoorQ44
set_option linter.all false
set_option maxHeartbeats 4000000
set_option maxRecDepth 100000
set_option exponentiation.threshold 10000
open Go.RowKit
namespace Go.Proofs.YtjcfacinlgogaaaGreatDoor
theorem arTiny_any (w : World) : Calls Tryz.prog 19 #[.int .i64 13] w fun r w' => FrR w 1 (10 ^ 13) r w' := by
  have HWO := Hq0 (fun wx => WholeOf_any 1 wx (by decide))
  have HDF := Hq0 (fun (wx : World) (b t : Nat) (v : Value) (hv : NatOf wx b v 1 t) => DecFrac_neg (x := .agg #[.bool false, v, .int .i64 (-13)]) (n := 1) (k := 13) ⟨v, rfl, hv⟩ (by decide) (by decide))
  obtain ⟨W1, hW1⟩ : ∃ W1, W1 = w.alloc (.cells #[.bool false, .slice none 0 0, .slice none 0 0] 30) := ⟨_, rfl⟩
  have g1 : w.grownBy W1 none := by rw [hW1]; exact grown_new _ _
  have HX := Hq0 (hW1 ▸ heap_new w (.cells #[.bool false, .slice none 0 0, .slice none 0 0] 30) : W1.heap[w.heap.size]? = some _)
  have G1 := Hq0 g1
  clear g1
  obtain ⟨T, hT⟩ : ∃ T, 10 ^ 13 = T := ⟨_, rfl⟩
  rw [hT] at HDF ⊢
  clear hT
  go_enter Tryz.func19, Tryz.ntmps19
  go_upto_region 1 with (fail)
  rw [← hW1]
  clear hW1
  go_wp2_with (fail)
  refine (HWO.out _).mono ?_
  rintro r w2 ⟨x, t, rfl, ⟨v, rfl, hv⟩, g2⟩
  obtain ⟨a, cap, rfl, _⟩ := hv.own.slice
  have HV := Hq0 (show NatOf w2 0 (.slice a t cap) 1 t from hv.base (Nat.zero_le _))
  have G2 := Hq0 g2
  rw [show decide (((1 : Nat) : Int) < 0) = false from rfl]
  clear hv g2
  go_wp2_with (fail)
  refine (HDF.out _ _ _ _ HV.out).mono ?_
  rintro r w3 ⟨y, tn, td, rfl, ⟨v, u, rfl, hv, hu⟩, g3⟩
  obtain ⟨a2, cap2, rfl, _⟩ := hv.own.slice
  obtain ⟨a3, cap3, rfl, _⟩ := hu.own.slice
  have HRR := Hq0 (kpb (grown_trans G2.out g3) HX.out)
  have G3 := Hq0 (grown_trans G1.out (grown_trans G2.out g3))
  obtain ⟨y0, y1, y2, y3, y4, y5⟩ := cell_three HRR.out
  rw [show decide ((1 : Int) < 0) = false from rfl]
  obtain ⟨o1, o2⟩ := st_var3 HRR.out (.bool false) (.slice a2 tn cap2) (.slice a3 td cap3)
  have HM := Hq0 (own_any3 hu HRR.out (by decide) o1)
  have HN := Hq0 (own_any3 hv HRR.out (by decide) o1)
  have G9 := Hq0 (grown_own G3.out o1 (.inr (Nat.le_refl _)))
  clear hu hv g3
  go_wp2
  clear y0 y1 y2 y3 y4 y5
  generalize ((w3.setCell ⟨w.heap.size, 0, none⟩ (.bool false)).setCell ⟨w.heap.size, 1, none⟩ (.slice a2 tn cap2)).setCell ⟨w.heap.size, 2, none⟩ (.slice a3 td cap3) = w9 at *
  obtain ⟨s0, s1, s2, _, _, _⟩ := cell_three o2
  refine bodyPost_ret (v := .agg #[.bool false, .slice a2 tn cap2, .slice a3 td cap3]) (by simp [results, Tryz.func19, go_sem, s0, s1, s2]; try rfl) rfl ?_
  exact ⟨_, tn, td, rfl, ⟨_, _, rfl, HN.out, HM.out⟩, G9.out⟩
@[reducible] def SQ (A : Nat) (a0 a1 : Value) (w' : World) : Prop := w'.cell? ⟨A, 0, none⟩ = some a0 ∧ w'.cell? ⟨A, 1, none⟩ = some a1
theorem SQ.keep {w' w2 : World} {A : Nat} {a0 a1 : Value} (g : w'.grownBy w2 none) (h : SQ A a0 a1 w') : SQ A a0 a1 w2 := ⟨keepc g h.1, keepc g h.2⟩
theorem SQ.st {w' : World} {A R : Nat} {a0 a1 : Value} (h : SQ A a0 a1 w') (hA : A ≠ R) (u v : Value) : SQ A a0 a1 ((w'.setCell ⟨R, 0, none⟩ u).setCell ⟨R, 1, none⟩ v) := by
  have g : w'.grownBy ((w'.setCell ⟨R, 0, none⟩ u).setCell ⟨R, 1, none⟩ v) (some R) := grown_setb (grown_setb (grown_refl _ _) 0 u) 1 v
  exact ⟨keepo g h.1 hA, keepo g h.2 hA⟩
theorem SQ.st3 {w' : World} {A R : Nat} {a0 a1 : Value} (h : SQ A a0 a1 w') (hA : A ≠ R) (u v x : Value) : SQ A a0 a1 (((w'.setCell ⟨R, 0, none⟩ u).setCell ⟨R, 1, none⟩ v).setCell ⟨R, 2, none⟩ x) := by
  have g : w'.grownBy (((w'.setCell ⟨R, 0, none⟩ u).setCell ⟨R, 1, none⟩ v).setCell ⟨R, 2, none⟩ x) (some R) := grown_setb (grown_setb (grown_setb (grown_refl _ _) 0 u) 1 v) 2 x
  exact ⟨keepo g h.1 hA, keepo g h.2 hA⟩
def DVar (w : World) (b : Nat) (s : ByteArray) (e : Int) : Prop := w.heap[b]? = some (.cells #[.string s, .int .i64 e] 23)
theorem DVar.put {w0 w : World} {b : Nat} {s0 : ByteArray} {e0 : Int} (s : ByteArray) (e : Int) (h : DVar w b s0 e0) (g : w0.grownBy w none) (hb : w0.heap.size ≤ b) :
    ∃ w9, (w.setCell ⟨b, 0, none⟩ (.string s)).setCell ⟨b, 1, none⟩ (.int .i64 e) = w9 ∧ DVar w9 b s e ∧ (∀ b' o, b' ≠ b → w.heap[b']? = some o → w9.heap[b']? = some o) ∧ w0.grownBy w9 none := by
  obtain ⟨o1, o2⟩ := st_var h (.string s) (.int .i64 e)
  refine ⟨_, rfl, o2, fun b' o hne ho => ?_, grown_own g o1 (.inr hb)⟩
  rw [o1.block b' (Array.getElem?_eq_some_iff.1 ho).1 (fun e => hne (Option.some.inj e))]; exact ho
def AnR (w : World) (r : Ending) (w' : World) : Prop := ∃ (k q tn td : Nat) (n : Int) (s : ByteArray) (x : Value), k ≤ 18 ∧ n.natAbs < 10 ^ (k + 1) ∧ TxtD s (decide (n < 0)) n.natAbs q ∧ r = .returned (.tuple #[.agg #[.string s, .int .i64 (-(k : Int))], x]) ∧ FrV w' 0 x n (10 ^ k) tn td ∧ w.grownBy w' none
theorem arAngle_any (s : ByteArray) (e : Int) (w : World) (hs : s.size ≤ 2147483647) : Calls Tryz.prog 6 #[.agg #[.string s, .int .i64 e]] w fun r w' => AnR w r w' := by
  have HDF := Hq0 (fun wx => DecFit_any s e wx hs)
  obtain ⟨WB, hW0, g0, ha, hb, hc⟩ := box3 w (.cells #[.string s, .int .i64 e] 23) (.cells #[.string ⟨#[]⟩, .int .i64 0] 23) (.cells #[.bool false, .slice none 0 0, .slice none 0 0] 30)
  obtain ⟨x0, x1, _, _⟩ := cell_two ha
  have HA : Hid (DVar WB w.heap.size s e) := Hq0 ha
  have HB := Hq0 hb; have HC := Hq0 hc; have G0 := Hq0 g0
  clear ha hb hc g0 hs
  go_enter Tryz.func6, Tryz.ntmps6
  go_upto_region 1 with (fail)
  rw [← hW0]
  clear hW0
  go_wp2_with (fail)
  refine (HDF.out _).mono ?_
  rintro r w2 ⟨s1, neg, c, m, rfl, ht, hm, g2⟩
  have hA2 : DVar w2 w.heap.size s e := kpb g2 HA.out
  obtain ⟨w3, hw3, d3, k3, g3⟩ := DVar.put s1 (e.tmod 19) hA2 (grown_trans G0.out g2) (Nat.le_refl _)
  have HB3 := Hq0 (k3 _ _ (by omega) (kpb g2 HB.out))
  have HC3 := Hq0 (k3 _ _ (by omega) (kpb g2 HC.out))
  have HT := Hq0 ht; have HM := Hq0 hm; have G3 := Hq0 g3; have HD3 := Hq0 d3
  obtain ⟨y0, y1, y2, y3⟩ := cell_two hA2
  clear x0 x1 ht hm g2 hA2 d3 k3 g3
  obtain ⟨E, hE⟩ : ∃ E : Int, e.tmod 19 = E := ⟨_, rfl⟩
  rw [hE] at HD3 hw3 ⊢
  have hEb : E.natAbs ≤ 18 := by rw [← hE, Int.natAbs_tmod]; exact Nat.le_of_lt_succ (Nat.mod_lt _ (by decide))
  clear hE
  go_upto_region 2 with (fail)
  clear y0 y1 y2 y3 hw3
  obtain ⟨x0, x1, _, _⟩ := cell_two HD3.out
  have HE := Hq0 hEb
  clear hEb
  go_upto_if 8 with (fail)
  go_cut [] from 6 to 12 (fun wx => ∃ k : Nat, k ≤ 18 ∧ DVar wx w.heap.size s1 (-(k : Int)) ∧ wx.heap[w.heap.size + 1]? = some (.cells #[.string ⟨#[]⟩, .int .i64 0] 23) ∧ wx.heap[w.heap.size + 1 + 1]? = some (.cells #[.bool false, .slice none 0 0, .slice none 0 0] 30) ∧ w.grownBy wx none)
  case first =>
    by_cases hp : 0 < E
    · obtain ⟨o1, o2⟩ : w3.grownBy (w3.setCell ⟨w.heap.size, 1, none⟩ (.int .i64 (-E))) (some w.heap.size) ∧ (w3.setCell ⟨w.heap.size, 1, none⟩ (.int .i64 (-E))).heap[w.heap.size]? = some (.cells #[.string s1, .int .i64 (-E)] 23) := by
        refine ⟨grown_setb (grown_refl _ _) 1 _, ?_⟩
        have := set_blk HD3.out 1 (.int .i64 (-E))
        simpa using this
      have hnw : IntKind.i64.wrap (-E) = -E := IntWalk.i64_in _ (by have := HE.out; omega)
      have O1 := Hq0 o1; have O2 := Hq0 o2
      clear o1 o2
      go_wp2_with (fail)
      go_meet
      have he := HE.out
      refine ⟨E.natAbs, he, ?_, ?_, ?_, grown_own G3.out O1.out (.inr (Nat.le_refl _))⟩
      · show _ = _
        rw [show -(E.natAbs : Int) = -E by omega]; exact O2.out
      · rw [O1.out.block _ (Array.getElem?_eq_some_iff.1 HB3.out).1 (fun e => by have := Option.some.inj e; omega)]; exact HB3.out
      · rw [O1.out.block _ (Array.getElem?_eq_some_iff.1 HC3.out).1 (fun e => by have := Option.some.inj e; omega)]; exact HC3.out
    · go_wp2_with (fail)
      go_meet
      have he := HE.out
      refine ⟨E.natAbs, he, ?_, HB3.out, HC3.out, G3.out⟩
      rw [show -(E.natAbs : Int) = E by omega]; exact HD3.out
  case rest =>
    obtain ⟨k, hk, hd, hb, hc, hg⟩ := hcut
    have HDS := Hq0 (fun wx => DecSmall_any k wx HT.out HM.out hk)
    obtain ⟨x0, x1, x2, x3⟩ := cell_two hd
    have HDD := Hq0 hd; have HBB := Hq0 hb; have HCC := Hq0 hc; have GC := Hq0 hg; have HK := Hq0 hk
    clear hd hb hc hg hk HD3 HB3 HC3 HE
    go_wp2_with (fail)
    refine (HDS.out _).mono ?_
    rintro r w4 ⟨s4, n, q, rfl, ht, hn, g4⟩
    have hA4 : DVar w4 w.heap.size s1 (-(k : Int)) := kpb g4 HDD.out
    obtain ⟨w5, hw5, d5, k5, g5⟩ := DVar.put s4 (-(k : Int)) hA4 (grown_trans GC.out g4) (Nat.le_refl _)
    have HB5 := Hq0 (k5 _ _ (by omega) (kpb g4 HBB.out))
    have HC5 := Hq0 (k5 _ _ (by omega) (kpb g4 HCC.out))
    have hq : q ≤ 1000 := ht.qle 1000 (by decide) (Nat.lt_of_lt_of_le hn (Nat.pow_le_pow_right (by decide) (by have := HK.out; omega)))
    have HFO := Hq0 (fun wx => FracOf_any k wx ht.sg hq ht.q1 (by have := HK.out; omega))
    rw [sgn_self] at HFO
    have HTT := Hq0 ht; have HNN := Hq0 hn; have G5 := Hq0 g5; have HD5 := Hq0 d5
    obtain ⟨y0, y1, y2, y3⟩ := cell_two hA4
    clear x0 x1 ht hn g4 hA4 d5 k5 g5 hq
    go_upto_region 5 with (fail)
    clear y0 y1 y2 y3 hw5
    obtain ⟨y0, y1, _, _⟩ := cell_two HD5.out
    have HSZ : Hid (SQ w.heap.size (.string s4) (.int .i64 (-(k : Int))) w5) := Hq0 ⟨y0, y1⟩
    clear y0 y1
    have hn1 : w.heap.size ≠ w.heap.size + 1 := by omega
    have hn2 : w.heap.size ≠ w.heap.size + 1 + 1 := by omega
    go_region_held3 (fun w' => w'.cell? ⟨w.heap.size, 0, none⟩ = some (.string s4) ∧ w'.cell? ⟨w.heap.size, 1, none⟩ = some (.int .i64 (-(k : Int))))
      (first | with_reducible exact KS.out | with_reducible exact SQ.keep (grown_drew _) HSZ.out | with_reducible exact SQ.st KS.out hn1 _ _ | with_reducible exact SQ.st3 (SQ.st KS.out hn1 _ _) hn2 _ _ _ | with_reducible exact SQ.st3 KS.out hn2 _ _ _ | with_reducible exact SQ.st (SQ.st3 KS.out hn2 _ _ _) hn1 _ _)
      (first
        | (go_at_call 14; refine (HFO.out _).mono ?_; rintro r wk ⟨x, tn, td, rfl, ⟨v, u, rfl, hv, hu⟩, gk⟩; obtain ⟨a6, cap6, rfl, _⟩ := hv.own.slice; obtain ⟨a7, cap7, rfl, _⟩ := hu.own.slice; generalize hbs : decide (n < 0) = bs at *; have HBS := Hq0 hbs; have KS : Hid (SQ w.heap.size (.string s4) (.int .i64 (-(k : Int))) wk) := Hq0 (SQ.keep (grown_trans (grown_drew _) gk) HSZ.out); have GK := Hq0 (grown_trans (grown_drew _) gk); have HV := Hq0 hv; have HU := Hq0 hu; have HB6 := Hq0 (kpb GK.out HB5.out); have HC6 := Hq0 (kpb GK.out HC5.out); obtain ⟨b0, b1, b2, b3⟩ := cell_two HB6.out; obtain ⟨c0, c1, c2, c3, c4, c5⟩ := cell_three HC6.out; clear hv hu gk hbs))
    all_goals
      obtain ⟨o1, o2⟩ := st_var HB6.out (.string s4) (.int .i64 (-(k : Int)))
      have hv1 := own_any3 HV.out HB6.out (by decide) o1
      have hu1 := own_any3 HU.out HB6.out (by decide) o1
      have hc1 := (o1.block _ (Array.getElem?_eq_some_iff.1 HC6.out).1 (fun e => by have := Option.some.inj e; omega)).trans HC6.out
      have g7 := grown_own (grown_trans G5.out GK.out) o1 (.inr (by omega))
      generalize (wk.setCell ⟨w.heap.size + 1, 0, none⟩ (.string s4)).setCell ⟨w.heap.size + 1, 1, none⟩ (.int .i64 (-(k : Int))) = w7 at *
      obtain ⟨p1, p2⟩ := st_var3 hc1 (.bool bs) (.slice a6 tn cap6) (.slice a7 td cap7)
      have hv2 := own_any3 hv1 hc1 (by decide) p1
      have hu2 := own_any3 hu1 hc1 (by decide) p1
      have hb2 := (p1.block _ (Array.getElem?_eq_some_iff.1 o2).1 (fun e => by have := Option.some.inj e; omega)).trans o2
      have g8 := grown_own g7 p1 (.inr (by omega))
      generalize ((w7.setCell ⟨w.heap.size + 1 + 1, 0, none⟩ (.bool bs)).setCell ⟨w.heap.size + 1 + 1, 1, none⟩ (.slice a6 tn cap6)).setCell ⟨w.heap.size + 1 + 1, 2, none⟩ (.slice a7 td cap7) = w8 at *
      have HV2 := Hq0 hv2; have HU2 := Hq0 hu2; have G8 := Hq0 g8
      obtain ⟨q0, q1, _, _⟩ := cell_two hb2
      obtain ⟨r0, r1, r2, _, _, _⟩ := cell_three p2
      clear b0 b1 b2 b3 c0 c1 c2 c3 c4 c5 hv1 hu1 hv2 hu2 g7 g8 o1 o2 p1 p2 hc1 hb2
      go_wp2
      refine bodyPost_ret (v := .tuple #[.agg #[.string s4, .int .i64 (-(k : Int))], .agg #[.bool bs, .slice a6 tn cap6, .slice a7 td cap7]]) (by simp [results, Tryz.func6, go_sem, q0, q1, r0, r1, r2]; try rfl) rfl ?_
      exact ⟨k, q, tn, td, n, s4, _, HK.out, HNN.out, by rw [HBS.out]; exact HTT.out, rfl, ⟨_, _, by rw [HBS.out], HV2.out.base (Nat.zero_le _), HU2.out.base (Nat.zero_le _)⟩, G8.out⟩
end Go.Proofs.YtjcfacinlgogaaaGreatDoor
namespace Go.Proofs.YtjcfacinlgogaaaGreatDoor
theorem ev_cosV (z : Int) : cosP z = CosM.ev CosM.cosV z := by
  unfold cosP CosM.cosV CosM.interleave CosM.interleave CosM.interleave CosM.interleave CosM.interleave CosM.interleave CosM.interleave CosM.interleave CosM.interleave
  simp only [CosM.ev, Int.mul_zero, Int.add_zero, Int.zero_add]
  grind
theorem ev_sinV (z : Int) : sinP z = CosM.ev CosM.sinV z := by
  unfold sinP CosM.sinV CosM.interleave CosM.interleave CosM.interleave CosM.interleave CosM.interleave CosM.interleave CosM.interleave CosM.interleave
  simp only [CosM.ev, Int.mul_zero, Int.add_zero, Int.zero_add]
  grind
theorem cosX_cosT (xi : Nat) (h : xi < 10 ^ 32) : cosX xi = CosM.cosT xi := by
  have e1 : ((octN xi : Nat) : Int) = CosM.oct xi := by unfold octN CosM.oct; omega
  have e2 : redZ xi (octN xi) = CosM.zeta xi := by unfold redZ CosM.zeta CosM.W1; rw [e1]; omega
  have hk : octN xi = 0 ∨ octN xi = 2 ∨ octN xi = 4 ∨ octN xi = 6 ∨ octN xi = 8 ∨ octN xi = 10 ∨ octN xi = 12 := by unfold octN; omega
  unfold cosX CosM.cosT
  rw [e2, ev_cosV, ev_sinV, ← e1]
  generalize CosM.ev CosM.cosV (CosM.zeta xi) = C
  generalize CosM.ev CosM.sinV (CosM.zeta xi) = S
  rcases hk with h | h | h | h | h | h | h <;> rw [h] <;> simp [Int.mul_comm]
end Go.Proofs.YtjcfacinlgogaaaGreatDoor
open Go.RowKit
namespace Go.Proofs.YtjcfacinlgogaaaGreatDoor
theorem TxtD.isTxt {s : ByteArray} {neg : Bool} {c q : Nat} (h : TxtD s neg c q) (hq : q ≤ 20) : IsTxt s neg c 0 q := by
  have hz := h.size
  have hg := h.sg
  have h1 := h.q1
  refine ⟨?_, ?_, ?_, h1, hq, h.lt⟩
  · rw [hz]; unfold sgn pnt; simp
  · intro h0 hn; exact (hg.neg hn).1 h0
  · intro i hi hs
    unfold tb dgs
    simp only [ne_eq, not_true_eq_false, false_and, if_false]
    cases neg
    · have := (hg.pos rfl).byte i hi
      simpa [sgn] using this
    · obtain ⟨_, h0, hd⟩ := hg.neg rfl
      have hs1 : 1 ≤ i := by simpa [sgn] using hs
      have hb := hd.byte (i - 1) (by rw [ByteArray.size_extract]; omega)
      rw [ByteArray.getElem_extract] at hb
      simp only [show 1 + (i - 1) = i by omega] at hb
      simpa [sgn] using hb
theorem DecCos_txt {s : ByteArray} {n : Int} {q k : Nat} (w : World) (h : TxtD s (decide (n < 0)) n.natAbs q) (hk : k ≤ 18) (hc : n.natAbs < 10 ^ (k + 1)) (hK : TabK w) (hC : TabC w) :
    Calls Tryz.prog 7 #[.agg #[.string s, .int .i64 (-(k : Int))]] w fun r w' => CsR w (n.natAbs * 10 ^ (31 - k)) r w' :=
  decCos_any w (h.isTxt (Nat.le_trans (h.qle 19 (by decide) (Nat.lt_of_lt_of_le hc (Nat.pow_le_pow_right (by decide) (by omega)))) (by decide))) h.top (fun e => decide_eq_false (by omega)) hk hc hK hC
theorem cos_law {n N C : Int} {k K : Nat} (hk : k ≤ 18) (hn : n.natAbs < 10 ^ (k + 1)) (hK : K ≤ 461) (hx : cosX (n.natAbs * 10 ^ (31 - k)) = N * 10 ^ (461 - K)) (hC : C = CosM.cosS (n * 10 ^ (40 - k)) 100) :
    (N * ((10 ^ 40 : Nat) : Int) + -C * ((10 ^ K : Nat) : Int)).natAbs * 10 ^ 13 < 10 ^ K * 10 ^ 40 ∧ N.natAbs < 10 ^ 470 ∧ C.natAbs ≤ 10 ^ 47 ∧ (n * 10 ^ (40 - k)).natAbs ≤ 10 ^ 41 := by
  have hxi : n.natAbs * 10 ^ (31 - k) < 10 ^ 32 := by
    rw [show (10 : Nat) ^ 32 = 10 ^ (k + 1) * 10 ^ (31 - k) by rw [← Nat.pow_add]; congr 1; omega]
    exact Nat.mul_lt_mul_of_pos_right hn (Nat.pow_pos (by decide))
  have hXa : (n * 10 ^ (40 - k)).natAbs = n.natAbs * 10 ^ (40 - k) := by rw [Int.natAbs_mul, Int.natAbs_pow]; rfl
  have hX : (n * 10 ^ (40 - k)).natAbs ≤ 10 ^ 41 := by
    rw [hXa, show (10 : Nat) ^ 41 = 10 ^ (k + 1) * 10 ^ (40 - k) by rw [← Nat.pow_add]; congr 1; omega]
    exact Nat.mul_le_mul_right _ (Nat.le_of_lt hn)
  have hCa : C.natAbs ≤ 10 ^ 47 := by rw [hC]; have := CosM.cosS_abs _ hX 100; omega
  have hCC : CosM.cosS (((n.natAbs * 10 ^ (31 - k) : Nat) : Int) * 10 ^ 9) 100 = C := by
    have e : ((n.natAbs * 10 ^ (31 - k) : Nat) : Int) * 10 ^ 9 = (n.natAbs : Int) * 10 ^ (40 - k) := by
      rw [Int.natCast_mul, Int.natCast_pow, Int.mul_assoc, show (((10 : Nat) : Int)) = 10 from rfl, ← Int.pow_add]; congr 2; omega
    rw [e, hC]
    by_cases h : 0 ≤ n
    · rw [show (n.natAbs : Int) = n by omega]
    · rw [show (n.natAbs : Int) = -n by omega, Int.neg_mul, CosM.cosS_neg]
  have hnear := CosM.cos_near 461 rfl ((n.natAbs * 10 ^ (31 - k) : Nat) : Int) (Int.natCast_nonneg _) (by omega)
  rw [← cosX_cosT _ hxi, hCC, hx] at hnear
  obtain ⟨q, hq⟩ : ∃ q, 461 = q := ⟨_, rfl⟩
  have h470 : 10 ^ 461 * 10 ^ 9 = 10 ^ 470 := by rw [← Nat.pow_add]
  rw [hq] at hnear hK h470
  have hp : (10 : Int) ^ q = 10 ^ (q - K) * 10 ^ K := by rw [← Int.pow_add, Nat.sub_add_cancel hK]
  have hpn : (10 : Nat) ^ q = 10 ^ (q - K) * 10 ^ K := by rw [← Nat.pow_add, Nat.sub_add_cancel hK]
  have hup : 0 < 10 ^ q := Nat.pow_pos (by decide)
  refine ⟨?_, ?_, hCa, hX⟩
  · rw [hp, hpn, show 10 ^ 40 * (N * 10 ^ (q - K)) - 10 ^ (q - K) * 10 ^ K * C = 10 ^ (q - K) * (N * 10 ^ 40 + -C * 10 ^ K) by grind, Int.natAbs_mul, Int.natAbs_pow, show Int.natAbs 10 = 10 from rfl, Nat.mul_assoc, Nat.mul_assoc] at hnear
    have := Nat.lt_of_mul_lt_mul_left hnear
    rw [Int.natCast_pow, Int.natCast_pow]
    exact this
  · have h1 : N.natAbs ≤ (N * 10 ^ (q - K)).natAbs := by
      rw [Int.natAbs_mul, Int.natAbs_pow]; exact Nat.le_mul_of_pos_right _ (Nat.pow_pos (by decide))
    have h2 : ((10 : Int) ^ q * C).natAbs ≤ 10 ^ q * 10 ^ 47 := by
      rw [Int.natAbs_mul, Int.natAbs_pow]; exact Nat.mul_le_mul_left _ hCa
    rw [← h470]
    generalize N * 10 ^ (q - K) = Y at *
    generalize (10 : Int) ^ q * C = Z at *
    generalize (10 : Nat) ^ q = U at *
    clear hx hp hpn hCC hC hXa hX hCa hxi h470
    omega
end Go.Proofs.YtjcfacinlgogaaaGreatDoor
