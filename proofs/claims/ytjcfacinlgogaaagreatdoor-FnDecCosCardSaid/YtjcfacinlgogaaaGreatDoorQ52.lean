/- The cosine's law, walked. Conditions: the tables hold what the text lays. -/
import Derived.Test.YtjcfacinlgogaaaGreatDoorQ48
import Derived.Test.YtjcfacinlgogaaaGreatDoorQ49
import Derived.Test.YtjcfacinlgogaaaGreatDoorQ51
set_option linter.all false
set_option maxHeartbeats 4000000
set_option maxRecDepth 100000
set_option exponentiation.threshold 10000
open Go.RowKit
namespace Go.Proofs.YtjcfacinlgogaaaGreatDoor
@[reducible] def SG (W : World) (A : Nat) (a0 a1 : Value) (w' : World) : Prop := W.grownBy w' none ∧ w'.cell? ⟨A, 0, none⟩ = some a0 ∧ w'.cell? ⟨A, 1, none⟩ = some a1
theorem SG.keep {W w' w2 : World} {A : Nat} {a0 a1 : Value} (g : w'.grownBy w2 none) (h : SG W A a0 a1 w') : SG W A a0 a1 w2 := ⟨grown_trans h.1 g, keepc g h.2.1, keepc g h.2.2⟩
theorem SG.g {W w' : World} {A : Nat} {a0 a1 : Value} (h : SG W A a0 a1 w') : W.grownBy w' none := h.1
theorem SG.st {W w' : World} {A R : Nat} {a0 a1 : Value} (h : SG W A a0 a1 w') (hR : W.heap.size ≤ R) (hA : A ≠ R) (u v : Value) : SG W A a0 a1 ((w'.setCell ⟨R, 0, none⟩ u).setCell ⟨R, 1, none⟩ v) := by
  have g : w'.grownBy ((w'.setCell ⟨R, 0, none⟩ u).setCell ⟨R, 1, none⟩ v) (some R) := grown_setb (grown_setb (grown_refl _ _) 0 u) 1 v
  exact ⟨grown_own h.1 g (.inr hR), keepo g h.2.1 hA, keepo g h.2.2 hA⟩
theorem DVar.put2 {w0 w : World} {b : Nat} {s0 : ByteArray} {e0 : Int} (s : ByteArray) (e : Int) (h : DVar w b s0 e0) (g : w0.grownBy w none) (hb : w0.heap.size ≤ b) :
    ∃ w9, (w.setCell ⟨b, 0, none⟩ (.string s)).setCell ⟨b, 1, none⟩ (.int .i64 e) = w9 ∧ DVar w9 b s e ∧ (∀ b' o, b' ≠ b → w.heap[b']? = some o → w9.heap[b']? = some o) ∧ w0.grownBy w9 none ∧ (∀ base v c t, NatOf w base v c t → NatOf w9 base v c t) := by
  obtain ⟨o1, o2⟩ := st_var h (.string s) (.int .i64 e)
  refine ⟨_, rfl, o2, fun b' o hne ho => ?_, grown_own g o1 (.inr hb), fun base v c t hn => own_any3 hn h (by decide) o1⟩
  rw [o1.block b' (Array.getElem?_eq_some_iff.1 ho).1 (fun e => hne (Option.some.inj e))]; exact ho
def FVar (w : World) (b : Nat) (n : Int) (d tn td : Nat) : Prop := ∃ v u, w.heap[b]? = some (.cells #[.bool (decide (n < 0)), v, u] 30) ∧ NatOf w 0 v n.natAbs tn ∧ NatOf w 0 u d td
theorem FVar.same {w w' : World} {b d tn td : Nat} {n : Int} (h : FVar w b n d tn td) (g : w.grownBy w' none) : FVar w' b n d tn td := by
  obtain ⟨v, u, h1, h2, h3⟩ := h; exact ⟨v, u, kpb g h1, h2.same g, h3.same g⟩
theorem FVar.put {w0 w : World} {b d tn td : Nat} {n : Int} {bz : Bool} {u0 u1 u2 v u : Value} (h : w.heap[b]? = some (.cells #[u0, u1, u2] 30)) (hz : decide (n < 0) = bz) (hv : NatOf w 0 v n.natAbs tn) (hu : NatOf w 0 u d td) (g : w0.grownBy w none) (hb : w0.heap.size ≤ b) :
    ∃ w9, ((w.setCell ⟨b, 0, none⟩ (.bool bz)).setCell ⟨b, 1, none⟩ v).setCell ⟨b, 2, none⟩ u = w9 ∧ FVar w9 b n d tn td ∧ (∀ b' o, b' ≠ b → w.heap[b']? = some o → w9.heap[b']? = some o) ∧ w0.grownBy w9 none := by
  subst hz
  obtain ⟨o1, o2⟩ := st_var3 h (.bool (decide (n < 0))) v u
  refine ⟨_, rfl, ⟨v, u, o2, own_any3 hv h (by decide) o1, own_any3 hu h (by decide) o1⟩, fun b' o hne ho => ?_, grown_own g o1 (.inr hb)⟩
  rw [o1.block b' (Array.getElem?_eq_some_iff.1 ho).1 (fun e => hne (Option.some.inj e))]; exact ho
def CsK (w : World) (xi : Nat) (r : Ending) (w' : World) : Prop := ∃ (t : ByteArray) (n : Int) (K q : Nat), r = .returned (.tuple #[.agg #[.string t, .int .i64 (-(K : Int))], .int .i64 0]) ∧ TxtD t (decide (n < 0)) n.natAbs q ∧ cosX xi = n * 10 ^ (461 - K) ∧ K ≤ 461 ∧ w.grownBy w' none
theorem DecCos_k {s : ByteArray} {n : Int} {q k : Nat} (w : World) (h : TxtD s (decide (n < 0)) n.natAbs q) (hk : k ≤ 18) (hc : n.natAbs < 10 ^ (k + 1)) (hK : TabK w) (hC : TabC w) :
    Calls Tryz.prog 7 #[.agg #[.string s, .int .i64 (-(k : Int))]] w fun r w' => CsK w (n.natAbs * 10 ^ (31 - k)) r w' := by
  refine (DecCos_txt w h hk hc hK hC).mono ?_
  rintro r w' ⟨t, N, e, q, rfl, ht, hx, h1, h2, g⟩
  refine ⟨t, N, (-e).toNat, q, by rw [show -(((-e).toNat : Nat) : Int) = e by omega], ht, ?_, by omega, g⟩
  rw [hx, show (e + 461).toNat = 461 - (-e).toNat by omega]
theorem tdiv_pow (n : Int) {k : Nat} (hk : k ≤ 40) : (n * ((10 ^ 40 : Nat) : Int)).tdiv ((10 ^ k : Nat) : Int) = n * 10 ^ (40 - k) := by
  have h : (0 : Int) < 10 ^ k := Int.pow_pos (by decide)
  have e : n * ((10 ^ 40 : Nat) : Int) = n * 10 ^ (40 - k) * 10 ^ k := by
    rw [Int.mul_assoc, ← Int.pow_add, Nat.sub_add_cancel hk, Int.natCast_pow]; rfl
  rw [e, Int.natCast_pow]
  exact Int.mul_tdiv_cancel _ (by show ((10 : Nat) : Int) ^ k ≠ 0; exact Int.ne_of_gt h)
theorem same_frac {N1 N2 : Int} {K1 K2 : Nat} (h1 : K1 ≤ 461) (h2 : K2 ≤ 461) (h : N1 * 10 ^ (461 - K1) = N2 * 10 ^ (461 - K2)) : N2 * ((10 ^ K1 : Nat) : Int) = N1 * ((10 ^ K2 : Nat) : Int) := by
  rw [Int.natCast_pow, Int.natCast_pow]
  show N2 * (10 : Int) ^ K1 = N1 * (10 : Int) ^ K2
  obtain ⟨q, hq⟩ : ∃ q, 461 = q := ⟨_, rfl⟩
  rw [hq] at h h1 h2
  have e1 : (10 : Int) ^ q = 10 ^ (q - K1) * 10 ^ K1 := by rw [← Int.pow_add, Nat.sub_add_cancel h1]
  have e2 : (10 : Int) ^ q = 10 ^ (q - K2) * 10 ^ K2 := by rw [← Int.pow_add, Nat.sub_add_cancel h2]
  have hp : (10 : Int) ^ q ≠ 0 := Int.ne_of_gt (Int.pow_pos (by decide))
  have e : N2 * 10 ^ K1 * 10 ^ q = N1 * 10 ^ K2 * 10 ^ q := by
    have a1 : N2 * 10 ^ K1 * 10 ^ q = N2 * 10 ^ (q - K2) * 10 ^ K2 * 10 ^ K1 := by rw [e2]; grind
    have a2 : N1 * 10 ^ K2 * 10 ^ q = N1 * 10 ^ (q - K1) * 10 ^ K1 * 10 ^ K2 := by rw [e1]; grind
    rw [a1, a2, h]; grind
  exact Int.eq_of_mul_eq_mul_right hp e
theorem wcmp_less {a b : Int} (h : a < b) : wcmp a b = -1 := by unfold wcmp; rw [if_pos h]
theorem FnDecCos_any (s : ByteArray) (e : Int) (w : World) (hK : TabK w) (hC : TabC w) : Calls Tryz.prog 3 #[.agg #[.string s, .int .i64 e]] w fun r w' => r = .returned (.bool true) ∧ w.grownBy w' none := by
  obtain ⟨W1, hW1⟩ : ∃ W1, W1 = w.alloc (.cells #[.string s, .int .i64 e] 23) := ⟨_, rfl⟩
  have g1 : w.grownBy W1 none := by rw [hW1]; exact grown_new _ _
  have HX : Hid (DVar W1 w.heap.size s e) := Hq0 (hW1 ▸ heap_new w (.cells #[.string s, .int .i64 e] 23) : W1.heap[w.heap.size]? = some _)
  obtain ⟨x0, x1, _, _⟩ := cell_two HX.out
  have G1 := Hq0 g1
  have HKK := Hq0 hK; have HCC := Hq0 hC
  clear g1 hK hC
  by_cases hs : s.size ≤ 2147483647
  · have HZ := Hq0 (fun wx => zzFits1_yes s e wx hs)
    have HAN := Hq0 (fun wx => arAngle_any s e wx hs)
    clear hs
    go_enter Tryz.func3, Tryz.ntmps3
    go_upto_region 1 with (fail)
    rw [← hW1]
    clear hW1
    go_wp2_with (fail)
    refine (HZ.out _).mono ?_
    rintro r w2 ⟨rfl, g2⟩
    have HX2 := Hq0 (show DVar w2 w.heap.size s e from kpb g2 HX.out)
    have G2 := Hq0 (grown_trans G1.out g2)
    obtain ⟨y0, y1, _, _⟩ := cell_two HX2.out
    clear x0 x1 g2 HZ
    go_upto_region 3 with (fail)
    go_wp2_with (fail)
    refine (HAN.out _).mono ?_
    rintro r w3 ⟨k, q, tn, td, n, s3, x, hk, hn, ht, rfl, ⟨v, u, rfl, hv, hu⟩, g3⟩
    obtain ⟨a, cap, rfl, _⟩ := hv.own.slice
    obtain ⟨a1, cap1, rfl, _⟩ := hu.own.slice
    obtain ⟨bs, hbs⟩ : ∃ bs, decide (n < 0) = bs := ⟨_, rfl⟩
    rw [hbs]
    have HX3 := Hq0 (show DVar w3 w.heap.size s e from kpb g3 HX2.out)
    obtain ⟨xb, hxb⟩ : ∃ xb, w3.heap.size = xb := ⟨_, rfl⟩
    have hlx : w.heap.size < xb := by rw [← hxb]; exact (Array.getElem?_eq_some_iff.1 HX3.out).1
    have hlx2 : w.heap.size ≠ xb := by omega
    obtain ⟨w4, hw4, d4, k4, g4, m4⟩ := DVar.put2 s3 (-(k : Int)) HX3.out (grown_trans G2.out g3) (Nat.le_refl _)
    have hsz4 : w4.heap.size = xb := by rw [← hw4, ← hxb]; simp [World.setCell]
    have d5 : DVar (w4.alloc (.cells #[.bool bs, .slice a tn cap, .slice a1 td cap1] 30)) w.heap.size s3 (-(k : Int)) := kpb (grown_new _ _) d4
    have f5 : FVar (w4.alloc (.cells #[.bool bs, .slice a tn cap, .slice a1 td cap1] 30)) xb n (10 ^ k) tn td := ⟨_, _, by rw [hbs, ← hsz4]; exact heap_new _ _, (m4 _ _ _ _ hv).same (grown_new _ _), (m4 _ _ _ _ hu).same (grown_new _ _)⟩
    have g5 := grown_trans g4 (grown_new w4 (.cells #[.bool bs, .slice a tn cap, .slice a1 td cap1] 30))
    obtain ⟨z0, z1, z2, z3⟩ := cell_two HX3.out
    have HD5 := Hq0 d5; have HF5 := Hq0 f5; have G5 := Hq0 g5
    have HN := Hq0 (And.intro hk (And.intro hn ht))
    clear y0 y1 k4 g4 m4 g5 d5 f5 d4 hv hu g3 hk hn ht HX HX2 HX3 G2
    go_upto_region 4 with (fail)
    clear z0 z1 z2 z3 hw4 hsz4 hxb
    generalize w4.alloc (.cells #[.bool bs, .slice a tn cap, .slice a1 td cap1] 30) = w5 at *
    have HDC := Hq0 (fun (wx : World) (g : w5.grownBy wx none) => DecCos_k wx HN.out.2.2 HN.out.1 HN.out.2.1 (HKK.out.same (grown_trans G5.out g)) (HCC.out.same (grown_trans G5.out g)))
    have HDI := Hq0 (fun wx => DecIn_any (-(k : Int)) wx HN.out.2.2.sg (by have := HN.out.2.2.qle 1000 (by decide) (Nat.lt_of_lt_of_le HN.out.2.1 (Nat.pow_le_pow_right (by decide) (by have := HN.out.1; omega))); exact this) HN.out.2.2.q1)
    rw [sgn_self] at HDI
    obtain ⟨z0, z1, _, _⟩ := cell_two HD5.out
    go_wp2_with (fail)
    refine (HDC.out _ (grown_refl _ _)).mono ?_
    rintro r w6 ⟨t6, N6, K6, q6, rfl, ht6, hx6, hK6, g6⟩
    obtain ⟨ob, hob⟩ : ∃ ob, w6.heap.size = ob := ⟨_, rfl⟩
    have d7 : DVar (w6.alloc (.cells #[.string t6, .int .i64 (-(K6 : Int))] 23)) ob t6 (-(K6 : Int)) := by show _ = _; rw [← hob]; exact heap_new _ _
    have g7 := grown_trans g6 (grown_new w6 (.cells #[.string t6, .int .i64 (-(K6 : Int))] 23))
    have hlo : w5.heap.size ≤ ob := by rw [← hob]; exact g6.size
    have H6 := Hq0 (And.intro ht6 (And.intro hx6 hK6))
    have HO7 := Hq0 d7; have G7 := Hq0 g7; have HLO := Hq0 hlo
    clear z0 z1 ht6 hx6 hK6 g6 d7 g7 hlo
    go_upto_region 5 with (fail)
    generalize w6.alloc (.cells #[.string t6, .int .i64 (-(K6 : Int))] 23) = w7 at *
    clear hob
    go_cut [6, 7] from 23 to 34 (fun s6 s7 wx => ∃ (bb : Nat) (t : ByteArray) (N : Int) (K q : Nat), s6 = .pointer (some ⟨bb, 0, none⟩) ∧ s7 = .int .i64 0 ∧ DVar wx bb t (-(K : Int)) ∧ TxtD t (decide (N < 0)) N.natAbs q ∧ cosX (n.natAbs * 10 ^ (31 - k)) = N * 10 ^ (461 - K) ∧ K ≤ 461 ∧ w7.heap.size ≤ bb ∧ w7.grownBy wx none)
    case first =>
      have hfld := run_fld
      have HMI := Hq0 (fun (wx : World) (b t : Nat) (v : Value) (hv : NatOf wx b v n.natAbs t) => Minus_any (x := .agg #[.bool (decide (n < 0)), v]) (n := n) ⟨v, rfl, hv⟩)
      have HDO := Hq0 (fun (wx : World) (b t : Nat) (v : Value) (hv : NatOf wx b v (-n).natAbs t) => DecOut_any (x := .agg #[.bool (decide (-n < 0)), v, .int .i64 (-(k : Int))]) (n := -n) (e := -(k : Int)) ⟨v, rfl, hv⟩ (by rw [Int.natAbs_neg]; exact Nat.lt_of_lt_of_le HN.out.2.1 (Nat.pow_le_pow_right (by decide) (by have := HN.out.1; omega))))
      have HD2 := Hq0 (fun (wx : World) (sx : ByteArray) (qx : Nat) (g : w7.grownBy wx none) (hx : TxtD sx (decide (-n < 0)) (-n).natAbs qx) => DecCos_k wx hx HN.out.1 (by rw [Int.natAbs_neg]; exact HN.out.2.1) (HKK.out.same (grown_trans G5.out (grown_trans G7.out g))) (HCC.out.same (grown_trans G5.out (grown_trans G7.out g))))
      rw [Int.natAbs_neg] at HD2
      have hd7 := kpb G7.out HD5.out
      have hlt7 := (Array.getElem?_eq_some_iff.1 hd7).1
      have hne : ∀ b, w7.heap.size ≤ b → w.heap.size ≠ b := by intro b hb; omega
      obtain ⟨z0, z1, _, _⟩ := cell_two hd7
      have HSZ : Hid (SG w7 w.heap.size (.string s3) (.int .i64 (-(k : Int))) w7) := Hq0 ⟨grown_refl _ _, z0, z1⟩
      have KS : Hid (SG w7 w.heap.size (.string s3) (.int .i64 (-(k : Int))) w7.drew) := Hq0 (SG.keep (grown_drew _) HSZ.out)
      have HNE := Hq0 hne
      have HBN := Hq0 hbs
      rw [hbs] at HMI
      generalize hbm : decide (-n < 0) = bm at *
      have HBM := Hq0 hbm
      clear hd7 hlt7 hne z0 z1 hbs hbm
      go_region_held3 (fun w' => w7.grownBy w' none ∧ w'.cell? ⟨w.heap.size, 0, none⟩ = some (.string s3) ∧ w'.cell? ⟨w.heap.size, 1, none⟩ = some (.int .i64 (-(k : Int))))
        (first | with_reducible exact KS.out | with_reducible exact SG.keep (grown_drew _) HSZ.out | with_reducible exact SG.keep (grown_new _ _) KS.out | with_reducible exact SG.st KS.out HBL.out (HNE.out _ HBL.out) _ _ | with_reducible exact SG.st KS.out (Nat.le_refl _) (HNE.out _ (Nat.le_refl _)) _ _)
        (first
          | (go_at_call 9; refine (HDI.out _).mono ?_; rintro r wa ⟨x, ta, rfl, ⟨va, rfl, ha⟩, gk⟩; obtain ⟨aa, capa, rfl, _⟩ := ha.own.slice; rw [HBN.out]; have KP := KS; have KS : Hid (SG w7 w.heap.size (.string s3) (.int .i64 (-(k : Int))) wa) := Hq0 (SG.keep gk (by assumption)); (first | (have HB := Hq0 (kpb gk HB.out)) | (with_reducible have HB := Hq0 (kpb gk (heap_new _ (.cells #[.string ⟨#[]⟩, .int .i64 0] 23))); have HBL := Hq0 KP.out.1.size) | skip); (first | (have hbo := HB.out; obtain ⟨b0, b1, b2, b3⟩ := cell_two hbo; clear hbo) | skip); have HVA := Hq0 ha; clear ha gk)
          | (go_at_call 10; refine (HMI.out _ _ _ _ (HVA.out.same (by first | exact grown_refl _ _ | exact grown_new _ _))).mono ?_; rintro r wb ⟨x, rfl, ⟨vb, rfl, hb⟩, gk⟩; obtain ⟨ab, capb, rfl, _⟩ := hb.own.slice; rw [HBM.out]; have KP := KS; have KS : Hid (SG w7 w.heap.size (.string s3) (.int .i64 (-(k : Int))) wb) := Hq0 (SG.keep gk (by assumption)); (first | (have HB := Hq0 (kpb gk HB.out)) | (with_reducible have HB := Hq0 (kpb gk (heap_new _ (.cells #[.string ⟨#[]⟩, .int .i64 0] 23))); have HBL := Hq0 KP.out.1.size) | skip); (first | (have hbo := HB.out; obtain ⟨b0, b1, b2, b3⟩ := cell_two hbo; clear hbo) | skip); have HVB := Hq0 hb; clear hb gk)
          | (go_at_call 8; refine (HDO.out _ _ _ _ (HVB.out.same (by first | exact grown_refl _ _ | exact grown_new _ _))).mono ?_; rintro r wc ⟨sc, qc, rfl, hc, gk⟩; rw [HBM.out, Int.natAbs_neg] at hc; have KP := KS; have KS : Hid (SG w7 w.heap.size (.string s3) (.int .i64 (-(k : Int))) wc) := Hq0 (SG.keep gk (by assumption)); (first | (have HB := Hq0 (kpb gk HB.out)) | (with_reducible have HB := Hq0 (kpb gk (heap_new _ (.cells #[.string ⟨#[]⟩, .int .i64 0] 23))); have HBL := Hq0 KP.out.1.size) | skip); (first | (have hbo := HB.out; obtain ⟨b0, b1, b2, b3⟩ := cell_two hbo; clear hbo) | skip); have HSC := Hq0 hc; clear hc gk)
          | (go_at_call 7; refine (HD2.out _ _ _ (SG.g (by assumption)) HSC.out).mono ?_; rintro r wd ⟨td8, Nd, Kd, qd, rfl, hd1, hd2, hd3, gk⟩; have KP := KS; have KS : Hid (SG w7 w.heap.size (.string s3) (.int .i64 (-(k : Int))) wd) := Hq0 (SG.keep gk (by assumption)); (first | (have HB := Hq0 (kpb gk HB.out)) | (with_reducible have HB := Hq0 (kpb gk (heap_new _ (.cells #[.string ⟨#[]⟩, .int .i64 0] 23))); have HBL := Hq0 KP.out.1.size) | skip); (first | (have hbo := HB.out; obtain ⟨b0, b1, b2, b3⟩ := cell_two hbo; clear hbo) | skip); have HRD := Hq0 (And.intro hd1 (And.intro hd2 hd3)); clear hd1 hd2 hd3 gk))
      all_goals
        go_wp2_with (fail)
        go_meet
        first
          | exact ⟨_, td8, Nd, Kd, qd, rfl, rfl, heap_new _ _, HRD.out.1, HRD.out.2.1, HRD.out.2.2, KS.out.1.size, grown_trans KS.out.1 (grown_new _ _)⟩
          | (have hbo := HB.out
             obtain ⟨w9, hw9, p1, p2, p3⟩ := DVar.put td8 (-(Kd : Int)) (hbo : DVar wd _ _ 0) KS.out.1 (by first | exact HBL.out | exact Nat.le_refl _)
             rw [hw9]
             exact ⟨_, td8, Nd, Kd, qd, rfl, rfl, p1, HRD.out.1, HRD.out.2.1, HRD.out.2.2, (by first | exact HBL.out | exact Nat.le_refl _), p3⟩)
    case rest =>
      obtain ⟨bb, t8, N8, K8, q8, rfl, rfl, d8, ht8, hx8, hK8, hbb, g8⟩ := hcut
      obtain ⟨X, hX⟩ : ∃ X : Int, n * 10 ^ (40 - k) = X := ⟨_, rfl⟩
      obtain ⟨C, hC⟩ : ∃ C : Int, CosM.cosS X 100 = C := ⟨_, rfl⟩
      obtain ⟨l1, l2, l3, l4⟩ := cos_law HN.out.1 HN.out.2.1 H6.out.2.2 H6.out.2.1 (hC.symm.trans (by rw [hX]))
      obtain ⟨l5, l6, _, _⟩ := cos_law HN.out.1 HN.out.2.1 hK8 hx8 (hC.symm.trans (by rw [hX]))
      rw [hX] at l4
      have hsf := same_frac H6.out.2.2 hK8 (H6.out.2.1.symm.trans hx8)
      have HL := Hq0 (And.intro l1 (And.intro l2 l3))
      have HL8 := Hq0 (And.intro l6 (And.intro hsf hK8))
      have HT8 := Hq0 ht8
      have HC2 := Hq0 hC
      obtain ⟨vx, ux, hf1, hf2, hf3⟩ := HF5.out.same (grown_trans G7.out g8)
      obtain ⟨ax, capx, rfl, _⟩ := hf2.own.slice
      obtain ⟨ay, capy, rfl, _⟩ := hf3.own.slice
      have hn36 : n.natAbs * 10 ^ 40 < 10 ^ 3600 := by
        have h1 : n.natAbs < 10 ^ 19 := Nat.lt_of_lt_of_le HN.out.2.1 (Nat.pow_le_pow_right (by decide) (by have := HN.out.1; omega))
        have h2 : n.natAbs * 10 ^ 40 < 10 ^ 19 * 10 ^ 40 := Nat.mul_lt_mul_of_pos_right h1 (Nat.pow_pos (by decide))
        rw [← Nat.pow_add] at h2
        exact Nat.lt_of_lt_of_le h2 (Nat.pow_le_pow_right (by decide) (by decide))
      have HSC := Hq0 (SinCos_any (x := .agg #[.bool (decide (n < 0)), .slice ax tn capx, .slice ay td capy]) (X := X) ⟨_, _, rfl, hf2, hf3⟩ (Nat.pow_pos (by decide)) hn36 (by rw [tdiv_pow n (by have := HN.out.1; omega), hX]) l4)
      have HD8 := Hq0 d8; have G8 := Hq0 g8; have HBB := Hq0 hbb
      obtain ⟨x0, x1, x2, _, _, _⟩ := cell_three hf1
      rw [hbs] at HSC x0
      rw [hC] at HSC
      clear l1 l2 l3 l4 l5 l6 hsf hX hC ht8 hx8 hK8 d8 g8 hbb hf1 hf2 hf3 hn36 HDI HDC
      go_wp2_with (fail)
      refine HSC.out.mono ?_
      rintro r w9 ⟨b1, a9, t9, cap9, v2, tc, rfl, ⟨vc, rfl, hvc⟩, g9⟩
      obtain ⟨ac, capc, rfl, _⟩ := hvc.own.slice
      obtain ⟨bc, hbc⟩ : ∃ bc, decide (C < 0) = bc := ⟨_, rfl⟩
      rw [hbc]
      have HVC := Hq0 hvc; have G9 := Hq0 g9; have HBC := Hq0 hbc
      clear hvc g9 hbc x0 x1 x2 hbs
      go_upto_region 7 with (fail)
      obtain ⟨w10, hw10, g10, _, hc10⟩ := box2 w9 (.cells #[.bool b1, .slice a9 t9 cap9] 28) (.cells #[.bool bc, .slice ac tc capc] 28)
      rw [← hw10]
      have dO : DVar w10 ob t6 (-(K6 : Int)) := kpb (grown_trans G8.out (grown_trans G9.out g10)) HO7.out
      have dB : DVar w10 bb t8 (-(K8 : Int)) := kpb (grown_trans G9.out g10) HD8.out
      have HVC0 := Hq0 (HVC.out.same g10)
      have G10 := Hq0 (grown_trans G5.out (grown_trans G7.out (grown_trans G8.out (grown_trans G9.out g10))))
      have HCX := Hq0 hc10
      have HO0 := Hq0 dO
      have hq6 : q6 ≤ 470 := H6.out.1.qle 470 (by decide) HL.out.2.1
      have hq8 : q8 ≤ 470 := HT8.out.qle 470 (by decide) HL8.out.1
      have hk6 := H6.out.2.2
      have hk8 := HL8.out.2.2
      have h53 : N6.natAbs < 10 ^ (9 * 53) := Nat.lt_of_lt_of_le HL.out.2.1 (Nat.pow_le_pow_right (by decide) (by decide))
      have hd53 : 10 ^ K6 < 10 ^ (9 * 53) := Nat.pow_lt_pow_right (by decide) (by omega)
      have HSO := Hq0 (fun wx => Sound_any (e := -(K6 : Int)) wx H6.out.1 (by omega) (by omega))
      have HFO := Hq0 (fun wx => FracOf_any K6 wx H6.out.1.sg (by omega) H6.out.1.q1 (by omega))
      rw [sgn_self] at HFO
      have HSA := Hq0 (fun (wx : World) (tn td : Nat) (y : Value) (hy : FrV wx 0 y N6 (10 ^ K6) tn td) => Says_any HT8.out hq8 (by omega) hy (Nat.le_trans (hy.tn 53 h53) (by decide)) (Nat.le_trans (hy.td 53 hd53) (by decide)) HL8.out.2.1)
      have HT := Hq0 (And.intro h53 hd53)
      obtain ⟨x0, x1, _, _⟩ := cell_two dO
      obtain ⟨z0, z1, _, _⟩ := cell_two dB
      have HSZ : Hid (S4 w10 (0) (ob) (bb) (.string t6) (.int .i64 (-(K6 : Int))) (.string t8) (.int .i64 (-(K8 : Int))) w10) := Hq0 ⟨grown_refl _ _, x0, x1, z0, z1⟩
      have GG : Hid (w10.grownBy w10 none) := Hq0 (grown_refl _ _)
      clear x0 x1 z0 z1 hw10 g10 hc10 dO dB hq6 hq8 hk6 hk8 h53 hd53
      go_region_held3 (fun w' => w10.grownBy w' (some (0)) ∧ w'.cell? ⟨ob, 0, none⟩ = some (.string t6) ∧ w'.cell? ⟨ob, 1, none⟩ = some (.int .i64 (-(K6 : Int))) ∧ w'.cell? ⟨bb, 0, none⟩ = some (.string t8) ∧ w'.cell? ⟨bb, 1, none⟩ = some (.int .i64 (-(K8 : Int))))
        (first | exact KS.out | exact S4.keep (grown_dw _) HSZ.out | exact S4.st KS.out (by omega) (by omega) _ _)
        (first
          | (go_at_call 12; refine (HSO.out _).mono ?_; rintro r wk ⟨rfl, gk⟩; have KS : Hid (S4 w10 (0) (ob) (bb) (.string t6) (.int .i64 (-(K6 : Int))) (.string t8) (.int .i64 (-(K8 : Int))) wk) := Hq0 (S4.keep gk (by assumption)); have GG := Hq0 (grown_trans (grown_drew w10) gk); clear gk)
          | (go_at_call 14; refine (HFO.out _).mono ?_; rintro r wk2 ⟨y, ty, uy, rfl, hy, gk⟩; have KS : Hid (S4 w10 (0) (ob) (bb) (.string t6) (.int .i64 (-(K6 : Int))) (.string t8) (.int .i64 (-(K8 : Int))) wk2) := Hq0 (S4.keep gk (by assumption)); have HY := Hq0 hy; clear hy; have GG := Hq0 (grown_trans GG.out gk); clear gk)
          | (go_at_call 13; refine (HSA.out _ _ _ _ HY.out).mono ?_; rintro r wk3 ⟨rfl, gk⟩; have KS : Hid (S4 w10 (0) (ob) (bb) (.string t6) (.int .i64 (-(K6 : Int))) (.string t8) (.int .i64 (-(K8 : Int))) wk3) := Hq0 (S4.keep gk (by assumption)); have GG := Hq0 (grown_trans GG.out gk); clear gk))
      all_goals
        go_upto_region 9 with (fail)
        have dO := kpb GG.out HO0.out
        have dC := kpb GG.out HCX.out
        have HVC1 := Hq0 (HVC0.out.same GG.out)
        have G11 := Hq0 (grown_trans G10.out GG.out)
        obtain ⟨x0, x1, _, _⟩ := cell_two dO
        obtain ⟨z0, z1, _, _⟩ := cell_two dC
        clear KS GG HSZ dO dC
        generalize wk3 = w11 at *
        have htc : tc ≤ 6 := HVC1.out.tk 6 (by have := HL.out.2.2; omega)
        have HPW := Hq0 (fun wx => Pow10_any 40 wx (by decide))
        have HSU := Hq0 (fun (wx : World) (ty uy tp : Nat) (y vp : Value) (g : w11.grownBy wx none) (hy : FrV wx 0 y N6 (10 ^ K6) ty uy) (hp : NatOf wx 0 vp (10 ^ 40) tp) => FSub_any hy (⟨_, _, rfl, HVC1.out.same g, hp⟩ : FrV wx 0 (.agg #[.bool (decide (C < 0)), .slice ac tc capc, vp]) C (10 ^ 40) tc tp) (by have := hy.tn 53 HT.out.1; have := hp.tk 5 (by decide); omega) (by have := hy.td 53 HT.out.2; omega))
        obtain ⟨Z, hZ⟩ : ∃ Z : Int, N6 * ((10 ^ 40 : Nat) : Int) + -C * ((10 ^ K6 : Nat) : Int) = Z := ⟨_, rfl⟩
        rw [hZ, HBC.out] at HSU
        have hz1 := HL.out.1
        rw [hZ] at hz1
        have hk6 := H6.out.2.2
        have hdd : 10 ^ K6 * 10 ^ 40 < 10 ^ (9 * 60) := by rw [← Nat.pow_add]; exact Nat.pow_lt_pow_right (by decide) (by omega)
        have hzz : ((Z.natAbs : Int)).natAbs < 10 ^ (9 * 60) := by
          refine Nat.lt_of_le_of_lt ?_ hdd
          exact Nat.le_of_lt (Nat.lt_of_le_of_lt (Nat.le_mul_of_pos_right _ (by decide)) hz1)
        have hcm : wcmp ((Z.natAbs : Int) * ((10 ^ 13 : Nat) : Int)) (1 * ((10 ^ K6 * 10 ^ 40 : Nat) : Int)) = -1 := wcmp_less (by rw [Int.one_mul, ← Int.natCast_mul]; exact Int.ofNat_lt.2 hz1)
        have HCM := Hq0 (fun (wx : World) (tz uz t3 u3 : Nat) (z2 z3 : Value) (hz : FrV wx 0 z2 (Z.natAbs : Int) (10 ^ K6 * 10 ^ 40) tz uz) (hz3 : FrV wx 0 z3 1 (10 ^ 13) t3 u3) => FCmp_any hz hz3 (by have := hz.tn 60 hzz; have := hz3.td 2 (by decide); omega) (by have := hz.td 60 hdd; have := hz3.tn 1 (by decide); omega))
        rw [hcm] at HCM
        have HSZ : Hid (S4 w11 (0) (ob) (w9.heap.size + 1) (.string t6) (.int .i64 (-(K6 : Int))) (.bool bc) (.slice ac tc capc) w11) := Hq0 ⟨grown_refl _ _, x0, x1, z0, z1⟩
        have GG : Hid (w11.grownBy w11 none) := Hq0 (grown_refl _ _)
        clear x0 x1 z0 z1 hZ hz1 hk6 hdd hzz hcm htc
        go_region_held3 (fun w' => w11.grownBy w' (some (0)) ∧ w'.cell? ⟨ob, 0, none⟩ = some (.string t6) ∧ w'.cell? ⟨ob, 1, none⟩ = some (.int .i64 (-(K6 : Int))) ∧ w'.cell? ⟨w9.heap.size + 1, 0, none⟩ = some (.bool bc) ∧ w'.cell? ⟨w9.heap.size + 1, 1, none⟩ = some (.slice ac tc capc))
          (first | exact KS.out | exact S4.keep (grown_dw _) HSZ.out | exact S4.st KS.out (by omega) (by omega) _ _)
          (first
            | (go_at_call 14; refine (HFO.out _).mono ?_; rintro r wk ⟨y, ty, uy, rfl, hy, gk⟩; have KS : Hid (S4 w11 (0) (ob) (w9.heap.size + 1) (.string t6) (.int .i64 (-(K6 : Int))) (.bool bc) (.slice ac tc capc) wk) := Hq0 (S4.keep gk (by assumption)); have HY := Hq0 hy; clear hy; have GG := Hq0 (grown_trans (grown_drew w11) gk); clear gk)
            | (go_at_call 16; refine (HPW.out _).mono ?_; rintro r wk2 ⟨vp, tp, rfl, hp, gk⟩; obtain ⟨ap, capp, rfl, _⟩ := hp.own.slice; have KS : Hid (S4 w11 (0) (ob) (w9.heap.size + 1) (.string t6) (.int .i64 (-(K6 : Int))) (.bool bc) (.slice ac tc capc) wk2) := Hq0 (S4.keep gk (by assumption)); have HY := Hq0 (HY.out.same gk); have HPP := Hq0 (hp.base (Nat.zero_le _)); clear hp; have GG := Hq0 (grown_trans GG.out gk); clear gk)
            | (go_at_call 15; refine (HSU.out _ _ _ _ _ _ GG.out HY.out HPP.out).mono ?_; rintro r wk3 ⟨z, tz, uz, rfl, hz, gk⟩; have KS : Hid (S4 w11 (0) (ob) (w9.heap.size + 1) (.string t6) (.int .i64 (-(K6 : Int))) (.bool bc) (.slice ac tc capc) wk3) := Hq0 (S4.keep gk (by assumption)); have HZ := Hq0 hz; clear hz; have GG := Hq0 (grown_trans GG.out gk); clear gk)
            | (go_at_call 17; refine (FAbs_any HZ.out).mono ?_; rintro r wk4 ⟨z2, rfl, hz, gk⟩; have KS : Hid (S4 w11 (0) (ob) (w9.heap.size + 1) (.string t6) (.int .i64 (-(K6 : Int))) (.bool bc) (.slice ac tc capc) wk4) := Hq0 (S4.keep gk (by assumption)); have HZ2 := Hq0 hz; clear hz; have GG := Hq0 (grown_trans GG.out gk); clear gk)
            | (go_at_call 19; refine (arTiny_any _).mono ?_; rintro r wk5 ⟨z3, t3, u3, rfl, hz, gk⟩; have KS : Hid (S4 w11 (0) (ob) (w9.heap.size + 1) (.string t6) (.int .i64 (-(K6 : Int))) (.bool bc) (.slice ac tc capc) wk5) := Hq0 (S4.keep gk (by assumption)); have HZ2 := Hq0 (HZ2.out.same gk); have HZ3 := Hq0 hz; clear hz; have GG := Hq0 (grown_trans GG.out gk); clear gk)
            | (go_at_call 18; refine (HCM.out _ _ _ _ _ _ _ HZ2.out HZ3.out).mono ?_; rintro r wk6 ⟨rfl, gk⟩; have KS : Hid (S4 w11 (0) (ob) (w9.heap.size + 1) (.string t6) (.int .i64 (-(K6 : Int))) (.bool bc) (.slice ac tc capc) wk6) := Hq0 (S4.keep gk (by assumption)); have GG := Hq0 (grown_trans GG.out gk); clear gk))
        all_goals
          go_wp2
          refine bodyPost_ret (v := .bool true) (by simp [results, Tryz.func3, go_sem]; try rfl) rfl ?_
          exact ⟨rfl, grown_trans G11.out GG.out⟩
  · have HZ := Hq0 (fun wx => zzFits1_no s e wx hs)
    clear hs
    go_enter Tryz.func3, Tryz.ntmps3
    go_upto_region 1 with (fail)
    rw [← hW1]
    clear hW1
    go_wp2_with (fail)
    refine (HZ.out _).mono ?_
    rintro r w2 ⟨rfl, g2⟩
    go_wp2
    refine bodyPost_ret (v := .bool true) (by simp [results, Tryz.func3, go_sem]; try rfl) rfl ?_
    exact ⟨rfl, grown_trans G1.out g2⟩
end Go.Proofs.YtjcfacinlgogaaaGreatDoor
