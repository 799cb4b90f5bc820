/- Fractions: sum, difference, amount, comparison. Conditions: at most 9000 digits. Fractions: rounding to nothing. Conditions: at most 3600 digits. -/
import Derived.Test.YtjcfacinlgogaaaGreatDoorQ45
set_option linter.all false
set_option maxHeartbeats 4000000
set_option maxRecDepth 100000
set_option exponentiation.threshold 20000
open Go.RowKit
namespace Go.Proofs.YtjcfacinlgogaaaGreatDoor
def Tg1 : Prop := True
def WhB (w : World) (n : Int) (r : Ending) (w' : World) : Prop := ∃ v t, r = .returned (.agg #[.bool (decide (n < 0)), v]) ∧ NatOf w' 0 v n.natAbs t ∧ t ≤ 1000 ∧ w.grownBy w' none
theorem WMul_bd {w : World} {base1 base2 tn tm : Nat} {u v : Value} {n m : Int} (hx : NatOf w base1 u n.natAbs tn) (hy : NatOf w base2 v m.natAbs tm) (ht : tn + tm ≤ 1000) : Calls Tryz.prog 41 #[.agg #[.bool (decide (n < 0)), u], .agg #[.bool (decide (m < 0)), v]] w fun r w' => WhB w (n * m) r w' := by
  have h1 : (n * m).natAbs < 10 ^ (9 * 1000) := by
    rw [Int.natAbs_mul]
    have a := Nat.mul_lt_mul'' hx.lt hy.lt
    rw [← Nat.pow_add] at a
    exact Nat.lt_of_lt_of_le a (Nat.pow_le_pow_right (by decide) (by omega))
  refine (WMul_any (n := n) (m := m) ⟨u, rfl, hx⟩ ⟨v, rfl, hy⟩ (by omega) (by omega)).mono ?_
  rintro r w' ⟨x, t, rfl, ⟨v', rfl, hv⟩, g⟩
  exact ⟨v', t, rfl, hv.base (Nat.zero_le _), hv.tk 1000 h1, g⟩
theorem WMul_nat {w : World} {base1 base2 tn td d : Nat} {u v : Value} {n : Int} (hx : NatOf w base1 u n.natAbs tn) (hy : NatOf w base2 v d td) (ht : tn + td ≤ 1000) : Calls Tryz.prog 41 #[.agg #[.bool (decide (n < 0)), u], .agg #[.bool false, v]] w fun r w' => WhB w (n * d) r w' := by
  have h := WMul_bd (n := n) (m := (d : Int)) hx (by exact hy) ht
  rwa [decide_eq_false (show ¬ (d : Int) < 0 by omega)] at h
theorem FAdd_any {w : World} {base1 base2 d1 d2 tn1 tn2 td1 td2 : Nat} {x y : Value} {n1 n2 : Int} (hx : FrV w base1 x n1 d1 tn1 td1) (hy : FrV w base2 y n2 d2 tn2 td2) (h1 : tn1 + td2 ≤ 1000) (h2 : tn2 + td1 ≤ 1000) : Calls Tryz.prog 28 #[x, y] w fun r w' => FrR w (n1 * d2 + n2 * d1) (d1 * d2) r w' := by
  obtain ⟨v1, u1, rfl, hv1, hu1⟩ := hx
  obtain ⟨v2, u2, rfl, hv2, hu2⟩ := hy
  obtain ⟨a, cap, rfl, _⟩ := hv1.own.slice
  obtain ⟨a1, cap1, rfl, _⟩ := hu1.own.slice
  obtain ⟨b, dap, rfl, _⟩ := hv2.own.slice
  obtain ⟨b1, dap1, rfl, _⟩ := hu2.own.slice
  have HM1 := Hq0 (fun (wx : World) (g : w.grownBy wx none) => WMul_nat (n := n1) (hv1.same g) (hu2.same g) h1)
  have HM2 := Hq0 (fun (wx : World) (g : w.grownBy wx none) => WMul_nat (n := n2) (hv2.same g) (hu1.same g) h2)
  have HN := Hq0 (fun (wx : World) (g : w.grownBy wx none) => NatMul_any (hu1.same g) (hu2.same g) (by omega) (by omega))
  have HA := Hq0 (fun (wx : World) (p q tp tq : Nat) (v u : Value) (n m : Int) (hv : NatOf wx p v n.natAbs tp) (hu : NatOf wx q u m.natAbs tq) (h1 : tp ≤ 1000) (h2 : tq ≤ 1000) => WAdd_any (n := n) (m := m) ⟨v, rfl, hv⟩ ⟨u, rfl, hu⟩ h1 h2)
  unfold FrR FrV
  generalize hp1 : n1 * (d2 : Int) = p1 at *
  generalize hp2 : n2 * (d1 : Int) = p2 at *
  generalize hbs : decide (n1 < 0) = bs at *
  generalize hbt : decide (n2 < 0) = bt at *
  clear hv1 hv2 hu1 hu2 h1 h2 hbs hbt hp1 hp2
  obtain ⟨WB, hW0, g0, ha, hb, hr⟩ := box3 w (.cells #[.bool bs, .slice a tn1 cap, .slice a1 td1 cap1] 30) (.cells #[.bool bt, .slice b tn2 dap, .slice b1 td2 dap1] 30) (.cells #[.bool false, .slice none 0 0, .slice none 0 0] 30)
  obtain ⟨x0, x1, x2, _, _, _⟩ := cell_three ha
  obtain ⟨z0, z1, z2, _, _, _⟩ := cell_three hb
  have HR := Hq0 hr
  have G0 := Hq0 g0
  have HSZ : Hid (S6 WB (w.heap.size + 1 + 1) (w.heap.size) (w.heap.size + 1) (.bool bs) (.slice a tn1 cap) (.slice a1 td1 cap1) (.bool bt) (.slice b tn2 dap) (.slice b1 td2 dap1) WB) := Hq0 ⟨grown_refl _ _, x0, x1, x2, z0, z1, z2⟩
  have GG : Hid (WB.grownBy WB none) := Hq0 (grown_refl _ _)
  clear ha hb hr g0
  have T0 : Tg1 := trivial
  go_enter Tryz.func28, Tryz.ntmps28
  go_upto_region 1 with (fail)
  rw [← hW0]
  clear hW0
  clear x0 x1 x2 z0 z1 z2
  go_region_held3 (fun w' => WB.grownBy w' (some (w.heap.size + 1 + 1)) ∧ w'.cell? ⟨w.heap.size, 0, none⟩ = some (.bool bs) ∧ w'.cell? ⟨w.heap.size, 1, none⟩ = some (.slice a tn1 cap) ∧ w'.cell? ⟨w.heap.size, 2, none⟩ = some (.slice a1 td1 cap1) ∧ w'.cell? ⟨w.heap.size + 1, 0, none⟩ = some (.bool bt) ∧ w'.cell? ⟨w.heap.size + 1, 1, none⟩ = some (.slice b tn2 dap) ∧ w'.cell? ⟨w.heap.size + 1, 2, none⟩ = some (.slice b1 td2 dap1))
    (first | exact KS.out | exact S6.keep (grown_dw _) HSZ.out | exact S6.st3 KS.out (by omega) (by omega) _ _ _)
    (first
      | (go_at_call 42; refine (HN.out _ (grown_trans G0.out GG.out)).mono ?_; rintro r wk4 ⟨v4, t4, rfl, hv4, gk⟩; obtain ⟨a4, cap4, rfl, _⟩ := hv4.own.slice; have KS : Hid (S6 WB (w.heap.size + 1 + 1) (w.heap.size) (w.heap.size + 1) (.bool bs) (.slice a tn1 cap) (.slice a1 td1 cap1) (.bool bt) (.slice b tn2 dap) (.slice b1 td2 dap1) wk4) := Hq0 (S6.keep gk (by assumption)); have HV3 := Hq0 (HV3.out.same gk); have HV4 := Hq0 hv4; clear hv4; have GG := Hq0 (grown_trans GG.out gk); have HRR := Hq0 (kpb GG.out HR.out); obtain ⟨y0, y1, y2, y3, y4, y5⟩ := cell_three HRR.out; clear gk)
      | (go_at_call 40; refine (HA.out _ _ _ _ _ _ _ p1 p2 HV1.out HV2.out HT1.out HT2.out).mono ?_; rintro r wk3 ⟨z, tz, rfl, ⟨v3, rfl, hv3⟩, gk⟩; obtain ⟨a3, cap3, rfl, _⟩ := hv3.own.slice; generalize hbz : decide (p1 + p2 < 0) = bz at *; have KS : Hid (S6 WB (w.heap.size + 1 + 1) (w.heap.size) (w.heap.size + 1) (.bool bs) (.slice a tn1 cap) (.slice a1 td1 cap1) (.bool bt) (.slice b tn2 dap) (.slice b1 td2 dap1) wk3) := Hq0 (S6.keep gk (by assumption)); have HV3 := Hq0 hv3; have HBZ := Hq0 hbz; clear hv3 hbz; have GG := Hq0 (grown_trans GG.out gk); clear gk)
      | (clear T1; have T2 : Tg1 := trivial; go_at_call 41; refine (HM2.out _ (grown_trans G0.out GG.out)).mono ?_; rintro r wk2 ⟨v2, t2, rfl, hv2, ht2, gk⟩; have KS : Hid (S6 WB (w.heap.size + 1 + 1) (w.heap.size) (w.heap.size + 1) (.bool bs) (.slice a tn1 cap) (.slice a1 td1 cap1) (.bool bt) (.slice b tn2 dap) (.slice b1 td2 dap1) wk2) := Hq0 (S6.keep gk (by assumption)); have HV1 := Hq0 (HV1.out.same gk); have HV2 := Hq0 hv2; have HT2 := Hq0 ht2; clear hv2 ht2; have GG := Hq0 (grown_trans GG.out gk); clear gk)
      | (clear T0; have T1 : Tg1 := trivial; go_at_call 41; refine (HM1.out _ (grown_trans G0.out (grown_trans GG.out (grown_drew _)))).mono ?_; rintro r wk ⟨v1, t1, rfl, hv1, ht1, gk⟩; have KS : Hid (S6 WB (w.heap.size + 1 + 1) (w.heap.size) (w.heap.size + 1) (.bool bs) (.slice a tn1 cap) (.slice a1 td1 cap1) (.bool bt) (.slice b tn2 dap) (.slice b1 td2 dap1) wk) := Hq0 (S6.keep gk (by assumption)); have HV1 := Hq0 hv1; have HT1 := Hq0 ht1; clear hv1 ht1; have GG := Hq0 (grown_trans (grown_drew WB) gk); clear gk))
  all_goals
    obtain ⟨o1, o2⟩ := st_var3 HRR.out (.bool bz) (.slice a3 tz cap3) (.slice a4 t4 cap4)
    have HZ3 := Hq0 (own_any3 HV3.out HRR.out (by decide) o1)
    have HZ4 := Hq0 (own_any3 HV4.out HRR.out (by decide) o1)
    have G9 := Hq0 (grown_own (grown_trans G0.out GG.out) o1 (.inr (by omega)))
    have HLE := Hq0 (Nat.le_trans G0.out.size (grown_drew WB).size)
    clear y0 y1 y2 y3 y4 y5
    go_wp2
    generalize ((wk4.setCell ⟨w.heap.size + 1 + 1, 0, none⟩ (.bool bz)).setCell ⟨w.heap.size + 1 + 1, 1, none⟩ (.slice a3 tz cap3)).setCell ⟨w.heap.size + 1 + 1, 2, none⟩ (.slice a4 t4 cap4) = w9 at *
    obtain ⟨s0, s1, s2, _, _, _⟩ := cell_three o2
    refine bodyPost_ret (v := .agg #[.bool bz, .slice a3 tz cap3, .slice a4 t4 cap4]) (by simp [results, Tryz.func28, go_sem, s0, s1, s2]; try rfl) rfl ?_
    exact ⟨_, tz, t4, rfl, ⟨_, _, by rw [HBZ.out], HZ3.out.base (Nat.zero_le _), HZ4.out.base (Nat.zero_le _)⟩, G9.out⟩
theorem FSub_any {w : World} {base1 base2 d1 d2 tn1 tn2 td1 td2 : Nat} {x y : Value} {n1 n2 : Int} (hx : FrV w base1 x n1 d1 tn1 td1) (hy : FrV w base2 y n2 d2 tn2 td2) (h1 : tn1 + td2 ≤ 1000) (h2 : tn2 + td1 ≤ 1000) : Calls Tryz.prog 15 #[x, y] w fun r w' => FrR w (n1 * d2 + -n2 * d1) (d1 * d2) r w' := by
  obtain ⟨v1, u1, rfl, hv1, hu1⟩ := hx
  obtain ⟨v2, u2, rfl, hv2, hu2⟩ := hy
  obtain ⟨a, cap, rfl, _⟩ := hv1.own.slice
  obtain ⟨a1, cap1, rfl, _⟩ := hu1.own.slice
  obtain ⟨b, dap, rfl, _⟩ := hv2.own.slice
  obtain ⟨b1, dap1, rfl, _⟩ := hu2.own.slice
  have HX : Hid (∀ wx : World, w.grownBy wx none → FrV wx base1 (.agg #[.bool (decide (n1 < 0)), .slice a tn1 cap, .slice a1 td1 cap1]) n1 d1 tn1 td1) := Hq0 (fun wx g => ⟨_, _, rfl, hv1.same g, hu1.same g⟩)
  have HM := Hq0 (fun (wx : World) (g : w.grownBy wx none) => FMinus_any (⟨_, _, rfl, hv2.same g, hu2.same g⟩ : FrV wx base2 (.agg #[.bool (decide (n2 < 0)), .slice b tn2 dap, .slice b1 td2 dap1]) n2 d2 tn2 td2))
  have HA := Hq0 (fun (wx : World) (p : Nat) (z : Value) (hx : FrV wx base1 (.agg #[.bool (decide (n1 < 0)), .slice a tn1 cap, .slice a1 td1 cap1]) n1 d1 tn1 td1) (hy : FrV wx p z (-n2) d2 tn2 td2) => FAdd_any hx hy h1 h2)
  unfold FrR
  generalize hp1 : n1 * (d2 : Int) + -n2 * d1 = p1 at *
  generalize hbs : decide (n1 < 0) = bs at *
  generalize hbt : decide (n2 < 0) = bt at *
  clear hv1 hv2 hu1 hu2 h1 h2 hbs hbt hp1
  obtain ⟨WB, hW0, g0, ha, hb, hr⟩ := box3 w (.cells #[.bool bs, .slice a tn1 cap, .slice a1 td1 cap1] 30) (.cells #[.bool bt, .slice b tn2 dap, .slice b1 td2 dap1] 30) (.cells #[.bool false, .slice none 0 0, .slice none 0 0] 30)
  obtain ⟨x0, x1, x2, _, _, _⟩ := cell_three ha
  obtain ⟨z0, z1, z2, _, _, _⟩ := cell_three hb
  have HR := Hq0 hr
  have G0 := Hq0 g0
  have HSZ : Hid (S6 WB (w.heap.size + 1 + 1) (w.heap.size) (w.heap.size + 1) (.bool bs) (.slice a tn1 cap) (.slice a1 td1 cap1) (.bool bt) (.slice b tn2 dap) (.slice b1 td2 dap1) WB) := Hq0 ⟨grown_refl _ _, x0, x1, x2, z0, z1, z2⟩
  have GG : Hid (WB.grownBy WB none) := Hq0 (grown_refl _ _)
  clear ha hb hr g0
  go_enter Tryz.func15, Tryz.ntmps15
  go_upto_region 1 with (fail)
  rw [← hW0]
  clear hW0
  clear x0 x1 x2 z0 z1 z2
  go_region_held3 (fun w' => WB.grownBy w' (some (w.heap.size + 1 + 1)) ∧ w'.cell? ⟨w.heap.size, 0, none⟩ = some (.bool bs) ∧ w'.cell? ⟨w.heap.size, 1, none⟩ = some (.slice a tn1 cap) ∧ w'.cell? ⟨w.heap.size, 2, none⟩ = some (.slice a1 td1 cap1) ∧ w'.cell? ⟨w.heap.size + 1, 0, none⟩ = some (.bool bt) ∧ w'.cell? ⟨w.heap.size + 1, 1, none⟩ = some (.slice b tn2 dap) ∧ w'.cell? ⟨w.heap.size + 1, 2, none⟩ = some (.slice b1 td2 dap1))
    (first | exact KS.out | exact S6.keep (grown_dw _) HSZ.out | exact S6.st3 KS.out (by omega) (by omega) _ _ _)
    (first
      | (go_at_call 28; refine (HA.out _ _ _ (HX.out _ (grown_trans G0.out GG.out)) HZ.out).mono ?_; rintro r wk2 ⟨z2, t3, t4, rfl, ⟨v3, v4, rfl, hv3, hv4⟩, gk⟩; obtain ⟨a3, cap3, rfl, _⟩ := hv3.own.slice; obtain ⟨a4, cap4, rfl, _⟩ := hv4.own.slice; generalize hbz : decide (p1 < 0) = bz at *; have KS : Hid (S6 WB (w.heap.size + 1 + 1) (w.heap.size) (w.heap.size + 1) (.bool bs) (.slice a tn1 cap) (.slice a1 td1 cap1) (.bool bt) (.slice b tn2 dap) (.slice b1 td2 dap1) wk2) := Hq0 (S6.keep gk (by assumption)); have HV3 := Hq0 hv3; have HV4 := Hq0 hv4; have HBZ := Hq0 hbz; clear hv3 hv4 hbz; have GG := Hq0 (grown_trans GG.out gk); have HRR := Hq0 (kpb GG.out HR.out); obtain ⟨y0, y1, y2, y3, y4, y5⟩ := cell_three HRR.out; clear gk)
      | (go_at_call 23; refine (HM.out _ (grown_trans G0.out (grown_trans GG.out (grown_drew _)))).mono ?_; rintro r wk ⟨z, rfl, hz, gk⟩; have KS : Hid (S6 WB (w.heap.size + 1 + 1) (w.heap.size) (w.heap.size + 1) (.bool bs) (.slice a tn1 cap) (.slice a1 td1 cap1) (.bool bt) (.slice b tn2 dap) (.slice b1 td2 dap1) wk) := Hq0 (S6.keep gk (by assumption)); have HZ := Hq0 hz; clear hz; have GG := Hq0 (grown_trans (grown_drew WB) gk); clear gk))
  all_goals
    obtain ⟨o1, o2⟩ := st_var3 HRR.out (.bool bz) (.slice a3 t3 cap3) (.slice a4 t4 cap4)
    have HZ3 := Hq0 (own_any3 HV3.out HRR.out (by decide) o1)
    have HZ4 := Hq0 (own_any3 HV4.out HRR.out (by decide) o1)
    have G9 := Hq0 (grown_own (grown_trans G0.out GG.out) o1 (.inr (by omega)))
    have HLE := Hq0 (Nat.le_trans G0.out.size (grown_drew WB).size)
    clear y0 y1 y2 y3 y4 y5
    go_wp2
    generalize ((wk2.setCell ⟨w.heap.size + 1 + 1, 0, none⟩ (.bool bz)).setCell ⟨w.heap.size + 1 + 1, 1, none⟩ (.slice a3 t3 cap3)).setCell ⟨w.heap.size + 1 + 1, 2, none⟩ (.slice a4 t4 cap4) = w9 at *
    obtain ⟨s0, s1, s2, _, _, _⟩ := cell_three o2
    refine bodyPost_ret (v := .agg #[.bool bz, .slice a3 t3 cap3, .slice a4 t4 cap4]) (by simp [results, Tryz.func15, go_sem, s0, s1, s2]; try rfl) rfl ?_
    exact ⟨_, t3, t4, rfl, ⟨_, _, by rw [HBZ.out], HZ3.out.base (Nat.zero_le _), HZ4.out.base (Nat.zero_le _)⟩, G9.out⟩
theorem FAbs_any {w : World} {base d tn1 td1 : Nat} {x : Value} {n : Int} (h : FrV w base x n d tn1 td1) : Calls Tryz.prog 17 #[x] w fun r w' => ∃ x', r = .returned x' ∧ FrV w' 0 x' (n.natAbs : Int) d tn1 td1 ∧ w.grownBy w' none := by
  obtain ⟨v, u, rfl, hv, hu⟩ := h
  obtain ⟨a, cap, rfl, _⟩ := hv.own.slice
  obtain ⟨a1, cap1, rfl, _⟩ := hu.own.slice
  have HV := Hq0 hv; have HU := Hq0 hu
  generalize hbs : decide (n < 0) = bs at *
  clear hv hbs hu
  obtain ⟨WB, hW0, g0, ha, hr⟩ := box2 w (.cells #[.bool bs, .slice a tn1 cap, .slice a1 td1 cap1] 30) (.cells #[.bool false, .slice none 0 0, .slice none 0 0] 30)
  obtain ⟨x0, x1, x2, _, _, _⟩ := cell_three ha
  have HR := Hq0 hr
  have G0 := Hq0 g0
  have HSZ : Hid (S6 WB (w.heap.size + 1) (w.heap.size) (w.heap.size) (.bool bs) (.slice a tn1 cap) (.slice a1 td1 cap1) (.bool bs) (.slice a tn1 cap) (.slice a1 td1 cap1) WB) := Hq0 ⟨grown_refl _ _, x0, x1, x2, x0, x1, x2⟩
  have GG : Hid (WB.grownBy WB none) := Hq0 (grown_refl _ _)
  obtain ⟨y0, y1, y2, y3, y4, y5⟩ := cell_three hr
  clear ha hr g0
  go_enter Tryz.func17, Tryz.ntmps17
  go_upto_region 1 with (fail)
  rw [← hW0]
  clear hW0
  obtain ⟨o1, o2⟩ := st_var3 HR.out (.bool false) (.slice a tn1 cap) (.slice a1 td1 cap1)
  have HN := Hq0 (own_any3 (HV.out.same G0.out) HR.out (by decide) o1)
  have HM := Hq0 (own_any3 (HU.out.same G0.out) HR.out (by decide) o1)
  have G9 := Hq0 (grown_own G0.out o1 (.inr (by omega)))
  go_wp2
  clear y0 y1 y2 y3 y4 y5
  generalize ((WB.setCell ⟨w.heap.size + 1, 0, none⟩ (.bool false)).setCell ⟨w.heap.size + 1, 1, none⟩ (.slice a tn1 cap)).setCell ⟨w.heap.size + 1, 2, none⟩ (.slice a1 td1 cap1) = w9 at *
  obtain ⟨s0, s1, s2, _, _, _⟩ := cell_three o2
  refine bodyPost_ret (v := .agg #[.bool false, .slice a tn1 cap, .slice a1 td1 cap1]) (by simp [results, Tryz.func17, go_sem, s0, s1, s2]; try rfl) rfl ?_
  exact ⟨_, rfl, ⟨_, _, by rw [decide_eq_false (show ¬ (n.natAbs : Int) < 0 by omega)], HN.out.base (Nat.zero_le _), HM.out.base (Nat.zero_le _)⟩, G9.out⟩
theorem FCmp_any {w : World} {base1 base2 d1 d2 tn1 tn2 td1 td2 : Nat} {x y : Value} {n1 n2 : Int} (hx : FrV w base1 x n1 d1 tn1 td1) (hy : FrV w base2 y n2 d2 tn2 td2) (h1 : tn1 + td2 ≤ 1000) (h2 : tn2 + td1 ≤ 1000) : Calls Tryz.prog 18 #[x, y] w fun r w' => r = .returned (.int .i64 (wcmp (n1 * d2) (n2 * d1))) ∧ w.grownBy w' none := by
  obtain ⟨v1, u1, rfl, hv1, hu1⟩ := hx
  obtain ⟨v2, u2, rfl, hv2, hu2⟩ := hy
  obtain ⟨a, cap, rfl, _⟩ := hv1.own.slice
  obtain ⟨a1, cap1, rfl, _⟩ := hu1.own.slice
  obtain ⟨b, dap, rfl, _⟩ := hv2.own.slice
  obtain ⟨b1, dap1, rfl, _⟩ := hu2.own.slice
  have HM1 := Hq0 (fun (wx : World) (g : w.grownBy wx none) => WMul_nat (n := n1) (hv1.same g) (hu2.same g) h1)
  have HM2 := Hq0 (fun (wx : World) (g : w.grownBy wx none) => WMul_nat (n := n2) (hv2.same g) (hu1.same g) h2)
  have HA := Hq0 (fun (wx : World) (p q tp tq : Nat) (v u : Value) (n m : Int) (hv : NatOf wx p v n.natAbs tp) (hu : NatOf wx q u m.natAbs tq) => WCmp_any (n := n) (m := m) ⟨v, rfl, hv⟩ ⟨u, rfl, hu⟩)
  generalize hp1 : n1 * (d2 : Int) = p1 at *
  generalize hp2 : n2 * (d1 : Int) = p2 at *
  generalize hbs : decide (n1 < 0) = bs at *
  generalize hbt : decide (n2 < 0) = bt at *
  clear hv1 hv2 hu1 hu2 h1 h2 hbs hbt hp1 hp2
  obtain ⟨WB, hW0, g0, ha, hb⟩ := box2 w (.cells #[.bool bs, .slice a tn1 cap, .slice a1 td1 cap1] 30) (.cells #[.bool bt, .slice b tn2 dap, .slice b1 td2 dap1] 30)
  obtain ⟨x0, x1, x2, _, _, _⟩ := cell_three ha
  obtain ⟨z0, z1, z2, _, _, _⟩ := cell_three hb
  have G0 := Hq0 g0
  have HSZ : Hid (S6 WB (w.heap.size + 1 + 1) (w.heap.size) (w.heap.size + 1) (.bool bs) (.slice a tn1 cap) (.slice a1 td1 cap1) (.bool bt) (.slice b tn2 dap) (.slice b1 td2 dap1) WB) := Hq0 ⟨grown_refl _ _, x0, x1, x2, z0, z1, z2⟩
  have GG : Hid (WB.grownBy WB none) := Hq0 (grown_refl _ _)
  clear ha hb g0
  have T0 : Tg1 := trivial
  go_enter Tryz.func18, Tryz.ntmps18
  go_upto_region 1 with (fail)
  rw [← hW0]
  clear hW0
  clear x0 x1 x2 z0 z1 z2
  go_region_held3 (fun w' => WB.grownBy w' (some (w.heap.size + 1 + 1)) ∧ w'.cell? ⟨w.heap.size, 0, none⟩ = some (.bool bs) ∧ w'.cell? ⟨w.heap.size, 1, none⟩ = some (.slice a tn1 cap) ∧ w'.cell? ⟨w.heap.size, 2, none⟩ = some (.slice a1 td1 cap1) ∧ w'.cell? ⟨w.heap.size + 1, 0, none⟩ = some (.bool bt) ∧ w'.cell? ⟨w.heap.size + 1, 1, none⟩ = some (.slice b tn2 dap) ∧ w'.cell? ⟨w.heap.size + 1, 2, none⟩ = some (.slice b1 td2 dap1))
    (first | exact KS.out | exact S6.keep (grown_dw _) HSZ.out | exact S6.st3 KS.out (by omega) (by omega) _ _ _)
    (first
      | (go_at_call 45; refine (HA.out _ _ _ _ _ _ _ p1 p2 HV1.out HV2.out).mono ?_; rintro r wk3 ⟨rfl, gk⟩; have KS : Hid (S6 WB (w.heap.size + 1 + 1) (w.heap.size) (w.heap.size + 1) (.bool bs) (.slice a tn1 cap) (.slice a1 td1 cap1) (.bool bt) (.slice b tn2 dap) (.slice b1 td2 dap1) wk3) := Hq0 (S6.keep gk (by assumption)); have GG := Hq0 (grown_trans GG.out gk); clear gk)
      | (clear T1; have T2 : Tg1 := trivial; go_at_call 41; refine (HM2.out _ (grown_trans G0.out GG.out)).mono ?_; rintro r wk2 ⟨v2, t2, rfl, hv2, ht2, gk⟩; have KS : Hid (S6 WB (w.heap.size + 1 + 1) (w.heap.size) (w.heap.size + 1) (.bool bs) (.slice a tn1 cap) (.slice a1 td1 cap1) (.bool bt) (.slice b tn2 dap) (.slice b1 td2 dap1) wk2) := Hq0 (S6.keep gk (by assumption)); have HV1 := Hq0 (HV1.out.same gk); have HV2 := Hq0 hv2; have HT2 := Hq0 ht2; clear hv2 ht2; have GG := Hq0 (grown_trans GG.out gk); clear gk)
      | (clear T0; have T1 : Tg1 := trivial; go_at_call 41; refine (HM1.out _ (grown_trans G0.out (grown_trans GG.out (grown_drew _)))).mono ?_; rintro r wk ⟨v1, t1, rfl, hv1, ht1, gk⟩; have KS : Hid (S6 WB (w.heap.size + 1 + 1) (w.heap.size) (w.heap.size + 1) (.bool bs) (.slice a tn1 cap) (.slice a1 td1 cap1) (.bool bt) (.slice b tn2 dap) (.slice b1 td2 dap1) wk) := Hq0 (S6.keep gk (by assumption)); have HV1 := Hq0 hv1; have HT1 := Hq0 ht1; clear hv1 ht1; have GG := Hq0 (grown_trans (grown_drew WB) gk); clear gk))
  all_goals
    go_wp2
    refine bodyPost_ret (v := .int .i64 (wcmp p1 p2)) (by simp [results, Tryz.func18, go_sem]; try rfl) rfl ?_
    exact ⟨rfl, grown_trans G0.out GG.out⟩
end Go.Proofs.YtjcfacinlgogaaaGreatDoor
open Go.RowKit
namespace Go.Proofs.YtjcfacinlgogaaaGreatDoor
theorem rounds_zero (neg odd : Bool) (h : Int) (w : World) : Calls Tryz.prog 75 #[.int .i64 0, .bool neg, .int .i64 h, .bool odd] w fun r w' => r = .returned (.bool false) ∧ w' = w := by
  go_enter Tryz.func75, Tryz.ntmps75
  go_wp2
  refine bodyPost_ret (v := .bool false) (by simp [results, Tryz.func75, go_sem]; try rfl) rfl ?_
  exact ⟨rfl, rfl⟩
theorem sgn_div (n : Int) (P d : Nat) : (decide (n < 0) && !decide (n.natAbs * P / d = 0)) = decide ((n * P).tdiv d < 0) ∧ ((n * P).tdiv d).natAbs = n.natAbs * P / d := by
  have h : ((n * P).tdiv d).natAbs = n.natAbs * P / d := by rw [Int.natAbs_tdiv, Int.natAbs_mul]; rfl
  refine ⟨?_, h⟩
  rw [← h]
  by_cases hn : n < 0
  · rw [decide_eq_true hn, Bool.true_and]
    have : (n * P).tdiv d ≤ 0 := by
      have h1 : n * (P : Int) ≤ 0 := Int.mul_nonpos_of_nonpos_of_nonneg (by omega) (by omega)
      have h2 := Int.tdiv_nonneg (a := -(n * P)) (b := (d : Int)) (by omega) (by omega)
      rw [Int.neg_tdiv] at h2
      omega
    by_cases hz : (n * P).tdiv d = 0
    · simp [hz]
    · rw [decide_eq_false (by omega), decide_eq_true (by omega)]; rfl
  · rw [decide_eq_false hn, Bool.false_and]
    have h2 := Int.tdiv_nonneg (a := n * P) (b := (d : Int)) (Int.mul_nonneg (by omega) (by omega)) (by omega)
    rw [decide_eq_false (by omega)]
def SP (w0 : World) (p q : Addr) (a b : Value) (w' : World) : Prop := w0.grownBy w' none ∧ w'.cell? p = some a ∧ w'.cell? q = some b
theorem SP.keep {w0 w' w2 : World} {p q : Addr} {a b : Value} (g : w'.grownBy w2 none) (h : SP w0 p q a b w') : SP w0 p q a b w2 := ⟨grown_trans h.1 g, keepc g h.2.1, keepc g h.2.2⟩
theorem Round_any {w : World} {base d tn td : Nat} {x : Value} {n : Int} (p : Nat) (h : FrV w base x n d tn td) (hp : p ≤ 1000) (hn : n.natAbs * 10 ^ p < 10 ^ 3600) (hd : 0 < d) : Calls Tryz.prog 38 #[x, .int .i64 p, .int .i64 0] w fun r w' => ∃ x' t, r = .returned x' ∧ DcV w' 0 x' ((n * ((10 ^ p : Nat) : Int)).tdiv d) (-(p : Int)) t ∧ w.grownBy w' none := by
  obtain ⟨v, u, rfl, hv, hu⟩ := h
  obtain ⟨a, cap, rfl, _⟩ := hv.own.slice
  obtain ⟨a1, cap1, rfl, _⟩ := hu.own.slice
  have hpp : 0 < 10 ^ p := Nat.pow_pos (by decide)
  have hn0 : n.natAbs < 10 ^ (9 * 400) := Nat.lt_of_le_of_lt (Nat.le_mul_of_pos_right _ hpp) hn
  have htn := hv.tk 400 hn0
  have HP := Hq0 (fun wx => Pow10_any p wx hp)
  have HM := Hq0 (fun (wx : World) (g : w.grownBy wx none) (b : Nat) (u : Value) (tb : Nat) (h : NatOf wx b u (10 ^ p) tb) (ht : tb ≤ 1000) => NatMul_any (hv.same g) h (Nat.le_trans htn (by decide)) ht)
  have HTP := Hq0 (fun (wx : World) (b : Nat) (u : Value) (tb : Nat) (h : NatOf wx b u (10 ^ p) tb) => h.tk 1000 (Nat.pow_lt_pow_right (by decide) (show p < 9 * 1000 by omega)))
  have HTM := Hq0 (fun (wx : World) (b : Nat) (u : Value) (tb : Nat) (h : NatOf wx b u (n.natAbs * 10 ^ p) tb) => h.tk 400 hn)
  have HTR := Hq0 (fun (wx : World) (b : Nat) (u : Value) (tb : Nat) (h : NatOf wx b u (n.natAbs * 10 ^ p % d) tb) => h.tk 1000 (Nat.lt_of_le_of_lt (Nat.mod_le _ _) (Nat.lt_of_lt_of_le hn (Nat.pow_le_pow_right (by decide) (by decide)))))
  have HD := Hq0 (fun (wx : World) (g : w.grownBy wx none) (b : Nat) (u : Value) (ta : Nat) (h : NatOf wx b u (n.natAbs * 10 ^ p) ta) (ht : ta ≤ 400) => NatDiv_any h (hu.same g) ht hd)
  have HW := Hq0 (fun (wx : World) (base c t : Nat) (v : Value) (neg : Bool) (h : NatOf wx base v c t) => wholeOf_any neg h)
  unfold wholeV at HW
  have HS := Hq0 (sgn_div n (10 ^ p) d)
  have HU := Hq0 hu
  obtain ⟨y, hy⟩ : ∃ y : Int, (p : Int) = y := ⟨_, rfl⟩
  have hw : IntKind.i64.wrap (-y) = -y := by rw [← hy]; exact IntWalk.i64_in _ (by omega)
  have hge : 0 ≤ y := by omega
  rw [hy] at HP ⊢
  have hty : True := trivial
  generalize hres : (n * ((10 ^ p : Nat) : Int)).tdiv d = res at *
  generalize hA : n.natAbs * 10 ^ p = A at *
  generalize hT : 10 ^ p = T at *
  unfold DcV
  generalize hbs : decide (n < 0) = bs at *
  clear hv hbs hu hres hA hT hn hn0 htn hpp hp hy hd
  obtain ⟨WB, hW0, g0, ha, hr⟩ := box2 w (.cells #[.bool bs, .slice a tn cap, .slice a1 td cap1] 30) (.cells #[.bool false, .slice none 0 0, .int .i64 0] 37)
  obtain ⟨x0, x1, x2, _, _, _⟩ := cell_three ha
  have HR := Hq0 hr
  have G0 := Hq0 g0
  have HSZ : Hid (S6 WB (w.heap.size + 1) (w.heap.size) (w.heap.size) (.bool bs) (.slice a tn cap) (.slice a1 td cap1) (.bool bs) (.slice a tn cap) (.slice a1 td cap1) WB) := Hq0 ⟨grown_refl _ _, x0, x1, x2, x0, x1, x2⟩
  have GG : Hid (WB.grownBy WB none) := Hq0 (grown_refl _ _)
  clear ha hr g0
  go_enter Tryz.func38, Tryz.ntmps38
  go_upto_region 1 with (fail)
  rw [← hW0]
  clear hW0
  go_quiet (fail)
  obtain ⟨W2, hW2⟩ : ∃ W2, W2 = WB.drewN nq := ⟨_, rfl⟩
  rw [← hW2]
  have g1 : WB.grownBy W2 none := by rw [hW2]; exact grown_drewN _ _
  clear hW2
  have G1 := Hq0 (grown_trans G0.out g1)
  have G1X := Hq0 g1
  clear g1
  go_wp2_with (fail)
  refine (HP.out _).mono ?_
  rintro r w3 ⟨u, tu, rfl, hu, g3⟩
  have ht := HTP.out _ _ _ _ hu
  have HU3 := Hq0 hu; have HT3 := Hq0 ht
  have G3 := Hq0 (grown_trans G1.out g3)
  have G3X := Hq0 g3
  clear hu ht g3
  go_wp2_with (fail)
  refine (HM.out _ G3.out _ _ _ HU3.out HT3.out).mono ?_
  rintro r w4 ⟨m, tm, rfl, hm, g4⟩
  have ht := HTM.out _ _ _ _ hm
  have HM4 := Hq0 hm; have HT4 := Hq0 ht
  have G4 := Hq0 (grown_trans G3.out g4)
  have G4X := Hq0 g4
  clear hm ht g4
  go_wp2_with (fail)
  refine (HD.out _ G4.out _ _ _ HM4.out HT4.out).mono ?_
  rintro r w5 ⟨q, rr, tq, tr, rfl, hq, hr, g5⟩
  have ht := HTR.out _ _ _ _ hr
  have HT5 := Hq0 ht
  have HQ := Hq0 hq; have HRR5 := Hq0 hr
  have G5 := Hq0 (grown_trans G4.out g5)
  have G5X := Hq0 g5
  clear ht g5
  obtain ⟨aq, capq, rfl, hacq⟩ := hq.own.slice
  obtain ⟨ar, capr, rfl, hacr⟩ := hr.own.slice
  have HACQ := Hq0 hacq
  clear hq hr hacr hacq
  go_upto_region 6 with (fail)
  have G59 := Hq0 (grown_trans G1X.out (grown_trans G3X.out (grown_trans G4X.out G5X.out)))
  have hx0 := keepc G59.out x0
  have HX0 := Hq0 hx0
  go_cut [57] from 33 to 57 (fun s57 wx => s57 = .bool false ∧ w5.grownBy wx none)
  case first =>
    by_cases hr0 : tr = 0
    · subst hr0
      go_quiet (fail)
      go_wp2_with (fail)
      go_meet
      exact ⟨rfl, grown_drewN _ _⟩
    · have hr1 : 0 < tr := by omega
      have GW : Hid (w5.grownBy w5 none) := Hq0 (grown_refl _ _)
      have HADD := Hq0 (fun (wx : World) (g : w5.grownBy wx none) => NatAdd_any (HRR5.out.same g) (HRR5.out.same g) HT5.out HT5.out)
      have HCMP := Hq0 (fun (wx : World) (g : w5.grownBy wx none) (b0 : Nat) (v : Value) (t : Nat) (h : NatOf wx b0 v (A % d + A % d) t) => NatCmp_any h ((HU.out.same G5.out).same g))
      by_cases hq0 : tq = 0
      · subst hq0
        have HSP : Hid (SP w5 ⟨w.heap.size, 0, none⟩ ⟨w.heap.size, 0, none⟩ (.bool bs) (.bool bs) w5) := Hq0 ⟨grown_refl _ _, hx0, hx0⟩
        clear hx0
        refine wp_region_held_drew (S := (fun w' => w5.grownBy w' none ∧ w'.cell? ⟨w.heap.size, 0, none⟩ = some (.bool bs) ∧ w'.cell? ⟨w.heap.size, 0, none⟩ = some (.bool bs))) (by kernel_rfl) ?_ (fun hHeld => ?_)
        · (first | exact KS.out | exact SP.keep (grown_dw _) HSP.out)
        refine takeD (dst := some 33) (v := ?_) (i := 0) rfl rfl (by kernel_rfl) (by kernel_rfl) (by kernel_rfl) (fun _ _ _ h => h) (Or.inl ⟨by rfl, ?_⟩) (by assumption) ?_
        rotate_left
        · (intro w hSw; (try dsimp only at hSw); go_simp; try with_reducible rfl)
        try simp only [Act.put, List.setIfInBounds_toArray, List.set_cons_zero, List.set_cons_succ]
        refine takeD (dst := some 34) (v := ?_) (i := 1) rfl rfl (by kernel_rfl) (by kernel_rfl) (by kernel_rfl) (fun _ _ _ h => h) (Or.inl ⟨by rfl, ?_⟩) (by assumption) ?_
        rotate_left
        · (intro w hSw; (try dsimp only at hSw); go_simp; try with_reducible rfl)
        try simp only [Act.put, List.setIfInBounds_toArray, List.set_cons_zero, List.set_cons_succ]
        refine takeD (dst := some 35) (v := ?_) (i := 2) rfl rfl (by kernel_rfl) (by kernel_rfl) (by kernel_rfl) (fun _ _ _ h => h) (Or.inl ⟨by rfl, ?_⟩) (by assumption) ?_
        rotate_left
        · (intro w hSw; (try dsimp only at hSw); go_simp; try with_reducible rfl)
        try simp only [Act.put, List.setIfInBounds_toArray, List.set_cons_zero, List.set_cons_succ]
        refine takeD (dst := some 36) (v := ?_) (i := 3) rfl rfl (by kernel_rfl) (by kernel_rfl) (by kernel_rfl) (fun _ _ _ h => h) (Or.inl ⟨by rfl, ?_⟩) (by assumption) ?_
        rotate_left
        · (intro w hSw; (try dsimp only at hSw); go_simp; try with_reducible rfl)
        try simp only [Act.put, List.setIfInBounds_toArray, List.set_cons_zero, List.set_cons_succ]
        refine takeD (dst := some 37) (v := ?_) (i := 4) rfl rfl (by kernel_rfl) (by kernel_rfl) (by kernel_rfl) (fun _ _ _ h => h) (Or.inl ⟨by rfl, ?_⟩) (by assumption) ?_
        rotate_left
        · (intro w hSw; (try dsimp only at hSw); go_simp; try with_reducible rfl)
        try simp only [Act.put, List.setIfInBounds_toArray, List.set_cons_zero, List.set_cons_succ]
        refine takeD (dst := some 38) (v := ?_) (i := 5) rfl rfl (by kernel_rfl) (by kernel_rfl) (by kernel_rfl) (fun _ _ _ h => h) (Or.inl ⟨by rfl, ?_⟩) (by assumption) ?_
        rotate_left
        · (intro w hSw; (try dsimp only at hSw); go_simp; try with_reducible rfl)
        try simp only [Act.put, List.setIfInBounds_toArray, List.set_cons_zero, List.set_cons_succ]
        refine takeD (dst := some 39) (v := ?_) (i := 6) rfl rfl (by kernel_rfl) (by kernel_rfl) (by kernel_rfl) (fun _ _ _ h => h) (Or.inl ⟨by rfl, ?_⟩) (by assumption) ?_
        rotate_left
        · (intro w hSw; (try dsimp only at hSw); go_simp; try with_reducible rfl)
        try simp only [Act.put, List.setIfInBounds_toArray, List.set_cons_zero, List.set_cons_succ]
        refine takeD (dst := some 40) (v := ?_) (i := 7) rfl rfl (by kernel_rfl) (by kernel_rfl) (by kernel_rfl) (fun _ _ _ h => h) (Or.inl ⟨by rfl, ?_⟩) (by assumption) ?_
        rotate_left
        · (intro w hSw; (try dsimp only at hSw); go_simp; try with_reducible rfl)
        try simp only [Act.put, List.setIfInBounds_toArray, List.set_cons_zero, List.set_cons_succ]
        refine takeD (dst := some 41) (v := ?_) (i := 8) rfl rfl (by kernel_rfl) (by kernel_rfl) (by kernel_rfl) (fun _ _ _ h => h) (Or.inl ⟨by rfl, ?_⟩) (by assumption) ?_
        rotate_left
        · (intro w hSw; (try dsimp only at hSw); go_simp; try with_reducible rfl)
        try simp only [Act.put, List.setIfInBounds_toArray, List.set_cons_zero, List.set_cons_succ]
        refine takeD (dst := some 42) (v := ?_) (i := 9) rfl rfl (by kernel_rfl) (by kernel_rfl) (by kernel_rfl) (fun _ _ _ h => h) (Or.inl ⟨by rfl, ?_⟩) (by assumption) ?_
        rotate_left
        · (intro w hSw; (try dsimp only at hSw); go_simp; try with_reducible rfl)
        try simp only [Act.put, List.setIfInBounds_toArray, List.set_cons_zero, List.set_cons_succ]
        refine takeD (dst := some 44) (v := ?_) (i := 11) rfl rfl (by kernel_rfl) (by kernel_rfl) (by kernel_rfl) (fun _ _ _ h => h) (Or.inl ⟨by rfl, ?_⟩) (by assumption) ?_
        rotate_left
        · (intro w hSw; (try dsimp only at hSw); go_simp; try with_reducible rfl)
        try simp only [Act.put, List.setIfInBounds_toArray, List.set_cons_zero, List.set_cons_succ]
        refine takeD (dst := some 46) (v := ?_) (i := 13) rfl rfl (by kernel_rfl) (by kernel_rfl) (by kernel_rfl) (fun _ _ _ h => h) (Or.inl ⟨by rfl, ?_⟩) (by assumption) ?_
        rotate_left
        · (intro w hSw; (try dsimp only at hSw); go_simp; try with_reducible rfl)
        try simp only [Act.put, List.setIfInBounds_toArray, List.set_cons_zero, List.set_cons_succ]
        refine takeD (dst := some 47) (v := ?_) (i := 14) rfl rfl (by kernel_rfl) (by kernel_rfl) (by kernel_rfl) (fun _ _ _ h => h) (Or.inl ⟨by rfl, ?_⟩) (by assumption) ?_
        rotate_left
        · (intro w hSw; (try dsimp only at hSw); go_simp; try with_reducible rfl)
        try simp only [Act.put, List.setIfInBounds_toArray, List.set_cons_zero, List.set_cons_succ]
        refine takeD (dst := some 48) (v := ?_) (i := 15) rfl rfl (by kernel_rfl) (by kernel_rfl) (by kernel_rfl) (fun _ _ _ h => h) (Or.inl ⟨by rfl, ?_⟩) (by assumption) ?_
        rotate_left
        · (intro w hSw; (try dsimp only at hSw); go_simp; try with_reducible rfl)
        try simp only [Act.put, List.setIfInBounds_toArray, List.set_cons_zero, List.set_cons_succ]
        refine wpAnyH_ready (rs := [10]) (by kernel_rfl) (by simp) ?_
        refine AllReadyH.cons rfl (fun K hK => ?_) AllReadyH.nil
        go_simp
        (go_at_call 77; refine (HADD.out _ (grown_trans GW.out (grown_drew _))).mono ?_; rintro r wk ⟨v, t, rfl, hv, gk⟩; have KS : Hid (SP w5 ⟨w.heap.size, 0, none⟩ ⟨w.heap.size, 0, none⟩ (.bool bs) (.bool bs) wk) := Hq0 (SP.keep gk (by assumption)); have HSUM := Hq0 hv; have GW := Hq0 (grown_trans (grown_drew w5) gk); clear hv gk)
        refine hK.out _ _ ?_ (fun hHeld => ?_)
        · (first | exact KS.out | exact SP.keep (grown_dw _) HSP.out)
        clear hK K
        try simp only [Act.put, List.setIfInBounds_toArray, List.set_cons_zero, List.set_cons_succ]
        refine wpAnyH_ready (rs := [12]) (by kernel_rfl) (by simp) ?_
        refine AllReadyH.cons rfl (fun K hK => ?_) AllReadyH.nil
        go_simp
        (go_at_call 76; refine (HCMP.out _ GW.out _ _ _ HSUM.out).mono ?_; rintro r wk2 ⟨rfl, gk⟩; have KS : Hid (SP w5 ⟨w.heap.size, 0, none⟩ ⟨w.heap.size, 0, none⟩ (.bool bs) (.bool bs) wk2) := Hq0 (SP.keep gk (by assumption)); have GW := Hq0 (grown_trans GW.out gk); clear gk)
        refine hK.out _ _ ?_ (fun hHeld => ?_)
        · (first | exact KS.out | exact SP.keep (grown_dw _) HSP.out)
        clear hK K
        try simp only [Act.put, List.setIfInBounds_toArray, List.set_cons_zero, List.set_cons_succ]
        refine takeD (dst := some 49) (v := ?_) (i := 16) rfl rfl (by kernel_rfl) (by kernel_rfl) (by kernel_rfl) (fun _ _ _ h => h) (Or.inl ⟨by rfl, ?_⟩) (by assumption) ?_
        rotate_left
        · (intro w hSw; (try dsimp only at hSw); go_simp; try with_reducible rfl)
        try simp only [Act.put, List.setIfInBounds_toArray, List.set_cons_zero, List.set_cons_succ]
        refine takeD (dst := some 50) (v := undef) (i := 17) rfl rfl (by kernel_rfl) (by kernel_rfl) (by kernel_rfl) (fun _ _ _ h => h) (Or.inr ⟨by kernel_rfl, rfl⟩) (by assumption) ?_
        try simp only [Act.put, List.setIfInBounds_toArray, List.set_cons_zero, List.set_cons_succ]
        refine takeD (dst := some 51) (v := undef) (i := 18) rfl rfl (by kernel_rfl) (by kernel_rfl) (by kernel_rfl) (fun _ _ _ h => h) (Or.inr ⟨by kernel_rfl, rfl⟩) (by assumption) ?_
        try simp only [Act.put, List.setIfInBounds_toArray, List.set_cons_zero, List.set_cons_succ]
        refine takeD (dst := some 52) (v := undef) (i := 19) rfl rfl (by kernel_rfl) (by kernel_rfl) (by kernel_rfl) (fun _ _ _ h => h) (Or.inr ⟨by kernel_rfl, rfl⟩) (by assumption) ?_
        try simp only [Act.put, List.setIfInBounds_toArray, List.set_cons_zero, List.set_cons_succ]
        refine takeD (dst := some 53) (v := undef) (i := 20) rfl rfl (by kernel_rfl) (by kernel_rfl) (by kernel_rfl) (fun _ _ _ h => h) (Or.inr ⟨by kernel_rfl, rfl⟩) (by assumption) ?_
        try simp only [Act.put, List.setIfInBounds_toArray, List.set_cons_zero, List.set_cons_succ]
        refine takeD (dst := some 54) (v := undef) (i := 21) rfl rfl (by kernel_rfl) (by kernel_rfl) (by kernel_rfl) (fun _ _ _ h => h) (Or.inr ⟨by kernel_rfl, rfl⟩) (by assumption) ?_
        try simp only [Act.put, List.setIfInBounds_toArray, List.set_cons_zero, List.set_cons_succ]
        refine takeD (dst := some 55) (v := ?_) (i := 22) rfl rfl (by kernel_rfl) (by kernel_rfl) (by kernel_rfl) (fun _ _ _ h => h) (Or.inl ⟨by rfl, ?_⟩) (by assumption) ?_
        rotate_left
        · (intro w hSw; (try dsimp only at hSw); go_simp; try with_reducible rfl)
        try simp only [Act.put, List.setIfInBounds_toArray, List.set_cons_zero, List.set_cons_succ]
        refine wpAnyH_ready (rs := [23]) (by kernel_rfl) (by simp) ?_
        refine AllReadyH.cons rfl (fun K hK => ?_) AllReadyH.nil
        go_simp
        (go_at_call 75; refine (rounds_zero _ _ _ _).mono ?_; rintro r wk3 ⟨rfl, rfl⟩)
        refine hK.out _ _ ?_ (fun hHeld => ?_)
        · (first | exact KS.out | exact SP.keep (grown_dw _) HSP.out)
        clear hK K
        try simp only [Act.put, List.setIfInBounds_toArray, List.set_cons_zero, List.set_cons_succ]
        refine takeD (dst := some 57) (v := ?_) (i := 24) rfl rfl (by kernel_rfl) (by kernel_rfl) (by kernel_rfl) (fun _ _ _ h => h) (Or.inl ⟨by rfl, ?_⟩) (by assumption) ?_
        rotate_left
        · (intro w hSw; (try dsimp only at hSw); go_simp; try with_reducible rfl)
        try simp only [Act.put, List.setIfInBounds_toArray, List.set_cons_zero, List.set_cons_succ]
        refine wpAnyH_done (by kernel_rfl) ?_ _
        all_goals
          go_wp2_with (fail)
          go_meet
          exact ⟨rfl, GW.out⟩
      · have hq1 : 0 < tq := by omega
        rcases HACQ.out with ⟨e1, e2⟩ | ⟨gq, rfl, hgb⟩
        · omega
        have hc0 := HQ.out.own.cellAt 0 (by omega)
        rw [lim9_at hq1] at hc0
        obtain ⟨z0, hz0⟩ : ∃ z0 : Int, ((A / d / 10 ^ (9 * 0) % 1000000000 : Nat) : Int) = z0 := ⟨_, rfl⟩
        rw [hz0] at hc0
        have HSP : Hid (SP w5 ⟨w.heap.size, 0, none⟩ ⟨gq, 0, none⟩ (.bool bs) (.int .u32 z0) w5) := Hq0 ⟨grown_refl _ _, hx0, hc0⟩
        clear hx0 hc0 hz0
        (first | go_region_held3 (fun w' => w5.grownBy w' none ∧ w'.cell? ⟨w.heap.size, 0, none⟩ = some (.bool bs) ∧ w'.cell? ⟨gq, 0, none⟩ = some (.int .u32 z0))
          (first | exact KS.out | exact SP.keep (grown_dw _) HSP.out)
          (first
            | (go_at_call 77; refine (HADD.out _ (grown_trans GW.out (grown_drew _))).mono ?_; rintro r wk ⟨v, t, rfl, hv, gk⟩; have KS : Hid (SP w5 ⟨w.heap.size, 0, none⟩ ⟨gq, 0, none⟩ (.bool bs) (.int .u32 z0) wk) := Hq0 (SP.keep gk (by assumption)); have HSUM := Hq0 hv; have GW := Hq0 (grown_trans (grown_drew w5) gk); clear hv gk)
            | (go_at_call 76; refine (HCMP.out _ GW.out _ _ _ HSUM.out).mono ?_; rintro r wk2 ⟨rfl, gk⟩; have KS : Hid (SP w5 ⟨w.heap.size, 0, none⟩ ⟨gq, 0, none⟩ (.bool bs) (.int .u32 z0) wk2) := Hq0 (SP.keep gk (by assumption)); have GW := Hq0 (grown_trans GW.out gk); clear gk)
            | (go_at_call 75; refine (rounds_zero _ _ _ _).mono ?_; rintro r wk3 ⟨rfl, rfl⟩)) | fail)
        all_goals
          go_wp2_with (fail)
          go_meet
          exact ⟨rfl, GW.out⟩
  case rest =>
    obtain ⟨rfl, g6⟩ := hcut
    have G6 := Hq0 g6
    have hx6 := keepc g6 HX0.out
    have hr6 := kpb (grown_trans G59.out g6) HR.out
    have HQ6 := Hq0 (HQ.out.same g6)
    have hW := HW.out _ _ _ _ _ bs HQ6.out
    rw [HS.out.1] at hW
    obtain ⟨bz, hbz⟩ : ∃ bz, decide (res < 0) = bz := ⟨_, rfl⟩
    rw [hbz] at hW
    have HBZ := Hq0 hbz
    have HWW := Hq0 hW
    have HR6 := Hq0 hr6
    clear hW hbz g6 hx0 hr6 HW
    go_wp2_with (fail)
    refine HWW.out.mono ?_
    rintro r w7 ⟨rfl, g7⟩
    have HR7 := Hq0 (kpb g7 HR6.out)
    obtain ⟨o1, o2⟩ := st_var3 HR7.out (.bool bz) (.slice aq tq capq) (.int .i64 (-y))
    obtain ⟨y0, y1, y2, y3, y4, y5⟩ := cell_three HR7.out
    have HN := Hq0 (own_any3 (HQ6.out.same g7) HR7.out (by decide) o1)
    have G9 := Hq0 (grown_own (grown_trans G5.out (grown_trans G6.out g7)) o1 (.inr (by omega)))
    clear hx6 g7
    go_wp2
    clear y0 y1 y2 y3 y4 y5
    generalize ((w7.setCell ⟨w.heap.size + 1, 0, none⟩ (.bool bz)).setCell ⟨w.heap.size + 1, 1, none⟩ (.slice aq tq capq)).setCell ⟨w.heap.size + 1, 2, none⟩ (.int .i64 (-y)) = w9 at *
    obtain ⟨s0, s1, s2, _, _, _⟩ := cell_three o2
    refine bodyPost_ret (v := .agg #[.bool bz, .slice aq tq capq, .int .i64 (-y)]) (by simp [results, Tryz.func38, go_sem, s0, s1, s2]; try rfl) rfl ?_
    exact ⟨_, tq, rfl, ⟨_, by rw [HBZ.out], by rw [HS.out.2]; exact HN.out.base (Nat.zero_le _)⟩, G9.out⟩
end Go.Proofs.YtjcfacinlgogaaaGreatDoor
