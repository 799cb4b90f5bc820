/- The cosine of a decimal, walked. Conditions: less than ten, at most 31 places. -/
import Derived.Test.YtjcfacinlgogaaaGreatDoorQ34
set_option linter.all false
set_option maxHeartbeats 4000000
set_option maxRecDepth 100000
set_option exponentiation.threshold 3000
namespace Go.Proofs.YtjcfacinlgogaaaGreatDoor
open Go.RowKit
theorem cosD_any {w : World} {b : Nat} {e X : Int} (hd : DV w b e 31 X 32 31) (he : e ≤ 0) (hX : X.natAbs < 10 ^ 32) (hK : TabK w) (hC : TabC w) :
    Calls Tryz.prog 34 #[.agg #[.pointer (some ⟨b, 0, none⟩), .int .i32 e]] w fun r w' => CosR w X.natAbs r w' := by
  have k1 := grown_trans (World.grownBy_alloc w (dobj b e) none) (World.grownBy_alloc (w.alloc (dobj b e)) dnil none)
  have k2 : ((w.alloc (dobj b e)).alloc dnil).heap[w.heap.size]? = some (dobj b e) := kpb (World.grownBy_alloc _ _ _) (heap_new w (dobj b e))
  have k3 : ((w.alloc (dobj b e)).alloc dnil).heap[w.heap.size + 1]? = some dnil := by
    have := heap_new (w.alloc (dobj b e)) dnil
    rw [size_alloc] at this
    exact this
  have HG := Hq0 k1; have HA := Hq0 k2; have HB := Hq0 k3
  have HBL := Hq0 hd.lt; have HD := Hq0 hd; have HK := Hq0 hK; have HC := Hq0 hC; have HX := Hq0 (And.intro he hX)
  clear k1 k2 k3 hd he hX hK hC
  unfold dobj dnil at HG HA HB
  go_enter Tryz.func34, Tryz.ntmps34
  go_upto_region 1 with (fail)
  generalize ((w.alloc (.cells #[.pointer (some ⟨b, 0, none⟩), .int .i32 e] 56)).alloc (.cells #[.pointer none, .int .i32 0] 56)) = W0 at *
  obtain ⟨A, hA⟩ : ∃ A, A = w.heap.size := ⟨_, rfl⟩
  rw [← hA] at HA HB ⊢
  have HAA := Hq0 hA
  have HD := Hq0 (HD.out.same HG.out)
  clear hA
  go_wp2_with (fail)
  refine (o_pi4A (HC.out.same HG.out)).mono ?_
  rintro r w1 ⟨b1, e1, rfl, hb1, d1, g1⟩
  have G1 := Hq0 (grown_trans HG.out g1); have H1 := Hq0 g1; have D1 := Hq0 d1
  clear hb1 d1 g1
  go_wp2_with (fail)
  refine (o_pi4B (HC.out.same G1.out)).mono ?_
  rintro r w2 ⟨b2, e2, rfl, hb2, d2, g2⟩
  have G2 := Hq0 (grown_trans G1.out g2); have H2 := Hq0 (grown_trans H1.out g2); have D2 := Hq0 d2; have D1 := Hq0 (D1.out.same g2)
  clear hb2 d2 g2
  go_wp2_with (fail)
  refine (o_pi4C (HC.out.same G2.out)).mono ?_
  rintro r w3 ⟨b3, e3, rfl, hb3, d3, g3⟩
  have G3 := Hq0 (grown_trans G2.out g3); have H3 := Hq0 (grown_trans H2.out g3); have D3 := Hq0 d3; have D1 := Hq0 (D1.out.same g3); have D2 := Hq0 (D2.out.same g3)
  clear hb3 d3 g3
  go_wp2_with (fail)
  refine (o_m4PI (HC.out.same G3.out)).mono ?_
  rintro r w4 ⟨b4, e4, rfl, hb4, d4, g4⟩
  have F4 : Hid (w.heap.size ≤ b4) := Hq0 (Nat.le_trans G3.out.size hb4)
  have G4 := Hq0 (grown_trans G3.out g4); have H4 := Hq0 (grown_trans H3.out g4); have D4 := Hq0 d4; have D1 := Hq0 (D1.out.same g4); have D2 := Hq0 (D2.out.same g4); have D3 := Hq0 (D3.out.same g4)
  clear hb4 d4 g4
  have HD := Hq0 (HD.out.same H4.out)
  have HA := Hq0 (kpb H4.out HA.out)
  have HB := Hq0 (kpb H4.out HB.out)
  clear G1 G2 G3 H1 H2 H3 H4 HG
  go_upto_region 2 with (fail)
  have hAB : A + 1 < w4.heap.size := (Array.getElem?_eq_some_iff.1 HB.out).1
  obtain ⟨n0, n1, n2, n3, n4⟩ := four_new w4 (.cells #[.pointer (some ⟨b1, 0, none⟩), .int .i32 e1] 56) (.cells #[.pointer (some ⟨b2, 0, none⟩), .int .i32 e2] 56) (.cells #[.pointer (some ⟨b3, 0, none⟩), .int .i32 e3] 56) (.cells #[.pointer (some ⟨b4, 0, none⟩), .int .i32 e4] 56)
  have HD := Hq0 (HD.out.same n0); have D1 := Hq0 (D1.out.same n0); have D2 := Hq0 (D2.out.same n0); have D3 := Hq0 (D3.out.same n0); have D4 := Hq0 (D4.out.same n0)
  have HA := Hq0 (kpb n0 HA.out); have HB := Hq0 (kpb n0 HB.out)
  generalize (((w4.alloc (.cells #[.pointer (some ⟨b1, 0, none⟩), .int .i32 e1] 56)).alloc (.cells #[.pointer (some ⟨b2, 0, none⟩), .int .i32 e2] 56)).alloc (.cells #[.pointer (some ⟨b3, 0, none⟩), .int .i32 e3] 56)).alloc (.cells #[.pointer (some ⟨b4, 0, none⟩), .int .i32 e4] 56) = W5 at *
  obtain ⟨V, hV⟩ : ∃ V, V = w4.heap.size := ⟨_, rfl⟩
  rw [← hV] at n1 n2 n3 n4 hAB ⊢
  try simp only [Nat.add_assoc, Nat.reduceAdd]
  have CS5 : Hid (CS w W5 A V b1 b2 b3 b4 e1 e2 e3 e4) := ⟨grown_trans G4.out n0, ⟨by have := HAA.out; omega, hAB⟩, HB.out, n1, n2, n3, n4, D1.out, D2.out, D3.out, D4.out, F4.out⟩
  have HVV := Hq0 (show V + 4 ≤ W5.heap.size from (Array.getElem?_eq_some_iff.1 n4).1)
  clear hAB n0 n1 n2 n3 n4 D1 D2 D3 D4 G4 HB hV
  have HIN := Hq0 (dv_isneg HD.out)
  obtain ⟨a0, a1, f0, f1⟩ := cell_dobj HA.out
  go_wp2_with (fail)
  refine HIN.out.mono ?_
  rintro r w6 ⟨rfl, g6⟩
  have CS6 := Hq0 (CS5.out.same g6); have HD6 := Hq0 (HD.out.same g6); have HA6 : Hid (LV w6 A b e) := kpb g6 HA.out
  have HVV := Hq0 (Nat.le_trans HVV.out g6.size)
  clear g6 HIN CS5 HD HA a0 a1 f0 f1
  obtain ⟨neg, hneg⟩ : ∃ neg, decide (X < 0) = neg := ⟨_, rfl⟩
  rw [hneg]
  have HNEG := Hq0 hneg
  clear hneg
  obtain ⟨xi, hxi⟩ : ∃ xi : Nat, X.natAbs = xi := ⟨_, rfl⟩
  have HXI := Hq0 hxi
  clear hxi
  go_upto_if 18 with (fail)
  go_cut [] from 19 to 20 (fun wx => (∃ bd ed, DV wx bd ed 31 xi 32 31 ∧ LV wx A bd ed ∧ bd ≠ b4) ∧ CS w wx A V b1 b2 b3 b4 e1 e2 e3 e4 ∧ V + 4 ≤ wx.heap.size)
  case first =>
    cases neg
    · have hx : X = xi := by have h1 := HNEG.out; have h2 := HXI.out; simp at h1; omega
      have HX2 := Hq0 hx
      clear hx
      go_wp2_with (fail)
      go_meet
      case rel => exact ⟨⟨b, e, by have := HD6.out; rw [HX2.out] at this; exact this, HA6.out, by have h1 := HBL.out; have h2 := CS6.out.f4; omega⟩, CS6.out, HVV.out⟩
    · have hx : -X = xi := by have h1 := HNEG.out; have h2 := HXI.out; simp at h1; omega
      have HX2 := Hq0 hx
      obtain ⟨a0, a1, f0, f1⟩ := HA6.out.c
      have HN := Hq0 (dv_neg HD6.out)
      clear hx
      go_wp2_with (fail)
      refine HN.out.mono ?_
      rintro r w7 ⟨bd, ed, rfl, hbd, hd7, g7⟩
      have HA7 : Hid (LV w7 A b e) := kpb g7 HA6.out
      have CS7 := Hq0 (CS6.out.same g7)
      have HV7 := Hq0 (Nat.le_trans HVV.out g7.size)
      have NE7 := Hq0 (show bd ≠ b4 by have h1 := CS6.out.d4.lt; omega)
      have HD7 := Hq0 hd7
      obtain ⟨c0, c1, c2, c3⟩ := HA7.out.c
      clear hbd hd7 g7 a0 a1 f0 f1 HN HD6 HA6 CS6 HVV
      go_wp2_with (fail)
      obtain ⟨o1, o2⟩ := st_var HA7.out (.pointer (some ⟨bd, 0, none⟩)) (.int .i32 ed)
      clear c0 c1 c2 c3
      generalize (w7.setCell ⟨A, 0, none⟩ (.pointer (some ⟨bd, 0, none⟩))).setCell ⟨A, 1, none⟩ (.int .i32 ed) = w8 at *
      have HD8 := Hq0 (HD7.out.own HA7.out o1)
      have CS8 := Hq0 (CS7.out.own HA7.out o1 (.inl rfl))
      have HA8 : Hid (LV w8 A bd ed) := o2
      have HV8 := Hq0 (Nat.le_trans HV7.out o1.size)
      clear o1 o2
      go_meet
      case rel => exact ⟨⟨bd, ed, by have := HD8.out; rw [HX2.out] at this; exact this, HA8.out, NE7.out⟩, CS8.out, HV8.out⟩
  case rest =>
    obtain ⟨⟨bd, ed, hD, hL, hne⟩, hCS, hV⟩ := hcut
    have HD := Hq0 hD; have HL := Hq0 hL; have NE := Hq0 hne; have HS := Hq0 hCS; have HV := Hq0 hV
    obtain ⟨a0, a1, f0, f1⟩ := hL.c
    obtain ⟨p0, p1, p2, p3⟩ := hCS.v4.c
    clear hD hL hne hCS hV HBL HD6 HA6 CS6 HVV HNEG
    have HM := Hq0 (dv_mul HD.out HS.out.d4 NE.out (HK.out.same HS.out.g) (by decide))
    go_wp2_with (fail)
    refine HM.out.mono ?_
    rintro r w9 ⟨bm, em, rfl, hbm, hdm, g9⟩
    obtain ⟨jn, hjn⟩ : ∃ jn : Nat, (xi : Int) * 12732395447351625 / 10 ^ 47 = jn := ⟨((xi : Int) * 12732395447351625 / 10 ^ 47).toNat, by omega⟩
    have hj12 : jn ≤ 12 := by have h1 := HX.out.2; have h2 := HXI.out; omega
    have HI := Hq0 (dv_int hdm (by omega) ((HK.out.same HS.out.g).same g9) (by decide) (by decide) (by decide) (by show (xi : Int) * 12732395447351625 / 10 ^ 47 < 1000; omega))
    have HS9 := Hq0 (HS.out.same g9); have HD9 := Hq0 (HD.out.same g9); have HL9 : Hid (LV w9 A bd ed) := kpb g9 HL.out
    have HV9 := Hq0 (Nat.le_trans HV.out g9.size)
    have HI2 : Hid (Calls Tryz.prog 67 #[.agg #[.pointer (some ⟨bm, 0, none⟩), .int .i32 em]] w9 fun r w' => r = .returned (.int .i64 (jn : Nat)) ∧ w9.grownBy w' none) := by
      have := HI.out
      rw [← hjn]
      exact this
    have HJN := Hq0 hjn
    clear hbm hdm g9 HM HI HD HL HS HV hjn a0 a1 f0 f1 p0 p1 p2 p3
    go_wp2_with (fail)
    refine HI2.out.mono ?_
    rintro r w10 ⟨rfl, g10⟩
    have HS := Hq0 (HS9.out.same g10); have HD := Hq0 (HD9.out.same g10); have HL : Hid (LV w10 A bd ed) := kpb g10 HL9.out
    have HV := Hq0 (Nat.le_trans HV9.out g10.size)
    clear g10 HI2 HS9 HD9 HL9 HV9
    have HF := Hq0 (flt_any (HC.out.same HS.out.g) jn hj12)
    have H12 := Hq0 hj12
    clear hj12
    go_wp2_with (fail)
    refine HF.out.mono ?_
    rintro r w11 ⟨by', ey, rfl, hby, hdy, g11⟩
    have hnewy : (w11.alloc (.cells #[.pointer (some ⟨by', 0, none⟩), .int .i32 ey] 56)).heap[w11.heap.size]? = some (.cells #[.pointer (some ⟨by', 0, none⟩), .int .i32 ey] 56) := heap_new _ _
    have gy := World.grownBy_alloc w11 (.cells #[.pointer (some ⟨by', 0, none⟩), .int .i32 ey] 56) none
    have HY := Hq0 hnewy; have GY := Hq0 (grown_trans g11 gy); have DY := Hq0 (hdy.same gy)
    have HVY := Hq0 (Nat.le_trans HV.out g11.size)
    have BY := Hq0 hby
    clear hnewy gy hby hdy g11 HF
    go_upto_region 7 with (fail)
    generalize w11.alloc (.cells #[.pointer (some ⟨by', 0, none⟩), .int .i32 ey] 56) = w12 at *
    obtain ⟨Y, hY⟩ : ∃ Y, Y = w11.heap.size := ⟨_, rfl⟩
    rw [← hY] at HY HVY ⊢
    have HS12 := Hq0 (HS.out.same GY.out); have HD12 := Hq0 (HD.out.same GY.out); have HL12 : Hid (LV w12 A bd ed) := kpb GY.out HL.out
    have HY12 : Hid (LV w12 Y by' ey) := HY.out
    have NY : Hid (A ≠ Y) := Hq0 (by have := HS12.out.a; have := HVY.out; omega)
    have NB : Hid (b1 < by' ∧ b2 < by' ∧ b3 < by') := Hq0 (by have h1 := HS.out.d1.lt; have h2 := HS.out.d2.lt; have h3 := HS.out.d3.lt; have h4 := BY.out; omega)
    clear hY HS HD HL HV GY BY HY
    have hand : bits .and .i64 (jn : Int) 1 = ((jn % 2 : Nat) : Int) := i64_and_one jn (by have := H12.out; omega)
    have ej : wrap64 ((jn : Int) + 1) = ((jn + 1 : Nat) : Int) := w64_succ (by have := H12.out; omega)
    obtain ⟨m2, hm2⟩ : ∃ m2, jn % 2 = m2 := ⟨_, rfl⟩
    rw [hm2] at hand
    have HM2 := Hq0 hm2
    clear hm2
    go_upto_if 30 with (fail)
    try rw [hand]
    go_cut [8] from 31 to 36 (fun s8 wx => (s8 = .int .i64 ((jn + m2 : Nat) : Int)) ∧ (∃ bz ez, DV wx bz ez 0 ((jn + m2 : Nat) : Int) 3 1 ∧ LV wx Y bz ez ∧ (b1 < bz ∧ b2 < bz ∧ b3 < bz)) ∧ DV wx bd ed 31 xi 32 31 ∧ LV wx A bd ed ∧ CS w wx A V b1 b2 b3 b4 e1 e2 e3 e4)
    case first =>
      by_cases h1 : m2 = 1
      · subst h1
        obtain ⟨y0, y1, y2, y3⟩ := HY12.out.c
        have HNW : Hid (∀ wx, Calls Tryz.prog 70 #[.int .i64 1, .int .i32 0] wx fun r w' => OpD wx 0 1 0 0 r w') := Hq0 (fun wx => (New_any 1 0 wx (by unfold S64; decide)).mono fun r w' h => dv_new (p := 0) h (by decide))
        go_upto_region 9 with (fail)
        go_region_with (first
          | (go_at_call 70; refine (HNW.out _).mono ?_; rintro r wn hn; obtain ⟨bo, eo, rfl, hbo, hdo, gn⟩ := hn; have GN : Hid (w12.grownBy wn none) := Hq0 (grown_trans (grown_drew _) gn); have DO := Hq0 hdo; obtain ⟨z0, z1, z2, z3⟩ := LV.c (kpb GN.out HY12.out); clear hdo gn hbo)
          | (go_at_call 69; refine (dv_add (DY.out.same GN.out) DO.out ((HK.out.same HS12.out.g).same GN.out) (by decide)).mono ?_; rintro r wa ha; obtain ⟨bs, es, rfl, hbs, hds, ga⟩ := ha; have GA : Hid (w12.grownBy wa none) := Hq0 (grown_trans GN.out ga); have DS := Hq0 hds; have NS : Hid (b1 < bs ∧ b2 < bs ∧ b3 < bs) := Hq0 (by have h1 := (HS12.out.same GN.out).d1.lt; have h2 := (HS12.out.same GN.out).d2.lt; have h3 := (HS12.out.same GN.out).d3.lt; omega); obtain ⟨x0, x1, x2, x3⟩ := LV.c (kpb GA.out HY12.out); clear hds ga hbs))
        all_goals
          clear y0 y1 y2 y3 z0 z1 z2 z3 x0 x1 x2 x3
          obtain ⟨o1, o2⟩ := st_var (kpb GA.out HY12.out) (.pointer (some ⟨bs, 0, none⟩)) (.int .i32 es)
          have DS9 := Hq0 (DS.out.own (kpb GA.out HY12.out) o1)
          have HD13 := Hq0 ((HD12.out.same GA.out).own (kpb GA.out HY12.out) o1)
          have HS13 := Hq0 ((HS12.out.same GA.out).own (kpb GA.out HY12.out) o1 (.inr HVY.out))
          have HL13 : Hid (LV _ A bd ed) := Hq0 (stay o1 (kpb GA.out HL12.out) NY.out)
          generalize (wa.setCell ⟨Y, 0, none⟩ (.pointer (some ⟨bs, 0, none⟩))).setCell ⟨Y, 1, none⟩ (.int .i32 es) = wb at *
          have O2 := Hq0 o2
          clear o1 o2
          go_wp2_with (fail)
          go_meet
          case rel => exact ⟨congrArg (Value.int .i64) (by omega), ⟨bs, es, DS9.out.at 0 rfl (by simp) (by decide) (by decide), O2.out, NS.out⟩, HD13.out, HL13.out, HS13.out⟩
      · have h0 : m2 = 0 := by have := HM2.out; omega
        subst h0
        go_wp2_with (fail)
        go_meet
        case rel => exact ⟨rfl, ⟨by', ey, DY.out.at 0 rfl (by simp) (by decide) (by decide), HY12.out, NB.out⟩, HD12.out, HL12.out, HS12.out⟩
    case rest =>
      obtain ⟨rfl, ⟨bz, ez, hz, hzl, hnb⟩, hd', hl', hs'⟩ := hcut
      have NE1 := Hq0 (show bz ≠ b1 by omega); have NE2 := Hq0 (show bz ≠ b2 by omega); have NE3 := Hq0 (show bz ≠ b3 by omega)
      clear hnb
      have DZ := Hq0 hz; have LZ := Hq0 hzl; have HD := Hq0 hd'; have HL := Hq0 hl'; have HS := Hq0 hs'
      clear hz hzl hd' hl' hs' DY HD12 HS12 HL12 HY12 ej hand
      obtain ⟨O, hO⟩ : ∃ O, jn + m2 = O := ⟨_, rfl⟩
      rw [hO] at DZ ⊢
      have HO := Hq0 hO
      have hO7 : O = 0 ∨ O = 2 ∨ O = 4 ∨ O = 6 ∨ O = 8 ∨ O = 10 ∨ O = 12 := by have h1 := HM2.out; have h2 := H12.out; omega
      have HO7 := Hq0 hO7
      clear hO hO7
      have h7 : bits .and .i64 (O : Int) 7 = ((O % 8 : Nat) : Int) := by
        rcases HO7.out with h | h | h | h | h | h | h <;> rw [h] <;> decide +kernel
      obtain ⟨P8, hP8⟩ : ∃ P8, O % 8 = P8 := ⟨_, rfl⟩
      obtain ⟨P4, hP4⟩ : ∃ P4, O % 4 = P4 := ⟨_, rfl⟩
      rw [hP8] at h7
      have HP : Hid (P8 ≤ 7 ∧ (3 < P8 → P8 = P4 + 4) ∧ (¬ 3 < P8 → P8 = P4)) := Hq0 (by omega)
      have HPP := Hq0 (And.intro hP8 hP4)
      clear hP8 hP4
      go_upto_if 39 with (fail)
      try rw [h7]
      go_cut [7, 8] from 40 to 43 (fun s7 s8 wx => (s7 = .bool (decide (3 < P8)) ∧ s8 = .int .i64 (P4 : Nat)) ∧ wc = wx)
      case first =>
        have hp := HP.out
        by_cases h3 : 3 < P8
        · have h3' : (3 : Int) < P8 := by omega
          have e8 : wrap64 ((P8 : Int) - 4) = (P4 : Nat) := by rw [← i64_left', show (P8 : Int) - 4 = (P4 : Nat) by omega]; exact IntWalk.i64_in _ (by omega)
          have e9 : (P8 : Int) - 4 = (P4 : Nat) := by omega
          have H3 := Hq0 h3
          have E8 := Hq0 e8; have E9 := Hq0 e9
          clear hp h3 e8 e9
          go_wp2_with (fail)
          go_meet
          case rel => exact ⟨⟨by rw [decide_eq_true H3.out], by first | rw [E8.out] | rw [E9.out]⟩, rfl⟩
        · have h3' : ¬ (3 : Int) < P8 := by omega
          have e9 : P8 = P4 := hp.2.2 h3
          have H3 := Hq0 h3; have E9 := Hq0 e9
          clear hp h3 e9
          go_wp2_with (fail)
          go_meet
          case rel => exact ⟨⟨by rw [decide_eq_false H3.out], by rw [E9.out]⟩, rfl⟩
      case rest =>
        obtain ⟨⟨rfl, rfl⟩, rfl⟩ := hcut
        clear h7
        obtain ⟨sg1, hsg1⟩ : ∃ sg1, decide (3 < P8) = sg1 := ⟨_, rfl⟩
        rw [hsg1]
        have HSG := Hq0 hsg1
        clear hsg1
        go_upto_if 45 with (fail)
        go_cut [7] from 46 to 48 (fun s7 wx => s7 = .bool (Bool.xor sg1 (decide (1 < P4))) ∧ wc = wx)
        case first =>
          by_cases h3 : 1 < P4
          · have h3' : (1 : Int) < P4 := by omega
            have H3 := Hq0 h3
            clear h3
            go_wp2_with (fail)
            go_meet
            case rel => exact ⟨by rw [decide_eq_true H3.out]; cases sg1 <;> rfl, rfl⟩
          · have h3' : ¬ (1 : Int) < P4 := by omega
            have H3 := Hq0 h3
            clear h3
            go_wp2_with (fail)
            go_meet
            case rel => exact ⟨by rw [decide_eq_false H3.out]; cases sg1 <;> rfl, rfl⟩
        case rest =>
          obtain ⟨rfl, rfl⟩ := hcut
          obtain ⟨sg, hsg⟩ : ∃ sg, Bool.xor sg1 (decide (1 < P4)) = sg := ⟨_, rfl⟩
          rw [hsg]
          have HSG2 := Hq0 hsg
          clear hsg
          have HS0 : Hid (S16 wc A Y V bd bz b1 b2 b3 ed ez e1 e2 e3 wc) := Hq0 ⟨grown_refl _ _, HL.out.c.1, HL.out.c.2.1, LZ.out.c.1, LZ.out.c.2.1, HS.out.v1.c.1, HS.out.v1.c.2.1, HS.out.v2.c.1, HS.out.v2.c.2.1, HS.out.v3.c.1, HS.out.v3.c.2.1⟩
          go_upto_region 16 with (fail)
          go_cut [10] from 48 to 61 (fun s10 wx => ∃ Z bt et, s10 = .pointer (some ⟨Z, 0, none⟩) ∧ wc.heap.size ≤ Z ∧ LV wx Z bt et ∧ DV wx bt et 31 ((xi : Int) - (O : Int) * 7853981256484985 * 10 ^ 15 - (O : Int) * 3774894707930798 * 10 ^ 8 - (O : Int) * 26951514290790595) 40 1 ∧ wc.grownBy wx none)
          case first =>
            have M1 : Hid (∀ wx, wc.grownBy wx none → Calls Tryz.prog 66 #[.agg #[.pointer (some ⟨bz, 0, none⟩), .int .i32 ez], .agg #[.pointer (some ⟨b1, 0, none⟩), .int .i32 e1]] wx fun r w' => OpD wx (0 + 16) ((O : Int) * 7853981256484985) (3 + 16) (1 + 0) r w') := Hq0 (fun wx g => dv_mul (DZ.out.same g) (HS.out.d1.same g) NE1.out ((HK.out.same HS.out.g).same g) (by decide))
            have M2 : Hid (∀ wx, wc.grownBy wx none → Calls Tryz.prog 66 #[.agg #[.pointer (some ⟨bz, 0, none⟩), .int .i32 ez], .agg #[.pointer (some ⟨b2, 0, none⟩), .int .i32 e2]] wx fun r w' => OpD wx (0 + 23) ((O : Int) * 3774894707930798) (3 + 16) (1 + 0) r w') := Hq0 (fun wx g => dv_mul (DZ.out.same g) (HS.out.d2.same g) NE2.out ((HK.out.same HS.out.g).same g) (by decide))
            have M3 : Hid (∀ wx, wc.grownBy wx none → Calls Tryz.prog 66 #[.agg #[.pointer (some ⟨bz, 0, none⟩), .int .i32 ez], .agg #[.pointer (some ⟨b3, 0, none⟩), .int .i32 e3]] wx fun r w' => OpD wx (0 + 31) ((O : Int) * 26951514290790595) (3 + 17) (1 + 0) r w') := Hq0 (fun wx g => dv_mul (DZ.out.same g) (HS.out.d3.same g) NE3.out ((HK.out.same HS.out.g).same g) (by decide))
            have HKK := Hq0 (fun (wx : World) (g : wc.grownBy wx none) => (HK.out.same HS.out.g).same g)
            have AL0 := al0
            have AL1 := al1
            have AL2 := al2
            have AL3 := al3
            go_region_held3 (fun w' => wc.grownBy w' none ∧ w'.cell? ⟨A, 0, none⟩ = some (.pointer (some ⟨bd, 0, none⟩)) ∧ w'.cell? ⟨A, 1, none⟩ = some (.int .i32 ed) ∧ w'.cell? ⟨Y, 0, none⟩ = some (.pointer (some ⟨bz, 0, none⟩)) ∧ w'.cell? ⟨Y, 1, none⟩ = some (.int .i32 ez) ∧
                w'.cell? ⟨V, 0, none⟩ = some (.pointer (some ⟨b1, 0, none⟩)) ∧ w'.cell? ⟨V, 1, none⟩ = some (.int .i32 e1) ∧ w'.cell? ⟨V + 1, 0, none⟩ = some (.pointer (some ⟨b2, 0, none⟩)) ∧ w'.cell? ⟨V + 1, 1, none⟩ = some (.int .i32 e2) ∧
                w'.cell? ⟨V + 2, 0, none⟩ = some (.pointer (some ⟨b3, 0, none⟩)) ∧ w'.cell? ⟨V + 2, 1, none⟩ = some (.int .i32 e3))
              (first | exact KS3.out | exact KM3.out | exact KS2.out | exact KM2.out | exact KS1.out | exact KM1.out | exact S16.keep (grown_dw _) HS0.out | exact S16.keep (World.grownBy_alloc _ _ _) (by assumption) | exact S16.keep (World.grownBy_alloc _ _ _) KS3.out | exact S16.keep (grown_own KS3.out.1 (st_var FZ.out _ _).1 (.inr ZB.out)) HS0.out | exact S16.keep (grown_own (grown_trans KS3.out.1 (World.grownBy_alloc _ _ _)) (st_var (heap_new _ _) _ _).1 (.inr KS3.out.1.size)) HS0.out)
              (first
                | (go_at_call 71; have KX := DM3.out; clear KX; refine (dv_sub (p := 31) (DS2.out.same (by first | exact grown_refl _ _ | exact World.grownBy_alloc _ _ _)) ((DM3.out.same (by first | exact grown_refl _ _ | exact World.grownBy_alloc _ _ _)).at 0 rfl rfl (Nat.le_refl _) (Nat.le_refl _)) (HKK.out _ (show S16 wc A Y V bd bz b1 b2 b3 ed ez e1 e2 e3 _ from by assumption).1) (by decide)).mono ?_; rintro r ws3 ⟨bs3, es3, rfl, hbs, hds, gs⟩; have KS3 : Hid (S16 wc A Y V bd bz b1 b2 b3 ed ez e1 e2 e3 ws3) := Hq0 (S16.keep gs (by assumption)); have DS3 := Hq0 hds; have BS3 : Hid (wc.heap.size ≤ bs3) := Hq0 (Nat.le_trans (show S16 wc A Y V bd bz b1 b2 b3 ed ez e1 e2 e3 _ from by assumption).1.size hbs); (try (have FZ := Hq0 (kpb gs FZ.out); clear z0 z1 z2 z3; obtain ⟨z0, z1, z2, z3⟩ := cell_dnil FZ.out)); (try ((with_reducible (have FQ := fz_new (wc := wc) gs)); obtain ⟨FZ, ZB⟩ := FQ (show S16 wc A Y V bd bz b1 b2 b3 ed ez e1 e2 e3 _ from by assumption).1; clear FQ; obtain ⟨z0, z1, z2, z3⟩ := cell_dnil FZ.out)); (try ((with_reducible (have FQ := fz_new2 (wc := wc) gs)); obtain ⟨FZ, ZB⟩ := FQ (grown_refl _ _); clear FQ; obtain ⟨z0, z1, z2, z3⟩ := cell_dnil FZ.out)); clear hbs hds gs DM3 DS2)
                | (go_at_call 66; have KX := DS2.out; clear KX; refine (M3.out _ (show S16 wc A Y V bd bz b1 b2 b3 ed ez e1 e2 e3 _ from by assumption).1).mono ?_; rintro r wm3 ⟨bm3, em3, rfl, hbm, hdm, gm⟩; have KM3 : Hid (S16 wc A Y V bd bz b1 b2 b3 ed ez e1 e2 e3 wm3) := Hq0 (S16.keep gm (by assumption)); have DM3 := Hq0 hdm; have DS2 := Hq0 (DS2.out.same (grown_trans (by first | exact grown_refl _ _ | exact World.grownBy_alloc _ _ _) gm)); (try (have FZ := Hq0 (kpb gm FZ.out); clear z0 z1 z2 z3; obtain ⟨z0, z1, z2, z3⟩ := cell_dnil FZ.out)); (try ((with_reducible (have FQ := fz_new (wc := wc) gm)); obtain ⟨FZ, ZB⟩ := FQ (show S16 wc A Y V bd bz b1 b2 b3 ed ez e1 e2 e3 _ from by assumption).1; clear FQ; obtain ⟨z0, z1, z2, z3⟩ := cell_dnil FZ.out)); (try ((with_reducible (have FQ := fz_new2 (wc := wc) gm)); obtain ⟨FZ, ZB⟩ := FQ (grown_refl _ _); clear FQ; obtain ⟨z0, z1, z2, z3⟩ := cell_dnil FZ.out)); clear hbm hdm gm)
                | (go_at_call 71; have KX := DM2.out; clear KX; refine (dv_sub (p := 31) (DS1.out.same (by first | exact grown_refl _ _ | exact World.grownBy_alloc _ _ _)) ((DM2.out.same (by first | exact grown_refl _ _ | exact World.grownBy_alloc _ _ _)).at 8 rfl rfl (Nat.le_refl _) (Nat.le_refl _)) (HKK.out _ (show S16 wc A Y V bd bz b1 b2 b3 ed ez e1 e2 e3 _ from by assumption).1) (by decide)).mono ?_; rintro r ws2 ⟨bs2, es2, rfl, hbs, hds, gs⟩; have KS2 : Hid (S16 wc A Y V bd bz b1 b2 b3 ed ez e1 e2 e3 ws2) := Hq0 (S16.keep gs (by assumption)); have DS2 := Hq0 hds; have BS2 : Hid (wc.heap.size ≤ bs2) := Hq0 (Nat.le_trans (show S16 wc A Y V bd bz b1 b2 b3 ed ez e1 e2 e3 _ from by assumption).1.size hbs); (try (have FZ := Hq0 (kpb gs FZ.out); clear z0 z1 z2 z3; obtain ⟨z0, z1, z2, z3⟩ := cell_dnil FZ.out)); (try ((with_reducible (have FQ := fz_new (wc := wc) gs)); obtain ⟨FZ, ZB⟩ := FQ (show S16 wc A Y V bd bz b1 b2 b3 ed ez e1 e2 e3 _ from by assumption).1; clear FQ; obtain ⟨z0, z1, z2, z3⟩ := cell_dnil FZ.out)); (try ((with_reducible (have FQ := fz_new2 (wc := wc) gs)); obtain ⟨FZ, ZB⟩ := FQ (grown_refl _ _); clear FQ; obtain ⟨z0, z1, z2, z3⟩ := cell_dnil FZ.out)); clear hbs hds gs DM2 DS1)
                | (go_at_call 66; have KX := DS1.out; clear KX; refine (M2.out _ (show S16 wc A Y V bd bz b1 b2 b3 ed ez e1 e2 e3 _ from by assumption).1).mono ?_; rintro r wm2 ⟨bm2, em2, rfl, hbm, hdm, gm⟩; have KM2 : Hid (S16 wc A Y V bd bz b1 b2 b3 ed ez e1 e2 e3 wm2) := Hq0 (S16.keep gm (by assumption)); have DM2 := Hq0 hdm; have DS1 := Hq0 (DS1.out.same (grown_trans (by first | exact grown_refl _ _ | exact World.grownBy_alloc _ _ _) gm)); (try (have FZ := Hq0 (kpb gm FZ.out); clear z0 z1 z2 z3; obtain ⟨z0, z1, z2, z3⟩ := cell_dnil FZ.out)); (try ((with_reducible (have FQ := fz_new (wc := wc) gm)); obtain ⟨FZ, ZB⟩ := FQ (show S16 wc A Y V bd bz b1 b2 b3 ed ez e1 e2 e3 _ from by assumption).1; clear FQ; obtain ⟨z0, z1, z2, z3⟩ := cell_dnil FZ.out)); (try ((with_reducible (have FQ := fz_new2 (wc := wc) gm)); obtain ⟨FZ, ZB⟩ := FQ (grown_refl _ _); clear FQ; obtain ⟨z0, z1, z2, z3⟩ := cell_dnil FZ.out)); clear hbm hdm gm)
                | (go_at_call 71; have KX := DM1.out; clear KX; refine (dv_sub (p := 31) (HD.out.same (show S16 wc A Y V bd bz b1 b2 b3 ed ez e1 e2 e3 _ from by assumption).1) ((DM1.out.same (by first | exact grown_refl _ _ | exact World.grownBy_alloc _ _ _)).at 15 rfl rfl (Nat.le_refl _) (Nat.le_refl _)) (HKK.out _ (show S16 wc A Y V bd bz b1 b2 b3 ed ez e1 e2 e3 _ from by assumption).1) (by decide)).mono ?_; rintro r ws1 ⟨bs1, es1, rfl, hbs, hds, gs⟩; have KS1 : Hid (S16 wc A Y V bd bz b1 b2 b3 ed ez e1 e2 e3 ws1) := Hq0 (S16.keep gs (by assumption)); have DS1 := Hq0 hds; have BS1 : Hid (wc.heap.size ≤ bs1) := Hq0 (Nat.le_trans (show S16 wc A Y V bd bz b1 b2 b3 ed ez e1 e2 e3 _ from by assumption).1.size hbs); (try (have FZ := Hq0 (kpb gs FZ.out); clear z0 z1 z2 z3; obtain ⟨z0, z1, z2, z3⟩ := cell_dnil FZ.out)); (try ((with_reducible (have FQ := fz_new (wc := wc) gs)); obtain ⟨FZ, ZB⟩ := FQ (show S16 wc A Y V bd bz b1 b2 b3 ed ez e1 e2 e3 _ from by assumption).1; clear FQ; obtain ⟨z0, z1, z2, z3⟩ := cell_dnil FZ.out)); (try ((with_reducible (have FQ := fz_new2 (wc := wc) gs)); obtain ⟨FZ, ZB⟩ := FQ (grown_refl _ _); clear FQ; obtain ⟨z0, z1, z2, z3⟩ := cell_dnil FZ.out)); clear hbs hds gs DM1 )
                | (go_at_call 66; refine (M1.out _ (show S16 wc A Y V bd bz b1 b2 b3 ed ez e1 e2 e3 _ from by assumption).1).mono ?_; rintro r wm1 ⟨bm1, em1, rfl, hbm, hdm, gm⟩; have KM1 : Hid (S16 wc A Y V bd bz b1 b2 b3 ed ez e1 e2 e3 wm1) := Hq0 (S16.keep gm (by assumption)); have DM1 := Hq0 hdm; (try (have FZ := Hq0 (kpb gm FZ.out); clear z0 z1 z2 z3; obtain ⟨z0, z1, z2, z3⟩ := cell_dnil FZ.out)); (try ((with_reducible (have FQ := fz_new (wc := wc) gm)); obtain ⟨FZ, ZB⟩ := FQ (show S16 wc A Y V bd bz b1 b2 b3 ed ez e1 e2 e3 _ from by assumption).1; clear FQ; obtain ⟨z0, z1, z2, z3⟩ := cell_dnil FZ.out)); (try ((with_reducible (have FQ := fz_new2 (wc := wc) gm)); obtain ⟨FZ, ZB⟩ := FQ (grown_refl _ _); clear FQ; obtain ⟨z0, z1, z2, z3⟩ := cell_dnil FZ.out)); clear hbm hdm gm))
            all_goals
              first
                | (have RZ := Hq0 (st_var FZ.out (.pointer (some ⟨bs3, 0, none⟩)) (.int .i32 es3))
                   go_wp2_with (fail)
                   go_meet
                   case rel => exact ⟨_, bs3, es3, rfl, ZB.out, RZ.out.2, (DS3.out.own FZ.out RZ.out.1).at 0 rfl (by rw [Int.pow_zero, Int.mul_one, Int.mul_one]) (by decide) (by decide), grown_own KS3.out.1 RZ.out.1 (.inr ZB.out)⟩)
                | (go_wp2_with (fail)
                   go_meet
                   case rel => exact ⟨_, bs3, es3, rfl, KS3.out.1.size, heap_new _ _, (DS3.out.same (World.grownBy_alloc _ _ _)).at 0 rfl (by rw [Int.pow_zero, Int.mul_one, Int.mul_one]) (by decide) (by decide), grown_trans KS3.out.1 (World.grownBy_alloc _ _ _)⟩)
                | (have RZ := Hq0 (st_var (heap_new ws3 dnil) (.pointer (some ⟨bs3, 0, none⟩)) (.int .i32 es3))
                   go_wp2_with (fail)
                   go_meet
                   case rel => exact ⟨_, bs3, es3, rfl, KS3.out.1.size, RZ.out.2, ((DS3.out.same (World.grownBy_alloc _ _ _)).own (heap_new ws3 dnil) RZ.out.1).at 0 rfl (by rw [Int.pow_zero, Int.mul_one, Int.mul_one]) (by decide) (by decide), grown_own (grown_trans KS3.out.1 (World.grownBy_alloc _ _ _)) RZ.out.1 (.inr KS3.out.1.size)⟩)
          case rest =>
            obtain ⟨Z, bt, et, rfl, hZ, hLZ, hDZ, hG⟩ := hcut
            have HZB := Hq0 (z_bound HJN.out HM2.out HO.out H12.out)
            obtain ⟨z, hz⟩ : ∃ z, (xi : Int) - (O : Int) * 7853981256484985 * 10 ^ 15 - (O : Int) * 3774894707930798 * 10 ^ 8 - (O : Int) * 26951514290790595 = z := ⟨_, rfl⟩
            rw [hz] at HZB hDZ
            have HZE := Hq0 hz
            have DZZ := Hq0 (hDZ.bound HZB.out)
            have LT := Hq0 hLZ; have GW := Hq0 (grown_trans HS.out.g hG)
            have LY : Hid (LV wc Y bz ez) := kpb hG LZ.out
            have RW := Hq0 (kpb hG HS.out.r)
            have ZY : Hid (Y < Z ∧ A + 1 < Y ∧ w.heap.size ≤ A) := Hq0 (by have h1 := LZ.out.lt; have h2 := HS.out.a; have h3 := HVY.out; omega)
            clear hz hZ hDZ HZB HS0 DZ HD HL HS LZ HVY NY hLZ hG HX NE
            have HSQ := Hq0 (dv_sqr DZZ.out (HK.out.same GW.out) (by decide))
            obtain ⟨a0, a1, f0, f1⟩ := LT.out.c
            go_wp2_with (fail)
            refine HSQ.out.mono ?_
            rintro r wq ⟨bq, eq, rfl, hbq, hdq, gq⟩
            have gal := World.grownBy_alloc wq (.cells #[.pointer (some ⟨bq, 0, none⟩), .int .i32 eq] 56) none
            have hal : (wq.alloc (.cells #[.pointer (some ⟨bq, 0, none⟩), .int .i32 eq] 56)).heap[wq.heap.size]? = some (.cells #[.pointer (some ⟨bq, 0, none⟩), .int .i32 eq] 56) := heap_new _ _
            have G2 := Hq0 (grown_trans gq gal)
            have LQ := Hq0 hal; have DQ := Hq0 (hdq.same gal)
            have BQ := Hq0 (show bt ≠ bq by have := DZZ.out.lt; omega)
            have ZQ := Hq0 (show Z < wq.heap.size from Nat.lt_of_lt_of_le LT.out.lt gq.size)
            clear a0 a1 f0 f1 hbq hdq gq gal hal HSQ
            go_upto_region 18 with (fail)
            generalize wq.alloc (.cells #[.pointer (some ⟨bq, 0, none⟩), .int .i32 eq] 56) = wr at *
            obtain ⟨T, hT⟩ : ∃ T, T = wq.heap.size := ⟨_, rfl⟩
            rw [← hT] at LQ ZQ ⊢
            have LQ : Hid (LV wr T bq eq) := LQ
            have DT := Hq0 (DZZ.out.same G2.out); have LT : Hid (LV wr Z bt et) := kpb G2.out LT.out; have GW := Hq0 (grown_trans GW.out G2.out)
            have LY : Hid (LV wr Y bz ez) := kpb G2.out LY.out
            have RW := Hq0 (kpb G2.out RW.out)
            clear hT G2 DZZ
            have t1 : ((P4 : Int) == 1) = false := by have h1 := HPP.out.2; have h2 := HO7.out; simp; omega
            have HWG := Hq0 (fun (wx : World) (g : wr.grownBy wx (some Y)) => grown_own GW.out g (.inr (show w.heap.size ≤ Y by have := ZY.out; omega)))
            have HKK := Hq0 (fun (wx : World) (g : wr.grownBy wx (some Y)) => HK.out.same (HWG.out wx g))
            have HSN := Hq0 (fun (wx : World) (g : wr.grownBy wx (some Y)) => sin_any (HC.out.same (HWG.out wx g)))
            have HCN := Hq0 (fun (wx : World) (g : wr.grownBy wx (some Y)) => cos_any (HC.out.same (HWG.out wx g)))
            have IX0 := run_ix0
            have IX1 := run_ix1
            have IX2 := run_ix2
            have IX3 := run_ix3
            have IX4 := run_ix4
            have IX5 := run_ix5
            have HS0 : Hid (S19 wr (some Y) Z T bt bq et eq wr) := Hq0 ⟨grown_refl _ _, LT.out.c.1, LT.out.c.2.1, LQ.out.c.1, LQ.out.c.2.1⟩
            have NZ := Hq0 (show Z ≠ Y by have := ZY.out; omega)
            have NT := Hq0 (show T ≠ Y by have := ZY.out; have := ZQ.out; omega)
            have h4 : P4 = 0 ∨ P4 = 2 := by have h1 := HPP.out.2; have h2 := HO7.out; omega
            go_upto_if 69 with (fail)
            go_cut [12] from 70 to 141 (fun _ wx => (∃ bf ef, LV wx Y bf ef ∧ DV wx bf ef 461 (if P4 = 2 then sinP z * 10 ^ 32 else cosP z) 500 100) ∧ wr.grownBy wx (some Y))
            case first =>
             rcases h4 with h4 | h4
             ·subst h4
              go_upto_region 20 with (fail)
              go_cut [12] from 103 to 134 (fun s12 wx => ∃ U bw ew, s12 = .pointer (some ⟨U, 0, none⟩) ∧ wr.heap.size ≤ U ∧ LV wx U bw ew ∧ DV wx bw ew 461 (z * z * (z * z) * (((((-11358536521387682 * (z * z) + 2087570084197473 * 10 ^ 65) * (z * z) + -2755731417929674 * 10 ^ 129) * (z * z) + 24801587288851704 * 10 ^ 192) * (z * z) + -13888888888873056 * 10 ^ 256) * (z * z) + 41666666666666595 * 10 ^ 319)) 461 14 ∧ wr.grownBy wx none)
              case first =>
                have HTT := Hq0 (HC.out.same GW.out)
                refine reg20 _ (by kernel_rfl) DQ.out LQ.out (HKK.out _ (grown_refl _ _)) HTT.out _ _ _ _ _ _ _ _ _ _ _ _ _ _ _ _ _ _ _ _ _ _ _ _ _ _ _ _ _ _ _ _ _ _ _ _ _ _ _ _ _ _ _ _ _ _ _ _ _ _ _ _ _ _ _ _ _ _ _ _ _ _ _ _ _ _ _ _ _ _ _ _ _ _ _ _ _ _ _ _ _ _ _ _ _ _ _ _ _ _ _ _ _ _ _ _ _ _ _ _ _ _ _ _ _ _ _ _ _ _ _ _ _ _ _ _ _ _ _ _ _ _ _ _ _ _ _ _ _ _ _ _ _ _ _ _ _ _ _ _ _ _ _ _ _ _ ?_
                intro U bw ew wx x103 x104 x105 x106 x107 x108 x109 x110 x111 x112 x113 x114 x115 x116 x117 x118 x119 x120 x121 x122 x123 x124 x125 x126 x127 x128 x129 x130 x131 x132 x133 hU hLU hDU hGU
                have HU := Hq0 (And.intro hU (And.intro hLU (And.intro hDU hGU)))
                clear hU hLU hDU hGU
                dsimp only
                go_wp2_with (fail)
                go_meet
                case rel => exact ⟨U, bw, ew, rfl, HU.out.1, HU.out.2.1, HU.out.2.2.1, HU.out.2.2.2⟩
              case rest =>
                obtain ⟨U, bw, ew, rfl, hU, hLU, hDU, hGU⟩ := hcut
                have LYU : Hid (LV wc Y bz ez) := kpb hGU LY.out
                have LYK := LYU
                obtain ⟨y0, y1, y2, y3⟩ := LYU.out.c
                have DQU := Hq0 (DQ.out.same hGU); have DWU := Hq0 hDU; have GU := Hq0 hGU
                have LTU : Hid (LV wc T bq eq) := kpb hGU LQ.out
                have HSU : Hid (S19 wc (some Y) U T bw bq ew eq wc) := Hq0 ⟨grown_refl _ _, hLU.c.1, hLU.c.2.1, LTU.out.c.1, LTU.out.c.2.1⟩
                have HKU := Hq0 (fun (wx : World) (g : wc.grownBy wx (some Y)) => HKK.out wx (grown_trans (grown_weak GU.out) g))
                have HN1 : Hid (∀ wx, Calls Tryz.prog 70 #[.int .i64 1, .int .i32 0] wx fun r w' => OpD wx 0 1 0 0 r w') := Hq0 (fun wx => (New_any 1 0 wx (by unfold S64; decide)).mono fun r w' h => dv_new (p := 0) h (by decide))
                have HN5 : Hid (∀ wx, Calls Tryz.prog 70 #[.int .i64 5, .int .i32 (-1)] wx fun r w' => OpD wx 1 5 1 0 r w') := Hq0 (fun wx => (New_any 5 (-1) wx (by unfold S64; decide)).mono fun r w' h => dv_new (p := 1) h (by decide))
                have NU := Hq0 (show U ≠ Y by have h1 := LY.out.lt; omega)
                clear hU hLU hDU hGU HSN HCN HWG HS0 HKK IX0 IX1 IX2 IX3 IX4 IX5
                go_upto_region 21 with (fail)
                go_region_held3 (fun w' => wc.grownBy w' (some Y) ∧ w'.cell? ⟨U, 0, none⟩ = some (.pointer (some ⟨bw, 0, none⟩)) ∧ w'.cell? ⟨U, 1, none⟩ = some (.int .i32 ew) ∧ w'.cell? ⟨T, 0, none⟩ = some (.pointer (some ⟨bq, 0, none⟩)) ∧ w'.cell? ⟨T, 1, none⟩ = some (.int .i32 eq))
                  (first | exact KS.out | exact S19.keep (grown_dw _) HSU.out | exact S19.st KS.out NU.out NT.out _ _)
                  (first
                    | (go_at_call 69; have KX := Tg4; clear KX; refine (dv_add (p := 461) (DA.out.at 398 rfl rfl (Nat.le_refl _) (Nat.le_refl _)) (DWU.out.own LYU.out (show S19 wc (some Y) U T bw bq ew eq _ from by assumption).1) (HKU.out _ (show S19 wc (some Y) U T bw bq ew eq _ from by assumption).1) (by decide)).mono ?_; rintro r wk ⟨bA, eA, rfl, hbA, hdA, gk⟩; have KS : Hid (S19 wc (some Y) U T bw bq ew eq wk) := Hq0 (S19.keep gk (by assumption)); have DA := Hq0 hdA; clear hbA hdA; have LYK := Hq0 (show LV _ Y bz ez from kpb gk LYK.out); clear y0 y1 y2 y3; obtain ⟨y0, y1, y2, y3⟩ := LYK.out.c; have Tg5 : Hid True := trivial; clear gk)
                    | (go_at_call 71; have KX := Tg3; clear KX; refine (dv_sub (p := 63) (D1.out.at 63 rfl rfl (Nat.le_refl _) (Nat.le_refl _)) DA.out (HKU.out _ (show S19 wc (some Y) U T bw bq ew eq _ from by assumption).1) (by decide)).mono ?_; rintro r wk ⟨bA, eA, rfl, hbA, hdA, gk⟩; have KS : Hid (S19 wc (some Y) U T bw bq ew eq wk) := Hq0 (S19.keep gk (by assumption)); have DA := Hq0 hdA; clear hbA hdA; have LYK := Hq0 (show LV _ Y bz ez from kpb gk LYK.out); clear y0 y1 y2 y3; obtain ⟨y0, y1, y2, y3⟩ := LYK.out.c; have Tg4 : Hid True := trivial; clear gk)
                    | (go_at_call 66; have KX := Tg2; clear KX; refine (dv_mul D5.out (DQU.out.own LYU.out (show S19 wc (some Y) U T bw bq ew eq _ from by assumption).1) NF.out (HKU.out _ (show S19 wc (some Y) U T bw bq ew eq _ from by assumption).1) (by decide)).mono ?_; rintro r wk ⟨bA, eA, rfl, hbA, hdA, gk⟩; have KS : Hid (S19 wc (some Y) U T bw bq ew eq wk) := Hq0 (S19.keep gk (by assumption)); have D1 := Hq0 (D1.out.same gk); have DA := Hq0 hdA; clear hbA hdA; have LYK := Hq0 (show LV _ Y bz ez from kpb gk LYK.out); clear y0 y1 y2 y3; obtain ⟨y0, y1, y2, y3⟩ := LYK.out.c; have Tg3 : Hid True := trivial; clear gk)
                    | (go_at_call 70; have KX := Tg1; clear KX; refine (HN5.out _).mono ?_; rintro r wk ⟨bA, eA, rfl, hbA, hdA, gk⟩; have KS : Hid (S19 wc (some Y) U T bw bq ew eq wk) := Hq0 (S19.keep gk (by assumption)); have D1 := Hq0 (D1.out.same gk); have NF := Hq0 (show bA ≠ bq from Nat.ne_of_gt (Nat.lt_of_lt_of_le ((DQU.out.own LYU.out (show S19 wc (some Y) U T bw bq ew eq _ from by assumption).1)).lt hbA)); have D5 := Hq0 hdA; clear hbA hdA; have LYK := Hq0 (show LV _ Y bz ez from kpb gk LYK.out); clear y0 y1 y2 y3; obtain ⟨y0, y1, y2, y3⟩ := LYK.out.c; have Tg2 : Hid True := trivial; clear gk)
                    | (go_at_call 70; refine (HN1.out _).mono ?_; rintro r wk ⟨bA, eA, rfl, hbA, hdA, gk⟩; have KS : Hid (S19 wc (some Y) U T bw bq ew eq wk) := Hq0 (S19.keep gk (by assumption)); have D1 := Hq0 hdA; clear hbA hdA; have LYK := Hq0 (show LV _ Y bz ez from kpb gk LYK.out); clear y0 y1 y2 y3; obtain ⟨y0, y1, y2, y3⟩ := LYK.out.c; have Tg1 : Hid True := trivial; clear gk))
                all_goals
                  have RZ := Hq0 (st_var LYK.out (.pointer (some ⟨bA, 0, none⟩)) (.int .i32 eA))
                  clear y0 y1 y2 y3
                  go_wp2_with (fail)
                  go_meet
                  case rel => exact ⟨⟨bA, eA, RZ.out.2, (DA.out.own LYK.out RZ.out.1).at 0 rfl (by rw [Int.pow_zero, Int.mul_one, if_neg (by decide), cosP]) (by decide) (by decide)⟩, grown_trans (grown_weak GU.out) (grown_trans KS.out.1 RZ.out.1)⟩
             ·subst h4
              go_upto_region 19 with (fail)
              have LYK := LY
              obtain ⟨y0, y1, y2, y3⟩ := LY.out.c
              go_region_held3 (fun w' => wr.grownBy w' (some Y) ∧ w'.cell? ⟨Z, 0, none⟩ = some (.pointer (some ⟨bt, 0, none⟩)) ∧ w'.cell? ⟨Z, 1, none⟩ = some (.int .i32 et) ∧ w'.cell? ⟨T, 0, none⟩ = some (.pointer (some ⟨bq, 0, none⟩)) ∧ w'.cell? ⟨T, 1, none⟩ = some (.int .i32 eq))
                (first | exact KF.out | exact KS.out | exact S19.keep (grown_dw _) HS0.out | exact S19.st KS.out NZ.out NT.out _ _)
                (first
                  | (go_at_call 69; have KX := Tg18; clear KX; refine (dv_add (p := 429) ((DT.out.own LY.out (show S19 wr (some Y) Z T bt bq et eq _ from by assumption).1).at 398 rfl rfl (Nat.le_refl _) (Nat.le_refl _)) (DA.out.same (grown_refl _ _)) (HKK.out _ (show S19 wr (some Y) Z T bt bq et eq _ from by assumption).1) (by decide)).mono ?_; rintro r wk ⟨bA, eA, rfl, hbA, hdA, gk⟩; have KS : Hid (S19 wr (some Y) Z T bt bq et eq wk) := Hq0 (S19.keep gk (by assumption)); have DA := Hq0 hdA; clear hbA hdA; have LYK := Hq0 (show LV _ Y bz ez from kpb gk LYK.out); clear y0 y1 y2 y3; obtain ⟨y0, y1, y2, y3⟩ := LYK.out.c; have Tg19 : Hid True := trivial; clear gk)
                  | (go_at_call 66; have KX := Tg17; clear KX; refine (dv_mul (DP.out.same (grown_refl _ _)) (DA.out.same (grown_refl _ _)) NP.out (HKK.out _ (show S19 wr (some Y) Z T bt bq et eq _ from by assumption).1) (by decide)).mono ?_; rintro r wk ⟨bA, eA, rfl, hbA, hdA, gk⟩; have KS : Hid (S19 wr (some Y) Z T bt bq et eq wk) := Hq0 (S19.keep gk (by assumption)); have BA := Hq0 hbA; have DA := Hq0 hdA; clear hbA hdA; have LYK := Hq0 (show LV _ Y bz ez from kpb gk LYK.out); clear y0 y1 y2 y3; obtain ⟨y0, y1, y2, y3⟩ := LYK.out.c; have Tg18 : Hid True := trivial; clear gk)
                  | (go_at_call 69; have KX := Tg16; clear KX; refine (dv_add (p := 336) (DA.out.same (grown_refl _ _)) ((CJ.out.same (grown_refl _ _)).at 320 rfl rfl (Nat.le_refl _) (Nat.le_refl _)) (HKK.out _ (show S19 wr (some Y) Z T bt bq et eq _ from by assumption).1) (by decide)).mono ?_; rintro r wk ⟨bA, eA, rfl, hbA, hdA, gk⟩; have KS : Hid (S19 wr (some Y) Z T bt bq et eq wk) := Hq0 (S19.keep gk (by assumption)); have NA := Hq0 (show bA ≠ bq from Nat.ne_of_gt (Nat.lt_of_lt_of_le ((DQ.out.own LY.out (show S19 wr (some Y) Z T bt bq et eq _ from by assumption).1)).lt hbA)); have NP := Hq0 (show bP ≠ bA from Nat.ne_of_lt (Nat.lt_of_lt_of_le (DP.out.same (grown_refl _ _)).lt hbA)); have DA := Hq0 hdA; clear hbA hdA CJ; have DP := Hq0 (DP.out.same (grown_trans (grown_refl _ _) gk)); have LYK := Hq0 (show LV _ Y bz ez from kpb gk LYK.out); clear y0 y1 y2 y3; obtain ⟨y0, y1, y2, y3⟩ := LYK.out.c; have Tg17 : Hid True := trivial; clear gk)
                  | (go_at_call 72; have KX := Tg15; clear KX; refine (HSN.out _ (show S19 wr (some Y) Z T bt bq et eq _ from by assumption).1).mono ?_; rintro r wk ⟨c0, c1, c2, c3, c4, c5, rfl, q0, q1, q2, q3, q4, q5, gk⟩; have KS : Hid (S19 wr (some Y) Z T bt bq et eq wk) := Hq0 (S19.keep gk (by assumption)); have CJ : Hid (DV wk c5 (-16) 16 (-1666666666666663) 16 0) := Hq0 (dv_di q5 (by decide) (by decide)); have NC := Hq0 (show c5 ≠ bq from Nat.ne_of_gt (Nat.lt_of_lt_of_le ((DQ.out.own LY.out (show S19 wr (some Y) Z T bt bq et eq _ from by assumption).1)).lt q5.1)); clear q0 q1 q2 q3 q4 q5; have DP := Hq0 (DP.out.same (grown_trans (grown_refl _ _) gk)); have DA := Hq0 (DA.out.same (grown_trans (grown_refl _ _) gk)); have LYK := Hq0 (show LV _ Y bz ez from kpb gk LYK.out); clear y0 y1 y2 y3; obtain ⟨y0, y1, y2, y3⟩ := LYK.out.c; have Tg16 : Hid True := trivial; clear gk)
                  | (go_at_call 66; have KX := Tg14; clear KX; refine (dv_mul (DA.out.same (grown_refl _ _)) (DQ.out.own LY.out (show S19 wr (some Y) Z T bt bq et eq _ from by assumption).1) NA.out (HKK.out _ (show S19 wr (some Y) Z T bt bq et eq _ from by assumption).1) (by decide)).mono ?_; rintro r wk ⟨bA, eA, rfl, hbA, hdA, gk⟩; have KS : Hid (S19 wr (some Y) Z T bt bq et eq wk) := Hq0 (S19.keep gk (by assumption)); have DA := Hq0 hdA; clear hbA hdA; have DP := Hq0 (DP.out.same (grown_trans (grown_refl _ _) gk)); have LYK := Hq0 (show LV _ Y bz ez from kpb gk LYK.out); clear y0 y1 y2 y3; obtain ⟨y0, y1, y2, y3⟩ := LYK.out.c; have Tg15 : Hid True := trivial; clear gk)
                  | (go_at_call 69; have KX := Tg13; clear KX; refine (dv_add (p := 274) (DA.out.same (grown_refl _ _)) ((CJ.out.same (grown_refl _ _)).at 256 rfl rfl (Nat.le_refl _) (Nat.le_refl _)) (HKK.out _ (show S19 wr (some Y) Z T bt bq et eq _ from by assumption).1) (by decide)).mono ?_; rintro r wk ⟨bA, eA, rfl, hbA, hdA, gk⟩; have KS : Hid (S19 wr (some Y) Z T bt bq et eq wk) := Hq0 (S19.keep gk (by assumption)); have NA := Hq0 (show bA ≠ bq from Nat.ne_of_gt (Nat.lt_of_lt_of_le ((DQ.out.own LY.out (show S19 wr (some Y) Z T bt bq et eq _ from by assumption).1)).lt hbA)); have NP := Hq0 (show bP ≠ bA from Nat.ne_of_lt (Nat.lt_of_lt_of_le (DP.out.same (grown_refl _ _)).lt hbA)); have DA := Hq0 hdA; clear hbA hdA CJ; have DP := Hq0 (DP.out.same (grown_trans (grown_refl _ _) gk)); have LYK := Hq0 (show LV _ Y bz ez from kpb gk LYK.out); clear y0 y1 y2 y3; obtain ⟨y0, y1, y2, y3⟩ := LYK.out.c; have Tg14 : Hid True := trivial; clear gk)
                  | (go_at_call 72; have KX := Tg12; clear KX; refine (HSN.out _ (show S19 wr (some Y) Z T bt bq et eq _ from by assumption).1).mono ?_; rintro r wk ⟨c0, c1, c2, c3, c4, c5, rfl, q0, q1, q2, q3, q4, q5, gk⟩; have KS : Hid (S19 wr (some Y) Z T bt bq et eq wk) := Hq0 (S19.keep gk (by assumption)); have CJ : Hid (DV wk c4 (-18) 18 (8333333333322118) 16 0) := Hq0 (dv_di q4 (by decide) (by decide)); have NC := Hq0 (show c4 ≠ bq from Nat.ne_of_gt (Nat.lt_of_lt_of_le ((DQ.out.own LY.out (show S19 wr (some Y) Z T bt bq et eq _ from by assumption).1)).lt q4.1)); clear q0 q1 q2 q3 q4 q5; have DP := Hq0 (DP.out.same (grown_trans (grown_refl _ _) gk)); have DA := Hq0 (DA.out.same (grown_trans (grown_refl _ _) gk)); have LYK := Hq0 (show LV _ Y bz ez from kpb gk LYK.out); clear y0 y1 y2 y3; obtain ⟨y0, y1, y2, y3⟩ := LYK.out.c; have Tg13 : Hid True := trivial; clear gk)
                  | (go_at_call 66; have KX := Tg11; clear KX; refine (dv_mul (DA.out.same (grown_refl _ _)) (DQ.out.own LY.out (show S19 wr (some Y) Z T bt bq et eq _ from by assumption).1) NA.out (HKK.out _ (show S19 wr (some Y) Z T bt bq et eq _ from by assumption).1) (by decide)).mono ?_; rintro r wk ⟨bA, eA, rfl, hbA, hdA, gk⟩; have KS : Hid (S19 wr (some Y) Z T bt bq et eq wk) := Hq0 (S19.keep gk (by assumption)); have DA := Hq0 hdA; clear hbA hdA; have DP := Hq0 (DP.out.same (grown_trans (grown_refl _ _) gk)); have LYK := Hq0 (show LV _ Y bz ez from kpb gk LYK.out); clear y0 y1 y2 y3; obtain ⟨y0, y1, y2, y3⟩ := LYK.out.c; have Tg12 : Hid True := trivial; clear gk)
                  | (go_at_call 69; have KX := Tg10; clear KX; refine (dv_add (p := 212) (DA.out.same (grown_refl _ _)) ((CJ.out.same (grown_refl _ _)).at 193 rfl rfl (Nat.le_refl _) (Nat.le_refl _)) (HKK.out _ (show S19 wr (some Y) Z T bt bq et eq _ from by assumption).1) (by decide)).mono ?_; rintro r wk ⟨bA, eA, rfl, hbA, hdA, gk⟩; have KS : Hid (S19 wr (some Y) Z T bt bq et eq wk) := Hq0 (S19.keep gk (by assumption)); have NA := Hq0 (show bA ≠ bq from Nat.ne_of_gt (Nat.lt_of_lt_of_le ((DQ.out.own LY.out (show S19 wr (some Y) Z T bt bq et eq _ from by assumption).1)).lt hbA)); have NP := Hq0 (show bP ≠ bA from Nat.ne_of_lt (Nat.lt_of_lt_of_le (DP.out.same (grown_refl _ _)).lt hbA)); have DA := Hq0 hdA; clear hbA hdA CJ; have DP := Hq0 (DP.out.same (grown_trans (grown_refl _ _) gk)); have LYK := Hq0 (show LV _ Y bz ez from kpb gk LYK.out); clear y0 y1 y2 y3; obtain ⟨y0, y1, y2, y3⟩ := LYK.out.c; have Tg11 : Hid True := trivial; clear gk)
                  | (go_at_call 72; have KX := Tg9; clear KX; refine (HSN.out _ (show S19 wr (some Y) Z T bt bq et eq _ from by assumption).1).mono ?_; rintro r wk ⟨c0, c1, c2, c3, c4, c5, rfl, q0, q1, q2, q3, q4, q5, gk⟩; have KS : Hid (S19 wr (some Y) Z T bt bq et eq wk) := Hq0 (S19.keep gk (by assumption)); have CJ : Hid (DV wk c3 (-19) 19 (-1984126982958954) 16 0) := Hq0 (dv_di q3 (by decide) (by decide)); have NC := Hq0 (show c3 ≠ bq from Nat.ne_of_gt (Nat.lt_of_lt_of_le ((DQ.out.own LY.out (show S19 wr (some Y) Z T bt bq et eq _ from by assumption).1)).lt q3.1)); clear q0 q1 q2 q3 q4 q5; have DP := Hq0 (DP.out.same (grown_trans (grown_refl _ _) gk)); have DA := Hq0 (DA.out.same (grown_trans (grown_refl _ _) gk)); have LYK := Hq0 (show LV _ Y bz ez from kpb gk LYK.out); clear y0 y1 y2 y3; obtain ⟨y0, y1, y2, y3⟩ := LYK.out.c; have Tg10 : Hid True := trivial; clear gk)
                  | (go_at_call 66; have KX := Tg8; clear KX; refine (dv_mul (DA.out.same (grown_refl _ _)) (DQ.out.own LY.out (show S19 wr (some Y) Z T bt bq et eq _ from by assumption).1) NA.out (HKK.out _ (show S19 wr (some Y) Z T bt bq et eq _ from by assumption).1) (by decide)).mono ?_; rintro r wk ⟨bA, eA, rfl, hbA, hdA, gk⟩; have KS : Hid (S19 wr (some Y) Z T bt bq et eq wk) := Hq0 (S19.keep gk (by assumption)); have DA := Hq0 hdA; clear hbA hdA; have DP := Hq0 (DP.out.same (grown_trans (grown_refl _ _) gk)); have LYK := Hq0 (show LV _ Y bz ez from kpb gk LYK.out); clear y0 y1 y2 y3; obtain ⟨y0, y1, y2, y3⟩ := LYK.out.c; have Tg9 : Hid True := trivial; clear gk)
                  | (go_at_call 69; have KX := Tg7; clear KX; refine (dv_add (p := 150) (DA.out.same (grown_refl _ _)) ((CJ.out.same (grown_refl _ _)).at 128 rfl rfl (Nat.le_refl _) (Nat.le_refl _)) (HKK.out _ (show S19 wr (some Y) Z T bt bq et eq _ from by assumption).1) (by decide)).mono ?_; rintro r wk ⟨bA, eA, rfl, hbA, hdA, gk⟩; have KS : Hid (S19 wr (some Y) Z T bt bq et eq wk) := Hq0 (S19.keep gk (by assumption)); have NA := Hq0 (show bA ≠ bq from Nat.ne_of_gt (Nat.lt_of_lt_of_le ((DQ.out.own LY.out (show S19 wr (some Y) Z T bt bq et eq _ from by assumption).1)).lt hbA)); have NP := Hq0 (show bP ≠ bA from Nat.ne_of_lt (Nat.lt_of_lt_of_le (DP.out.same (grown_refl _ _)).lt hbA)); have DA := Hq0 hdA; clear hbA hdA CJ; have DP := Hq0 (DP.out.same (grown_trans (grown_refl _ _) gk)); have LYK := Hq0 (show LV _ Y bz ez from kpb gk LYK.out); clear y0 y1 y2 y3; obtain ⟨y0, y1, y2, y3⟩ := LYK.out.c; have Tg8 : Hid True := trivial; clear gk)
                  | (go_at_call 72; have KX := Tg6; clear KX; refine (HSN.out _ (show S19 wr (some Y) Z T bt bq et eq _ from by assumption).1).mono ?_; rintro r wk ⟨c0, c1, c2, c3, c4, c5, rfl, q0, q1, q2, q3, q4, q5, gk⟩; have KS : Hid (S19 wr (some Y) Z T bt bq et eq wk) := Hq0 (S19.keep gk (by assumption)); have CJ : Hid (DV wk c2 (-22) 22 (27557313621385722) 17 0) := Hq0 (dv_di q2 (by decide) (by decide)); have NC := Hq0 (show c2 ≠ bq from Nat.ne_of_gt (Nat.lt_of_lt_of_le ((DQ.out.own LY.out (show S19 wr (some Y) Z T bt bq et eq _ from by assumption).1)).lt q2.1)); clear q0 q1 q2 q3 q4 q5; have DP := Hq0 (DP.out.same (grown_trans (grown_refl _ _) gk)); have DA := Hq0 (DA.out.same (grown_trans (grown_refl _ _) gk)); have LYK := Hq0 (show LV _ Y bz ez from kpb gk LYK.out); clear y0 y1 y2 y3; obtain ⟨y0, y1, y2, y3⟩ := LYK.out.c; have Tg7 : Hid True := trivial; clear gk)
                  | (go_at_call 66; have KX := Tg5; clear KX; refine (dv_mul (DA.out.same (grown_refl _ _)) (DQ.out.own LY.out (show S19 wr (some Y) Z T bt bq et eq _ from by assumption).1) NA.out (HKK.out _ (show S19 wr (some Y) Z T bt bq et eq _ from by assumption).1) (by decide)).mono ?_; rintro r wk ⟨bA, eA, rfl, hbA, hdA, gk⟩; have KS : Hid (S19 wr (some Y) Z T bt bq et eq wk) := Hq0 (S19.keep gk (by assumption)); have DA := Hq0 hdA; clear hbA hdA; have DP := Hq0 (DP.out.same (grown_trans (grown_refl _ _) gk)); have LYK := Hq0 (show LV _ Y bz ez from kpb gk LYK.out); clear y0 y1 y2 y3; obtain ⟨y0, y1, y2, y3⟩ := LYK.out.c; have Tg6 : Hid True := trivial; clear gk)
                  | (go_at_call 69; have KX := Tg4; clear KX; refine (dv_add (p := 88) (DA.out.same (grown_refl _ _)) ((CJ.out.same (grown_refl _ _)).at 64 rfl rfl (Nat.le_refl _) (Nat.le_refl _)) (HKK.out _ (show S19 wr (some Y) Z T bt bq et eq _ from by assumption).1) (by decide)).mono ?_; rintro r wk ⟨bA, eA, rfl, hbA, hdA, gk⟩; have KS : Hid (S19 wr (some Y) Z T bt bq et eq wk) := Hq0 (S19.keep gk (by assumption)); have NA := Hq0 (show bA ≠ bq from Nat.ne_of_gt (Nat.lt_of_lt_of_le ((DQ.out.own LY.out (show S19 wr (some Y) Z T bt bq et eq _ from by assumption).1)).lt hbA)); have NP := Hq0 (show bP ≠ bA from Nat.ne_of_lt (Nat.lt_of_lt_of_le (DP.out.same (grown_refl _ _)).lt hbA)); have DA := Hq0 hdA; clear hbA hdA CJ; have DP := Hq0 (DP.out.same (grown_trans (grown_refl _ _) gk)); have LYK := Hq0 (show LV _ Y bz ez from kpb gk LYK.out); clear y0 y1 y2 y3; obtain ⟨y0, y1, y2, y3⟩ := LYK.out.c; have Tg5 : Hid True := trivial; clear gk)
                  | (go_at_call 72; have KX := Tg3; clear KX; refine (HSN.out _ (show S19 wr (some Y) Z T bt bq et eq _ from by assumption).1).mono ?_; rintro r wk ⟨c0, c1, c2, c3, c4, c5, rfl, q0, q1, q2, q3, q4, q5, gk⟩; have KS : Hid (S19 wr (some Y) Z T bt bq et eq wk) := Hq0 (S19.keep gk (by assumption)); have CJ : Hid (DV wk c1 (-24) 24 (-25050747762857807) 17 0) := Hq0 (dv_di q1 (by decide) (by decide)); have NC := Hq0 (show c1 ≠ bq from Nat.ne_of_gt (Nat.lt_of_lt_of_le ((DQ.out.own LY.out (show S19 wr (some Y) Z T bt bq et eq _ from by assumption).1)).lt q1.1)); clear q0 q1 q2 q3 q4 q5; have DP := Hq0 (DP.out.same (grown_trans (grown_refl _ _) gk)); have DA := Hq0 (DA.out.same (grown_trans (grown_refl _ _) gk)); have LYK := Hq0 (show LV _ Y bz ez from kpb gk LYK.out); clear y0 y1 y2 y3; obtain ⟨y0, y1, y2, y3⟩ := LYK.out.c; have Tg4 : Hid True := trivial; clear gk)
                  | (go_at_call 66; have KX := Tg2; clear KX; refine (dv_mul (CJ.out.same (grown_refl _ _)) (DQ.out.own LY.out (show S19 wr (some Y) Z T bt bq et eq _ from by assumption).1) NC.out (HKK.out _ (show S19 wr (some Y) Z T bt bq et eq _ from by assumption).1) (by decide)).mono ?_; rintro r wk ⟨bA, eA, rfl, hbA, hdA, gk⟩; have KS : Hid (S19 wr (some Y) Z T bt bq et eq wk) := Hq0 (S19.keep gk (by assumption)); have DA := Hq0 hdA; clear hbA hdA CJ; have DP := Hq0 (DP.out.same (grown_trans (grown_refl _ _) gk)); have LYK := Hq0 (show LV _ Y bz ez from kpb gk LYK.out); clear y0 y1 y2 y3; obtain ⟨y0, y1, y2, y3⟩ := LYK.out.c; have Tg3 : Hid True := trivial; clear gk)
                  | (go_at_call 72; have KX := Tg1; clear KX; refine (HSN.out _ (show S19 wr (some Y) Z T bt bq et eq _ from by assumption).1).mono ?_; rintro r wk ⟨c0, c1, c2, c3, c4, c5, rfl, q0, q1, q2, q3, q4, q5, gk⟩; have KS : Hid (S19 wr (some Y) Z T bt bq et eq wk) := Hq0 (S19.keep gk (by assumption)); have CJ : Hid (DV wk c0 (-26) 26 (15896230157654656) 17 0) := Hq0 (dv_di q0 (by decide) (by decide)); have NC := Hq0 (show c0 ≠ bq from Nat.ne_of_gt (Nat.lt_of_lt_of_le ((DQ.out.own LY.out (show S19 wr (some Y) Z T bt bq et eq _ from by assumption).1)).lt q0.1)); clear q0 q1 q2 q3 q4 q5; have DP := Hq0 (DP.out.same (grown_trans (grown_refl _ _) gk)); have LYK := Hq0 (show LV _ Y bz ez from kpb gk LYK.out); clear y0 y1 y2 y3; obtain ⟨y0, y1, y2, y3⟩ := LYK.out.c; have Tg2 : Hid True := trivial; clear gk)
                  | (go_at_call 66; refine (dv_mul (DT.out.own LY.out (show S19 wr (some Y) Z T bt bq et eq _ from by assumption).1) (DQ.out.own LY.out (show S19 wr (some Y) Z T bt bq et eq _ from by assumption).1) BQ.out (HKK.out _ (show S19 wr (some Y) Z T bt bq et eq _ from by assumption).1) (by decide)).mono ?_; rintro r wk ⟨bP, eP, rfl, hbP, hdP, gk⟩; have KS : Hid (S19 wr (some Y) Z T bt bq et eq wk) := Hq0 (S19.keep gk (by assumption)); have DP := Hq0 hdP; clear hbP hdP; have LYK := Hq0 (show LV _ Y bz ez from kpb gk LYK.out); clear y0 y1 y2 y3; obtain ⟨y0, y1, y2, y3⟩ := LYK.out.c; have Tg1 : Hid True := trivial; clear gk))
              all_goals
                have RZ := Hq0 (st_var LYK.out (.pointer (some ⟨bA, 0, none⟩)) (.int .i32 eA))
                clear y0 y1 y2 y3
                go_wp2_with (fail)
                go_meet
                case rel => exact ⟨⟨bA, eA, RZ.out.2, (DA.out.own LYK.out RZ.out.1).at 32 rfl (by rw [sinP, if_pos trivial]) (by decide) (by decide)⟩, grown_trans KS.out.1 RZ.out.1⟩
            case rest =>
              obtain ⟨⟨bf, ef, hLF, hDF⟩, hGF⟩ := hcut
              have LF := Hq0 hLF; have DF := Hq0 hDF; have GF := Hq0 hGF
              clear hLF hDF hGF HSN HCN IX0 IX1 IX2 IX3 IX4 IX5 HS0 NT NZ t1 h4 HKK
              obtain ⟨v, hv⟩ : ∃ v, (if P4 = 2 then sinP z * 10 ^ 32 else cosP z) = v := ⟨_, rfl⟩
              rw [hv] at DF
              have HE : Hid (cosX xi = if sg then -v else v) := Hq0 (by rw [← hv]; exact cosX_eq HJN.out HM2.out HO.out HPP.out HSG.out HSG2.out HZE.out)
              clear hv
              go_upto_if 141 with (fail)
              go_cut [] from 142 to 144 (fun wx => (∃ bg eg, LV wx Y bg eg ∧ DV wx bg eg 461 (cosX xi) 500 100) ∧ wr.grownBy wx (some Y))
              case first =>
                cases sg
                · go_wp2_with (fail)
                  go_meet
                  case rel => exact ⟨⟨bf, ef, LF.out, by have h1 := HE.out; have h2 := DF.out; simp only [Bool.false_eq_true, if_false] at h1; rw [h1]; exact h2⟩, GF.out⟩
                · obtain ⟨y0, y1, y2, y3⟩ := LF.out.c
                  have HN := Hq0 (dv_neg DF.out)
                  go_wp2_with (fail)
                  refine HN.out.mono ?_
                  rintro r wn ⟨bg, eg, rfl, hbg, hdg, gg⟩
                  have LN : Hid (LV wn Y bf ef) := kpb gg LF.out
                  have DN := Hq0 hdg; have GN := Hq0 (grown_trans GF.out (grown_weak gg))
                  clear y0 y1 y2 y3 hbg hdg gg HN
                  obtain ⟨y0, y1, y2, y3⟩ := LN.out.c
                  have RZ := Hq0 (st_var LN.out (.pointer (some ⟨bg, 0, none⟩)) (.int .i32 eg))
                  go_wp2_with (fail)
                  go_meet
                  case rel => exact ⟨⟨bg, eg, RZ.out.2, by have h1 := HE.out; have h2 := DN.out.own LN.out RZ.out.1; simp only [if_true] at h1; rw [h1]; exact h2⟩, grown_trans GN.out RZ.out.1⟩
              case rest =>
                obtain ⟨⟨bg, eg, hLG, hDG⟩, hGG⟩ := hcut
                have LG := Hq0 hLG; have DG := Hq0 hDG
                have GT := Hq0 (HWG.out _ hGG)
                have RT := Hq0 (stay hGG RW.out (show A + 1 ≠ Y by have := ZY.out; omega))
                clear hLG hDG hGG HWG
                obtain ⟨y0, y1, y2, y3⟩ := LG.out.c
                obtain ⟨r0, r1, r2, r3⟩ := cell_dnil RT.out
                go_wp2
                obtain ⟨o1, o2⟩ := st_var RT.out (.pointer (some ⟨bg, 0, none⟩)) (.int .i32 eg)
                have DZ9 := Hq0 (DG.out.own RT.out o1)
                have GZ9 := Hq0 (grown_own GT.out o1 (.inr (show w.heap.size ≤ A + 1 by have := ZY.out; omega)))
                clear y0 y1 y2 y3 r0 r1 r2 r3
                generalize (wc.setCell ⟨A + 1, 0, none⟩ (.pointer (some ⟨bg, 0, none⟩))).setCell ⟨A + 1, 1, none⟩ (.int .i32 eg) = w9 at *
                obtain ⟨s0, s1, _, _⟩ := cell_dobj o2
                refine bodyPost_ret (v := .agg #[.pointer (some ⟨bg, 0, none⟩), .int .i32 eg]) (by simp [results, Tryz.func34, go_sem, s0, s1]; try rfl) rfl ?_
                rw [HXI.out]
                exact ⟨bg, eg, rfl, DZ9.out, GZ9.out⟩
end Go.Proofs.YtjcfacinlgogaaaGreatDoor
