/- Decimals: sums and differences at one exponent. Decimals: the whole part. Decimals: sums and differences at any exponents; the amount. -/
import Derived.Test.YtjcfacinlgogaaaGreatDoorQ22
import Derived.Test.YtjcfacinlgogaaaGreatDoorQ21
import Derived.Test.YtjcfacinlgogaaaGreatDoorQ23
set_option linter.all false
set_option maxHeartbeats 4000000
set_option maxRecDepth 100000
set_option exponentiation.threshold 2000
namespace Go.Proofs.YtjcfacinlgogaaaGreatDoor
open Go.RowKit
theorem addD_of {w : World} {b1 b2 : Nat} {n e : Int} (hM : ∀ (wx : World) (bz : Nat), w.grownBy wx none → w.heap.size ≤ bz → wx.heap[bz]? = some (ibox false (.slice none 0 0)) → Calls Tryz.prog 99 #[.pointer (some ⟨bz, 0, none⟩), .pointer (some ⟨b1, 0, none⟩), .pointer (some ⟨b2, 0, none⟩)] wx fun r w' => MuRes wx bz n r w') :
    Calls Tryz.prog 69 #[decV b1 e, decV b2 e] w fun r w' => DecNew w w' r n e := by
  have HM := Hq0 hM
  have HV1 := Hq0 (fun (w : World) => getValue_any b1 e w)
  have HV2 := Hq0 (fun (w : World) => getValue_any b2 e w)
  unfold decV at HV1 HV2 ⊢
  obtain ⟨W0, hW0, h0⟩ := dby_new w b1 e b2 e
  unfold dobj dnil at hW0
  have HB := Hq0 h0
  obtain ⟨a0, a1, _, _⟩ := cell_dobj h0.p
  obtain ⟨c0, c1, _, _⟩ := cell_dobj h0.q
  have hdec : decide (e < e) = false := by simp
  have E : Hid (SD W0 W0 w.heap.size b1 e b2 e) := ⟨grown_refl _ _, a0, a1, c0, c1⟩
  clear hM h0
  go_enter Tryz.func69, Tryz.ntmps69
  go_upto_region 1 with (fail)
  rw [← hW0]
  clear hW0
  go_upto_if 12 with (fail)
  try rw [hdec]
  go_upto_if 29 with (fail)
  try rw [hdec]
  clear hdec
  go_wp2_with (fail)
  clear a0 a1 c0 c1
  go_region_held3 (fun w' => W0.grownBy w' none ∧ w'.cell? ⟨w.heap.size, 0, none⟩ = some (.pointer (some ⟨b1, 0, none⟩)) ∧ w'.cell? ⟨w.heap.size, 1, none⟩ = some (.int .i32 e) ∧ w'.cell? ⟨w.heap.size + 1, 0, none⟩ = some (.pointer (some ⟨b2, 0, none⟩)) ∧ w'.cell? ⟨w.heap.size + 1, 1, none⟩ = some (.int .i32 e))
    (first | exact KM.out | exact KV2.out | exact KV1.out | exact SD.keep (grown_dw _) E.out | exact SD.keep (World.grownBy_alloc _ _ _) (by assumption))
    (first
      | (go_at_call 86; refine (HV1.out _).mono ?_; rintro r wv ⟨rfl, gv⟩; have KV1 : Hid (SD W0 wv w.heap.size b1 e b2 e) := SD.keep gv (by assumption); have GV1 := Hq0 gv; clear gv)
      | (go_at_call 86; refine (HV2.out _).mono ?_; rintro r wu ⟨rfl, gu⟩; have KV2 : Hid (SD W0 wu w.heap.size b1 e b2 e) := SD.keep gu (by assumption); have GV2 := Hq0 gu; clear gu)
      | (go_at_call 99; refine ((HM.out _ _ (by first | exact grown_trans HB.out.g KV2.out.1 | exact grown_trans HB.out.g (grown_trans KV2.out.1 (World.grownBy_alloc _ _ _))) (by first | exact HB.out.g.size | exact Nat.le_trans HB.out.g.size KV1.out.1.size | exact Nat.le_trans HB.out.g.size KV2.out.1.size) (by first | exact kpb GV2.out (kpb GV1.out (heap_new _ _)) | exact kpb GV2.out (heap_new _ _) | exact heap_new _ _))).mono ?_; rintro r wz hz; obtain ⟨bz, vz, rfl, hbz, hxz, gz⟩ := OpRes.of (W0 := W0) (by first | exact KV2.out.1 | exact grown_trans KV2.out.1 (World.grownBy_alloc _ _ _)) (by first | exact Nat.le_refl _ | exact KV1.out.1.size | exact KV2.out.1.size) hz; have KM : Hid (SD W0 wz w.heap.size b1 e b2 e) := SD.keep gz E.out; have GZ := Hq0 gz; have HXZ := Hq0 hxz; have HBZ := Hq0 hbz; clear gz hxz hbz hz))
  all_goals
    have hr := kpb GZ.out HB.out.r
    have hlt := (Array.getElem?_eq_some_iff.1 HB.out.r).1
    have HD := Hq0 (fin_of (e2 := e) hr HXZ.out (by have := HBZ.out; omega) (grown_trans HB.out.g GZ.out) (by omega))
    obtain ⟨r0, r1, r2, r3⟩ := cell_dnil hr
    have j1 := KM.out.2.2.1
    clear hr
    go_wp2
    have hD := HD.out
    clear HD
    generalize (wz.setCell ⟨w.heap.size + 2, 0, none⟩ (.pointer (some ⟨bz, 0, none⟩))).setCell ⟨w.heap.size + 2, 1, none⟩ (.int .i32 e) = w9 at *
    obtain ⟨s0, s1, hbx, hg5⟩ := hD
    have HF5 := Hq0 (show _ ∧ _ from ⟨hbx, hg5⟩)
    clear hbx hg5 r0 r1 r2 r3 j1
    refine bodyPost_ret (v := decV bz e) (by simp [results, Tryz.func69, go_sem, s0, s1, decV]; try rfl) rfl ?_
    exact ⟨bz, vz, rfl, Nat.le_trans HB.out.g.size HBZ.out, HF5.out.1, HF5.out.2⟩
theorem subD_of {w : World} {b1 b2 : Nat} {n e : Int} (hM : ∀ (wx : World) (bz : Nat), w.grownBy wx none → w.heap.size ≤ bz → wx.heap[bz]? = some (ibox false (.slice none 0 0)) → Calls Tryz.prog 100 #[.pointer (some ⟨bz, 0, none⟩), .pointer (some ⟨b1, 0, none⟩), .pointer (some ⟨b2, 0, none⟩)] wx fun r w' => MuRes wx bz n r w') :
    Calls Tryz.prog 71 #[decV b1 e, decV b2 e] w fun r w' => DecNew w w' r n e := by
  have HM := Hq0 hM
  have HV1 := Hq0 (fun (w : World) => getValue_any b1 e w)
  have HV2 := Hq0 (fun (w : World) => getValue_any b2 e w)
  unfold decV at HV1 HV2 ⊢
  obtain ⟨W0, hW0, h0⟩ := dby_new w b1 e b2 e
  unfold dobj dnil at hW0
  have HB := Hq0 h0
  obtain ⟨a0, a1, _, _⟩ := cell_dobj h0.p
  obtain ⟨c0, c1, _, _⟩ := cell_dobj h0.q
  have hdec : decide (e < e) = false := by simp
  have E : Hid (SD W0 W0 w.heap.size b1 e b2 e) := ⟨grown_refl _ _, a0, a1, c0, c1⟩
  clear hM h0
  go_enter Tryz.func71, Tryz.ntmps71
  go_upto_region 1 with (fail)
  rw [← hW0]
  clear hW0
  go_upto_if 12 with (fail)
  try rw [hdec]
  go_upto_if 29 with (fail)
  try rw [hdec]
  clear hdec
  go_wp2_with (fail)
  clear a0 a1 c0 c1
  go_region_held3 (fun w' => W0.grownBy w' none ∧ w'.cell? ⟨w.heap.size, 0, none⟩ = some (.pointer (some ⟨b1, 0, none⟩)) ∧ w'.cell? ⟨w.heap.size, 1, none⟩ = some (.int .i32 e) ∧ w'.cell? ⟨w.heap.size + 1, 0, none⟩ = some (.pointer (some ⟨b2, 0, none⟩)) ∧ w'.cell? ⟨w.heap.size + 1, 1, none⟩ = some (.int .i32 e))
    (first | exact KM.out | exact KV2.out | exact KV1.out | exact SD.keep (grown_dw _) E.out | exact SD.keep (World.grownBy_alloc _ _ _) (by assumption))
    (first
      | (go_at_call 86; refine (HV1.out _).mono ?_; rintro r wv ⟨rfl, gv⟩; have KV1 : Hid (SD W0 wv w.heap.size b1 e b2 e) := SD.keep gv (by assumption); have GV1 := Hq0 gv; clear gv)
      | (go_at_call 86; refine (HV2.out _).mono ?_; rintro r wu ⟨rfl, gu⟩; have KV2 : Hid (SD W0 wu w.heap.size b1 e b2 e) := SD.keep gu (by assumption); have GV2 := Hq0 gu; clear gu)
      | (go_at_call 100; refine ((HM.out _ _ (by first | exact grown_trans HB.out.g KV2.out.1 | exact grown_trans HB.out.g (grown_trans KV2.out.1 (World.grownBy_alloc _ _ _))) (by first | exact HB.out.g.size | exact Nat.le_trans HB.out.g.size KV1.out.1.size | exact Nat.le_trans HB.out.g.size KV2.out.1.size) (by first | exact kpb GV2.out (kpb GV1.out (heap_new _ _)) | exact kpb GV2.out (heap_new _ _) | exact heap_new _ _))).mono ?_; rintro r wz hz; obtain ⟨bz, vz, rfl, hbz, hxz, gz⟩ := OpRes.of (W0 := W0) (by first | exact KV2.out.1 | exact grown_trans KV2.out.1 (World.grownBy_alloc _ _ _)) (by first | exact Nat.le_refl _ | exact KV1.out.1.size | exact KV2.out.1.size) hz; have KM : Hid (SD W0 wz w.heap.size b1 e b2 e) := SD.keep gz E.out; have GZ := Hq0 gz; have HXZ := Hq0 hxz; have HBZ := Hq0 hbz; clear gz hxz hbz hz))
  all_goals
    have hr := kpb GZ.out HB.out.r
    have hlt := (Array.getElem?_eq_some_iff.1 HB.out.r).1
    have HD := Hq0 (fin_of (e2 := e) hr HXZ.out (by have := HBZ.out; omega) (grown_trans HB.out.g GZ.out) (by omega))
    obtain ⟨r0, r1, r2, r3⟩ := cell_dnil hr
    have j1 := KM.out.2.2.1
    clear hr
    go_wp2
    have hD := HD.out
    clear HD
    generalize (wz.setCell ⟨w.heap.size + 2, 0, none⟩ (.pointer (some ⟨bz, 0, none⟩))).setCell ⟨w.heap.size + 2, 1, none⟩ (.int .i32 e) = w9 at *
    obtain ⟨s0, s1, hbx, hg5⟩ := hD
    have HF5 := Hq0 (show _ ∧ _ from ⟨hbx, hg5⟩)
    clear hbx hg5 r0 r1 r2 r3 j1
    refine bodyPost_ret (v := decV bz e) (by simp [results, Tryz.func71, go_sem, s0, s1, decV]; try rfl) rfl ?_
    exact ⟨bz, vz, rfl, Nat.le_trans HB.out.g.size HBZ.out, HF5.out.1, HF5.out.2⟩
end Go.Proofs.YtjcfacinlgogaaaGreatDoor
namespace Go.Proofs.YtjcfacinlgogaaaGreatDoor
open Go.RowKit
theorem dec_box1 (w : World) (b : Nat) (e : Int) : ∃ W0, W0 = w.alloc (.cells #[.pointer (some ⟨b, 0, none⟩), .int .i32 e] 56) ∧ w.grownBy W0 none ∧ W0.heap[w.heap.size]? = some (dobj b e) :=
  ⟨_, rfl, World.grownBy_alloc _ _ _, heap_new w (dobj b e)⟩
theorem IntPart_any {w : World} {b : Nat} {x : Value} {n e : Int} {k : Nat} (hx : IntC w b 0 x n) (he : e = -(k : Int)) (hk0 : 1 ≤ k) (hk : k ≤ 57) (hn : (n.natAbs : Int) < B64 ^ 39) (hs : S64 (n.tdiv (10 ^ k))) (hK : TabK w) :
    Calls Tryz.prog 67 #[decV b e] w fun r w' => r = .returned (.int .i64 (n.tdiv (10 ^ k))) ∧ w.grownBy w' none := by
  have HX := Hq0 hx; have HS := Hq0 hs
  have HV := Hq0 (fun (w : World) => getValue_any b e w)
  have HRS := Hq0 (fun (wz : World) (g : w.grownBy wz none) => rescale_up (hx.same g) (e2 := 0) (show e < 0 by omega) (by omega) (by decide) (by omega) (hK.same g) hn)
  rw [show (0 - e).toNat = k by omega] at HRS
  have HV0 : Hid (∀ (b : Nat) (w : World), Calls Tryz.prog 86 #[.agg #[.pointer (some ⟨b, 0, none⟩), .int .i32 0]] w fun r w' => r = .returned (.pointer (some ⟨b, 0, none⟩)) ∧ w.grownBy w' none) := fun b w => getValue_any b 0 w
  unfold decV at HV HRS ⊢
  obtain ⟨W0, hW0, g0, h0⟩ := dec_box1 w b e
  obtain ⟨a0, a1, _, _⟩ := cell_dobj h0
  have G0 := Hq0 g0; have H0 := Hq0 h0
  have l1 : e ≤ 0 := by omega
  have HE := Hq0 he
  clear hx hn hK hs g0 h0 he
  go_enter Tryz.func67, Tryz.ntmps67
  go_upto_region 1 with (fail)
  rw [← hW0]
  clear hW0
  go_wp2_with (fail)
  refine (HV.out _).mono ?_
  rintro r w1 ⟨rfl, g1⟩
  have G1 := Hq0 (grown_trans G0.out g1)
  have H1 := Hq0 (kpb g1 H0.out)
  obtain ⟨q0, q1, _, _⟩ := cell_dobj H1.out
  clear g1 a0 a1
  by_cases h18 : -18 ≤ e
  · have h18' : decide (-18 ≤ e) = true := by simpa using h18
    go_wp2_with (fail)
    refine (IsInt64_any (HX.out.same G1.out)).mono ?_
    rintro r w2 ⟨rfl, q2, hw2⟩
    have g2 : w1.grownBy w2 none := by rw [hw2]; exact grown_drewN _ _
    have G2 := Hq0 (grown_trans G1.out g2)
    have H2 := Hq0 (kpb g2 H1.out)
    clear g2 hw2 q0 q1
    obtain ⟨q0, q1, _, _⟩ := cell_dobj H2.out
    by_cases hfit : -9223372036854775808 ≤ n ∧ n ≤ 9223372036854775807
    · have dS : decide (-9223372036854775808 ≤ n ∧ n ≤ 9223372036854775807) = true := by simpa using hfit
      rw [dS]
      have HFIT := Hq0 hfit
      clear dS hfit
      have ek : IntKind.i32.wrap (-e) = k := by rw [IntKind.wrap_i32]; have := HE.out; omega
      have hk18 : k ≤ 18 := by have := HE.out; omega
      have hp : (0 : Int) < 10 ^ k := Int.pow_pos (by decide)
      have hple : (10 : Int) ^ k ≤ 10 ^ 18 := ipow_le (by decide) hk18
      have h1018 : (10 : Int) ^ 18 = 1000000000000000000 := by decide
      have ew : wrap64 (10 ^ k) = 10 ^ k := by rw [← i64_left']; exact IntWalk.i64_in _ (by omega)
      have hp0 : ¬ ((10 : Int) ^ k = 0) := by omega
      have H5 := Hq0 (fun w : World => pow10Uint64_any k w (by omega))
      have H6 := Hq0 (fun q => Int64_any ((HX.out.same G2.out).draw q) HFIT.out)
      have ewr : wrap64 (n.tdiv (10 ^ k)) = n.tdiv (10 ^ k) := by rw [← i64_left']; exact IntWalk.i64_in _ (by have := HS.out; unfold S64 at this; omega)
      clear hple h1018 hp
      generalize hP : (10 : Int) ^ k = P at *
      go_wp2_with (fail)
      go_quiet (first | (go_at_call 95; exact Calls.quiet_of (H6.out _)) | (go_at_call 96; exact Calls.quiet_of_same ((H5.out _).mono fun e w' ⟨h1, h2⟩ => ⟨h1, h2.symm⟩)))
      rw [ewr]
      clear H5 H6 HRS HV
      go_wp2
      go_ret
      exact ⟨by rw [hP]; rfl, grown_trans G2.out (grown_drewN _ _)⟩
    · have dS : decide (-9223372036854775808 ≤ n ∧ n ≤ 9223372036854775807) = false := by simpa using hfit
      rw [dS]
      clear dS hfit
      go_wp2_with (fail)
      refine (HRS.out _ G2.out).mono ?_
      rintro r w3 ⟨b3, v3, rfl, hb3, hx3, g3⟩
      unfold decV
      have ga3 := World.grownBy_alloc w3 (.cells #[.pointer (some ⟨b3, 0, none⟩), .int .i32 0] 56) none
      have h3 : Hid ((w3.alloc (.cells #[.pointer (some ⟨b3, 0, none⟩), .int .i32 0] 56)).heap[w3.heap.size]? = some (dobj b3 0)) := heap_new w3 (dobj b3 0)
      have HX3 := Hq0 (hx3.c.same ga3)
      have G3 := Hq0 (grown_trans G2.out (grown_trans g3 ga3))
      clear hb3 hx3 g3 ga3 q0 q1
      go_wp2_with (fail)
      refine ((HV0.out b3 _)).mono ?_
      rintro r w4 ⟨rfl, g4⟩
      have G4 := Hq0 (grown_trans G3.out g4)
      have HX4 := Hq0 (HX3.out.same g4)
      clear g4
      go_wp2_with (fail)
      refine (Int64_any HX4.out HS.out).mono ?_
      rintro r w5 ⟨rfl, q5, rfl⟩
      go_wp2
      go_ret
      exact ⟨rfl, grown_trans G4.out (grown_drewN _ _)⟩
  · have h18' : decide (-18 ≤ e) = false := by simpa using h18
    go_wp2_with (fail)
    refine (HRS.out _ G1.out).mono ?_
    rintro r w3 ⟨b3, v3, rfl, hb3, hx3, g3⟩
    unfold decV
    have ga3 := World.grownBy_alloc w3 (.cells #[.pointer (some ⟨b3, 0, none⟩), .int .i32 0] 56) none
    have h3 : Hid ((w3.alloc (.cells #[.pointer (some ⟨b3, 0, none⟩), .int .i32 0] 56)).heap[w3.heap.size]? = some (dobj b3 0)) := heap_new w3 (dobj b3 0)
    have HX3 := Hq0 (hx3.c.same ga3)
    have G3 := Hq0 (grown_trans G1.out (grown_trans g3 ga3))
    clear hb3 hx3 g3 ga3 q0 q1
    go_wp2_with (fail)
    refine ((HV0.out b3 _)).mono ?_
    rintro r w4 ⟨rfl, g4⟩
    have G4 := Hq0 (grown_trans G3.out g4)
    have HX4 := Hq0 (HX3.out.same g4)
    clear g4
    go_wp2_with (fail)
    refine (Int64_any HX4.out HS.out).mono ?_
    rintro r w5 ⟨rfl, q5, rfl⟩
    go_wp2
    go_ret
    exact ⟨rfl, grown_trans G4.out (grown_drewN _ _)⟩
end Go.Proofs.YtjcfacinlgogaaaGreatDoor
namespace Go.Proofs.YtjcfacinlgogaaaGreatDoor
open Go.RowKit
theorem addD_eq {w : World} {b1 b2 : Nat} {x y : Value} {n1 n2 : Int} (e : Int) (hx : IntC w b1 0 x n1) (hy : IntC w b2 0 y n2) (h7 : M1000 (n1 + n2)) :
    Calls Tryz.prog 69 #[decV b1 e, decV b2 e] w fun r w' => DecNew w w' r (n1 + n2) e :=
  addD_of fun wx bz g hb hz => (Add_any (IntBox.fresh (n := 0) hz rfl (IsNat.nil _) wfL_nil Nrm.nil rfl (by simp)) (hx.same g) (hy.same g) h7.raw).mono fun r w' ⟨a, v', k1, k2, k3⟩ => ⟨a, v', k1, ⟨k2, fun k hk => (k3 k hk).resolve_left (by simp [Value.ownBlock])⟩⟩
theorem subD_eq {w : World} {b1 b2 : Nat} {x y : Value} {n1 n2 : Int} (e : Int) (hx : IntC w b1 0 x n1) (hy : IntC w b2 0 y n2) (h7 : M1000 (n1 - n2)) :
    Calls Tryz.prog 71 #[decV b1 e, decV b2 e] w fun r w' => DecNew w w' r (n1 - n2) e :=
  subD_of fun wx bz g hb hz => (Sub_any (IntBox.fresh (n := 0) hz rfl (IsNat.nil _) wfL_nil Nrm.nil rfl (by simp)) (hx.same g) (hy.same g) h7.raw).mono fun r w' ⟨a, v', k1, k2, k3⟩ => ⟨a, v', k1, ⟨k2, fun k hk => (k3 k hk).resolve_left (by simp [Value.ownBlock])⟩⟩
theorem sum_fits {n m x : Int} {k : Nat} (hn : (n.natAbs : Int) < B64 ^ 39) (hm : (m.natAbs : Int) < B64 ^ 39) (h : x = n + m * 10 ^ k ∨ x = n - m * 10 ^ k) (hk : k ≤ 423) : M1000 x := by
  refine M1000.of ?_
  have h1 := ten_lt2 hk
  have h0 : (0 : Int) < 10 ^ k := Int.pow_pos (by decide)
  have h3 : (m.natAbs : Int) * 10 ^ k < B64 ^ 39 * B64 ^ 22 := Int.mul_lt_mul hm (Int.le_of_lt h1) h0 (Int.le_of_lt (B64_pow_pos _))
  rw [← Int.pow_add, show 39 + 22 = 61 from rfl] at h3
  have h4 : ((m * 10 ^ k).natAbs : Int) = (m.natAbs : Int) * 10 ^ k := by
    rw [Int.natAbs_mul, Int.natCast_mul]
    have h2 : (((10 : Int) ^ k).natAbs : Int) = 10 ^ k := by omega
    rw [h2]
  have h5 : (x.natAbs : Int) ≤ n.natAbs + (m * 10 ^ k).natAbs := by rcases h with h | h <;> omega
  have h6 : (B64 : Int) ^ 39 ≤ B64 ^ 61 := pow_mono (by decide)
  have h7 : (B64 : Int) ^ 61 * 2 ≤ B64 ^ 62 := by
    have e62 : (B64 : Int) ^ 62 = B64 ^ 61 * B64 := rfl
    rw [e62]
    exact Int.mul_le_mul_of_nonneg_left (show (2 : Int) ≤ B64 by unfold B64; omega) (Int.le_of_lt (B64_pow_pos _))
  have h8 : (B64 : Int) ^ 62 ≤ B64 ^ 1000 := pow_mono (by decide)
  rw [h4] at h5
  generalize (B64 : Int) ^ 39 = p at *
  generalize (B64 : Int) ^ 61 = q at *
  generalize (B64 : Int) ^ 62 = r at *
  generalize (B64 : Int) ^ 1000 = u at *
  omega
theorem addD_any {w : World} {b1 b2 : Nat} {x y : Value} {n1 n2 e1 e2 : Int} (hx : IntC w b1 0 x n1) (hy : IntC w b2 0 y n2) (he1 : e1.natAbs ≤ 2000) (he2 : e2.natAbs ≤ 2000) (hd : (e1 - e2).natAbs ≤ 423) (hK : TabK w)
    (k1 : (n1.natAbs : Int) < B64 ^ 39) (k2 : (n2.natAbs : Int) < B64 ^ 39) :
    Calls Tryz.prog 69 #[decV b1 e1, decV b2 e2] w fun r w' => DecNew w w' r (n1 * 10 ^ (e1 - min e1 e2).toNat + n2 * 10 ^ (e2 - min e1 e2).toNat) (min e1 e2) := by
  rcases Int.lt_trichotomy e1 e2 with h | h | h
  · rw [Int.min_eq_left (Int.le_of_lt h), Int.sub_self, Int.toNat_zero, Int.pow_zero, Int.mul_one]
    exact addD_lt hx hy h he1 he2 (by omega) hK k2 (sum_fits k1 k2 (.inl rfl) (by omega))
  · subst h
    rw [Int.min_self, Int.sub_self, Int.toNat_zero, Int.pow_zero, Int.mul_one, Int.mul_one]
    have := sum_fits (k := 0) k1 k2 (.inl rfl) (by omega)
    rw [Int.pow_zero, Int.mul_one] at this
    exact addD_eq e1 hx hy this
  · rw [Int.min_eq_right (Int.le_of_lt h), Int.sub_self, Int.toNat_zero, Int.pow_zero, Int.mul_one]
    have := sum_fits (k := (e1 - e2).toNat) k2 k1 (.inl rfl) (by omega)
    rw [Int.add_comm] at this
    exact addD_gt hx hy h he1 he2 (by omega) hK k1 this
theorem subD_any {w : World} {b1 b2 : Nat} {x y : Value} {n1 n2 e1 e2 : Int} (hx : IntC w b1 0 x n1) (hy : IntC w b2 0 y n2) (he1 : e1.natAbs ≤ 2000) (he2 : e2.natAbs ≤ 2000) (hd : (e1 - e2).natAbs ≤ 423) (hK : TabK w)
    (k1 : (n1.natAbs : Int) < B64 ^ 39) (k2 : (n2.natAbs : Int) < B64 ^ 39) :
    Calls Tryz.prog 71 #[decV b1 e1, decV b2 e2] w fun r w' => DecNew w w' r (n1 * 10 ^ (e1 - min e1 e2).toNat - n2 * 10 ^ (e2 - min e1 e2).toNat) (min e1 e2) := by
  rcases Int.lt_trichotomy e1 e2 with h | h | h
  · rw [Int.min_eq_left (Int.le_of_lt h), Int.sub_self, Int.toNat_zero, Int.pow_zero, Int.mul_one]
    exact subD_lt hx hy h he1 he2 (by omega) hK k2 (sum_fits k1 k2 (.inr rfl) (by omega))
  · subst h
    rw [Int.min_self, Int.sub_self, Int.toNat_zero, Int.pow_zero, Int.mul_one, Int.mul_one]
    have := sum_fits (k := 0) k1 k2 (.inr rfl) (by omega)
    rw [Int.pow_zero, Int.mul_one] at this
    exact subD_eq e1 hx hy this
  · rw [Int.min_eq_right (Int.le_of_lt h), Int.sub_self, Int.toNat_zero, Int.pow_zero, Int.mul_one]
    have h2 := sum_fits (k := (e1 - e2).toNat) k2 k1 (.inr rfl) (by omega)
    have h3 : M1000 (n1 * 10 ^ (e1 - e2).toNat - n2) := by
      have h4 := h2.raw
      refine M1000.of ?_
      rw [← Int.natAbs_neg, Int.neg_sub]; exact h4
    exact subD_gt hx hy h he1 he2 (by omega) hK k1 h3
end Go.Proofs.YtjcfacinlgogaaaGreatDoor
