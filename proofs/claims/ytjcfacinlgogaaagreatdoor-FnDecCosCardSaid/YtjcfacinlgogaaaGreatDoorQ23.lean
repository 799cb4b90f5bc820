/- Decimals: differences, the first exponent below the second. Decimals: sums and differences, the second exponent below the first. -/
import Derived.Test.YtjcfacinlgogaaaGreatDoorQ54
import Derived.Test.YtjcfacinlgogaaaGreatDoorQ22
set_option linter.all false
set_option maxHeartbeats 4000000
set_option maxRecDepth 100000
set_option exponentiation.threshold 2000
namespace Go.Proofs.YtjcfacinlgogaaaGreatDoor
open Go.RowKit
theorem subD_lt {w : World} {b1 b2 : Nat} {x y : Value} {n1 n2 e1 e2 : Int} (hx : IntC w b1 0 x n1) (hy : IntC w b2 0 y n2) (hlt : e1 < e2) (he1 : e1.natAbs ≤ 2000) (he2 : e2.natAbs ≤ 2000) (hd : e2 - e1 ≤ 423) (hK : TabK w) (hn : (n2.natAbs : Int) < B64 ^ 39)
    (h7 : M1000 (n1 - n2 * 10 ^ (e2 - e1).toNat)) :
    Calls Tryz.prog 71 #[decV b1 e1, decV b2 e2] w fun r w' => DecNew w w' r (n1 - n2 * 10 ^ (e2 - e1).toNat) e1 := by
  have HX := Hq0 hx; have HY := Hq0 hy; have HK := Hq0 hK; have HN := Hq0 hn; have H7 := Hq0 h7
  have HV1 := Hq0 (fun (w : World) => getValue_any b1 e1 w)
  have HRS := Hq0 (fun (wz : World) (g : w.grownBy wz none) => rescale_down (hy.same g) hlt he2 he1 hd (hK.same g) hn)
  unfold decV at HV1 HRS ⊢
  obtain ⟨W0, hW0, h0⟩ := dby_new w b1 e1 b2 e2
  unfold dobj dnil at hW0
  have HB := Hq0 h0
  obtain ⟨a0, a1, _, _⟩ := cell_dobj h0.p
  obtain ⟨c0, c1, _, _⟩ := cell_dobj h0.q
  have hdec : decide (e1 < e2) = true := by simpa using hlt
  generalize n2 * 10 ^ (e2 - e1).toNat = n2' at *
  clear hx hy h0 he1 he2 hd hK hn hlt h7
  go_enter Tryz.func71, Tryz.ntmps71
  go_upto_region 1 with (fail)
  rw [← hW0]
  clear hW0
  go_upto_if 12 with (fail)
  try rw [hdec]
  clear hdec
  go_wp2_with (fail)
  refine (HRS.out _ HB.out.g).mono ?_
  rintro r w1 ⟨br, v, rfl, hb, hbx, g1, hf⟩
  unfold decV
  have HR := Hq0 (dbr_new (e := e1) HB.out g1 hb hbx hf)
  obtain ⟨a2, a3, _, _⟩ := cell_dobj (HB.out.same g1).p
  clear hb hbx g1 hf a0 a1 c0 c1
  go_wp2_with (fail)
  have HR' : Hid (Dbr w (w1.alloc (.cells #[.pointer (some ⟨br, 0, none⟩), .int .i32 e1] 56)) b1 e1 b2 e2 w1.heap.size br v n2' e1) := HR
  clear HR a2 a3
  generalize w1.alloc (.cells #[.pointer (some ⟨br, 0, none⟩), .int .i32 e1] 56) = W2 at *
  generalize w1.heap.size = R at *
  have HRD := Hq0 (HR'.out.same (grown_dw W2))
  go_region_held3 (fun w' => w.grownBy w' none ∧ w'.cell? ⟨w.heap.size, 0, none⟩ = some (.pointer (some ⟨b1, 0, none⟩)) ∧ w'.cell? ⟨w.heap.size, 1, none⟩ = some (.int .i32 e1) ∧ w'.cell? ⟨w.heap.size + 1, 0, none⟩ = some (.pointer (some ⟨b2, 0, none⟩)) ∧ w'.cell? ⟨w.heap.size + 1, 1, none⟩ = some (.int .i32 e2) ∧ w'.cell? ⟨R, 0, none⟩ = some (.pointer (some ⟨br, 0, none⟩)))
    (first | exact KM.out.sd | exact KV1.out.sd | exact HRD.out.sd)
    (first
      | (go_at_call 86; refine (HV1.out _).mono ?_; rintro r wv ⟨rfl, gv⟩; have KV1 : Hid (Dbr w wv b1 e1 b2 e2 R br v n2' e1) := HRD.out.same gv; clear gv)
      | (go_at_call 100; refine ((Sub_any KV1.out.num (HX.out.same KV1.out.d.g) KV1.out.num.c (by exact M1000.raw H7.out))).mono ?_; rintro r wz ⟨rfl, vz, hxz, gz, fz⟩; have KM : Hid (Dbr w wz b1 e1 b2 e2 R br vz (n1 - n2') e1) := KV1.out.next hxz gz fz; clear gz hxz fz))
  all_goals
    have HD := Hq0 (KM.out.fin e1)
    obtain ⟨r0, r1, r2, r3⟩ := cell_dnil KM.out.d.r
    obtain ⟨j0, j1, j2, j3⟩ := cell_dobj KM.out.box
    go_wp2
    have hD : DfRes w ((wz.setCell ⟨w.heap.size + 1 + 1, 0, none⟩ (.pointer (some ⟨br, 0, none⟩))).setCell ⟨w.heap.size + 1 + 1, 1, none⟩ (.int .i32 e1)) (w.heap.size + 1 + 1) br vz (n1 - n2') e1 := HD.out
    clear HD
    generalize (wz.setCell ⟨w.heap.size + 1 + 1, 0, none⟩ (.pointer (some ⟨br, 0, none⟩))).setCell ⟨w.heap.size + 1 + 1, 1, none⟩ (.int .i32 e1) = w9 at *
    obtain ⟨s0, s1, hbx, hg5⟩ := hD
    have HF5 := Hq0 (show _ ∧ _ from ⟨hbx, hg5⟩)
    clear hbx hg5 r0 r1 r2 r3 j0 j1 j2 j3
    refine bodyPost_ret (v := decV br e1) (by simp [results, Tryz.func71, go_sem, s0, s1, decV]; try rfl) rfl ?_
    exact ⟨br, vz, rfl, KM.out.lr, HF5.out.1, HF5.out.2⟩
end Go.Proofs.YtjcfacinlgogaaaGreatDoor
namespace Go.Proofs.YtjcfacinlgogaaaGreatDoor
open Go.RowKit
theorem addD_gt {w : World} {b1 b2 : Nat} {x y : Value} {n1 n2 e1 e2 : Int} (hx : IntC w b1 0 x n1) (hy : IntC w b2 0 y n2) (hlt : e2 < e1) (he1 : e1.natAbs ≤ 2000) (he2 : e2.natAbs ≤ 2000) (hd : e1 - e2 ≤ 423) (hK : TabK w) (hn : (n1.natAbs : Int) < B64 ^ 39)
    (h7 : M1000 (n1 * 10 ^ (e1 - e2).toNat + n2)) :
    Calls Tryz.prog 69 #[decV b1 e1, decV b2 e2] w fun r w' => DecNew w w' r (n1 * 10 ^ (e1 - e2).toNat + n2) e2 := by
  have HX := Hq0 hx; have HY := Hq0 hy; have HK := Hq0 hK; have HN := Hq0 hn; have H7 := Hq0 h7
  have HV1 := Hq0 (fun (w : World) => getValue_any b2 e2 w)
  have HRS := Hq0 (fun (wz : World) (g : w.grownBy wz none) => rescale_down (hx.same g) hlt he1 he2 hd (hK.same g) hn)
  unfold decV at HV1 HRS ⊢
  obtain ⟨W0, hW0, h0⟩ := dby_new w b1 e1 b2 e2
  unfold dobj dnil at hW0
  have HB := Hq0 h0
  obtain ⟨a0, a1, _, _⟩ := cell_dobj h0.p
  obtain ⟨c0, c1, _, _⟩ := cell_dobj h0.q
  have hdec0 : decide (e1 < e2) = false := by simp; omega
  have hdec : decide (e2 < e1) = true := by simpa using hlt
  generalize n1 * 10 ^ (e1 - e2).toNat = n1' at *
  clear hx hy h0 he1 he2 hd hK hn hlt h7
  go_enter Tryz.func69, Tryz.ntmps69
  go_upto_region 1 with (fail)
  rw [← hW0]
  clear hW0
  go_upto_if 12 with (fail)
  try rw [hdec0]
  clear hdec0
  go_upto_if 29 with (fail)
  try rw [hdec]
  clear hdec
  go_wp2_with (fail)
  refine (HRS.out _ HB.out.g).mono ?_
  rintro r w1 ⟨br, v, rfl, hb, hbx, g1, hf⟩
  unfold decV
  have HR := Hq0 (dbr_new (e := e2) HB.out g1 hb hbx hf)
  obtain ⟨a2, a3, _, _⟩ := cell_dobj (HB.out.same g1).p
  clear hb hbx g1 hf a0 a1 c0 c1
  go_wp2_with (fail)
  have HR' : Hid (Dbr w (w1.alloc (.cells #[.pointer (some ⟨br, 0, none⟩), .int .i32 e2] 56)) b1 e1 b2 e2 w1.heap.size br v n1' e2) := HR
  clear HR a2 a3
  generalize w1.alloc (.cells #[.pointer (some ⟨br, 0, none⟩), .int .i32 e2] 56) = W2 at *
  generalize w1.heap.size = R at *
  have HRD := Hq0 (HR'.out.same (grown_dw W2))
  go_region_held3 (fun w' => w.grownBy w' none ∧ w'.cell? ⟨w.heap.size, 0, none⟩ = some (.pointer (some ⟨b1, 0, none⟩)) ∧ w'.cell? ⟨w.heap.size, 1, none⟩ = some (.int .i32 e1) ∧ w'.cell? ⟨w.heap.size + 1, 0, none⟩ = some (.pointer (some ⟨b2, 0, none⟩)) ∧ w'.cell? ⟨w.heap.size + 1, 1, none⟩ = some (.int .i32 e2) ∧ w'.cell? ⟨R, 0, none⟩ = some (.pointer (some ⟨br, 0, none⟩)))
    (first | exact KM.out.sd | exact KV1.out.sd | exact HRD.out.sd)
    (first
      | (go_at_call 86; refine (HV1.out _).mono ?_; rintro r wv ⟨rfl, gv⟩; have KV1 : Hid (Dbr w wv b1 e1 b2 e2 R br v n1' e2) := HRD.out.same gv; clear gv)
      | (go_at_call 99; refine ((Add_any KV1.out.num KV1.out.num.c (HY.out.same KV1.out.d.g) (by exact M1000.raw H7.out))).mono ?_; rintro r wz ⟨rfl, vz, hxz, gz, fz⟩; have KM : Hid (Dbr w wz b1 e1 b2 e2 R br vz (n1' + n2) e2) := KV1.out.next hxz gz fz; clear gz hxz fz))
  all_goals
    have HD := Hq0 (KM.out.fin e2)
    obtain ⟨r0, r1, r2, r3⟩ := cell_dnil KM.out.d.r
    obtain ⟨j0, j1, j2, j3⟩ := cell_dobj KM.out.box
    go_wp2
    have hD : DfRes w ((wz.setCell ⟨w.heap.size + 1 + 1, 0, none⟩ (.pointer (some ⟨br, 0, none⟩))).setCell ⟨w.heap.size + 1 + 1, 1, none⟩ (.int .i32 e2)) (w.heap.size + 1 + 1) br vz (n1' + n2) e2 := HD.out
    clear HD
    generalize (wz.setCell ⟨w.heap.size + 1 + 1, 0, none⟩ (.pointer (some ⟨br, 0, none⟩))).setCell ⟨w.heap.size + 1 + 1, 1, none⟩ (.int .i32 e2) = w9 at *
    obtain ⟨s0, s1, hbx, hg5⟩ := hD
    have HF5 := Hq0 (show _ ∧ _ from ⟨hbx, hg5⟩)
    clear hbx hg5 r0 r1 r2 r3 j0 j1 j2 j3
    refine bodyPost_ret (v := decV br e2) (by simp [results, Tryz.func69, go_sem, s0, s1, decV]; try rfl) rfl ?_
    exact ⟨br, vz, rfl, KM.out.lr, HF5.out.1, HF5.out.2⟩
theorem subD_gt {w : World} {b1 b2 : Nat} {x y : Value} {n1 n2 e1 e2 : Int} (hx : IntC w b1 0 x n1) (hy : IntC w b2 0 y n2) (hlt : e2 < e1) (he1 : e1.natAbs ≤ 2000) (he2 : e2.natAbs ≤ 2000) (hd : e1 - e2 ≤ 423) (hK : TabK w) (hn : (n1.natAbs : Int) < B64 ^ 39)
    (h7 : M1000 (n1 * 10 ^ (e1 - e2).toNat - n2)) :
    Calls Tryz.prog 71 #[decV b1 e1, decV b2 e2] w fun r w' => DecNew w w' r (n1 * 10 ^ (e1 - e2).toNat - n2) e2 := by
  have HX := Hq0 hx; have HY := Hq0 hy; have HK := Hq0 hK; have HN := Hq0 hn; have H7 := Hq0 h7
  have HV1 := Hq0 (fun (w : World) => getValue_any b2 e2 w)
  have HRS := Hq0 (fun (wz : World) (g : w.grownBy wz none) => rescale_down (hx.same g) hlt he1 he2 hd (hK.same g) hn)
  unfold decV at HV1 HRS ⊢
  obtain ⟨W0, hW0, h0⟩ := dby_new w b1 e1 b2 e2
  unfold dobj dnil at hW0
  have HB := Hq0 h0
  obtain ⟨a0, a1, _, _⟩ := cell_dobj h0.p
  obtain ⟨c0, c1, _, _⟩ := cell_dobj h0.q
  have hdec0 : decide (e1 < e2) = false := by simp; omega
  have hdec : decide (e2 < e1) = true := by simpa using hlt
  generalize n1 * 10 ^ (e1 - e2).toNat = n1' at *
  clear hx hy h0 he1 he2 hd hK hn hlt h7
  go_enter Tryz.func71, Tryz.ntmps71
  go_upto_region 1 with (fail)
  rw [← hW0]
  clear hW0
  go_upto_if 12 with (fail)
  try rw [hdec0]
  clear hdec0
  go_upto_if 29 with (fail)
  try rw [hdec]
  clear hdec
  go_wp2_with (fail)
  refine (HRS.out _ HB.out.g).mono ?_
  rintro r w1 ⟨br, v, rfl, hb, hbx, g1, hf⟩
  unfold decV
  have HR := Hq0 (dbr_new (e := e2) HB.out g1 hb hbx hf)
  obtain ⟨a2, a3, _, _⟩ := cell_dobj (HB.out.same g1).p
  clear hb hbx g1 hf a0 a1 c0 c1
  go_wp2_with (fail)
  have HR' : Hid (Dbr w (w1.alloc (.cells #[.pointer (some ⟨br, 0, none⟩), .int .i32 e2] 56)) b1 e1 b2 e2 w1.heap.size br v n1' e2) := HR
  clear HR a2 a3
  generalize w1.alloc (.cells #[.pointer (some ⟨br, 0, none⟩), .int .i32 e2] 56) = W2 at *
  generalize w1.heap.size = R at *
  have HRD := Hq0 (HR'.out.same (grown_dw W2))
  go_region_held3 (fun w' => w.grownBy w' none ∧ w'.cell? ⟨w.heap.size, 0, none⟩ = some (.pointer (some ⟨b1, 0, none⟩)) ∧ w'.cell? ⟨w.heap.size, 1, none⟩ = some (.int .i32 e1) ∧ w'.cell? ⟨w.heap.size + 1, 0, none⟩ = some (.pointer (some ⟨b2, 0, none⟩)) ∧ w'.cell? ⟨w.heap.size + 1, 1, none⟩ = some (.int .i32 e2) ∧ w'.cell? ⟨R, 0, none⟩ = some (.pointer (some ⟨br, 0, none⟩)))
    (first | exact KM.out.sd | exact KV1.out.sd | exact HRD.out.sd)
    (first
      | (go_at_call 86; refine (HV1.out _).mono ?_; rintro r wv ⟨rfl, gv⟩; have KV1 : Hid (Dbr w wv b1 e1 b2 e2 R br v n1' e2) := HRD.out.same gv; clear gv)
      | (go_at_call 100; refine ((Sub_any KV1.out.num KV1.out.num.c (HY.out.same KV1.out.d.g) (by exact M1000.raw H7.out))).mono ?_; rintro r wz ⟨rfl, vz, hxz, gz, fz⟩; have KM : Hid (Dbr w wz b1 e1 b2 e2 R br vz (n1' - n2) e2) := KV1.out.next hxz gz fz; clear gz hxz fz))
  all_goals
    have HD := Hq0 (KM.out.fin e2)
    obtain ⟨r0, r1, r2, r3⟩ := cell_dnil KM.out.d.r
    obtain ⟨j0, j1, j2, j3⟩ := cell_dobj KM.out.box
    go_wp2
    have hD : DfRes w ((wz.setCell ⟨w.heap.size + 1 + 1, 0, none⟩ (.pointer (some ⟨br, 0, none⟩))).setCell ⟨w.heap.size + 1 + 1, 1, none⟩ (.int .i32 e2)) (w.heap.size + 1 + 1) br vz (n1' - n2) e2 := HD.out
    clear HD
    generalize (wz.setCell ⟨w.heap.size + 1 + 1, 0, none⟩ (.pointer (some ⟨br, 0, none⟩))).setCell ⟨w.heap.size + 1 + 1, 1, none⟩ (.int .i32 e2) = w9 at *
    obtain ⟨s0, s1, hbx, hg5⟩ := hD
    have HF5 := Hq0 (show _ ∧ _ from ⟨hbx, hg5⟩)
    clear hbx hg5 r0 r1 r2 r3 j0 j1 j2 j3
    refine bodyPost_ret (v := decV br e2) (by simp [results, Tryz.func71, go_sem, s0, s1, decV]; try rfl) rfl ?_
    exact ⟨br, vz, rfl, KM.out.lr, HF5.out.1, HF5.out.2⟩
end Go.Proofs.YtjcfacinlgogaaaGreatDoor
