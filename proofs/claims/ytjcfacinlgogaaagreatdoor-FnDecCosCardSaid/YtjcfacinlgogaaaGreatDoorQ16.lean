/- Long division: the digits. Conditions: two or three words in the divisor, its top bit set; the dividend's top word is below the divisor's. -/
import Derived.Test.YtjcfacinlgogaaaGreatDoorQ12
import Derived.Test.YtjcfacinlgogaaaGreatDoorQ15
set_option linter.all false
set_option maxHeartbeats 4000000
set_option maxRecDepth 100000
namespace Go.Proofs.YtjcfacinlgogaaaGreatDoor
open Go.RowKit
theorem wrap_over {a b : Int} (ha : U64 a) (hb : U64 b) (h : B64 ≤ a + b) : IntKind.u64.wrap (a + b) = a + b - B64 := by
  have := ha.1; have := ha.2; have := hb.1; have := hb.2
  rw [IntKind.wrap_u64]; unfold B64 at *; omega
theorem wrap_under {a b : Int} (ha : U64 a) (hb : U64 b) (h : a < b) : IntKind.u64.wrap (a - b) = a - b + B64 := by
  have := ha.1; have := ha.2; have := hb.1; have := hb.2
  rw [IntKind.wrap_u64]; unfold B64 at *; omega
theorem GsC.uq {T V uj u1 u2 vn1 vn2 P lo X : Int} (c : GsC T V uj u1 u2 vn1 vn2 P lo X) : U64 ((uj * B64 + u1) / vn1) := by
  have hp : 0 < vn1 := by have := c.n1; omega
  refine ⟨Int.ediv_nonneg (by have := c.j0; have := c.w1.1; unfold B64; omega) (by omega), Int.ediv_lt_of_lt_mul hp ?_⟩
  have : (uj + 1) * B64 ≤ vn1 * B64 := Int.mul_le_mul_of_nonneg_right (by have := c.jv; omega) (by unfold B64; omega)
  have := c.w1.2
  rw [Int.add_mul, Int.one_mul] at *
  rw [Int.mul_comm B64]; omega
theorem spl_over (L A B : List Int) (o : Nat) (h : o + A.length ≤ L.length) (hl : B.length = A.length) : spl (spl L o A) o B = spl L o B := by
  have e1 : (L.take o).length = o := by simp; omega
  have e2 : (spl L o A).take o = L.take o := by
    unfold spl
    rw [List.append_assoc, List.take_append_of_le_length (by omega), List.take_take, Nat.min_self]
  have e3 : (spl L o A).drop (o + B.length) = L.drop (o + B.length) := by
    unfold spl
    have e4 : (L.take o ++ A).length = o + A.length := by simp; omega
    rw [hl, List.drop_append, e4, Nat.sub_self, List.drop_eq_nil_of_le (by omega), List.nil_append, List.drop_zero]
  unfold spl at *
  rw [e2, e3]
theorem divBasic_any (bq bs bu bv n nu nq cv : Nat) (LQ LU V : List Int) (w : World) (hn : nu = nq + n) (h2 : 2 ≤ n) (h3 : n ≤ 3) (hbig : nu ≤ 100000000000)
    (hq : w.heap[bq]? = some (blk LQ)) (lq : nq ≤ LQ.length) (hu : w.heap[bu]? = some (blk LU)) (lu : nu ≤ LU.length) (hv : At w bv 0 V) (lv : V.length = n) (wv : wfL V) (bvl : bv < w.heap.size)
    (d1 : bq ≠ bu) (d2 : bv ≠ bu) (d3 : bv ≠ bq) (hs : w.cell? ⟨bs, 0, none⟩ = some (.pointer none)) (bsl : bs < w.heap.size) (e1 : bs ≠ bu) (e2 : bs ≠ bq)
    (wu : wfL (LU.take nu)) (hnorm : 9223372036854775808 ≤ V[n - 1]?.getD 0) (htop : LU[nu - 1]?.getD 0 < V[n - 1]?.getD 0) :
    Calls Tryz.prog 201 #[.slice (some ⟨bq, 0, none⟩) nq LQ.length, .pointer (some ⟨bs, 0, none⟩), .slice (some ⟨bu, 0, none⟩) nu LU.length, .slice (some ⟨bv, 0, none⟩) n cv] w fun e w' =>
      e = .returned (.tuple #[]) ∧ ∃ U Q, DvRes w w' bu bq nu nq LU.length LQ.length (val (LU.take nu)) (val V) U Q := by
  subst hn
  have ev1 : IntKind.i64.wrap ((nq : Int) + n - n) = nq := by rw [show (nq : Int) + n - n = nq by omega]; exact IntWalk.i64_in _ (by omega)
  have ev2 : IntKind.i64.wrap ((n : Int) + 1) = (n : Int) + 1 := IntWalk.i64_in _ (by omega)
  have ev3 : IntKind.i64.wrap ((n : Int) - 1) = (n : Int) - 1 := IntWalk.i64_in _ (by omega)
  have uvt : U64 (V[n - 1]?.getD 0) := getD_u64 wv _ (by omega)
  have uvs : U64 (V[n - 2]?.getD 0) := getD_u64 wv _ (by omega)
  have HVT : Hid (w.cell? ⟨bv, n - 1, none⟩ = some (.int .u64 (V[n - 1]?.getD 0)) ∧ w.cell? ⟨bv, n - 2, none⟩ = some (.int .u64 (V[n - 2]?.getD 0))) := by
    have h1 := hv (n - 1) (by omega)
    have h2 := hv (n - 2) (by omega)
    rw [Nat.zero_add] at h1 h2; exact ⟨h1, h2⟩
  have HVv : Hid (val V = val (V.take (n - 2)) + B64 ^ (n - 2) * (V[n - 2]?.getD 0 + B64 * V[n - 1]?.getD 0)) := Hq0 (dv_split2 V n h2 lv)
  obtain ⟨vt, hvt⟩ : ∃ vt, V[n - 1]?.getD 0 = vt := ⟨_, rfl⟩
  obtain ⟨vs, hvs⟩ : ∃ vs, V[n - 2]?.getD 0 = vs := ⟨_, rfl⟩
  rw [hvt, hvs] at HVv
  rw [hvt] at uvt hnorm htop HVT
  rw [hvs] at uvs HVT
  have HBI : Hid (DvB (val V) (val (LU.take (nq + n))) (nq + n) nq nq LU LQ) := by
    refine dv_init lu lq wu wv lv (by omega) (by rw [← hvt] at htop; exact htop)
  have Hq := Hq0 hq; have Hu := Hq0 hu; have Hv := Hq0 hv; have Hs := Hq0 hs; have Wv := Hq0 wv; have Htop := Hq0 htop; have Hnorm := Hq0 hnorm; have Lv := Hq0 lv
  clear hq hu hv wv wu htop hvt hvs lv
  go_enter_defers Tryz.func201, Tryz.ntmps201
  go_wp2_with (fail)
  refine (stackSave_any hs).mono ?_
  rintro e w1 ⟨rfl, rfl⟩
  go_wp2_with (fail)
  rw [show ((n : Int) + 1) = ((n + 1 : Nat) : Int) by omega]
  refine (stackNat_small bs (n + 1) w (by omega) (by omega) hs).mono ?_
  rintro e w2 ⟨bh, ch, LH, rfl, hbh, hch, hch2, hhh, lhh, g2⟩
  have G2 := Hq0 g2; have HH := Hq0 hhh
  have HVT2 : w2.cell? ⟨bv, n - 1, none⟩ = some (.int .u64 vt) := (World.cell?_of_block (a := ⟨bv, n - 1, none⟩) (g2.block bv bvl (by simp))).trans HVT.out.1
  have hs2 : Hid (w2.cell? ⟨bs, 0, none⟩ = some (.pointer none)) := (World.cell?_of_block (a := ⟨bs, 0, none⟩) (g2.block bs bsl (by simp))).trans Hs.out
  have HD2 : Hid (DvW w2 w2 bu bq bh ch LU LQ) := by
    refine ⟨rfl, rfl, rfl, rfl, ?_, ?_, ⟨LH, hhh, lhh⟩, fun _ _ _ _ => rfl⟩
    · exact (g2.block bu (Array.getElem?_eq_some_iff.1 Hu.out).1 (by simp)).trans Hu.out
    · exact (g2.block bq (Array.getElem?_eq_some_iff.1 Hq.out).1 (by simp)).trans Hq.out
  have HVb : Hid (w2.heap[bv]? = w.heap[bv]?) := g2.block bv bvl (by simp)
  have dh : Hid (bu ≠ bh ∧ bq ≠ bh ∧ bv ≠ bh ∧ bs ≠ bh) := by
    have k1 := (Array.getElem?_eq_some_iff.1 Hu.out).1
    have k2 := (Array.getElem?_eq_some_iff.1 Hq.out).1
    exact ⟨by omega, by omega, by omega, by omega⟩
  have HR := Hq0 (reciprocalWord vt w2 uvt (by omega) 0 (by unfold nlzI; rw [bitLen_64 uvt hnorm]; rfl) (by omega) (by simpa using hnorm) (by simpa using uvt))
  rw [Int.pow_zero, Int.mul_one] at HR
  have HWW := Hq0 (fun (a b : Int) (w : World) (ha : 0 ≤ a) (hay : a < vt) (hb : U64 b) => divWW a b vt w ha hay hb uvt (by omega) 0 (by unfold nlzI; rw [bitLen_64 uvt hnorm]; rfl) (by omega) (by simpa using hnorm) (by simpa using uvt))
  rw [Int.pow_zero, Int.mul_one] at HWW
  clear hs g2 hhh
  go_wp2_with (fail)
  refine HR.out.mono ?_
  rintro e w3 ⟨rfl, q3, hw3⟩
  have HD3 := Hq0 (HD2.out.drewN q3)
  rw [← hw3] at HD3
  clear HR HVT2 hw3 HD2
  generalize recip vt = rc at *
  go_upto_block 0 with fail
  go_wp2_with fail
  go_loopw [13, 14] (fun s13 s14 wr => DvL w2 (val V) (val (LU.take (nq + n))) vt bu bq bh ch n (nq + n) nq LU.length LQ.length s13 s14 wr) (fun _ s14 _ => (intOf s14 + 1).toNat)
  case atStart =>
    exact ⟨nq + 1, LU, LQ, by go_num, by unfold dvTop; rw [if_pos rfl], by omega, HD3.out, by rw [show min (nq + 1) nq = nq by omega]; exact HBI.out, fun _ => Htop.out, rfl, rfl⟩
  case round =>
    obtain ⟨j1, U, Q, rfl, rfl, hS⟩ := hrel
    by_cases h0 : j1 = 0
    · have hb := hS.b
      rw [h0, show min 0 nq = 0 by omega] at hb
      have hVpos : Hid (0 < val V) := Hq0 (by
        rw [HVv.out]
        have h1 : 0 < B64 ^ (n - 2) * (vs + B64 * vt) := Int.mul_pos (B64_pow_pos _) (by have := uvs.1; unfold B64; omega)
        have h2 := val_nonneg (wfL_take Wv.out (n - 2))
        omega)
      have hd := hb.done hVpos.out
      have hw := hS.wd
      have cS : wr.cell? ⟨bs, 0, none⟩ = some (.pointer none) := (World.cell?_of_block (a := ⟨bs, 0, none⟩) (hw.block bs e1 e2 dh.out.2.2.2)).trans hs2.out
      have HF : Hid (DvRes w wr bu bq (nq + n) nq LU.length LQ.length (val (LU.take (nq + n))) (val V) U Q) := by
        have g := G2.out
        have hqq := hb.wQ
        rw [List.drop_zero] at hqq
        exact ⟨hw.os.trans g.os, hw.tape.trans g.tape, hw.output.trans g.output, by rw [hw.size]; exact g.size, hw.hu, hw.hq, hS.lu, hS.lq, hb.wU, hqq, hd.1, hd.2, fun k k1 k2 k3 => (hw.block k k2 k3 (by omega)).trans (g.block k k1 (by simp))⟩
      have hj : ¬ (0 : Int) ≤ (j1 : Int) - 1 := by omega
      clear hS hb hd hw h0
      go_wp2
      refine leaves_cons (f := 163) (args := #[.pointer (some ⟨bs, 0, none⟩), .int .i64 0]) (by simp) (by simp [go_sem]) ?_
      refine (stackRestore_d .returning cS).mono ?_
      rintro e u' w'' ⟨rfl, rfl, rfl⟩
      exact ⟨_, results_none rfl _ _ _, rfl, U, Q, HF.out⟩
    · obtain ⟨j, rfl⟩ : ∃ j, j1 = j + 1 := ⟨j1 - 1, by omega⟩
      obtain ⟨X, hG⟩ := hS.guess (by omega) h2 Wv.out Lv.out HVv.out uvt uvs hnorm
      rw [show j + 1 - 1 = j by omega] at hG
      rw [show (((j + 1 : Nat) : Int) - 1) = (j : Int) by omega]
      have hj0 : (0 : Int) ≤ (j : Int) := by omega
      have hjq : j ≤ nq := by have := hS.j; omega
      have ew1 : IntKind.i64.wrap ((j : Int) + n) = (j : Int) + n := IntWalk.i64_in _ (by omega)
      have ew2 : IntKind.i64.wrap ((j : Int) + n - 1) = (j : Int) + n - 1 := IntWalk.i64_in _ (by omega)
      have ew3 : IntKind.i64.wrap ((j : Int) + n - 2) = (j : Int) + n - 2 := IntWalk.i64_in _ (by omega)
      have ew4 : IntKind.i64.wrap ((n : Int) - 2) = (n : Int) - 2 := IntWalk.i64_in _ (by omega)
      have hlu := hS.b.lu
      have c1 : wr.cell? ⟨bu, j + n - 1, none⟩ = some (.int .u64 (U[j + n - 1]?.getD 0)) := cell_blk hS.wd.hu _ (by omega)
      have c2 : wr.cell? ⟨bu, j + n - 2, none⟩ = some (.int .u64 (U[j + n - 2]?.getD 0)) := cell_blk hS.wd.hu _ (by omega)
      have c3 : wr.cell? ⟨bv, n - 2, none⟩ = some (.int .u64 vs) := (World.cell?_of_block (a := ⟨bv, n - 2, none⟩) ((hS.wd.block bv d2 d3 dh.out.2.2.1).trans HVb.out)).trans HVT.out.2
      have HSS := Hq0 hS
      clear hS h0 hlu
      generalize hT : val ((U.take (nq + n)).drop j) = T at *
      generalize dvTop nq n (j + 1) U = uj at *
      generalize U[j + n - 1]?.getD 0 = u1 at *
      generalize U[j + n - 2]?.getD 0 = u2 at *
      have HT := Hq0 hT
      have HG := Hq0 hG
      clear hT hG
      go_upto_if 51 with fail
      go_cut [15, 16, 17, 18, 19, 20] from 49 to 104 (fun s15 _ _ _ _ _ wx => ∃ q, s15 = .int .u64 q ∧ Guess T (val V) q ∧ (j + 1 = nq + 1 → q = 0) ∧ wr = wx)
      case first =>
        by_cases huv : uj = vt
        · have hb : (uj == vt) = true := by simp [huv]
          go_wp2_with (fail)
          go_meet
          exact ⟨_, rfl, HG.out.gt huv, fun e => absurd (HG.out.tp e).1 (by omega), rfl⟩
        · have hb : (uj == vt) = false := by simp [huv]
          have HC := Hq0 (HG.out.gc huv)
          go_wp2_with (fail)
          refine (HWW.out uj u1 _ HC.out.j0 HC.out.jv HC.out.w1).mono ?_
          rintro e w' ⟨rfl, rfl⟩
          have hq0 := HC.out.start (x1 := mhi ((uj * B64 + u1) / vt) vs) (x2 := mlo ((uj * B64 + u1) / vt) vs) (by have := mlo_mhi ((uj * B64 + u1) / vt) vs; rw [Int.mul_comm B64] at this; omega)
          have HQ0 := Hq0 hq0
          have uq0 := HC.out.uq
          clear hq0
          have HTP : Hid (j + 1 = nq + 1 → (uj * B64 + u1) / vt = 0) := Hq0 (fun e => by
            obtain ⟨t1, t2⟩ := HG.out.tp e
            rw [t1, Int.zero_mul, Int.zero_add]
            exact Int.ediv_eq_zero_of_lt HG.out.w1.1 t2)
          generalize hqq : (uj * B64 + u1) / vt = q0 at *
          generalize hrr : (uj * B64 + u1) % vt = r0 at *
          clear hqq hrr
          go_wp2_with (fail)
          refine (mulWW _ _ _ uq0 uvs).mono ?_
          rintro e w' ⟨rfl, rfl⟩
          have HR0 := Hq0 (HQ0.out (mhi_u uq0 uvs) (mlo_u _ _))
          generalize mhi q0 vs = x1 at *
          generalize mlo q0 vs = x2 at *
          clear HQ0 uq0
          go_upto_block 2 with fail
          go_wp2_with fail
          go_loopw [15, 16, 18, 19] (fun s15 s16 s18 s19 wx => ∃ q r x1 x2 : Int, s15 = .int .u64 q ∧ s16 = .int .u64 r ∧ s18 = .int .u64 x1 ∧ s19 = .int .u64 x2 ∧ Hid (GsR T (val V) uj u1 u2 vt vs q r x1 x2) ∧ q ≤ q0 ∧ wr = wx) (fun s15 _ _ _ _ => (intOf s15).toNat)
          case atStart => exact ⟨_, _, _, _, rfl, rfl, rfl, rfl, HR0, Int.le_refl _, rfl⟩
          case round =>
            clear HR0
            obtain ⟨q, r, x1, x2, rfl, rfl, rfl, rfl, HR, hqle, rfl⟩ := hrel
            go_wp2_with (fail)
            refine (greaterThan_any x1 x2 r u2 _ HR.out.y1 HR.out.y2 HR.out.r HC.out.w2).mono ?_
            rintro e w' ⟨rfl, rfl⟩
            by_cases hgt : r * B64 + u2 < x1 * B64 + x2
            · rw [decide_eq_true hgt]
              have HGT := Hq0 hgt
              clear hgt
              have hql := (HR.out.less HC.out HGT.out).1
              have hq1 := HR.out.q1
              have hr0 := HR.out.r.1
              have hr1 := HR.out.r.2
              have wq : IntKind.u64.wrap (q - 1) = q - 1 := wrap_u64 ⟨by omega, by omega⟩
              by_cases ho : B64 ≤ r + vt
              · have HF := Hq0 (HR.out.over HC.out HGT.out ho)
                have wr1 : IntKind.u64.wrap (r + vt) = r + vt - B64 := wrap_over HR.out.r uvt ho
                have wr2 : r + vt - B64 < vt := by omega
                have HQ : Hid (j + 1 = nq + 1 → q - 1 = 0) := Hq0 (fun e => by have := HTP.out e; omega)
                clear ho hr0 hr1
                generalize r + vt - B64 = r9 at *
                go_wp2
                go_meet
                exact ⟨_, rfl, HF.out, HQ.out, rfl⟩
              · have hN := HR.out.next HC.out HGT.out (by omega)
                have wr1 : IntKind.u64.wrap (r + vt) = r + vt := wrap_u64 ⟨by have := uvt.1; omega, by omega⟩
                have wr2 : ¬ (r + vt < vt) := by omega
                by_cases hx : x2 < vs
                · obtain ⟨hx0, hN1⟩ := hN.1 hx
                  have HN := Hq0 hN1
                  have wx1 : IntKind.u64.wrap (x1 - 1) = x1 - 1 := wrap_u64 hN1.y1
                  have wx2 : IntKind.u64.wrap (x2 - vs) = x2 - vs + B64 := wrap_under HR.out.y2 uvs hx
                  clear hN hN1 ho hr0 hr1
                  go_wp2
                  go_roundw
                  case rel => exact ⟨_, _, _, _, rfl, rfl, rfl, rfl, HN, by omega, trivial⟩
                  case measure => simp [intOf]; omega
                · have hN1 := hN.2 hx
                  have HN := Hq0 hN1
                  have wx2 : IntKind.u64.wrap (x2 - vs) = x2 - vs := wrap_u64 hN1.y2
                  clear hN hN1 ho hr0 hr1
                  go_wp2
                  go_roundw
                  case rel => exact ⟨_, _, _, _, rfl, rfl, rfl, rfl, HN, by omega, trivial⟩
                  case measure => simp [intOf]; omega
            · rw [decide_eq_false hgt]
              have HF := Hq0 (HR.out.fin HC.out hgt)
              have HQ : Hid (j + 1 = nq + 1 → q = 0) := Hq0 (fun e => by have := HTP.out e; have := HR.out.q0; omega)
              clear hgt
              go_wp2
              go_meet
              exact ⟨_, rfl, HF.out, HQ.out, rfl⟩
      case rest =>
        obtain ⟨q, rfl, hg, hqt, rfl⟩ := hcut
        have HGS := Hq0 hg; have HQT := Hq0 hqt
        obtain ⟨H, hH1, hH2⟩ := HSS.out.wd.hh
        have hAv : At wr bv 0 V := fun i hi => (World.cell?_of_block (a := ⟨bv, 0 + i, none⟩) ((HSS.out.wd.block bv d2 d3 dh.out.2.2.1).trans HVb.out)).trans (Hv.out i hi)
        have HM := Hq0 (mulAddVWW bh 0 bv 0 n ch cv H V q 0 wr (by omega) hH1 (by omega) hAv Lv.out Wv.out (fun e => absurd e dh.out.2.2.1) ⟨hg.1, hg.2.1⟩ u0)
        have R1 := run_slice_mid (P := Tryz.prog) und88 siz87 bh (n + 1) ch 0 n 0 (n : Int) rfl rfl (by omega) (by omega)
        rw [adv_lt (by omega)] at R1
        simp only [Nat.sub_zero, Nat.add_zero] at R1
        have HH1 := Hq0 hH1; have HH2 := Hq0 hH2
        clear hg hqt hH1 hAv c1 c2 c3
        go_wp2_with (fail)
        refine HM.out.mono ?_
        rintro e w4 ⟨c, rfl, Z, hZ, wZ, ⟨uc, hF⟩, hu4⟩
        obtain ⟨⟨qv, q1⟩, q2⟩ : (∃ v, w4.cell? ⟨bh, n, none⟩ = some (.int .u64 v)) ∧ w4.frozen? ⟨bh, n, none⟩ = false := ⟨⟨_, cell_blk hu4.here n (by rw [spl_length _ _ _ (by omega)]; omega)⟩, frozen_blk hu4.here n⟩
        have HN : Hid (∃ N, N.length = n + 1 ∧ wfL N ∧ val N = q * val V ∧ N[n]?.getD 0 = c ∧ DvW w2 (w4.setCell ⟨bh, n, none⟩ (.int .u64 c)) bu bq bh ch U Q ∧ At (w4.setCell ⟨bh, n, none⟩ (.int .u64 c)) bh 0 N) := by
          have hs := hu4.set n c
          rw [List.take_of_length_le (by rw [Lv.out]; omega)] at hF
          have e0 : (spl H 0 Z).set n c = spl H 0 (Z ++ [c]) := by
            have := spl_snoc H 0 Z c (by omega)
            rw [Nat.zero_add, hZ] at this; exact this
          rw [e0] at hs
          refine ⟨Z ++ [c], by simp [hZ], wfL_snoc wZ uc, ?_, ?_, ?_, At.spl0 hs.here (by simp; omega)⟩
          · rw [val_snoc, hZ, hF, Int.add_zero, Int.mul_comm]
          · rw [List.getElem?_append_right (by omega), hZ]; simp
          · exact HSS.out.wd.updH hs (by rw [spl_length _ _ _ (by simp; omega)]; exact HH2.out) dh.out.1 dh.out.2.1
        clear HM hZ wZ hF hu4 R1
        have hVb : Hid (val V < B64 ^ n ∧ 0 < val V) := Hq0 ⟨by have := val_lt Wv.out; rw [Lv.out] at this; exact this, by
          rw [HVv.out]
          have h1 : 0 < B64 ^ (n - 2) * (vs + B64 * vt) := Int.mul_pos (B64_pow_pos _) (by have := uvs.1; unfold B64; omega)
          have h2 := val_nonneg (wfL_take Wv.out (n - 2))
          omega⟩
        go_upto_region 25 with (fail)
        by_cases htop : j = nq
        · have hq0 := HQT.out (by omega)
          subst hq0
          subst htop
          obtain ⟨N, hN1, wN, hN2, hN3, hD5, hA5⟩ := HN.out
          clear HN q1 q2
          have hNs := val_take_succ N n (by omega)
          rw [List.take_of_length_le (l := N) (i := n + 1) (by omega), hN2, hN3, Int.zero_mul] at hNs
          have hNn := val_nonneg (wfL_take wN n)
          have hc0 : c = 0 ∧ val (N.take n) = 0 := by
            have hp := B64_pow_pos n
            have h1 : 0 ≤ B64 ^ n * c := Int.mul_nonneg (by omega) uc.1
            have h2 : B64 ^ n * c = 0 := by omega
            rcases Int.mul_eq_zero.1 h2 with h | h
            · omega
            · exact ⟨h, by omega⟩
          obtain ⟨hc0, hNt⟩ := hc0
          subst hc0
          have cN : (w4.setCell ⟨bh, n, none⟩ (.int .u64 0)).cell? ⟨bh, n, none⟩ = some (.int .u64 0) := by
            have := hA5 n (by omega)
            rw [hN3, Nat.zero_add] at this; exact this
          obtain ⟨w5, hw5⟩ : ∃ w5, w4.setCell ⟨bh, n, none⟩ (.int .u64 0) = w5 := ⟨_, rfl⟩
          rw [hw5] at hD5 hA5 cN ⊢
          have ew5 : IntKind.i64.wrap ((j : Int) + ((n : Int) + 1)) = (j : Int) + ((n : Int) + 1) := IntWalk.i64_in _ (by omega)
          have ew7 : IntKind.i64.wrap ((n : Int) + 1 - 1) = (n : Int) := by rw [show (n : Int) + 1 - 1 = n by omega]; exact IntWalk.i64_in _ (by omega)
          have ew6 : IntKind.i64.wrap ((j : Int) - 1) = (j : Int) - 1 := IntWalk.i64_in _ (by omega)
          have hg1 : (j : Int) + n < (j : Int) + ((n : Int) + 1) := by omega
          have hlU := HSS.out.lu
          have hlu2 := HSS.out.b.lu
          have R2 := run_slice_mid (P := Tryz.prog) und88 siz87 bu (j + n) LU.length j (j + n) (j : Int) ((j : Int) + (n : Int)) rfl (by omega) (by omega) (by omega)
          rw [adv_lt (by omega)] at R2
          simp only [Nat.zero_add] at R2
          rw [show j + n - j = n by omega] at R2
          have R3 := run_slice_to (P := Tryz.prog) und88 siz87 bh (n + 1) ch n (n : Int) rfl (by omega)
          have wX : wfL ((U.take (j + n)).drop j) := wfL_drop HSS.out.b.wU j
          have lX : ((U.take (j + n)).drop j).length = n := by simp; omega
          have hAu : At w5.drew bu j ((U.take (j + n)).drop j) := by
            refine At.of_blk (w := w5.drew) hD5.hu _ (by omega) (fun i hi => ?_)
            rw [lX] at hi
            rw [getD_td _ _ _ _ (by omega)]
          have HSV := Hq0 (subVV bu j bu j bh 0 n (LU.length - j) (LU.length - j) ch U ((U.take (j + n)).drop j) (N.take n) w5.drew (by omega) hD5.hu (by omega) hAu (hA5.take n) lX (by simp; omega) wX (wfL_take wN n) (fun _ => rfl) (fun e => absurd e.symm dh.out.1))
          have HD5 := Hq0 hD5; have WX := Hq0 wX; have HNT := Hq0 hNt
          have HAU := Hq0 (fun i (hi : i < ((U.take (j + n)).drop j).length) => (getD_td U (j + n) j i (by rw [lX] at hi; omega)).symm)
          clear hD5 hA5 wX hAu hN3 hN1 hN2 wN hNs hNn hNt hw5
          go_upto_region 28 with (fail)
          (first | go_region_held3 (fun _ => True) (first | trivial)
            (first | (go_at_call 148; refine HSV.out.mono ?_; rintro e w6 ⟨cb, rfl, Z2, hZ2, wZ2, ⟨bc, hF2⟩, hu6⟩) | fail) | fail)
          have hcb : cb = 0 ∧ Z2 = (U.take (j + n)).drop j := by
            rw [List.take_of_length_le (l := (U.take (j + n)).drop j) (by omega), List.take_take, Nat.min_self, HNT.out, Int.sub_zero] at hF2
            have h1 := val_lt wZ2
            rw [hZ2] at h1
            have h2 := val_nonneg WX.out
            have h3 : cb = 0 := by
              have b0 := bc.1; have b1 := bc.2
              rcases Int.lt_or_le cb 1 with h | h
              · omega
              · have : cb = 1 := by omega
                subst this
                have h4 := val_lt wZ2
                have h5 := val_nonneg wZ2
                have h6 := val_lt WX.out
                omega
            subst h3
            rw [Int.mul_zero, Int.sub_zero] at hF2
            exact ⟨rfl, val_inj wZ2 WX.out (by omega) hF2⟩
          obtain ⟨hcb, hZe⟩ := hcb
          subst hcb
          have HD6 : Hid (DvW w2 w6 bu bq bh ch U Q) := by
            have h1 : spl U j Z2 = U := by
              rw [hZe]
              exact spl_self _ _ _ (by omega) (fun i hi => HAU.out i hi)
            rw [h1] at hu6
            exact HD5.out.updU hu6.of_drew d1 dh.out.1.symm
          have HNX : Hid (DvS w2 (val V) (val (LU.take (j + n))) vt bu bq bh ch n (j + n) j LU.length LQ.length j U Q w6) := by
            have hb := HSS.out.b
            rw [show min (j + 1) j = j by omega] at hb
            exact ⟨by omega, HD6.out, by rw [Nat.min_self]; exact hb, fun e => by omega, HSS.out.lu, HSS.out.lq⟩
          have c7 : w6.cell? ⟨bu, j + n - 1, none⟩ = some (.int .u64 (U[j + n - 1]?.getD 0)) := cell_blk HD6.out.hu _ (by omega)
          have HTV : Hid (Value.int .u64 (U[j + n - 1]?.getD 0) = Value.int .u64 (dvTop j n j U)) := Hq0 (by unfold dvTop; rw [if_neg (by omega)])
          generalize U[j + n - 1]?.getD 0 = un at *
          clear hF2 hu6 R2 R3 HSV HD5 HD6 hZe hZ2 wZ2
          go_wp2_with (fail)
          go_roundw
          case rel => exact ⟨j, U, Q, rfl, HTV.out, HNX.out⟩
          case measure => simp [intOf]
        · have hjlt : j < nq := by omega
          obtain ⟨N, hN1, wN, hN2, hN3, hD5, hA5⟩ := HN.out
          clear HN q1 q2
          have ew5 : IntKind.i64.wrap ((j : Int) + ((n : Int) + 1)) = (j : Int) + ((n : Int) + 1) := IntWalk.i64_in _ (by omega)
          have hg1 : ¬ ((nq : Int) + n < (j : Int) + ((n : Int) + 1)) := by omega
          have hlU := HSS.out.lu
          have hlu2 := HSS.out.b.lu
          obtain ⟨w5, hw5⟩ : ∃ w5, w4.setCell ⟨bh, n, none⟩ (.int .u64 c) = w5 := ⟨_, rfl⟩
          rw [hw5] at hD5 hA5
          have R2 := run_slice_mid (P := Tryz.prog) und88 siz87 bu (nq + n) LU.length j (j + (n + 1)) (j : Int) ((j : Int) + ((n : Int) + 1)) rfl (by omega) (by omega) (by omega)
          rw [adv_lt (by omega)] at R2
          simp only [Nat.zero_add] at R2
          rw [show j + (n + 1) - j = n + 1 by omega] at R2
          have R3 := run_slice_to (P := Tryz.prog) und88 siz87 bh (n + 1) ch (n + 1) ((n : Int) + 1) (by omega) (by omega)
          have wX : wfL (((U.take (nq + n)).drop j).take (n + 1)) := wfL_take (wfL_drop HSS.out.b.wU j) _
          have lX : (((U.take (nq + n)).drop j).take (n + 1)).length = n + 1 := by simp; omega
          have hAu : At w5.drew bu j (((U.take (nq + n)).drop j).take (n + 1)) := by
            refine At.of_blk (w := w5.drew) hD5.hu _ (by omega) (fun i hi => ?_)
            rw [lX] at hi
            rw [List.getElem?_take_of_lt hi, getD_td _ _ _ _ (by omega)]
          have HSV := Hq0 (subVV bu j bu j bh 0 (n + 1) (LU.length - j) (LU.length - j) ch U (((U.take (nq + n)).drop j).take (n + 1)) N w5.drew (by omega) hD5.hu (by omega) hAu hA5 lX hN1 wX wN (fun _ => rfl) (fun e => absurd e.symm dh.out.1))
          have HD5 := Hq0 hD5
          have HN1 := Hq0 hN1; have HN2 := Hq0 hN2
          clear hD5 hA5 wX hAu hN3 hlU hN1 hN2 wN
          rw [hw5]
          clear hw5
          go_upto_region 28 with (fail)
          (first | go_region_held3 (fun _ => True) (first | trivial)
            (first | (go_at_call 148; refine HSV.out.mono ?_; rintro e w6 ⟨cb, rfl, Z2, hZ2, wZ2, ⟨bc, hF2⟩, hu6⟩) | fail) | fail)
          have hF3 : val Z2 - B64 ^ (n + 1) * cb = T - q * val V := by
            have e1 : T = val (((U.take (nq + n)).drop j).take (n + 1)) := by
              rw [← HT.out]
              have hb := HSS.out.b
              rw [show min (j + 1) nq = j + 1 by omega] at hb
              exact (hb.top hVb.out.1 hVb.out.2 (by omega) (by omega)).2.1
            rw [e1, ← HN2.out, hF2, List.take_of_length_le (l := N) (by rw [HN1.out]; omega), List.take_take, Nat.min_self]
          have HD6 := Hq0 (HD5.out.updU hu6.of_drew d1 dh.out.1.symm)
          have HF3 := Hq0 hF3
          have hT0 : 0 ≤ T := by rw [← HT.out]; exact val_nonneg (wfL_drop HSS.out.b.wU j)
          clear hF2 hu6 hF3 R2 R3 HSV HD5
          have lS : (spl U j Z2).length = U.length := spl_length _ _ _ (by omega)
          have hjm : ((j : Int) == (nq : Int)) = false := by simp; omega
          have hjl : (j : Int) < nq := by omega
          have ew6 : IntKind.i64.wrap ((j : Int) - 1) = (j : Int) - 1 := IntWalk.i64_in _ (by omega)
          by_cases hcb : cb = 0
          · subst hcb
            have c4 : w6.cell? ⟨bu, j + n - 1, none⟩ = some (.int .u64 ((spl U j Z2)[j + n - 1]?.getD 0)) := cell_blk HD6.out.hu _ (by omega)
            have hlq := HSS.out.b.lq
            obtain ⟨⟨vq, c5⟩, c6⟩ : (∃ v, w6.cell? ⟨bq, j, none⟩ = some (.int .u64 v)) ∧ w6.frozen? ⟨bq, j, none⟩ = false := ⟨⟨_, cell_blk HD6.out.hq _ (by omega)⟩, frozen_blk HD6.out.hq _⟩
            have HNX : Hid (DvS w2 (val V) (val (LU.take (nq + n))) vt bu bq bh ch n (nq + n) nq LU.length LQ.length j (spl U j Z2) (Q.set j q) (w6.setCell ⟨bq, j, none⟩ (.int .u64 q))) := by
              have h3 := HF3.out
              rw [Int.mul_zero, Int.sub_zero] at h3
              obtain ⟨r1, r2⟩ := dv_right HGS.out h3 (val_nonneg wZ2)
              exact HSS.out.next hjlt hVb.out.1 hVb.out.2 hZ2 wZ2 (by rw [HT.out]; exact r1) r2 ⟨HGS.out.1, HGS.out.2.1⟩ (HD6.out.updQ ((Upd.refl HD6.out.hq).set j q) d1.symm dh.out.2.1.symm)
            have HTV : Hid (Value.int .u64 ((spl U j Z2)[j + n - 1]?.getD 0) = Value.int .u64 (dvTop nq n j (spl U j Z2))) := Hq0 (by unfold dvTop; rw [if_neg (by omega)])
            generalize (spl U j Z2)[j + n - 1]?.getD 0 = un at *
            clear HD6 lS hZ2 wZ2
            go_wp2_with (fail)
            go_roundw
            case rel => exact ⟨j, _, _, rfl, HTV.out, HNX.out⟩
            case measure => simp [intOf]
          · have hcb1 : cb = 1 := by have := bc.1; have := bc.2; omega
            subst hcb1
            have hA1 : At w6.drew bu j (Z2.take n) := by
              refine At.of_blk (w := w6.drew) HD6.out.hu _ (by simp; omega) (fun i hi => ?_)
              have hi2 : i < n := by simp at hi; omega
              rw [spl_in _ _ _ _ (by omega) (by omega), List.getElem?_take_of_lt hi2]
            have hAv6 : At w6.drew bv 0 V := fun i hi => (World.cell?_of_block (w' := w6.drew) (a := ⟨bv, 0 + i, none⟩) ((HD6.out.block bv d2 d3 dh.out.2.2.1).trans HVb.out)).trans (Hv.out i hi)
            have HAV := Hq0 (addVV bu j bu j bv 0 n (LU.length - j) (LU.length - j) cv (spl U j Z2) (Z2.take n) V w6.drew (by omega) HD6.out.hu (by omega) hA1 hAv6 (by simp; omega) Lv.out (wfL_take wZ2 n) Wv.out (fun _ => rfl) (fun e => absurd e d2))
            have R4 := run_slice_mid (P := Tryz.prog) und88 siz87 bu (nq + n) LU.length j (j + n) (j : Int) ((j : Int) + n) rfl (by omega) (by omega) (by omega)
            rw [adv_lt (by omega)] at R4
            simp only [Nat.zero_add] at R4
            rw [show j + n - j = n by omega] at R4
            clear hA1 hAv6
            go_upto_region 30 with (fail)
            (first | go_region_held3 (fun _ => True) (first | trivial)
              (first | (go_at_call 146; refine HAV.out.mono ?_; rintro e w8 ⟨c8, rfl, Z3, hZ3, wZ3, ⟨b8, hF8⟩, hu8⟩) | fail) | fail)
            have hzt : val Z2 = val (Z2.take n) + B64 ^ n * (Z2[n]?.getD 0) := by
              have h1 := val_take_succ Z2 n (by omega)
              rw [List.take_of_length_le (l := Z2) (i := n + 1) (by omega)] at h1; exact h1
            obtain ⟨zt, hzt2⟩ : ∃ z, Z2[n]?.getD 0 = z := ⟨_, rfl⟩
            have uzt : U64 zt := by rw [← hzt2]; exact getD_u64 wZ2 _ (by omega)
            rw [hzt2] at hzt
            have hbk := dv_back (P := B64 ^ n) (c := 0) (z := 0) (zt := zt) (a := val (Z2.take n)) (a2 := val Z3) (c2 := c8) HGS.out (by have := HF3.out; rw [hzt, Int.pow_succ] at this; exact this) (val_nonneg (wfL_take wZ2 n)) (by
                have := val_lt (wfL_take wZ2 n)
                rw [List.length_take, show min n Z2.length = n by omega] at this; exact this) uzt.2 hVb.out.1 hT0 (by
                rw [hF8, List.take_of_length_le (l := V) (by rw [Lv.out]; omega), List.take_take, Nat.min_self]) (val_nonneg wZ3) (by have := val_lt wZ3; rw [hZ3] at this; exact this) hVb.out.2
            obtain ⟨k1, k2, k3, k4⟩ := hbk
            have lS3 : (spl (spl U j Z2) j Z3).length = U.length := by rw [spl_length _ _ _ (by omega)]; exact lS
            have e8 : (spl (spl U j Z2) j Z3)[j + n]?.getD 0 = zt := by
              rw [spl_get _ _ _ _ (by omega) (by omega), spl_in _ _ _ _ (by omega) (by omega)]; exact hzt2
            have c4 : w8.cell? ⟨bu, j + n, none⟩ = some (.int .u64 zt) := by
              have := cell_blk hu8.here (j + n) (by omega)
              rw [e8] at this; exact this
            have c4f : w8.frozen? ⟨bu, j + n, none⟩ = false := frozen_blk hu8.here _
            have wz : IntKind.u64.wrap (zt + c8) = 0 := by rw [k1]; rfl
            have wq9 : IntKind.u64.wrap (q - 1) = q - 1 := wrap_u64 ⟨by omega, by have := HGS.out.2.1; omega⟩
            have hlt9 : (n : Int) < (n : Int) + 1 := by omega
            have HD8 : Hid (DvW w2 (w8.setCell ⟨bu, j + n, none⟩ (.int .u64 0)) bu bq bh ch (spl U j (Z3 ++ [0])) Q) := by
              have h1 := HD6.out.updU (hu8.of_drew.set (j + n) 0) d1 dh.out.1.symm
              have h2 : (spl (spl U j Z2) j Z3).set (j + n) 0 = spl U j (Z3 ++ [0]) := by
                have h3 := spl_snoc (spl U j Z2) j Z3 0 (by omega)
                rw [hZ3] at h3
                rw [h3, spl_over _ _ _ _ (by omega) (by simp; omega)]
              rw [h2] at h1; exact h1
            have HNX : Hid (∀ w9, DvW w2 w9 bu bq bh ch (spl U j (Z3 ++ [0])) (Q.set j (q - 1)) → DvS w2 (val V) (val (LU.take (nq + n))) vt bu bq bh ch n (nq + n) nq LU.length LQ.length j (spl U j (Z3 ++ [0])) (Q.set j (q - 1)) w9) := Hq0 (fun w9 hw9 => by
              have e0 : val (Z3 ++ [0]) = val Z3 := by rw [val_snoc, Int.mul_zero, Int.add_zero]
              exact HSS.out.next hjlt hVb.out.1 hVb.out.2 (by simp [hZ3]) (wfL_snoc wZ3 u0) (by rw [HT.out, e0]; exact k2) (by rw [e0]; exact k3) ⟨by omega, by have := HGS.out.2.1; omega⟩ hw9)
            have lS9 : (spl U j (Z3 ++ [0])).length = U.length := spl_length _ _ _ (by simp; omega)
            clear hF8 hu8 HAV R4 HD6 hzt hzt2 uzt k1 k2 k3 k4 e8 lS3 lS
            go_upto_region 33 with (fail)
            obtain ⟨w9, hw9⟩ : ∃ w9, w8.setCell ⟨bu, j + n, none⟩ (.int .u64 0) = w9 := ⟨_, rfl⟩
            rw [hw9] at HD8 ⊢
            try clear hw9
            try clear c4
            try clear c4f
            have c7 : w9.cell? ⟨bu, j + n - 1, none⟩ = some (.int .u64 ((spl U j (Z3 ++ [0]))[j + n - 1]?.getD 0)) := cell_blk HD8.out.hu _ (by omega)
            have hlq := HSS.out.b.lq
            obtain ⟨⟨vq, c5⟩, c6⟩ : (∃ v, w9.cell? ⟨bq, j, none⟩ = some (.int .u64 v)) ∧ w9.frozen? ⟨bq, j, none⟩ = false := ⟨⟨_, cell_blk HD8.out.hq _ (by omega)⟩, frozen_blk HD8.out.hq _⟩
            have HN9 := Hq0 (HNX.out _ (HD8.out.updQ ((Upd.refl HD8.out.hq).set j (q - 1)) d1.symm dh.out.2.1.symm))
            have HTV : Hid (Value.int .u64 ((spl U j (Z3 ++ [0]))[j + n - 1]?.getD 0) = Value.int .u64 (dvTop nq n j (spl U j (Z3 ++ [0])))) := Hq0 (by unfold dvTop; rw [if_neg (by omega)])
            generalize (spl U j (Z3 ++ [0]))[j + n - 1]?.getD 0 = un at *
            try clear HD8
            try clear HNX
            try clear lS9
            go_wp2_with (fail)
            go_roundw
            case rel => exact ⟨j, _, _, rfl, HTV.out, HN9.out⟩
            case measure => simp [intOf]
end Go.Proofs.YtjcfacinlgogaaaGreatDoor
