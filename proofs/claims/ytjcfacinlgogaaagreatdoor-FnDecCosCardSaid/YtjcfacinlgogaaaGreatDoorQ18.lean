/- Long division: the function itself. Conditions: new results, two or three words in the divisor, no shorter dividend. Division of numbers into new ones; whole numbers' quotients. Conditions: at most three words in the divisor. -/
import Derived.Test.YtjcfacinlgogaaaGreatDoorQ08
import Derived.Test.YtjcfacinlgogaaaGreatDoorQ16
import Derived.Test.YtjcfacinlgogaaaGreatDoorQ17
set_option linter.all false
set_option maxHeartbeats 4000000
set_option maxRecDepth 100000
namespace Go.Proofs.YtjcfacinlgogaaaGreatDoor
open Go.RowKit
theorem divLarge_nil {w : World} {x y : Value} {lx ly : List Int} {bs : Nat} (hs : w.cell? ⟨bs, 0, none⟩ = some (.pointer none)) (hx : IsNat w x lx) (hy : IsNat w y ly) (wx : wfL lx) (wy : wfL ly) (ny : Nrm ly)
    (hn : lx.length ≤ 10000000000) (h2 : 2 ≤ ly.length) (h3 : ly.length ≤ 3) (hge : ly.length ≤ lx.length) (hK : TabK w) :
    Calls Tryz.prog 172 #[.slice none 0 0, .pointer (some ⟨bs, 0, none⟩), .slice none 0 0, x, y] w fun e w' => QrRes w w' e (val lx / val ly) (val lx % val ly) := by
  have hy0 : ly ≠ [] := fun e => by rw [e] at h2; exact absurd h2 (by decide)
  have hx0 : lx ≠ [] := fun e => by rw [e] at hge; have : ly.length ≤ 0 := hge; omega
  obtain ⟨bx, cx, MX, rfl, hbx, hcx, hmx, hatx, _⟩ := hx.split hx0
  obtain ⟨by_, cy, MY, rfl, hby, hcy, hmy, haty, _⟩ := hy.split hy0
  have bsl : bs < w.heap.size := World.block_lt_of_cell? _ _ hs
  have bxl : bx < w.heap.size := (Array.getElem?_eq_some_iff.1 hbx).1
  have byl : by_ < w.heap.size := (Array.getElem?_eq_some_iff.1 hby).1
  have hlast := ny.last (by omega)
  obtain ⟨m, hm⟩ : ∃ m, lx.length = m := ⟨_, rfl⟩
  obtain ⟨n, hln⟩ : ∃ n, ly.length = n := ⟨_, rfl⟩
  rw [hm] at hn hge hcx ⊢
  rw [hln] at h2 h3 hge hcy hlast ⊢
  have hvpos : 0 < val ly := by
    have h1 := val_nonneg wy
    have h4 : val ly ≠ 0 := fun e => hy0 ((ny.nil_iff wy).2 e)
    omega
  have uy := getD_u64 wy (n - 1) (by omega)
  have cy1 := haty (n - 1) (by omega)
  rw [Nat.zero_add] at cy1
  obtain ⟨s, es, hs63, h9, hu9⟩ := nlz_shift uy hlast
  have H9 := Hq0 (And.intro h9 hu9)
  have HXL := Hq0 hm; have HYL := Hq0 hln
  have HX := Hq0 hatx; have HY := Hq0 haty; have Hs := Hq0 hs; have WX := Hq0 wx; have WY := Hq0 wy; have HK := Hq0 hK
  have HV := Hq0 hvpos
  have ew1 : IntKind.i64.wrap ((m : Int) - n) = (m : Int) - n := IntWalk.i64_in _ (by omega)
  have ew2 : IntKind.i64.wrap ((n : Int) - 1) = (n : Int) - 1 := IntWalk.i64_in _ (by omega)
  have ew3 : IntKind.i64.wrap ((m : Int) + 1) = (m : Int) + 1 := IntWalk.i64_in _ (by omega)
  have ew4 : IntKind.i64.wrap ((m : Int) - n + 1) = (m : Int) - n + 1 := IntWalk.i64_in _ (by omega)
  clear h9 hu9 hm hln hatx haty hs wx wy hK hvpos hx hy hx0 hy0 hbx hby ny hlast
  obtain ⟨top, htop⟩ : ∃ top, ly[n - 1]?.getD 0 = top := ⟨_, rfl⟩
  rw [htop] at uy cy1 es
  have HT := Hq0 htop
  clear htop
  go_enter_defers Tryz.func172, Tryz.ntmps172
  go_wp2_with (fail)
  refine (stackSave_any Hs.out).mono ?_
  rintro e w1 ⟨rfl, rfl⟩
  go_wp2_with (fail)
  refine (nlz_any top w uy).mono ?_
  rintro e w1 ⟨rfl, rfl⟩
  rw [es]
  go_wp2_with (fail)
  refine (stackNat_small bs n w (by omega) (by omega) Hs.out).mono ?_
  rintro e w2 ⟨bv, cv, LV, rfl, hbv, hcv, hcv2, hhv, lhv, g2⟩
  have G2 := Hq0 g2; have HV2 := Hq0 hhv
  clear g2 hhv
  go_wp2_with (fail)
  rw [show (m : Int) + 1 = ((m + 1 : Nat) : Int) by omega]
  refine (make_new none (m + 1) 0 0 w2 (by omega) (by omega)).mono ?_
  rintro e w3 ⟨rfl, rfl⟩
  obtain ⟨cu, hcu⟩ : ∃ cu, capOf (m + 1) = cu := ⟨_, rfl⟩
  have hcle := capOf_le (n := m + 1) (by omega) (by omega)
  rw [hcu] at hcle ⊢
  have bvl : bv < w2.heap.size := (Array.getElem?_eq_some_iff.1 HV2.out).1
  have g3 := World.grownBy_alloc w2 (blk (zeros cu)) none
  have HU3 : Hid ((w2.alloc (blk (zeros cu))).heap[w2.heap.size]? = some (blk (zeros cu))) := heap_alloc_new w2 _
  have HV3 : Hid ((w2.alloc (blk (zeros cu))).heap[bv]? = some (blk LV)) := (g3.block bv bvl (by simp)).trans HV2.out
  have G3 := Hq0 (grown_trans G2.out g3)
  have hz := zeros_length cu
  have hsz := G2.out.size
  have hdvu : bv ≠ w2.heap.size := by omega
  clear g3
  clear hcu
  generalize w2.alloc (blk (zeros cu)) = w3 at *
  generalize zeros cu = zs at *
  generalize w2.heap.size = bu at *
  have HX3 := Hq0 (HX.out.grown G3.out bxl); have HY3 := Hq0 (HY.out.grown G3.out byl)
  have R1 := run_slice_to (P := Tryz.prog) und88 siz87 bu (m + 1) cu m (m : Int) rfl (by omega)
  clear HV2 G2
  go_upto_if 40 with fail
  go_cut [14, 30] from 39 to 68 (fun s14 s30 wx => s14 = .int .u64 (s : Int) ∧ s30 = .int .u64 (s : Int) ∧ ∃ V LU, DlS w wx bv bu n (m + 1) cu (val lx * 2 ^ s) (val ly * 2 ^ s) V LU)
  case first =>
    by_cases h0 : s = 0
    · have hs0 : ((s : Int) == 0) = true := by simp; omega
      go_wp2_with (with_reducible refine wpList_copy_w rfl (.tmp 41) (.tmp 42) 105 105 rfl 104 und88 siz87 _ _ _ _ _ _ rfl rfl bv 0 LV ly HV3.out (by show _ = min n n; have := HYL.out; omega) (fun _ => ⟨rfl, by_, 0, rfl, HY3.out⟩) (by have := HYL.out; omega) ?_)
      intro w4 hu4
      have HU4 : Hid (w4.heap[bu]? = some (blk zs)) := (hu4.block bu hdvu.symm).trans HU3.out
      have HX4 : Hid (At w4 bx 0 lx) := fun i hi => (hu4.cell (a := ⟨bx, 0 + i, none⟩) (by show bx ≠ bv; omega)).trans (HX3.out i hi)
      have V4 := Hq0 (shl_zero WY.out HYL.out hu4)
      clear hu4
      go_wp2_with (with_reducible refine wpList_copy_w rfl (.tmp 47) (.tmp 48) 105 105 rfl 104 und88 siz87 _ _ _ _ _ _ rfl rfl bu 0 zs lx HU4.out (by show _ = min m m; have := HXL.out; omega) (fun _ => ⟨rfl, bx, 0, rfl, HX4.out⟩) (by have := HXL.out; omega) ?_)
      intro w5 hu5
      have V5 := Hq0 (shl_zero WX.out HXL.out hu5)
      clear hu5
      obtain ⟨⟨od, c1⟩, c2⟩ := room_of V5.out m (by omega) (by omega)
      have HF := Hq0 (dls_of G3.out hbv hsz HV3.out HU3.out hdvu (by omega) (by omega) hz HYL.out HXL.out WX.out WY.out (by omega) (Nat.zero_le _) (by have := H9.out.1; rw [h0] at this; exact this) (by have := H9.out.2; rw [h0] at this; exact this) V4.out V5.out)
      go_wp2
      go_meet
      case rel => rw [h0]; exact ⟨by first | rfl | trivial, by first | rfl | trivial, HF.out⟩
    · have hs0 : ((s : Int) == 0) = false := by simp; omega
      go_wp2_with (fail)
      refine (lshVU bv 0 by_ 0 n cv cy s LV ly w3 (by omega) (by omega) HV3.out (by omega) HY3.out (by omega) HYL.out WY.out (by omega) hs63).mono ?_
      rintro e w4 ⟨c, rfl, V4⟩
      obtain ⟨Z, lZ, wZ, hF, hu4⟩ := V4
      have V4 := Hq0 (show VRel (ShlF ly s) w3 bv 0 LV n c w4 from ⟨Z, lZ, wZ, hF, hu4⟩)
      have HU4 : Hid (w4.heap[bu]? = some (blk zs)) := (hu4.block bu hdvu.symm).trans HU3.out
      have HX4 : Hid (At w4 bx 0 lx) := fun i hi => (hu4.cell (a := ⟨bx, 0 + i, none⟩) (by show bx ≠ bv; omega)).trans (HX3.out i hi)
      clear hu4 lZ wZ hF
      obtain ⟨s0, s1⟩ : 1 ≤ s ∧ s ≤ 63 := by omega
      go_wp2_with (fail)
      refine (lshVU bu 0 bx 0 m cu cx s zs lx w4 (by omega) (by omega) HU4.out (by omega) HX4.out (by omega) HXL.out WX.out s0 s1).mono ?_
      rintro e w5 ⟨c2, rfl, V5⟩
      obtain ⟨⟨od, c1⟩, c3⟩ := room_of V5 m (by omega) (by omega)
      have HF := Hq0 (dls_of G3.out hbv hsz HV3.out HU3.out hdvu (by omega) (by omega) hz HYL.out HXL.out WX.out WY.out (by omega) hs63 H9.out.1 H9.out.2 V4.out V5)
      clear V5
      go_wp2
      go_meet
      case rel => exact ⟨by first | rfl | trivial, by first | rfl | trivial, HF.out⟩
  case rest =>
    obtain ⟨rfl, rfl, V, LU, hD⟩ := hcut
    have HD := Hq0 hD
    have hK3 := HK.out.same hD.g
    have HK3 := Hq0 hK3
    have hs3 : wc.cell? ⟨bs, 0, none⟩ = some (.pointer none) := (World.cell?_of_block (a := ⟨bs, 0, none⟩) (hD.g.block bs bsl (by simp))).trans Hs.out
    have hIU : IsNat wc (.slice (some ⟨bu, 0, none⟩) (m + 1) cu) (LU.take (m + 1)) := by
      have hlu := hD.lu
      refine .inr ⟨bu, cu, LU.drop (m + 1), ?_, ?_, ?_, hcle.2⟩
      · rw [List.length_take, show min (m + 1) LU.length = m + 1 by omega]
      · rw [List.take_append_drop]; exact hD.hu
      · simp; omega
    have HIU := Hq0 hIU
    have Hs3 := Hq0 hs3
    obtain ⟨k, hk⟩ : ∃ k, m = n + k := ⟨m - n, by omega⟩
    have ek : (m : Int) - n = (k : Int) := by omega
    have ek2 : IntKind.i64.wrap ((k : Int) + 1) = (k : Int) + 1 := IntWalk.i64_in _ (by omega)
    have HKm := Hq0 hk
    have hk10 : k ≤ 10000000000 := by omega
    clear hD hK3 hs3 hIU hk
    rw [ek] at ew4 ⊢
    rw [ek] at ew1
    clear ek
    go_wp2_with (fail)
    refine (alias_nil HIU.out).mono ?_
    rintro e w6 ⟨rfl, q6, rfl⟩
    go_wp2_with (fail)
    rw [show (k : Int) + 1 = ((k + 1 : Nat) : Int) by omega]
    refine (make_new none (k + 1) 0 0 (wc.drewN q6) (by omega) (by omega)).mono ?_
    rintro e w7 ⟨rfl, rfl⟩
    obtain ⟨cq, hcq⟩ : ∃ cq, capOf (k + 1) = cq := ⟨_, rfl⟩
    have hcle2 := capOf_le (n := k + 1) (by omega) (by omega)
    rw [hcq] at hcle2 ⊢
    have g7 := World.grownBy_alloc (wc.drewN q6) (blk (zeros cq)) none
    have hk := HKm.out
    have gw7 := grown_trans (grown_drewN wc q6) g7
    have hbul : bu < wc.heap.size := (Array.getElem?_eq_some_iff.1 HD.out.hu).1
    have hbvl := HD.out.vl
    have HQ7 : Hid (((wc.drewN q6).alloc (blk (zeros cq))).heap[wc.heap.size]? = some (blk (zeros cq))) := heap_alloc_new (wc.drewN q6) _
    have HU7 : Hid (((wc.drewN q6).alloc (blk (zeros cq))).heap[bu]? = some (blk LU)) := (gw7.block bu hbul (by simp)).trans HD.out.hu
    have HA7 := Hq0 (HD.out.hv.grown gw7 hbvl)
    have hs7 : Hid (((wc.drewN q6).alloc (blk (zeros cq))).cell? ⟨bs, 0, none⟩ = some (.pointer none)) := (World.cell?_of_block (a := ⟨bs, 0, none⟩) (gw7.block bs (World.block_lt_of_cell? _ _ Hs3.out) (by simp))).trans Hs3.out
    have HK7 := Hq0 (HK3.out.same gw7)
    have G7 := Hq0 (grown_trans HD.out.g gw7)
    have hsz7 : wc.heap.size ≤ ((wc.drewN q6).alloc (blk (zeros cq))).heap.size := gw7.size
    have hszw := HD.out.g.size
    have hbs7 : bs < wc.heap.size := World.block_lt_of_cell? _ _ Hs3.out
    have hzq := zeros_length cq
    have e9 : (wc.drewN q6).heap.size = wc.heap.size := rfl
    rw [e9]
    clear g7 gw7 hcq e9
    generalize (wc.drewN q6).alloc (blk (zeros cq)) = w7 at *
    generalize zeros cq = zq at *
    obtain ⟨bq, hbq⟩ : ∃ bq, wc.heap.size = bq := ⟨_, rfl⟩
    rw [hbq] at hbul hbvl HQ7 hsz7 hszw hbs7 ⊢
    have gdiv := HK7.out.div
    have hn40 : decide ((n : Int) < 40) = true := by simp; omega
    have HB := divBasic_any bq bs bu bv n (m + 1) (k + 1) cv zq LU V w7 (by omega) h2 h3 (by omega) HQ7.out (by omega) HU7.out (by rw [HD.out.lu]; omega) HA7.out HD.out.lv HD.out.wv (by omega) (by omega) hdvu (by omega) hs7.out (by omega) (by omega) (by omega) HD.out.wu HD.out.tp (by rw [show m + 1 - 1 = m by omega]; have := HD.out.tu; rw [show m + 1 - 1 = m by omega] at this; exact this)
    rw [HD.out.lu, hzq, HD.out.xu, HD.out.xv] at HB
    have HB := Hq0 HB
    clear hk
    go_wp2_with (fail)
    refine HB.out.mono ?_
    rintro e w8 ⟨rfl, U, Q, hR⟩
    have HR := Hq0 hR
    have hAQ : At w8 bq 0 (Q.take (k + 1)) := At.of_blk hR.hq _ (by have := hR.lq; simp; omega) (fun i hi => by
      simp at hi
      rw [Nat.zero_add, List.getElem?_take_of_lt (by omega)])
    have lQ : (Q.take (k + 1)).length = k + 1 := by have := hR.lq; simp; omega
    have HAQ := Hq0 hAQ; have LQ := Hq0 lQ
    have hAU : At w8 bu 0 (U.take (m + 1)) := At.of_blk hR.hu _ (by have := hR.lu; simp; omega) (fun i hi => by
      simp at hi
      rw [Nat.zero_add, List.getElem?_take_of_lt (by omega)])
    have lU : (U.take (m + 1)).length = m + 1 := by have := hR.lu; simp; omega
    have HAU := Hq0 hAU; have LU9 := Hq0 lU
    clear hAQ lQ hAU lU hR HB
    go_wp2_with (fail)
    refine (norm_any bq 0 (k + 1) cq (Q.take (k + 1)) w8 LQ.out hcle2.1 (by omega) HAQ.out).mono ?_
    rintro e w9 ⟨rfl, rfl⟩
    have HKs := Hq0 (show w.heap.size ≤ bq from hszw)
    have hdq : bq ≠ bu := by omega
    have hsr : Hid (w8.cell? ⟨bs, 0, none⟩ = some (.pointer none)) := (World.cell?_of_block (a := ⟨bs, 0, none⟩) (HR.out.block bs (by omega) (by omega) (by omega))).trans hs7.out
    have lU9 := HR.out.lu
    by_cases h0 : s = 0
    · have hs0 : ((s : Int) == 0) = true := by simp; omega
      have HF : Hid (QrW w w8 (.slice (some ⟨bq, 0, none⟩) (nrm (Q.take (k + 1))).length cq) (.slice (some ⟨bu, 0, none⟩) (nrm (U.take (m + 1))).length cu) (val lx / val ly) (val lx % val ly)) := by
        have hR := HR.out
        rw [h0] at hR
        refine qr_of (s := 0) HV.out hR G7.out hsz HKs.out hdq (by omega) (by omega) (by omega) (by omega) LU9.out hR.wu (by rw [Int.pow_zero, Int.ediv_one]) ?_
        rw [spl_whole U (m + 1) (by omega)]
        exact Upd.refl hR.hu
      have cS := hsr.out
      clear lU9 h0
      go_wp2_with (fail)
      refine (norm_any bu 0 (m + 1) cu (U.take (m + 1)) w8 LU9.out (by omega) (by omega) HAU.out).mono ?_
      rintro e w9 ⟨rfl, rfl⟩
      go_wp2
      refine leaves_cons (f := 163) (args := #[.pointer (some ⟨bs, 0, none⟩), .int .i64 0]) (by simp) (by simp [go_sem]) ?_
      refine (stackRestore_d .returning cS).mono ?_
      rintro e u' w'' ⟨rfl, rfl, rfl⟩
      exact ⟨_, results_tmp2 (t := 10) (u := 11) rfl _ _ _, .slice (some ⟨bq, 0, none⟩) (nrm (Q.take (k + 1))).length cq, .slice (some ⟨bu, 0, none⟩) (nrm (U.take (m + 1))).length cu, rfl, HF.out⟩
    · have hs0 : ((s : Int) == 0) = false := by simp; omega
      go_wp2_with (fail)
      refine (rshVU bu 0 bu 0 (m + 1) cu cu s U (U.take (m + 1)) w8 (by omega) (by omega) HR.out.hu (by omega) HAU.out (fun _ => rfl) LU9.out HR.out.wu (by omega) hs63).mono ?_
      rintro e w9 ⟨c, d, rfl, Z, lZ, wZ, hF, hu9⟩
      have HF : Hid (QrW w w9 (.slice (some ⟨bq, 0, none⟩) (nrm (Q.take (k + 1))).length cq) (.slice (some ⟨bu, 0, none⟩) (nrm Z).length cu) (val lx / val ly) (val lx % val ly)) :=
        qr_of HV.out HR.out G7.out hsz HKs.out hdq (by omega) (by omega) (by omega) (by omega) lZ wZ hF hu9
      have cS : w9.cell? ⟨bs, 0, none⟩ = some (.pointer none) := (hu9.cell (a := ⟨bs, 0, none⟩) (by show bs ≠ bu; omega)).trans hsr.out
      have HAZ : Hid (At w9 bu 0 Z) := At.spl0 hu9.here (by omega)
      have HLZ := Hq0 lZ
      clear lU9 h0 lZ wZ hF hu9
      go_wp2_with (fail)
      refine (norm_any bu 0 (m + 1) cu Z w9 HLZ.out (by omega) (by omega) HAZ.out).mono ?_
      rintro e w10 ⟨rfl, rfl⟩
      go_wp2
      refine leaves_cons (f := 163) (args := #[.pointer (some ⟨bs, 0, none⟩), .int .i64 0]) (by simp) (by simp [go_sem]) ?_
      refine (stackRestore_d .returning cS).mono ?_
      rintro e u' w'' ⟨rfl, rfl, rfl⟩
      exact ⟨_, results_tmp2 (t := 10) (u := 11) rfl _ _ _, .slice (some ⟨bq, 0, none⟩) (nrm (Q.take (k + 1))).length cq, .slice (some ⟨bu, 0, none⟩) (nrm Z).length cu, rfl, HF.out⟩
end Go.Proofs.YtjcfacinlgogaaaGreatDoor
namespace Go.Proofs.YtjcfacinlgogaaaGreatDoor
open Go.RowKit
theorem getStack_new (w : World) : Calls Tryz.prog 157 #[] w fun e w' => ∃ b, e = .returned (.pointer (some ⟨b, 0, none⟩)) ∧ w.heap.size ≤ b ∧ w'.cell? ⟨b, 0, none⟩ = some (.pointer none) ∧ w.grownBy w' none := by
  go_enter Tryz.func157, Tryz.ntmps157
  go_wp2
  go_ret
  exact ⟨_, rfl, Nat.le_refl _, by simp, World.grownBy_alloc _ _ _⟩
theorem stackFree_dd {w : World} {b : Nat} (u : FrameMode) (h : w.cell? ⟨b, 0, none⟩ = some (.pointer none)) :
    CallsD Tryz.prog 158 #[.pointer (some ⟨b, 0, none⟩)] u w fun e u' w' => u' = u ∧ (e = .returned (.tuple #[]) ∧ w' = w) := by
  go_enter_d Tryz.func158, Tryz.ntmps158
  go_wp2
  go_end0
  exact ⟨rfl, rfl⟩
theorem icmp_ltb {a b : Int} : decide (icmp a b < 0) = decide (a < b) := by
  unfold icmp
  by_cases h : a < b
  · simp [h]
  · by_cases h2 : b < a <;> simp [h, h2]
theorem qr_one {w w1 w2 : World} {q r : Value} {lq : List Int} {a y : Int} (hy : U64 y) (h0 : y ≠ 0) (h1 : NatRes w w1 none q lq) (wq : wfL lq) (nq : Nrm lq) (hv : val lq = a / y) (h2 : NatRes w1 w2 none r (nrm [a % y])) (h3 : IsNat w2 q lq) : QrW w w2 q r (a / y) (a % y) := by
  have u : U64 (a % y) := ⟨Int.emod_nonneg _ h0, Int.lt_trans (Int.emod_lt_of_pos _ (by have := hy.1; omega)) hy.2⟩
  have g := grown_trans h1.grown h2.grown
  refine ⟨⟨lq, ⟨g, h3, h1.own⟩, wq, nq, hv⟩, ⟨_, ⟨g, h2.nat, fun k hk => ?_⟩, wfL_nrm (wfL_cons u wfL_nil), nrm_nrm _, by rw [val_nrm]; simp [val]⟩, ?_⟩
  · rcases h2.own k hk with h | h
    · exact .inl h
    · right; have := h1.grown.size; omega
  · by_cases hq : q.ownBlock = none
    · exact .inl hq
    · right
      obtain ⟨k, hk⟩ : ∃ k, q.ownBlock = some k := Option.ne_none_iff_exists'.1 hq
      intro he
      rw [hk] at he
      rcases h2.own k he.symm with h | h
      · cases h
      · have := h1.nat.lt k hk; omega
theorem div_nil {w : World} {x y : Value} {lx ly : List Int} (hx : IsNat w x lx) (hy : IsNat w y ly) (wx : wfL lx) (wy : wfL ly) (nx : Nrm lx) (ny : Nrm ly) (hn : lx.length ≤ 10000000000) (h0 : ly ≠ []) (h3 : ly.length ≤ 3) (hK : TabK w) :
    Calls Tryz.prog 143 #[.slice none 0 0, .pointer none, .slice none 0 0, x, y] w fun e w' => QrRes w w' e (val lx / val ly) (val lx % val ly) := by
  by_cases h1 : ly.length = 1
  · obtain ⟨y0, rfl⟩ : ∃ y0, ly = [y0] := List.length_eq_one_iff.1 h1
    have uy : U64 y0 := wy y0 (by simp)
    have hy0 : y0 ≠ 0 := by have := ny.last (by simp); simpa using this
    have e1 : val [y0] = y0 := by simp [val]
    rw [e1]
    refine (div_one (.pointer none) y0 (IsNat.nil w) (IsNat.nil w) hx hy wx nx (by omega) uy hy0 (.inl rfl)).mono ?_
    rintro e w' ⟨q, r, w1, lq, rfl, hr1, wq, nq, hq, hr2, h3⟩
    exact ⟨q, r, rfl, qr_one uy hy0 hr1 wq nq hq hr2 h3⟩
  · have hl2 : 2 ≤ ly.length := by
      have : ly.length ≠ 0 := fun e => h0 (List.eq_nil_of_length_eq_zero e)
      omega
    have hypos : 0 < val ly := by
      have h1 := val_nonneg wy
      have h4 : val ly ≠ 0 := fun e => h0 ((ny.nil_iff wy).2 e)
      omega
    have hxn := val_nonneg wx
    obtain ⟨ya, yc, rfl⟩ := hy.slice
    obtain ⟨xa, xc, rfl⟩ := hx.slice
    have HX := Hq0 hx; have HY := Hq0 hy
    have b0 : ((ly.length : Int) == 0) = false := by simp; exact h0
    have b1 : ((ly.length : Int) == 1) = false := by simp; omega
    have HC := fun wz (g : w.grownBy wz none) => cmp_any (hx.grown0 g) (hy.grown0 g) wx wy nx ny (by omega) (by omega)
    clear hx hy
    by_cases hlt : val lx < val ly
    · have hc : decide (icmp (val lx) (val ly) < 0) = true := by rw [icmp_ltb]; simpa using hlt
      have hic : icmp (val lx) (val ly) < 0 := by simpa using hc
      have hq0 : val lx / val ly = 0 := Int.ediv_eq_zero_of_lt hxn hlt
      have hr0 : val lx % val ly = val lx := Int.emod_eq_of_lt hxn hlt
      have HQ := Hq0 (And.intro hq0 hr0)
      clear hq0 hr0 hlt hypos hxn
      obtain ⟨ic, hic2⟩ : ∃ ic, icmp (val lx) (val ly) = ic := ⟨_, rfl⟩
      simp only [hic2] at HC hc hic
      generalize ly.length = n at *
      have HS := Hq0 (fun q => set_any (IsNat.nil (w.drewN q)) (HX.out.draw q) (by omega))
      clear hn
      generalize lx.length = m at *
      go_enter Tryz.func143, Tryz.ntmps143
      go_wp2_with (fail)
      refine (HC w (grown_refl w none)).mono ?_
      rintro e w1 ⟨rfl, q1, rfl⟩
      go_wp2_with (fail)
      refine (HS.out q1).mono ?_
      rintro e w2 ⟨v, rfl, hr⟩
      have HR := Hq0 hr; clear hr
      go_wp2
      go_ret2
      refine ⟨.slice none 0 0, v, rfl, ⟨[], ⟨?_, IsNat.nil _, fun k hk => by simp [Value.ownBlock] at hk⟩, wfL_nil, Nrm.nil, by rw [HQ.out.1]; rfl⟩, ⟨lx, ⟨?_, HR.out.nat, HR.out.own⟩, wx, nx, HQ.out.2.symm⟩, .inl rfl⟩
      · exact grown_trans (grown_drewN w q1) HR.out.grown
      · exact grown_trans (grown_drewN w q1) HR.out.grown
    · have hle : ly.length ≤ lx.length := len_lt ny wy (Int.lt_of_le_of_lt (Int.not_lt.1 hlt) (val_lt wx))
      have hc : decide (icmp (val lx) (val ly) < 0) = false := by rw [icmp_ltb]; simpa using hlt
      have hic : ¬ icmp (val lx) (val ly) < 0 := by simpa using hc
      clear hlt hypos hxn
      obtain ⟨ic, hic2⟩ : ∃ ic, icmp (val lx) (val ly) = ic := ⟨_, rfl⟩
      simp only [hic2] at HC hc hic
      have HL := fun {wz : World} {bs : Nat} (hs : wz.cell? ⟨bs, 0, none⟩ = some (.pointer none)) (g : w.grownBy wz none) => divLarge_nil hs (HX.out.grown0 g) (HY.out.grown0 g) wx wy ny hn hl2 h3 hle (hK.same g)
      clear hK
      generalize ly.length = n at *
      generalize lx.length = m at *
      go_enter_defers Tryz.func143, Tryz.ntmps143
      go_wp2_with (fail)
      refine (HC w (grown_refl w none)).mono ?_
      rintro e w1 ⟨rfl, q1, rfl⟩
      go_wp2_with (fail)
      refine (getStack_new _).mono ?_
      rintro e w2 ⟨bs, rfl, hbs, hcs, g2⟩
      have G2 := Hq0 (grown_trans (grown_drewN w q1) g2)
      have HCS := Hq0 hcs
      clear g2 hcs
      go_wp2_with (fail)
      refine (HL HCS.out G2.out).mono ?_
      rintro e w3 ⟨q, r, rfl, hqr⟩
      have HR := Hq0 hqr
      have hc3 : w3.cell? ⟨bs, 0, none⟩ = some (.pointer none) := by
        obtain ⟨lq, hq, _⟩ := hqr.ql
        exact (World.cell?_of_block (a := ⟨bs, 0, none⟩) (hq.grown.block bs (World.block_lt_of_cell? _ _ HCS.out) (by simp))).trans HCS.out
      clear hqr
      go_wp2
      refine leaves_cons (f := 158) (args := #[.pointer (some ⟨bs, 0, none⟩)]) (by simp) (by simp [go_sem]) ?_
      refine (stackFree_dd .returning hc3).mono ?_
      rintro e u' w'' ⟨rfl, rfl, rfl⟩
      refine ⟨_, results_tmp2 (t := 10) (u := 11) rfl _ _ _, q, r, rfl, ?_⟩
      exact HR.out.since G2.out
end Go.Proofs.YtjcfacinlgogaaaGreatDoor
