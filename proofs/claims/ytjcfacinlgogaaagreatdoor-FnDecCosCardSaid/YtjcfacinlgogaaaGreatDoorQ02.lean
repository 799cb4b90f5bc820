/- A number and a word, added and subtracted, onto other memory. Conditions as in the text before. A number and a word, subtracted. Conditions as in the text before. Words shifted by some bits. Conditions: the slices are of one length, the shift is from 1 to 63. Natural numbers as slices of words: norm, make, setWord, set, compare, alias. Conditions: at most 2^40 words. Natural numbers: room for a result; setWord, set. Conditions: at most 10^12 words. Natural numbers: set, compare, products with a word. Conditions: at most 10^12 words. -/
import Derived.IntWalk
import Derived.Laws.BitsAllLaws
import Derived.Laws.MakeOwn
import Derived.Test.YtjcfacinlgogaaaGreatDoorQ01
set_option linter.all false
set_option maxRecDepth 100000
namespace Go.Proofs.YtjcfacinlgogaaaGreatDoor
open Go.RowKit
theorem addVW_other (bz oz bx ox n cz cx : Nat) (L X : List Int) (y : Int) (w : World) (hn : n ≤ 9223372036854775807) (h1 : 1 ≤ n) (hz : w.heap[bz]? = some (blk L)) (hl : oz + n ≤ L.length)
    (hX : At w bx ox X) (nx : bx ≠ bz) (hcz : n ≤ cz) (hcx : n ≤ cx) (hB : ∃ M, w.heap[bx]? = some (blk M)) (lx : X.length = n) (wx : wfL X) (hy : U64 y) :
    Calls Tryz.prog 147 #[.slice (some ⟨bz, oz, none⟩) n cz, .slice (some ⟨bx, ox, none⟩) n cx, .int .u64 y] w fun e w' =>
      ∃ c, e = .returned (.int .u64 c) ∧ VRel (VWF X y n) w bz oz L n c w' := by
  have HX := Hq0 hX; have Hl := Hq0 hl; have Hz := Hq0 hz; have Lx := Hq0 lx
  have hu0 := Upd.refl hz
  have g1 := hX 0 (by omega)
  have g3 := cell_blk hz oz (by omega)
  have g4 := frozen_blk hz oz
  rw [Nat.add_zero] at g1
  have u1 := getD_u64 wx 0 (by omega)
  have H1 : Hid (VRel (VWF X y 1) w bz oz L 1 (ahi (X[0]?.getD 0) y 0) ((w.drewN 0).setCell ⟨bz, oz + 0, none⟩ (.int .u64 (alo (X[0]?.getD 0) y 0)))) :=
    VRel.step (.start hz (F := fun v c => v = 0) (c := 0) rfl) (by omega) (alo_u _ _ _) (fun v h => by subst h; exact VWF.one (by omega) wx hy) 0
  clear hX hl hz lx
  generalize X[0]?.getD 0 = x0 at *
  generalize L[oz]?.getD 0 = z0 at *
  have hb0 : 0 < n := by omega
  obtain ⟨M, hM⟩ := hB
  have hne : ∀ nq, (binOp .neq 168 (.pointer (some ⟨bz, oz, none⟩)) (.pointer (some ⟨bx, ox, none⟩))).run Tryz.prog ((w.setCell ⟨bz, oz, none⟩ (.int .u64 (alo x0 y 0))).drewN nq) = .ok (.bool true) ((w.setCell ⟨bz, oz, none⟩ (.int .u64 (alo x0 y 0))).drewN nq) := by
    intro nq
    have hu1 := ((Upd.refl Hz.out).set oz (alo x0 y 0)).drewN nq
    exact neq_other (by intro h; injection h with h; exact nx h.symm) hu1.here ((hu1.block bx nx).trans hM)
  have hs1 := run_slice_from (P := Tryz.prog) und86 siz87 bz oz n cz 1 1 rfl h1
  have hs2 := run_slice_from (P := Tryz.prog) und86 siz87 bx ox n cx 1 1 rfl h1
  go_enter Tryz.func147, Tryz.ntmps147
  go_wp2_with (go_at_call 176; refine (bits_Add _ _ _ _ u1 hy bit0).mono ?_; rintro e w' ⟨rfl, rfl⟩)
  · have hc : ahi x0 y 0 = 0 := by simpa using (by assumption : (ahi x0 y 0 == 0) = true)
    go_quiet (fail)
    go_wp2_with (fail)
    go_still_tail 4, (by kernel_rfl)
    change wpList _ _ _ _ _ (World.drew _)
    obtain ⟨M1, hM1, lM1⟩ := H1.out.here (by have := Hl.out; omega)
    refine wpList_copy_w rfl (.tmp 40) (.tmp 42) 103 103 rfl 104 und86 siz87 _ _ _ _ _ _ rfl rfl bz (oz + 1) M1 (X.drop 1) hM1 (by have := Lx.out; simp; omega) ?hpos (by have := Lx.out; have := Hl.out; simp; omega) ?_
    case hpos =>
      intro hp
      have := Lx.out; simp at hp
      exact ⟨by rw [adv_lt (by omega)], bx, ox + 1, by rw [adv_lt (by omega)], HX.out.drop 1 (H1.out.other nx)⟩
    intro w2 hu2
    have HF : Hid (VRel (VWF X y n) w bz oz L n 0 w2) := by
      have := Lx.out; have := Hl.out
      have h2 := H1.out; rw [hc] at h2
      refine h2.upd' (R := X.drop 1) (M := M1) (by simp; omega) (by omega) (wfL_drop wx _) hM1 ⟨hu2.os, hu2.tape, hu2.output, hu2.size, hu2.here, hu2.block⟩ (fun v h => by have := h.rest (by omega); rw [← Lx.out]; exact this)
    clear hu2
    go_wp2
    go_ret
    exact ⟨_, rfl, HF.out⟩
  · have hc : ahi x0 y 0 = 1 := by
      have h1 : (ahi x0 y 0 == 0) = false := by assumption
      have h2 := ahi_b u1 hy bit0
      unfold Bit at h2; simp at h1; omega
    rw [hc] at H1
    clear hc g1 g4 hu0 hne hs1 hs2 g3
    go_loopw [9] (fun i wr => ∃ j : Nat, 1 ≤ j ∧ j ≤ n ∧ i = .int .i64 j ∧ VRel (VWF X y j) w bz oz L j 1 wr) (fun i _ => n - (intOf i).toNat)
    case atStart => exact ⟨1, Nat.le_refl _, h1, rfl, H1.out⟩
    case round =>
      obtain ⟨j, hj1, hj, rfl, hR⟩ := hrel
      have HR := Hq0 hR
      clear hR H1
      by_cases hlt : j < n
      · have hl := Hl.out; have lx := Lx.out
        have g1 := HR.out.read HX.out (fun h => absurd h nx) Hz.out (by omega) (by omega)
        obtain ⟨zj, g3⟩ := HR.out.room (oz + j) (by omega) (by omega)
        have g4 := HR.out.free (oz + j)
        have uj := getD_u64 wx j (by omega)
        by_cases hmax : X[j]?.getD 0 = 18446744073709551615
        · have hn1 := Hq0 (HR.out.step (F' := VWF X y (j + 1)) (by omega) u0 (fun v h => h.keep (by omega) hmax) 0)
          have hb : (X[j]?.getD 0 != 18446744073709551615) = false := by rw [hmax]; rfl
          clear hl lx uj hmax
          generalize X[j]?.getD 0 = xj at *
          go_wp2
          go_roundw
          case rel => exact ⟨j + 1, by omega, by omega, by go_num, hn1.out⟩
          case measure => simp [intOf]; omega
        · have hub : U64 (X[j]?.getD 0 + 1) := by unfold U64 B64 at *; omega
          have hn1 := HR.out.step (F' := VWF X y (j + 1)) (by omega) hub (fun v h => h.stop (by omega)) 0
          rw [← wrap_u64 hub] at hn1
          have HN := Hq0 hn1
          have hb : (X[j]?.getD 0 != 18446744073709551615) = true := by simp [hmax]
          have hne : ∀ nq, (binOp .neq 168 (.pointer (some ⟨bz, oz, none⟩)) (.pointer (some ⟨bx, ox, none⟩))).run Tryz.prog ((wr.setCell ⟨bz, oz + j, none⟩ (.int .u64 (IntKind.u64.wrap (X[j]?.getD 0 + 1)))).drewN nq) = .ok (.bool true) ((wr.setCell ⟨bz, oz + j, none⟩ (.int .u64 (IntKind.u64.wrap (X[j]?.getD 0 + 1)))).drewN nq) := by
            intro nq
            obtain ⟨M1, hM1, lM1⟩ := HN.out.here (by omega)
            exact neq_other (by intro h; injection h with h; exact nx h.symm) hM1 ((HN.out.other nx).trans hM)
          have hs1 := run_slice_from (P := Tryz.prog) und86 siz87 bz oz n cz (j + 1) ((j : Int) + 1) (by omega) (by omega)
          have hs2 := run_slice_from (P := Tryz.prog) und86 siz87 bx ox n cx (j + 1) ((j : Int) + 1) (by omega) (by omega)
          have hj1w : IntKind.i64.wrap ((j : Int) + 1) = (j : Int) + 1 := IntWalk.i64_in _ (by omega)
          clear hl lx uj hmax hn1
          generalize X[j]?.getD 0 = xj at *
          go_wp2
          go_quiet (fail)
          go_wp2_with (fail)
          go_still_tail 8, (by kernel_rfl)
          change wpList _ _ _ _ _ (World.drew _)
          obtain ⟨M1, hM1, lM1⟩ := HN.out.here (by have := Hl.out; omega)
          refine wpList_copy_w rfl (.tmp 69) (.tmp 73) 103 103 rfl 104 und86 siz87 _ _ _ _ _ _ rfl rfl bz (oz + (j + 1)) M1 (X.drop (j + 1)) hM1 (by have := Lx.out; simp; omega) ?hpos (by have := Lx.out; have := Hl.out; simp; omega) ?_
          case hpos =>
            intro hp
            have := Lx.out; simp at hp
            exact ⟨by rw [adv_lt (by omega)], bx, ox + (j + 1), by rw [adv_lt (by omega)], HX.out.drop (j + 1) (HN.out.other nx)⟩
          intro w2 hu2
          have HF : Hid (VRel (VWF X y n) w bz oz L n 0 w2) := by
            have := Lx.out; have := Hl.out
            refine HN.out.upd' (R := X.drop (j + 1)) (M := M1) (by simp; omega) (by omega) (wfL_drop wx _) hM1 ⟨hu2.os, hu2.tape, hu2.output, hu2.size, hu2.here, hu2.block⟩ (fun v h => by have := h.rest (by omega); rw [← Lx.out]; exact this)
          clear hu2
          go_wp2
          go_ret
          exact ⟨_, rfl, HF.out⟩
      · obtain rfl : j = n := by omega
        go_wp2
        go_ret
        exact ⟨_, rfl, HR.out⟩
end Go.Proofs.YtjcfacinlgogaaaGreatDoor
namespace Go.Proofs.YtjcfacinlgogaaaGreatDoor
open Go.RowKit
theorem umax : U64 18446744073709551615 := by unfold U64 B64; omega
theorem VWS.rest {X : List Int} {y v : Int} {j : Nat} (hj : j ≤ X.length) (h : VWS X y j v 0) : VWS X y X.length (v + B64 ^ j * val (X.drop j)) 0 := by
  refine ⟨bit0, ?_⟩
  have := h.2
  rw [List.take_length, val_split X j hj]; grind
theorem VWS.one {X : List Int} {y : Int} (h : 0 < X.length) (wx : wfL X) (hy : U64 y) : VWS X y 1 (0 + B64 ^ 0 * slo (X[0]?.getD 0) y 0) (shi (X[0]?.getD 0) y 0) := by
  refine ⟨shi_b _ _ _, ?_⟩
  have h1 := slo_shi (getD_u64 wx 0 h) hy bit0
  have h2 := val_take_succ X 0 h
  rw [h2]; simp [val]; grind
theorem VWS.keep {X : List Int} {y v : Int} {j : Nat} (hj : j < X.length) (hx : X[j]?.getD 0 = 0) (h : VWS X y j v 1) : VWS X y (j + 1) (v + B64 ^ j * 18446744073709551615) 1 := by
  refine ⟨bit1, ?_⟩
  have := h.2
  rw [val_take_succ X j hj, hx, Int.pow_succ]
  have : B64 = 18446744073709551615 + 1 := rfl
  grind
theorem VWS.stop {X : List Int} {y v : Int} {j : Nat} (hj : j < X.length) (h : VWS X y j v 1) : VWS X y (j + 1) (v + B64 ^ j * (X[j]?.getD 0 - 1)) 0 := by
  refine ⟨bit0, ?_⟩
  have := h.2
  rw [val_take_succ X j hj, Int.pow_succ]
  grind
theorem subVW_same (bz oz n cz cx : Nat) (L X : List Int) (y : Int) (w : World) (hn : n ≤ 9223372036854775807) (h1 : 1 ≤ n) (hz : w.heap[bz]? = some (blk L)) (hl : oz + n ≤ L.length)
    (hX : At w bz oz X) (lx : X.length = n) (wx : wfL X) (hy : U64 y) :
    Calls Tryz.prog 149 #[.slice (some ⟨bz, oz, none⟩) n cz, .slice (some ⟨bz, oz, none⟩) n cx, .int .u64 y] w fun e w' =>
      ∃ c, e = .returned (.int .u64 c) ∧ VRel (VWS X y n) w bz oz L n c w' := by
  have HX := Hq0 hX; have Hl := Hq0 hl; have Hz := Hq0 hz; have Lx := Hq0 lx
  have hu0 := Upd.refl hz
  have g1 := hX 0 (by omega)
  have g3 := cell_blk hz oz (by omega)
  have g4 := frozen_blk hz oz
  rw [Nat.add_zero] at g1
  have u1 := getD_u64 wx 0 (by omega)
  have H1 : Hid (VRel (VWS X y 1) w bz oz L 1 (shi (X[0]?.getD 0) y 0) ((w.drewN 0).setCell ⟨bz, oz + 0, none⟩ (.int .u64 (slo (X[0]?.getD 0) y 0)))) :=
    VRel.step (.start hz (F := fun v c => v = 0) (c := 0) rfl) (by omega) (slo_u _ _ _) (fun v h => by subst h; exact VWS.one (by omega) wx hy) 0
  clear hX hl hz lx
  generalize X[0]?.getD 0 = x0 at *
  generalize L[oz]?.getD 0 = z0 at *
  have hz0 : x0 = z0 := by rw [g1] at g3; simpa using g3
  subst hz0
  clear g3
  have hb0 : 0 < n := by omega
  have hne := neq_same ⟨bz, oz, none⟩
  go_enter Tryz.func149, Tryz.ntmps149
  go_wp2_with (go_at_call 178; refine (bits_Sub _ _ _ _ u1 hy bit0).mono ?_; rintro e w' ⟨rfl, rfl⟩)
  · have hc : shi x0 y 0 = 0 := by simpa using (by assumption : (shi x0 y 0 == 0) = true)
    have HF : Hid (VRel (VWS X y n) w bz oz L n 0 ((w.drewN 0).setCell ⟨bz, oz + 0, none⟩ (.int .u64 (slo x0 y 0)))) := by
      have := Lx.out; have := Hl.out
      have h2 := H1.out; rw [hc] at h2
      have h3 := h2.rest (F' := VWS X y n) HX.out Hz.out (by omega) (by omega) wx (fun v h => by rw [← Lx.out]; exact h.rest (by omega))
      rw [Lx.out] at h3; exact h3
    clear hc H1
    go_wp2_with (fail)
    go_quiet (fail)
    go_wp2
    go_ret
    exact ⟨_, rfl, HF.out.drewN _⟩
  · have hc : shi x0 y 0 = 1 := by
      have h1 : (shi x0 y 0 == 0) = false := by assumption
      have h2 := shi_b x0 y 0
      unfold Bit at h2; simp at h1; omega
    rw [hc] at H1
    clear hc g1 g4 hu0
    go_loopw [9] (fun i wr => ∃ j : Nat, 1 ≤ j ∧ j ≤ n ∧ i = .int .i64 j ∧ VRel (VWS X y j) w bz oz L j 1 wr) (fun i _ => n - (intOf i).toNat)
    case atStart => exact ⟨1, Nat.le_refl _, h1, rfl, H1.out⟩
    case round =>
      obtain ⟨j, hj1, hj, rfl, hR⟩ := hrel
      have HR := Hq0 hR
      clear hR H1
      by_cases hlt : j < n
      · have hl := Hl.out; have lx := Lx.out
        have g1 := HR.out.read HX.out (fun _ => rfl) Hz.out (by omega) (by omega)
        obtain ⟨zj, g3⟩ := HR.out.room (oz + j) (by omega) (by omega)
        have g4 := HR.out.free (oz + j)
        have gx := g1
        rw [g3] at gx
        simp only [Option.some.injEq, Value.int.injEq, true_and] at gx
        subst gx
        have uj := getD_u64 wx j (by omega)
        by_cases hmax : X[j]?.getD 0 = 0
        · have hn1 := Hq0 (HR.out.step (F' := VWS X y (j + 1)) (by omega) umax (fun v h => h.keep (by omega) hmax) 0)
          have hb : (X[j]?.getD 0 != 0) = false := by rw [hmax]; rfl
          clear hl lx g3 uj hmax
          generalize X[j]?.getD 0 = xj at *
          go_wp2
          go_roundw
          case rel => exact ⟨j + 1, by omega, by omega, by go_num, hn1.out⟩
          case measure => simp [intOf]; omega
        · have hub : U64 (X[j]?.getD 0 - 1) := by unfold U64 B64 at *; omega
          have hn1 := HR.out.step (F' := VWS X y (j + 1)) (by omega) hub (fun v h => h.stop (by omega)) 0
          have h3 := hn1.rest (F' := VWS X y n) HX.out Hz.out (by omega) (by omega) wx (fun v h => by rw [← lx]; exact h.rest (by omega))
          rw [lx, ← wrap_u64 hub] at h3
          have HF := Hq0 h3
          have hb : (X[j]?.getD 0 != 0) = true := by simp [hmax]
          have hz0 := Hz.out
          obtain ⟨z0, k3⟩ := HR.out.room oz (by omega) (by omega)
          clear hl lx g3 uj hmax h3 hn1 hz0
          generalize X[j]?.getD 0 = xj at *
          go_wp2
          go_quiet (fail)
          go_wp2
          go_ret
          exact ⟨_, rfl, HF.out.drewN _⟩
      · obtain rfl : j = n := by omega
        go_wp2
        go_ret
        exact ⟨_, rfl, HR.out⟩
theorem subVW_other (bz oz bx ox n cz cx : Nat) (L X : List Int) (y : Int) (w : World) (hn : n ≤ 9223372036854775807) (h1 : 1 ≤ n) (hz : w.heap[bz]? = some (blk L)) (hl : oz + n ≤ L.length)
    (hX : At w bx ox X) (nx : bx ≠ bz) (hcz : n ≤ cz) (hcx : n ≤ cx) (hB : ∃ M, w.heap[bx]? = some (blk M)) (lx : X.length = n) (wx : wfL X) (hy : U64 y) :
    Calls Tryz.prog 149 #[.slice (some ⟨bz, oz, none⟩) n cz, .slice (some ⟨bx, ox, none⟩) n cx, .int .u64 y] w fun e w' =>
      ∃ c, e = .returned (.int .u64 c) ∧ VRel (VWS X y n) w bz oz L n c w' := by
  have HX := Hq0 hX; have Hl := Hq0 hl; have Hz := Hq0 hz; have Lx := Hq0 lx
  have hu0 := Upd.refl hz
  have g1 := hX 0 (by omega)
  have g3 := cell_blk hz oz (by omega)
  have g4 := frozen_blk hz oz
  rw [Nat.add_zero] at g1
  have u1 := getD_u64 wx 0 (by omega)
  have H1 : Hid (VRel (VWS X y 1) w bz oz L 1 (shi (X[0]?.getD 0) y 0) ((w.drewN 0).setCell ⟨bz, oz + 0, none⟩ (.int .u64 (slo (X[0]?.getD 0) y 0)))) :=
    VRel.step (.start hz (F := fun v c => v = 0) (c := 0) rfl) (by omega) (slo_u _ _ _) (fun v h => by subst h; exact VWS.one (by omega) wx hy) 0
  clear hX hl hz lx
  generalize X[0]?.getD 0 = x0 at *
  generalize L[oz]?.getD 0 = z0 at *
  have hb0 : 0 < n := by omega
  obtain ⟨M, hM⟩ := hB
  have hne : ∀ nq, (binOp .neq 168 (.pointer (some ⟨bz, oz, none⟩)) (.pointer (some ⟨bx, ox, none⟩))).run Tryz.prog ((w.setCell ⟨bz, oz, none⟩ (.int .u64 (slo x0 y 0))).drewN nq) = .ok (.bool true) ((w.setCell ⟨bz, oz, none⟩ (.int .u64 (slo x0 y 0))).drewN nq) := by
    intro nq
    have hu1 := ((Upd.refl Hz.out).set oz (slo x0 y 0)).drewN nq
    exact neq_other (by intro h; injection h with h; exact nx h.symm) hu1.here ((hu1.block bx nx).trans hM)
  have hs1 := run_slice_from (P := Tryz.prog) und86 siz87 bz oz n cz 1 1 rfl h1
  have hs2 := run_slice_from (P := Tryz.prog) und86 siz87 bx ox n cx 1 1 rfl h1
  go_enter Tryz.func149, Tryz.ntmps149
  go_wp2_with (go_at_call 178; refine (bits_Sub _ _ _ _ u1 hy bit0).mono ?_; rintro e w' ⟨rfl, rfl⟩)
  · have hc : shi x0 y 0 = 0 := by simpa using (by assumption : (shi x0 y 0 == 0) = true)
    go_quiet (fail)
    go_wp2_with (fail)
    go_still_tail 4, (by kernel_rfl)
    change wpList _ _ _ _ _ (World.drew _)
    obtain ⟨M1, hM1, lM1⟩ := H1.out.here (by have := Hl.out; omega)
    refine wpList_copy_w rfl (.tmp 40) (.tmp 42) 103 103 rfl 104 und86 siz87 _ _ _ _ _ _ rfl rfl bz (oz + 1) M1 (X.drop 1) hM1 (by have := Lx.out; simp; omega) ?hpos (by have := Lx.out; have := Hl.out; simp; omega) ?_
    case hpos =>
      intro hp
      have := Lx.out; simp at hp
      exact ⟨by rw [adv_lt (by omega)], bx, ox + 1, by rw [adv_lt (by omega)], HX.out.drop 1 (H1.out.other nx)⟩
    intro w2 hu2
    have HF : Hid (VRel (VWS X y n) w bz oz L n 0 w2) := by
      have := Lx.out; have := Hl.out
      have h2 := H1.out; rw [hc] at h2
      refine h2.upd' (R := X.drop 1) (M := M1) (by simp; omega) (by omega) (wfL_drop wx _) hM1 ⟨hu2.os, hu2.tape, hu2.output, hu2.size, hu2.here, hu2.block⟩ (fun v h => by have := h.rest (by omega); rw [← Lx.out]; exact this)
    clear hu2
    go_wp2
    go_ret
    exact ⟨_, rfl, HF.out⟩
  · have hc : shi x0 y 0 = 1 := by
      have h1 : (shi x0 y 0 == 0) = false := by assumption
      have h2 := shi_b x0 y 0
      unfold Bit at h2; simp at h1; omega
    rw [hc] at H1
    clear hc g1 g4 hu0 hne hs1 hs2 g3
    go_loopw [9] (fun i wr => ∃ j : Nat, 1 ≤ j ∧ j ≤ n ∧ i = .int .i64 j ∧ VRel (VWS X y j) w bz oz L j 1 wr) (fun i _ => n - (intOf i).toNat)
    case atStart => exact ⟨1, Nat.le_refl _, h1, rfl, H1.out⟩
    case round =>
      obtain ⟨j, hj1, hj, rfl, hR⟩ := hrel
      have HR := Hq0 hR
      clear hR H1
      by_cases hlt : j < n
      · have hl := Hl.out; have lx := Lx.out
        have g1 := HR.out.read HX.out (fun h => absurd h nx) Hz.out (by omega) (by omega)
        obtain ⟨zj, g3⟩ := HR.out.room (oz + j) (by omega) (by omega)
        have g4 := HR.out.free (oz + j)
        have uj := getD_u64 wx j (by omega)
        by_cases hmax : X[j]?.getD 0 = 0
        · have hn1 := Hq0 (HR.out.step (F' := VWS X y (j + 1)) (by omega) umax (fun v h => h.keep (by omega) hmax) 0)
          have hb : (X[j]?.getD 0 != 0) = false := by rw [hmax]; rfl
          clear hl lx uj hmax
          generalize X[j]?.getD 0 = xj at *
          go_wp2
          go_roundw
          case rel => exact ⟨j + 1, by omega, by omega, by go_num, hn1.out⟩
          case measure => simp [intOf]; omega
        · have hub : U64 (X[j]?.getD 0 - 1) := by unfold U64 B64 at *; omega
          have hn1 := HR.out.step (F' := VWS X y (j + 1)) (by omega) hub (fun v h => h.stop (by omega)) 0
          rw [← wrap_u64 hub] at hn1
          have HN := Hq0 hn1
          have hb : (X[j]?.getD 0 != 0) = true := by simp [hmax]
          have hne : ∀ nq, (binOp .neq 168 (.pointer (some ⟨bz, oz, none⟩)) (.pointer (some ⟨bx, ox, none⟩))).run Tryz.prog ((wr.setCell ⟨bz, oz + j, none⟩ (.int .u64 (IntKind.u64.wrap (X[j]?.getD 0 - 1)))).drewN nq) = .ok (.bool true) ((wr.setCell ⟨bz, oz + j, none⟩ (.int .u64 (IntKind.u64.wrap (X[j]?.getD 0 - 1)))).drewN nq) := by
            intro nq
            obtain ⟨M1, hM1, lM1⟩ := HN.out.here (by omega)
            exact neq_other (by intro h; injection h with h; exact nx h.symm) hM1 ((HN.out.other nx).trans hM)
          have hs1 := run_slice_from (P := Tryz.prog) und86 siz87 bz oz n cz (j + 1) ((j : Int) + 1) (by omega) (by omega)
          have hs2 := run_slice_from (P := Tryz.prog) und86 siz87 bx ox n cx (j + 1) ((j : Int) + 1) (by omega) (by omega)
          have hj1w : IntKind.i64.wrap ((j : Int) + 1) = (j : Int) + 1 := IntWalk.i64_in _ (by omega)
          clear hl lx uj hmax hn1
          generalize X[j]?.getD 0 = xj at *
          go_wp2
          go_quiet (fail)
          go_wp2_with (fail)
          go_still_tail 8, (by kernel_rfl)
          change wpList _ _ _ _ _ (World.drew _)
          obtain ⟨M1, hM1, lM1⟩ := HN.out.here (by have := Hl.out; omega)
          refine wpList_copy_w rfl (.tmp 69) (.tmp 73) 103 103 rfl 104 und86 siz87 _ _ _ _ _ _ rfl rfl bz (oz + (j + 1)) M1 (X.drop (j + 1)) hM1 (by have := Lx.out; simp; omega) ?hpos (by have := Lx.out; have := Hl.out; simp; omega) ?_
          case hpos =>
            intro hp
            have := Lx.out; simp at hp
            exact ⟨by rw [adv_lt (by omega)], bx, ox + (j + 1), by rw [adv_lt (by omega)], HX.out.drop (j + 1) (HN.out.other nx)⟩
          intro w2 hu2
          have HF : Hid (VRel (VWS X y n) w bz oz L n 0 w2) := by
            have := Lx.out; have := Hl.out
            refine HN.out.upd' (R := X.drop (j + 1)) (M := M1) (by simp; omega) (by omega) (wfL_drop wx _) hM1 ⟨hu2.os, hu2.tape, hu2.output, hu2.size, hu2.here, hu2.block⟩ (fun v h => by have := h.rest (by omega); rw [← Lx.out]; exact this)
          clear hu2
          go_wp2
          go_ret
          exact ⟨_, rfl, HF.out⟩
      · obtain rfl : j = n := by omega
        go_wp2
        go_ret
        exact ⟨_, rfl, HR.out⟩
theorem addVW (bz oz bx ox n cz cx : Nat) (L X M : List Int) (y : Int) (w : World) (hn : n ≤ 9223372036854775807) (h1 : 1 ≤ n) (hz : w.heap[bz]? = some (blk L)) (hl : oz + n ≤ L.length)
    (hX : At w bx ox X) (ax : bx = bz → ox = oz) (hcz : n ≤ cz) (hcx : n ≤ cx) (hB : w.heap[bx]? = some (blk M)) (lx : X.length = n) (wx : wfL X) (hy : U64 y) :
    Calls Tryz.prog 147 #[.slice (some ⟨bz, oz, none⟩) n cz, .slice (some ⟨bx, ox, none⟩) n cx, .int .u64 y] w fun e w' =>
      ∃ c, e = .returned (.int .u64 c) ∧ VRel (VWF X y n) w bz oz L n c w' := by
  by_cases h : bx = bz
  · have h2 := ax h; subst h; subst h2
    exact addVW_same bx ox n cz cx L X y w hn h1 hz hl hX lx wx hy
  · exact addVW_other bz oz bx ox n cz cx L X y w hn h1 hz hl hX h hcz hcx ⟨M, hB⟩ lx wx hy
theorem subVW (bz oz bx ox n cz cx : Nat) (L X M : List Int) (y : Int) (w : World) (hn : n ≤ 9223372036854775807) (h1 : 1 ≤ n) (hz : w.heap[bz]? = some (blk L)) (hl : oz + n ≤ L.length)
    (hX : At w bx ox X) (ax : bx = bz → ox = oz) (hcz : n ≤ cz) (hcx : n ≤ cx) (hB : w.heap[bx]? = some (blk M)) (lx : X.length = n) (wx : wfL X) (hy : U64 y) :
    Calls Tryz.prog 149 #[.slice (some ⟨bz, oz, none⟩) n cz, .slice (some ⟨bx, ox, none⟩) n cx, .int .u64 y] w fun e w' =>
      ∃ c, e = .returned (.int .u64 c) ∧ VRel (VWS X y n) w bz oz L n c w' := by
  by_cases h : bx = bz
  · have h2 := ax h; subst h; subst h2
    exact subVW_same bx ox n cz cx L X y w hn h1 hz hl hX lx wx hy
  · exact subVW_other bz oz bx ox n cz cx L X y w hn h1 hz hl hX h hcz hcx ⟨M, hB⟩ lx wx hy
end Go.Proofs.YtjcfacinlgogaaaGreatDoor
namespace Go.Proofs.YtjcfacinlgogaaaGreatDoor
open Go.RowKit
theorem and63 (s : Int) (h0 : 0 ≤ s) (h1 : s ≤ 63) : bits .and .u64 s 63 = s := by
  rw [u64_and s 63 h0 (by omega) (by decide) (by decide), show (63 : Int).toNat = 63 from rfl, nat_mask6]; omega
theorem pow_split {s : Nat} (h : s ≤ 64) : (2 : Nat) ^ s * 2 ^ (64 - s) = 18446744073709551616 := by
  rw [← Nat.pow_add, show s + (64 - s) = 64 by omega]
theorem or_shift {x y : Int} {s : Nat} (hx : U64 x) (hy : U64 y) (h0 : 1 ≤ s) (h1 : s ≤ 63) :
    bits .or .u64 (IntKind.u64.wrap (x * 2 ^ s)) (y / 2 ^ (64 - s)) = x * 2 ^ s % B64 + y / 2 ^ (64 - s) ∧ U64 (x * 2 ^ s % B64 + y / 2 ^ (64 - s)) ∧ 0 ≤ y / 2 ^ (64 - s) ∧ y / 2 ^ (64 - s) < 2 ^ s := by
  obtain ⟨X, rfl⟩ := Int.eq_ofNat_of_zero_le hx.1
  obtain ⟨Y, rfl⟩ := Int.eq_ofNat_of_zero_le hy.1
  have hX := hx.2; have hY := hy.2
  unfold B64 at hX hY
  have hp := pow_split (s := s) (by omega)
  have c1 : (2 : Int) ^ s = ((2 ^ s : Nat) : Int) := by simp
  have c2 : (2 : Int) ^ (64 - s) = ((2 ^ (64 - s) : Nat) : Int) := by simp
  rw [IntKind.wrap_u64, c1, c2]
  have hps : 0 < 2 ^ s := Nat.pow_pos (by decide)
  have hpt : 0 < 2 ^ (64 - s) := Nat.pow_pos (by decide)
  clear c1 c2
  generalize hpp : 2 ^ s = p at hp hps ⊢
  generalize 2 ^ (64 - s) = q at *
  have hy2 : Y / q < p := by
    rw [Nat.div_lt_iff_lt_mul hpt, hp]; omega
  have hpB : p ≤ 18446744073709551616 := by rw [← hp]; exact Nat.le_mul_of_pos_right _ hpt
  have hxm : X * p % 18446744073709551616 % p = 0 := by
    rw [Nat.mod_mod_of_dvd _ ⟨q, hp.symm⟩]; exact Nat.mul_mod_left _ _
  have hsum : X * p % 18446744073709551616 + Y / q < 18446744073709551616 := by
    have h3 : X * p % 18446744073709551616 < 18446744073709551616 := Nat.mod_lt _ (by decide)
    obtain ⟨k, hk⟩ := Nat.dvd_of_mod_eq_zero hxm
    have h4 : k < q := by
      rw [hk, ← hp] at h3; exact Nat.lt_of_mul_lt_mul_left h3
    rw [hk]
    have h5 : p * (k + 1) ≤ p * q := Nat.mul_le_mul_left _ h4
    rw [Nat.mul_add] at h5; omega
  have e1 : ((X : Int) * (p : Nat) % 18446744073709551616) = ((X * p % 18446744073709551616 : Nat) : Int) := by omega
  have e2 : ((Y : Int) / (q : Nat)) = ((Y / q : Nat) : Int) := by omega
  unfold U64 B64
  rw [e1, e2]
  have hm : X * p % 18446744073709551616 < 18446744073709551616 := Nat.mod_lt _ (by decide)
  clear e1 e2
  generalize Y / q = r at *
  generalize X * p % 18446744073709551616 = m at *
  refine ⟨?_, ?_, by omega, by omega⟩
  · rw [u64_or_nat _ _ hm (by omega), nat_join s m r (by rw [hpp]; exact hxm) (by rw [hpp]; exact hy2)]
    omega
  · omega
def ShlF (X : List Int) (s : Nat) (v c : Int) : Prop := 0 ≤ c ∧ c < 2 ^ s ∧ v + B64 ^ X.length * c = val X * 2 ^ s
def DRel (X : List Int) (s : Nat) (c : Int) (w : World) (bz oz : Nat) (L : List Int) (k : Nat) (wr : World) : Prop :=
  ∃ Z : List Int, Z.length + k + 1 = X.length ∧ wfL Z ∧ val Z + B64 ^ Z.length * c = val (X.drop (k + 1)) * 2 ^ s + X[k]?.getD 0 / 2 ^ (64 - s) ∧ Upd w wr bz (spl L (oz + k + 1) Z)
theorem spl_cons (L : List Int) (o : Nat) (Z : List Int) (z : Int) (h : o < L.length) : (spl L (o + 1) Z).set o z = spl L o (z :: Z) := by
  unfold spl
  rw [List.append_assoc, List.set_append_left _ _ (by simp; omega)]
  have : L.take (o + 1) = L.take o ++ [L[o]] := List.take_succ_eq_append_getElem h
  rw [this, List.set_append_right _ _ (by simp; omega)]
  have e : o - min o L.length = 0 := by omega
  simp [e, show o + 1 + Z.length = o + (Z.length + 1) by omega]
theorem drop_cons (X : List Int) (k : Nat) (h : k < X.length) : X.drop k = X[k]?.getD 0 :: X.drop (k + 1) := by
  rw [List.drop_eq_getElem_cons h]; simp [h]
theorem shl_parts {x : Int} {s : Nat} (hx : U64 x) (h : s ≤ 64) : x * 2 ^ s % B64 + B64 * (x / 2 ^ (64 - s)) = x * 2 ^ s := by
  have hp : (2 : Int) ^ s * 2 ^ (64 - s) = B64 := by
    have := pow_split h
    rw [show B64 = ((18446744073709551616 : Nat) : Int) from rfl, ← this]; simp
  have hs : (0 : Int) < 2 ^ s := Int.pow_pos (by decide)
  have ht : (0 : Int) < 2 ^ (64 - s) := Int.pow_pos (by decide)
  have e : x / 2 ^ (64 - s) = x * 2 ^ s / B64 := by
    rw [← hp, Int.mul_comm x, Int.mul_ediv_mul_of_pos _ _ hs]
  rw [e]; exact Int.emod_add_mul_ediv _ _
theorem DRel.step {X : List Int} {s : Nat} {c : Int} {w wr : World} {bz oz : Nat} {L : List Int} {k : Nat} (h : DRel X s c w bz oz L (k + 1) wr) (wx : wfL X) (hk : k + 1 < X.length) (hl : oz + X.length ≤ L.length) (h0 : 1 ≤ s) (h1 : s ≤ 63) :
    DRel X s c w bz oz L k (wr.setCell ⟨bz, oz + (k + 1), none⟩ (.int .u64 (bits .or .u64 (IntKind.u64.wrap (X[k + 1]?.getD 0 * 2 ^ s)) (X[k]?.getD 0 / 2 ^ (64 - s))))) := by
  obtain ⟨Z, hZ, wZ, hv, hu⟩ := h
  obtain ⟨e1, e2, _, _⟩ := or_shift (getD_u64 wx (k + 1) hk) (getD_u64 wx k (by omega)) h0 h1
  rw [e1]
  refine ⟨(X[k + 1]?.getD 0 * 2 ^ s % B64 + X[k]?.getD 0 / 2 ^ (64 - s)) :: Z, by simp; omega, wfL_cons e2 wZ, ?_, ?_⟩
  · rw [drop_cons X (k + 1) hk]
    simp only [val, List.length_cons, Int.pow_succ]
    have := shl_parts (getD_u64 wx (k + 1) hk) (s := s) (by omega)
    generalize X[k + 1]?.getD 0 * 2 ^ s % B64 = a at *
    generalize X[k + 1]?.getD 0 / 2 ^ (64 - s) = b at *
    generalize X[k]?.getD 0 / 2 ^ (64 - s) = d at *
    grind
  · rw [← spl_cons _ _ _ _ (by omega)]; exact hu.set _ _
theorem DRel.last {X : List Int} {s : Nat} {c : Int} {w wr : World} {bz oz : Nat} {L : List Int} (h : DRel X s c w bz oz L 0 wr) (wx : wfL X) (hk : 0 < X.length) (hl : oz + X.length ≤ L.length) (h1 : s ≤ 63) (hc0 : 0 ≤ c) (hc1 : c < 2 ^ s) :
    VRel (ShlF X s) w bz oz L X.length c (wr.setCell ⟨bz, oz, none⟩ (.int .u64 (IntKind.u64.wrap (X[0]?.getD 0 * 2 ^ s)))) := by
  obtain ⟨Z, hZ, wZ, hv, hu⟩ := h
  refine ⟨IntKind.u64.wrap (X[0]?.getD 0 * 2 ^ s) :: Z, by simp; omega, wfL_cons (by rw [IntKind.wrap_u64]; unfold U64 B64; omega) wZ, ⟨hc0, hc1, ?_⟩, ?_⟩
  · have hX : val X = X[0]?.getD 0 + B64 * val (X.drop 1) := by
      conv => lhs; rw [show X = X.drop 0 by simp, drop_cons X 0 hk]
      rfl
    rw [hX, ← hZ]
    simp only [val, Nat.add_zero, Int.pow_succ] at *
    have := shl_parts (getD_u64 wx 0 hk) (s := s) (by omega)
    have e : IntKind.u64.wrap (X[0]?.getD 0 * 2 ^ s) = X[0]?.getD 0 * 2 ^ s % B64 := IntKind.wrap_u64 _
    rw [e]
    generalize X[0]?.getD 0 * 2 ^ s % B64 = a at *
    generalize X[0]?.getD 0 / 2 ^ (64 - s) = b at *
    grind
  · rw [← spl_cons _ _ _ _ (by omega)]; exact hu.set _ _
theorem DRel.cell {X : List Int} {s : Nat} {c : Int} {w wr : World} {bz oz : Nat} {L : List Int} {k : Nat} (h : DRel X s c w bz oz L k wr) (hl : oz + X.length ≤ L.length) (i : Nat) (hi : i < L.length) : ∃ v, wr.cell? ⟨bz, i, none⟩ = some (.int .u64 v) := by
  obtain ⟨Z, hZ, wZ, hv, hu⟩ := h
  exact ⟨_, cell_blk hu.here _ (by rw [spl_length _ _ _ (by omega)]; exact hi)⟩
theorem DRel.free {X : List Int} {s : Nat} {c : Int} {w wr : World} {bz oz : Nat} {L : List Int} {k : Nat} (h : DRel X s c w bz oz L k wr) (i : Nat) : wr.frozen? ⟨bz, i, none⟩ = false := by
  obtain ⟨Z, hZ, wZ, hv, hu⟩ := h
  exact frozen_blk hu.here _
theorem DRel.read {X : List Int} {s : Nat} {c : Int} {w wr : World} {bz oz bx ox : Nat} {L : List Int} {k : Nat} (h : DRel X s c w bz oz L k wr) (hX : At w bx ox X) (nx : bx ≠ bz) (i : Nat) (hi : i < X.length) : wr.cell? ⟨bx, ox + i, none⟩ = some (.int .u64 (X[i]?.getD 0)) := by
  obtain ⟨Z, hZ, wZ, hv, hu⟩ := h
  rw [hu.cell (by exact nx)]; exact hX i hi
theorem DRel.drew {X : List Int} {s : Nat} {c : Int} {w wr : World} {bz oz : Nat} {L : List Int} {k : Nat} (h : DRel X s c w bz oz L k wr) : DRel X s c w bz oz L k wr.drew := by
  obtain ⟨Z, hZ, wZ, hv, hu⟩ := h
  exact ⟨Z, hZ, wZ, hv, hu.drew⟩
theorem lshVU_g (bz oz bx ox n cz cx s : Nat) (L X : List Int) (w : World) (hn : n ≤ 9223372036854775807) (h1 : 1 ≤ n) (hz : w.heap[bz]? = some (blk L)) (hl : oz + n ≤ L.length)
    (hX : At w bx ox X) (nx : bx ≠ bz) (lx : X.length = n) (wx : wfL X) (hs0 : 1 ≤ s) (hs1 : s ≤ 63) :
    Calls Tryz.prog 227 #[.slice (some ⟨bz, oz, none⟩) n cz, .slice (some ⟨bx, ox, none⟩) n cx, .int .u64 s] w fun e w' =>
      ∃ c, e = .returned (.int .u64 c) ∧ VRel (ShlF X s) w bz oz L n c w' := by
  have HX := Hq0 hX; have Hl := Hq0 hl; have Hz := Hq0 hz; have Lx := Hq0 lx
  have e1 := and63 (s : Int) (by omega) (by omega)
  have e2 : IntKind.u64.wrap (64 - (s : Int)) = 64 - (s : Int) := by rw [IntKind.wrap_u64]; omega
  have e3 := and63 (64 - (s : Int)) (by omega) (by omega)
  have g1 := hX (n - 1) (by omega)
  have hs' : ((s : Int) == 0) = false := by simp; omega
  have hn' : ((n : Int) == 0) = false := by simp; omega
  obtain ⟨_, _, c0, c1⟩ := or_shift u0 (getD_u64 wx (n - 1) (by omega)) hs0 hs1
  have H0 : Hid (DRel X s (X[n - 1]?.getD 0 / 2 ^ (64 - s)) w bz oz L (n - 1) w) :=
    ⟨[], by simp; omega, wfL_nil, by rw [List.drop_eq_nil_of_le (by omega)]; simp [val], by rw [spl_nil]; exact Upd.refl hz⟩
  have C0 := Hq0 c0; have C1 := Hq0 c1
  clear hX hl hz lx c0 c1
  go_enter Tryz.func227, Tryz.ntmps227
  go_wp2
  generalize X[n - 1]?.getD 0 / 2 ^ (64 - s) = cc at *
  go_loopw [8] (fun i wr => ∃ k : Nat, k < n ∧ i = .int .i64 k ∧ DRel X s cc w bz oz L k wr) (fun i _ => (intOf i).toNat)
  case atStart => exact ⟨n - 1, by omega, by go_num, H0.out⟩
  case round =>
    obtain ⟨k, hk, rfl, hR⟩ := hrel
    have HR := Hq0 hR
    clear hR H0 g1
    have hl := Hl.out; have lx := Lx.out
    cases k with
    | zero =>
      have g0 := HR.out.read HX.out nx 0 (by omega)
      rw [Nat.add_zero] at g0
      obtain ⟨z0, g3⟩ := HR.out.cell (by omega) oz (by omega)
      have g4 := HR.out.free oz
      have HF := Hq0 (HR.out.last wx (by omega) (by omega) hs1 C0.out C1.out)
      clear hl lx
      generalize X[0]?.getD 0 = x0 at *
      go_wp2
      go_ret
      exact ⟨_, rfl, by have := HF.out; rw [Lx.out] at this; exact this⟩
    | succ k =>
      have g0 := HR.out.read HX.out nx k (by omega)
      have g1 := HR.out.read HX.out nx (k + 1) (by omega)
      obtain ⟨z0, g3⟩ := HR.out.cell (by omega) (oz + (k + 1)) (by omega)
      have g4 := HR.out.free (oz + (k + 1))
      have HN := Hq0 (HR.out.drew.step wx (by omega) (by omega) hs0 hs1)
      have hb1 : (k : Int) + 1 < n := by omega
      have hb2 : (k : Int) < n := by omega
      have hw1 : IntKind.i64.wrap (k : Int) = k := IntWalk.i64_in _ (by omega)
      have hw2 : 0 ≤ (k : Int) + 1 := by omega
      have hw3 : ((k : Int) + 1).toNat = k + 1 := by omega
      clear hl lx
      generalize X[k]?.getD 0 = x0 at *
      generalize X[k + 1]?.getD 0 = x1 at *
      go_wp2_with (fail)
      go_still_tail 17, (by kernel_rfl)
      change wpList _ _ _ _ _ (World.drew _)
      go_wp2
      go_roundw
      case rel => exact ⟨k, by omega, by go_num, HN.out⟩
      case measure => simp [intOf]
end Go.Proofs.YtjcfacinlgogaaaGreatDoor
namespace Go.Proofs.YtjcfacinlgogaaaGreatDoor
open Go.RowKit
def IsNat (w : World) (v : Value) (l : List Int) : Prop :=
  (v = .slice none 0 0 ∧ l = []) ∨ ∃ b cap M, v = .slice (some ⟨b, 0, none⟩) l.length cap ∧ w.heap[b]? = some (blk (l ++ M)) ∧ cap = l.length + M.length ∧ cap ≤ 9223372036854775807
theorem norm_any (b o n cap : Nat) (l : List Int) (w : World) (hl : l.length = n) (hnc : n ≤ cap) (hc : n ≤ 9223372036854775807) (hX : At w b o l) :
    Calls Tryz.prog 110 #[.slice (some ⟨b, o, none⟩) n cap] w fun e w' => e = .returned (.slice (some ⟨b, o, none⟩) (nrm l).length cap) ∧ w = w' := by
  have HX := Hq0 hX; have Hl := Hq0 hl
  clear hX hl
  go_enter Tryz.func110, Tryz.ntmps110
  go_wp2
  go_loop [3] (fun i => ∃ k : Nat, k ≤ n ∧ i = .int .i64 k ∧ Hid (nrm (l.take k) = nrm l)) (fun i => (intOf i).toNat)
  case atStart => exact ⟨n, Nat.le_refl _, rfl, by show _ = _; rw [← Hl.out, List.take_length]⟩
  case round =>
    obtain ⟨k, hk, rfl, hn⟩ := hrel
    cases k with
    | zero =>
      have hn := hn.out
      rw [List.take_zero] at hn
      have HL : Hid ((nrm l).length = 0) := by show _ = _; rw [← hn]; rfl
      clear hn
      go_wp2
      go_ret
      exact ⟨ret_sl HL.out.symm, rfl⟩
    | succ k =>
      have hc1 := HX.out k (by have := Hl.out; omega)
      by_cases h0 : l[k]?.getD 0 = 0
      · rw [h0] at hc1
        have hn : Hid (nrm (l.take k) = nrm l) := by show _ = _; rw [← nrm_take0 l k (by have := Hl.out; omega) h0]; exact hn.out
        clear h0
        go_wp2
        go_round
        case rel => exact ⟨k, by omega, by go_num, hn⟩
        case measure => simp [intOf]
      · have h0' : ((l[k]?.getD 0) == 0) = false := by simp [h0]
        have HL : Hid ((nrm l).length = k + 1) := by
          show _ = _
          rw [← hn.out, nrm_take1 l k (by have := Hl.out; omega) h0]; have := Hl.out; simp; omega
        clear hn h0
        go_wp2
        go_ret
        exact ⟨ret_sl HL.out.symm, rfl⟩
def zeros (n : Nat) : List Int := List.replicate n 0
theorem zeros_length (n : Nat) : (zeros n).length = n := by simp [zeros]
theorem wfL_zeros (n : Nat) : wfL (zeros n) := by intro a h; have := (List.mem_replicate.1 h).2; rw [this]; exact u0
theorem val_zeros (n : Nat) : val (zeros n) = 0 := by
  unfold zeros
  induction n with
  | zero => rfl
  | succ n ih => rw [List.replicate_succ]; simp [val, ih]
theorem run_makeW (n c : Nat) (lo hi : Int) (hlo : lo = n) (hhi : hi = c) (h : n ≤ c) (hc : c ≤ 1099511627776) (w : World) :
    (Instr.makeSlice 105 (.int .i64 lo) (.int .i64 hi)).run Tryz.prog w = .ok (.slice (some ⟨w.heap.size, 0, none⟩) n c) (w.alloc (blk (zeros c))) := by
  subst hlo; subst hhi
  have hp : (Tryz.prog.info? 104).map (fun i => (i.zero, i.size, i.bytes)) = some (some (.int .u64 0), 1, 8) := by kernel_rfl
  cases hq : Tryz.prog.info? 104 with
  | none => rw [hq] at hp; simp at hp
  | some i =>
    rw [hq] at hp
    simp only [Option.map_some, Option.some.injEq, Prod.mk.injEq] at hp
    have := run_make (P := Tryz.prog) w 105 104 i (.int .u64 0) und88 hq hp.1 .i64 .i64 (n : Int) (c : Int) (by omega) (by omega) (by rw [hp.2.2]; omega) (by omega)
    rw [this]
    have e : Obj.cells (madeCells (Value.int .u64 0).cells ((c : Int).toNat * i.size)) 104 = blk (zeros c) := by
      rw [hp.2.1, Int.toNat_natCast, Nat.mul_one]
      have h1 := toList_madeCells_one (Value.int .u64 0) c
      have h2 : madeCells #[Value.int .u64 0] c = (List.replicate c (Value.int .u64 0)).toArray := by rw [← h1]
      show Obj.cells (madeCells #[Value.int .u64 0] c) _ = _
      rw [h2]; simp [blk, zeros]
    rw [e]
    simp only [Int.toNat_natCast]
theorem make_fit (b n m cap : Nat) (w : World) (h : n ≤ cap) (hc : cap ≤ 9223372036854775807) :
    Calls Tryz.prog 145 #[.slice (some ⟨b, 0, none⟩) m cap, .int .i64 n] w fun e w' => e = .returned (.slice (some ⟨b, 0, none⟩) n cap) ∧ w = w' := by
  go_enter Tryz.func145, Tryz.ntmps145
  go_wp2
  go_ret
  exact ⟨rfl, rfl⟩
def capOf (n : Nat) : Nat := if n = 1 then 1 else n + 4
theorem make_new (a : Option Addr) (n m cap : Nat) (w : World) (h : cap < n) (hn : n ≤ 1000000000000) :
    Calls Tryz.prog 145 #[.slice a m cap, .int .i64 n] w fun e w' => e = .returned (.slice (some ⟨w.heap.size, 0, none⟩) n (capOf n)) ∧ w' = w.alloc (blk (zeros (capOf n))) := by
  have hk := run_makeW 1 1 1 1 rfl rfl (by omega) (by omega)
  have hk2 := run_makeW n (n + 4) (n : Int) ((n : Int) + 4) rfl (by omega) (by omega) (by omega)
  by_cases h1 : n = 1
  · subst h1
    clear hk2
    go_enter Tryz.func145, Tryz.ntmps145
    go_wp2
    go_ret
    exact ⟨rfl, rfl⟩
  · have h1' : ((n : Int) == 1) = false := by simp; omega
    have e1 : Hid (capOf n = n + 4) := by show _ = _; unfold capOf; rw [if_neg h1]
    clear hk
    go_enter Tryz.func145, Tryz.ntmps145
    go_wp2
    go_ret
    exact ⟨by rw [e1.out]; rfl, by rw [e1.out]⟩
end Go.Proofs.YtjcfacinlgogaaaGreatDoor
namespace Go.Proofs.YtjcfacinlgogaaaGreatDoor
open Go.RowKit
structure NatRes (w w' : World) (zb : Option Nat) (v : Value) (l : List Int) : Prop where
  grown : w.grownBy w' zb
  nat : IsNat w' v l
  own : ∀ k, v.ownBlock = some k → some k = zb ∨ w.heap.size ≤ k
structure Made (w w' : World) (z : Value) (b cap : Nat) (L : List Int) : Prop where
  here : w'.heap[b]? = some (blk L)
  len : L.length = cap
  most : cap ≤ 9223372036854775807
  grown : w.grownBy w' none
  own : z.ownBlock = some b ∨ w.heap.size ≤ b
theorem grown_trans {w w1 w2 : World} {r : Option Nat} (h : w.grownBy w1 r) (k : w1.grownBy w2 r) : w.grownBy w2 r :=
  ⟨k.os.trans h.os, k.tape.trans h.tape, k.output.trans h.output, Nat.le_trans h.size k.size, fun i hi hr => (k.block i (Nat.lt_of_lt_of_le hi h.size) hr).trans (h.block i hi hr)⟩
theorem grown_weak {w w1 : World} {r : Option Nat} (h : w.grownBy w1 none) : w.grownBy w1 r := ⟨h.os, h.tape, h.output, h.size, fun i hi _ => h.block i hi (by simp)⟩
theorem grown_refl (w : World) (r : Option Nat) : w.grownBy w r := ⟨rfl, rfl, rfl, Nat.le_refl _, fun _ _ _ => rfl⟩
theorem grown_drewN (w : World) (n : Nat) : w.grownBy (w.drewN n) none := ⟨rfl, rfl, rfl, Nat.le_refl _, fun _ _ _ => rfl⟩
theorem grown_own {w w1 w2 : World} {zb : Option Nat} {b : Nat} (h : w.grownBy w1 zb) (k : w1.grownBy w2 (some b)) (ho : some b = zb ∨ w.heap.size ≤ b) : w.grownBy w2 zb :=
  ⟨k.os.trans h.os, k.tape.trans h.tape, k.output.trans h.output, Nat.le_trans h.size k.size, fun i hi hr => (k.block i (Nat.lt_of_lt_of_le hi h.size) (by
    intro e; injection e with e; rcases ho with ho | ho
    · rw [← e] at ho; exact hr ho
    · omega)).trans (h.block i hi hr)⟩
theorem IsNat.grown {w w1 : World} {r : Option Nat} {v : Value} {l : List Int} (h : IsNat w v l) (g : w.grownBy w1 r) (hr : v.ownBlock = none ∨ v.ownBlock ≠ r) : IsNat w1 v l := by
  rcases h with h | ⟨b, cap, M, rfl, hb, hc, hm⟩
  · exact .inl h
  · refine .inr ⟨b, cap, M, rfl, ?_, hc, hm⟩
    rw [g.block b (Array.getElem?_eq_some_iff.1 hb).1 (by rcases hr with hr | hr <;> simpa [Value.ownBlock] using hr)]
    exact hb
theorem IsNat.grown0 {w w1 : World} {v : Value} {l : List Int} (h : IsNat w v l) (g : w.grownBy w1 none) : IsNat w1 v l :=
  h.grown g (by rcases h with ⟨rfl, _⟩ | ⟨b, cap, M, rfl, _⟩ <;> simp [Value.ownBlock])
theorem IsNat.lt {w : World} {v : Value} {l : List Int} (h : IsNat w v l) : ∀ k, v.ownBlock = some k → k < w.heap.size := by
  intro k hk
  rcases h with ⟨rfl, _⟩ | ⟨b, cap, M, rfl, hb, _⟩
  · simp [Value.ownBlock] at hk
  · simp [Value.ownBlock] at hk; subst hk; exact (Array.getElem?_eq_some_iff.1 hb).1
theorem IsNat.nil (w : World) : IsNat w (.slice none 0 0) [] := .inl ⟨rfl, rfl⟩
theorem Made.res {w w1 w2 : World} {z : Value} {b cap : Nat} {L L2 l : List Int} (h : Made w w1 z b cap L) (u : Upd w1 w2 b L2) (hl : L2.length = L.length) (hc : l.length ≤ cap) (ht : L2.take l.length = l) :
    NatRes w w2 z.ownBlock (.slice (some ⟨b, 0, none⟩) l.length cap) l := by
  refine ⟨grown_own (grown_weak h.grown) u.grown (by rcases h.own with o | o; exact .inl o.symm; exact .inr o), ?_, ?_⟩
  · refine .inr ⟨b, cap, L2.drop l.length, rfl, ?_, ?_, h.most⟩
    · have e : l ++ L2.drop l.length = L2 := by
        have := List.take_append_drop l.length L2
        rw [ht] at this; exact this
      rw [e]; exact u.here
    · simp only [List.length_drop]; have := h.len; omega
  · intro k hk
    simp [Value.ownBlock] at hk; subst hk
    rcases h.own with o | o
    · exact .inl o.symm
    · exact .inr o
theorem capOf_le {n : Nat} (h1 : 1 ≤ n) (h : n ≤ 1000000000000) : n ≤ capOf n ∧ capOf n ≤ 9223372036854775807 := by unfold capOf; split <;> omega
theorem make_any {w : World} {z : Value} {lz : List Int} (hz : IsNat w z lz) (n : Nat) (h1 : 1 ≤ n) (hn : n ≤ 1000000000000) :
    Calls Tryz.prog 145 #[z, .int .i64 n] w fun e w' => ∃ b cap L, e = .returned (.slice (some ⟨b, 0, none⟩) n cap) ∧ n ≤ cap ∧ Made w w' z b cap L := by
  have hnew : ∀ a m cap, cap < n → Calls Tryz.prog 145 #[.slice a m cap, .int .i64 n] w fun e w' => ∃ b cap' L, e = .returned (.slice (some ⟨b, 0, none⟩) n cap') ∧ n ≤ cap' ∧ Made w w' (.slice a m cap) b cap' L := by
    intro a m cap hlt
    refine (make_new a n m cap w hlt hn).mono ?_
    rintro e w' ⟨rfl, rfl⟩
    obtain ⟨c1, c2⟩ := capOf_le h1 hn
    exact ⟨_, _, _, rfl, c1, heap_alloc_new w _, zeros_length _, c2, World.grownBy_alloc w _ none, .inr (Nat.le_refl _)⟩
  rcases hz with ⟨rfl, rfl⟩ | ⟨b, cap, M, rfl, hb, hc, hm⟩
  · exact hnew none 0 0 (by omega)
  · by_cases h : n ≤ cap
    · refine (make_fit b n lz.length cap w h hm).mono ?_
      rintro e w' ⟨rfl, rfl⟩
      exact ⟨b, cap, lz ++ M, rfl, h, hb, by simp; omega, hm, grown_refl _ _, .inl rfl⟩
    · exact hnew _ _ _ (by omega)
theorem run_slice0 {P : Program} {T e : TypeId} (hT : P.underlying T = some (.slice e)) (hs : (P.info? e).map (·.size) = some 1) (b n c : Nat) (wx : World) :
    (Instr.slice T (.slice (some ⟨b, 0, none⟩) n c) none (some (.int .i64 0)) none).run P wx = .ok (.slice (some ⟨b, 0, none⟩) 0 c) wx := by
  cases hq : P.info? e with
  | none => simp [hq] at hs
  | some i =>
    simp [Instr.slice, Instr.sliceBounds, Instr.sliceBound, run_underlying hT, sizeOf, typeInfo, hq, asIntOf]
    intro _; simp [Addr.add]
theorem res_zero {w : World} {z : Value} {lz : List Int} (hz : IsNat w z lz) : ∃ v, (∀ wx, (Instr.slice 105 z none (some (.int .i64 0)) none).run Tryz.prog wx = .ok v wx) ∧ NatRes w w z.ownBlock v [] := by
  rcases hz with ⟨rfl, rfl⟩ | ⟨b, cap, M, rfl, hb, hc, hm⟩
  · exact ⟨.slice none 0 0, fun wx => by kernel_rfl, grown_refl _ _, IsNat.nil w, by intro k hk; simp [Value.ownBlock] at hk⟩
  · refine ⟨.slice (some ⟨b, 0, none⟩) 0 cap, run_slice0 und88 siz87 b _ cap, grown_refl _ _, .inr ⟨b, cap, lz ++ M, rfl, hb, by simp; omega, hm⟩, by intro k hk; left; exact hk.symm⟩
theorem setWord_any {w : World} {z : Value} {lz : List Int} (hz : IsNat w z lz) (x : Int) :
    Calls Tryz.prog 171 #[z, .int .u64 x] w fun e w' => ∃ v, e = .returned v ∧ NatRes w w' z.ownBlock v (nrm [x]) := by
  by_cases h0 : x = 0
  · subst h0
    obtain ⟨v, hv, hres⟩ := res_zero hz
    have HR := Hq0 hres
    clear hres hz
    go_enter Tryz.func171, Tryz.ntmps171
    go_wp2
    go_ret
    exact ⟨_, rfl, HR.out⟩
  · have h0' : (x == 0) = false := by simp [h0]
    have en : Hid (nrm [x] = [x]) := by show _ = _; simp [nrm, h0]
    have Hz := Hq0 hz
    clear h0 hz
    go_enter Tryz.func171, Tryz.ntmps171
    go_wp2_with (fail)
    refine (make_any Hz.out 1 (Nat.le_refl _) (by omega)).mono ?_
    rintro e w1 ⟨b, cap, L, rfl, hc, hm⟩
    have g1 := cell_blk hm.here 0 (by have := hm.len; omega)
    have g2 := frozen_blk hm.here 0
    have HM := Hq0 hm
    clear hm
    go_wp2
    go_ret
    refine ⟨_, rfl, ?_⟩
    rw [en.out]
    have hu := (Upd.refl HM.out.here).set 0 x
    refine Made.res (l := [x]) HM.out hu (by simp) (by simpa using hc) ?_
    have := HM.out.len
    cases L with
    | nil => simp at this; omega
    | cons a L => simp
end Go.Proofs.YtjcfacinlgogaaaGreatDoor
namespace Go.Proofs.YtjcfacinlgogaaaGreatDoor
open Go.RowKit
theorem make_zero {w : World} {z : Value} {lz : List Int} (hz : IsNat w z lz) :
    Calls Tryz.prog 145 #[z, .int .i64 0] w fun e w' => ∃ v, e = .returned v ∧ w = w' ∧ NatRes w w z.ownBlock v [] := by
  rcases hz with ⟨rfl, rfl⟩ | ⟨b, cap, M, rfl, hb, hc, hm⟩
  · have hr : NatRes w w (Value.slice none 0 0).ownBlock (.slice none 0 0) [] := ⟨grown_refl _ _, IsNat.nil w, by intro k hk; simp [Value.ownBlock] at hk⟩
    have HR := Hq0 hr
    clear hr
    have hv : ∀ wx, (Instr.slice 105 (.slice none 0 0) none (some (.int .i64 0)) none).run Tryz.prog wx = .ok (.slice none 0 0) wx := fun wx => by kernel_rfl
    go_enter Tryz.func145, Tryz.ntmps145
    go_wp2
    go_ret
    exact ⟨_, rfl, rfl, HR.out⟩
  · have hr : NatRes w w (Value.slice (some ⟨b, 0, none⟩) lz.length cap).ownBlock (.slice (some ⟨b, 0, none⟩) 0 cap) [] :=
      ⟨grown_refl _ _, .inr ⟨b, cap, lz ++ M, rfl, hb, by simp; omega, hm⟩, by intro k hk; left; exact hk.symm⟩
    have HR := Hq0 hr
    clear hr hb hc
    refine (make_fit b 0 lz.length cap w (by omega) hm).mono ?_
    rintro e w' ⟨rfl, rfl⟩
    exact ⟨_, rfl, rfl, HR.out⟩
theorem IsNat.at_ {w : World} {b cap : Nat} {l M : List Int} (hb : w.heap[b]? = some (blk (l ++ M))) : At w b 0 l :=
  At.of_blk hb l (by simp) (fun i hi => by rw [Nat.zero_add, List.getElem?_append_left hi])
theorem IsNat.split {w : World} {v : Value} {l : List Int} (h : IsNat w v l) (hl : l ≠ []) : ∃ b cap M, v = .slice (some ⟨b, 0, none⟩) l.length cap ∧ w.heap[b]? = some (blk (l ++ M)) ∧ l.length ≤ cap ∧ cap ≤ 9223372036854775807 ∧ At w b 0 l ∧ v.ownBlock = some b := by
  rcases h with ⟨_, h⟩ | ⟨b, cap, M, rfl, hb, hc, hm⟩
  · exact absurd h hl
  · exact ⟨b, cap, M, rfl, hb, by omega, hm, IsNat.at_ (cap := cap) hb, rfl⟩
theorem At.grown {w w1 : World} {b o : Nat} {X : List Int} (h : At w b o X) (g : w.grownBy w1 none) (hb : b < w.heap.size) : At w1 b o X := by
  intro i hi
  rw [World.cell?_of_block (w := w) (w' := w1) (a := ⟨b, o + i, none⟩) (g.block b hb (by simp))]; exact h i hi
theorem spl_take (L X : List Int) (h : X.length ≤ L.length) : (spl L 0 X).take X.length = X := by
  unfold spl; simp
theorem set_any {w : World} {z x : Value} {lz lx : List Int} (hz : IsNat w z lz) (hx : IsNat w x lx) (hn : lx.length ≤ 1000000000000) :
    Calls Tryz.prog 137 #[z, x] w fun e w' => ∃ v, e = .returned v ∧ NatRes w w' z.ownBlock v lx := by
  by_cases h0 : lx = []
  · subst h0
    obtain ⟨xa, xc, rfl⟩ : ∃ xa xc, x = .slice xa 0 xc := by
      rcases hx with ⟨rfl, _⟩ | ⟨b, cap, M, rfl, _⟩
      · exact ⟨none, 0, rfl⟩
      · exact ⟨some ⟨b, 0, none⟩, cap, rfl⟩
    have Hz := Hq0 hz
    clear hz hx
    go_enter Tryz.func137, Tryz.ntmps137
    go_wp2_with (fail)
    refine (make_zero Hz.out).mono ?_
    rintro e w1 ⟨v, rfl, rfl, hres⟩
    obtain ⟨va, vc, rfl⟩ : ∃ va vc, v = .slice va 0 vc := by
      rcases hres.nat with ⟨rfl, _⟩ | ⟨b, cap, M, rfl, _⟩
      · exact ⟨none, 0, rfl⟩
      · exact ⟨some ⟨b, 0, none⟩, cap, rfl⟩
    have HR := Hq0 hres
    clear hres
    go_wp2_with (with_reducible refine wpList_copy_nothing rfl (.tmp 9) (.tmp 10) 105 105 rfl 104 und88 siz87 _ _ _ _ _ _ rfl rfl rfl ?_)
    go_ret
    exact ⟨_, rfl, HR.out⟩
  · obtain ⟨b, cap, M, rfl, hb, hc, hm, hat, hown⟩ := hx.split h0
    have hl1 : 1 ≤ lx.length := by cases lx with | nil => exact absurd rfl h0 | cons a l => simp
    have Hz := Hq0 hz; have Hb := Hq0 hb; have Hat := Hq0 hat
    clear hz hb hat hown h0
    go_enter Tryz.func137, Tryz.ntmps137
    go_wp2_with (fail)
    refine (make_any Hz.out lx.length hl1 hn).mono ?_
    rintro e w1 ⟨b1, cap1, L, rfl, hc1, hmade⟩
    have HM := Hq0 hmade
    clear hmade
    go_wp2_with (with_reducible refine wpList_copy_w rfl (.tmp 9) (.tmp 10) 105 105 rfl 104 und88 siz87 _ _ _ _ _ _ rfl rfl b1 0 L lx HM.out.here (by simp) (fun _ => ⟨rfl, b, 0, rfl, Hat.out.grown HM.out.grown (Array.getElem?_eq_some_iff.1 Hb.out).1⟩) (by have := HM.out.len; omega) ?_)
    intro w2 hu2
    have HU := Hq0 hu2
    clear hu2
    go_wp2
    go_ret
    exact ⟨_, rfl, HM.out.res HU.out (spl_length _ _ _ (by have := HM.out.len; omega)) hc1 (spl_take _ _ (by have := HM.out.len; omega))⟩
end Go.Proofs.YtjcfacinlgogaaaGreatDoor
