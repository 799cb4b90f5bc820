/- A number and a word, added and subtracted, onto other memory. Conditions as in the text before. A number and a word, subtracted. Conditions as in the text before. -/
import Derived.Test.YtndphemomhcjlaaGreatDoorQ04
import Derived.IntWalk
set_option linter.all false

namespace Go.Proofs.YtndphemomhcjlaaGreatDoor
open Go.RowKit

set_option maxRecDepth 100000 in
theorem addVW_other (bz oz bx ox n cz cx : Nat) (L X : List Int) (y : Int) (w : World) (hn : n ≤ 9223372036854775807) (h1 : 1 ≤ n) (hz : w.heap[bz]? = some (blk L)) (hl : oz + n ≤ L.length)
    (hX : At w bx ox X) (nx : bx ≠ bz) (hcz : n ≤ cz) (hcx : n ≤ cx) (hB : ∃ M, w.heap[bx]? = some (blk M)) (lx : X.length = n) (wx : wfL X) (hy : U64 y) :
    Calls Tryz.prog 198 #[.slice (some ⟨bz, oz, none⟩) n cz, .slice (some ⟨bx, ox, none⟩) n cx, .int .u64 y] w fun e w' =>
      ∃ c, e = .returned (.int .u64 c) ∧ VRel (VWF X y n) w bz oz L n c w' := by
  have HX := Lib.hid hX; have Hl := Lib.hid hl; have Hz := Lib.hid hz; have Lx := Lib.hid lx
  have hu0 := Upd.refl hz
  have g1 := hX 0 (by omega)
  have g3 := cell_blk hz oz (by omega)
  have g4 := frozen_blk hz oz
  rw [Nat.add_zero] at g1
  have u1 := getD_u64 wx 0 (by omega)
  have H1 : Hid (VRel (VWF X y 1) w bz oz L 1 (ahi (X[0]?.getD 0) y 0) ((w.drewN 0).setCell ⟨bz, oz + 0, none⟩ (.int .u64 (alo (X[0]?.getD 0) y 0)))) :=
    VRel.step (.start hz (F := fun v c => v = 0) (c := 0) rfl) (by omega) (alo_u _ _ _) (fun v h => by subst h; exact VWF.one (by omega) wx hy) 0
  clear hX hl hz lx
  generalize X[0]?.getD 0 = x0 at *
  generalize L[oz]?.getD 0 = z0 at *
  have hb0 : 0 < n := by omega
  obtain ⟨M, hM⟩ := hB
  have hne : ∀ nq, (binOp .neq 145 (.pointer (some ⟨bz, oz, none⟩)) (.pointer (some ⟨bx, ox, none⟩))).run Tryz.prog ((w.setCell ⟨bz, oz, none⟩ (.int .u64 (alo x0 y 0))).drewN nq) = .ok (.bool true) ((w.setCell ⟨bz, oz, none⟩ (.int .u64 (alo x0 y 0))).drewN nq) := by
    intro nq
    have hu1 := ((Upd.refl Hz.out).set oz (alo x0 y 0)).drewN nq
    exact neq_other (by intro h; injection h with h; exact nx h.symm) hu1.here ((hu1.block bx nx).trans hM)
  have hs1 := run_slice_from (P := Tryz.prog) und86 siz87 bz oz n cz 1 1 rfl h1
  have hs2 := run_slice_from (P := Tryz.prog) und86 siz87 bx ox n cx 1 1 rfl h1
  go_enter Tryz.func198, Tryz.ntmps198
  go_wp2_with (go_at_call 229; refine (bits_Add _ _ _ _ u1 hy bit0).mono ?_; rintro e w' ⟨rfl, rfl⟩)
  · have hc : ahi x0 y 0 = 0 := by simpa using (by assumption : (ahi x0 y 0 == 0) = true)
    go_quiet (fail)
    go_wp2_with (fail)
    go_still_tail 4, (by kernel_rfl)
    change wpList _ _ _ _ _ (World.drew _)
    obtain ⟨M1, hM1, lM1⟩ := H1.out.here (by have := Hl.out; omega)
    refine wpList_copy_w rfl (.tmp 40) (.tmp 42) 86 86 rfl 87 und86 siz87 _ _ _ _ _ _ rfl rfl bz (oz + 1) M1 (X.drop 1) hM1 (by have := Lx.out; simp; omega) ?hpos (by have := Lx.out; have := Hl.out; simp; omega) ?_
    case hpos =>
      intro hp
      have := Lx.out; simp at hp
      exact ⟨by rw [adv_lt (by omega)], bx, ox + 1, by rw [adv_lt (by omega)], HX.out.drop 1 (H1.out.other nx)⟩
    intro w2 hu2
    have HF : Hid (VRel (VWF X y n) w bz oz L n 0 w2) := by
      have := Lx.out; have := Hl.out
      have h2 := H1.out; rw [hc] at h2
      refine h2.upd' (R := X.drop 1) (M := M1) (by simp; omega) (by omega) (wfL_drop wx _) hM1 ⟨hu2.os, hu2.tape, hu2.output, hu2.size, hu2.here, hu2.block⟩ (fun v h => by have := h.rest (by omega); rw [← Lx.out]; exact this)
    clear hu2
    go_wp2
    go_ret
    exact ⟨_, rfl, HF.out⟩
  · have hc : ahi x0 y 0 = 1 := by
      have h1 : (ahi x0 y 0 == 0) = false := by assumption
      have h2 := ahi_b u1 hy bit0
      unfold Bit at h2; simp at h1; omega
    rw [hc] at H1
    clear hc g1 g4 hu0 hne hs1 hs2 g3
    go_loopw [9] (fun i wr => ∃ j : Nat, 1 ≤ j ∧ j ≤ n ∧ i = .int .i64 j ∧ VRel (VWF X y j) w bz oz L j 1 wr) (fun i _ => n - (intOf i).toNat)
    case atStart => exact ⟨1, Nat.le_refl _, h1, rfl, H1.out⟩
    case round =>
      obtain ⟨j, hj1, hj, rfl, hR⟩ := hrel
      have HR := Lib.hid hR
      clear hR H1
      by_cases hlt : j < n
      · have hl := Hl.out; have lx := Lx.out
        have g1 := HR.out.read HX.out (fun h => absurd h nx) Hz.out (by omega) (by omega)
        obtain ⟨zj, g3⟩ := HR.out.room (oz + j) (by omega) (by omega)
        have g4 := HR.out.free (oz + j)
        have uj := getD_u64 wx j (by omega)
        by_cases hmax : X[j]?.getD 0 = 18446744073709551615
        · have hn1 := Lib.hid (HR.out.step (F' := VWF X y (j + 1)) (by omega) u0 (fun v h => h.keep (by omega) hmax) 0)
          have hb : (X[j]?.getD 0 != 18446744073709551615) = false := by rw [hmax]; rfl
          clear hl lx uj hmax
          generalize X[j]?.getD 0 = xj at *
          go_wp2
          go_roundw
          case rel => exact ⟨j + 1, by omega, by omega, by go_num, hn1.out⟩
          case measure => simp [intOf]; omega
        · have hub : U64 (X[j]?.getD 0 + 1) := by unfold U64 B64 at *; omega
          have hn1 := HR.out.step (F' := VWF X y (j + 1)) (by omega) hub (fun v h => h.stop (by omega)) 0
          rw [← wrap_u64 hub] at hn1
          have HN := Lib.hid hn1
          have hb : (X[j]?.getD 0 != 18446744073709551615) = true := by simp [hmax]
          have hne : ∀ nq, (binOp .neq 145 (.pointer (some ⟨bz, oz, none⟩)) (.pointer (some ⟨bx, ox, none⟩))).run Tryz.prog ((wr.setCell ⟨bz, oz + j, none⟩ (.int .u64 (IntKind.u64.wrap (X[j]?.getD 0 + 1)))).drewN nq) = .ok (.bool true) ((wr.setCell ⟨bz, oz + j, none⟩ (.int .u64 (IntKind.u64.wrap (X[j]?.getD 0 + 1)))).drewN nq) := by
            intro nq
            obtain ⟨M1, hM1, lM1⟩ := HN.out.here (by omega)
            exact neq_other (by intro h; injection h with h; exact nx h.symm) hM1 ((HN.out.other nx).trans hM)
          have hs1 := run_slice_from (P := Tryz.prog) und86 siz87 bz oz n cz (j + 1) ((j : Int) + 1) (by omega) (by omega)
          have hs2 := run_slice_from (P := Tryz.prog) und86 siz87 bx ox n cx (j + 1) ((j : Int) + 1) (by omega) (by omega)
          have hj1w : IntKind.i64.wrap ((j : Int) + 1) = (j : Int) + 1 := IntWalk.i64_in _ (by omega)
          clear hl lx uj hmax hn1
          generalize X[j]?.getD 0 = xj at *
          go_wp2
          go_quiet (fail)
          go_wp2_with (fail)
          go_still_tail 8, (by kernel_rfl)
          change wpList _ _ _ _ _ (World.drew _)
          obtain ⟨M1, hM1, lM1⟩ := HN.out.here (by have := Hl.out; omega)
          refine wpList_copy_w rfl (.tmp 69) (.tmp 73) 86 86 rfl 87 und86 siz87 _ _ _ _ _ _ rfl rfl bz (oz + (j + 1)) M1 (X.drop (j + 1)) hM1 (by have := Lx.out; simp; omega) ?hpos (by have := Lx.out; have := Hl.out; simp; omega) ?_
          case hpos =>
            intro hp
            have := Lx.out; simp at hp
            exact ⟨by rw [adv_lt (by omega)], bx, ox + (j + 1), by rw [adv_lt (by omega)], HX.out.drop (j + 1) (HN.out.other nx)⟩
          intro w2 hu2
          have HF : Hid (VRel (VWF X y n) w bz oz L n 0 w2) := by
            have := Lx.out; have := Hl.out
            refine HN.out.upd' (R := X.drop (j + 1)) (M := M1) (by simp; omega) (by omega) (wfL_drop wx _) hM1 ⟨hu2.os, hu2.tape, hu2.output, hu2.size, hu2.here, hu2.block⟩ (fun v h => by have := h.rest (by omega); rw [← Lx.out]; exact this)
          clear hu2
          go_wp2
          go_ret
          exact ⟨_, rfl, HF.out⟩
      · obtain rfl : j = n := by omega
        go_wp2
        go_ret
        exact ⟨_, rfl, HR.out⟩
end Go.Proofs.YtndphemomhcjlaaGreatDoor

namespace Go.Proofs.YtndphemomhcjlaaGreatDoor
open Go.RowKit

theorem umax : U64 18446744073709551615 := by unfold U64 B64; omega
theorem VWS.rest {X : List Int} {y v : Int} {j : Nat} (hj : j ≤ X.length) (h : VWS X y j v 0) : VWS X y X.length (v + B64 ^ j * val (X.drop j)) 0 := by
  refine ⟨bit0, ?_⟩
  have := h.2
  rw [List.take_length, val_split X j hj]; grind
theorem VWS.one {X : List Int} {y : Int} (h : 0 < X.length) (wx : wfL X) (hy : U64 y) : VWS X y 1 (0 + B64 ^ 0 * slo (X[0]?.getD 0) y 0) (shi (X[0]?.getD 0) y 0) := by
  refine ⟨shi_b _ _ _, ?_⟩
  have h1 := slo_shi (getD_u64 wx 0 h) hy bit0
  have h2 := val_take_succ X 0 h
  rw [h2]; simp [val]; grind
theorem VWS.keep {X : List Int} {y v : Int} {j : Nat} (hj : j < X.length) (hx : X[j]?.getD 0 = 0) (h : VWS X y j v 1) : VWS X y (j + 1) (v + B64 ^ j * 18446744073709551615) 1 := by
  refine ⟨bit1, ?_⟩
  have := h.2
  rw [val_take_succ X j hj, hx, Int.pow_succ]
  have : B64 = 18446744073709551615 + 1 := rfl
  grind
theorem VWS.stop {X : List Int} {y v : Int} {j : Nat} (hj : j < X.length) (h : VWS X y j v 1) : VWS X y (j + 1) (v + B64 ^ j * (X[j]?.getD 0 - 1)) 0 := by
  refine ⟨bit0, ?_⟩
  have := h.2
  rw [val_take_succ X j hj, Int.pow_succ]
  grind

set_option maxRecDepth 100000 in
theorem subVW_same (bz oz n cz cx : Nat) (L X : List Int) (y : Int) (w : World) (hn : n ≤ 9223372036854775807) (h1 : 1 ≤ n) (hz : w.heap[bz]? = some (blk L)) (hl : oz + n ≤ L.length)
    (hX : At w bz oz X) (lx : X.length = n) (wx : wfL X) (hy : U64 y) :
    Calls Tryz.prog 187 #[.slice (some ⟨bz, oz, none⟩) n cz, .slice (some ⟨bz, oz, none⟩) n cx, .int .u64 y] w fun e w' =>
      ∃ c, e = .returned (.int .u64 c) ∧ VRel (VWS X y n) w bz oz L n c w' := by
  have HX := Lib.hid hX; have Hl := Lib.hid hl; have Hz := Lib.hid hz; have Lx := Lib.hid lx
  have hu0 := Upd.refl hz
  have g1 := hX 0 (by omega)
  have g3 := cell_blk hz oz (by omega)
  have g4 := frozen_blk hz oz
  rw [Nat.add_zero] at g1
  have u1 := getD_u64 wx 0 (by omega)
  have H1 : Hid (VRel (VWS X y 1) w bz oz L 1 (shi (X[0]?.getD 0) y 0) ((w.drewN 0).setCell ⟨bz, oz + 0, none⟩ (.int .u64 (slo (X[0]?.getD 0) y 0)))) :=
    VRel.step (.start hz (F := fun v c => v = 0) (c := 0) rfl) (by omega) (slo_u _ _ _) (fun v h => by subst h; exact VWS.one (by omega) wx hy) 0
  clear hX hl hz lx
  generalize X[0]?.getD 0 = x0 at *
  generalize L[oz]?.getD 0 = z0 at *
  have hz0 : x0 = z0 := by rw [g1] at g3; simpa using g3
  subst hz0
  clear g3
  have hb0 : 0 < n := by omega
  have hne := neq_same ⟨bz, oz, none⟩
  go_enter Tryz.func187, Tryz.ntmps187
  go_wp2_with (go_at_call 223; refine (bits_Sub _ _ _ _ u1 hy bit0).mono ?_; rintro e w' ⟨rfl, rfl⟩)
  · have hc : shi x0 y 0 = 0 := by simpa using (by assumption : (shi x0 y 0 == 0) = true)
    have HF : Hid (VRel (VWS X y n) w bz oz L n 0 ((w.drewN 0).setCell ⟨bz, oz + 0, none⟩ (.int .u64 (slo x0 y 0)))) := by
      have := Lx.out; have := Hl.out
      have h2 := H1.out; rw [hc] at h2
      have h3 := h2.rest (F' := VWS X y n) HX.out Hz.out (by omega) (by omega) wx (fun v h => by rw [← Lx.out]; exact h.rest (by omega))
      rw [Lx.out] at h3; exact h3
    clear hc H1
    go_wp2_with (fail)
    go_quiet (fail)
    go_wp2
    go_ret
    exact ⟨_, rfl, HF.out.drewN _⟩
  · have hc : shi x0 y 0 = 1 := by
      have h1 : (shi x0 y 0 == 0) = false := by assumption
      have h2 := shi_b x0 y 0
      unfold Bit at h2; simp at h1; omega
    rw [hc] at H1
    clear hc g1 g4 hu0
    go_loopw [9] (fun i wr => ∃ j : Nat, 1 ≤ j ∧ j ≤ n ∧ i = .int .i64 j ∧ VRel (VWS X y j) w bz oz L j 1 wr) (fun i _ => n - (intOf i).toNat)
    case atStart => exact ⟨1, Nat.le_refl _, h1, rfl, H1.out⟩
    case round =>
      obtain ⟨j, hj1, hj, rfl, hR⟩ := hrel
      have HR := Lib.hid hR
      clear hR H1
      by_cases hlt : j < n
      · have hl := Hl.out; have lx := Lx.out
        have g1 := HR.out.read HX.out (fun _ => rfl) Hz.out (by omega) (by omega)
        obtain ⟨zj, g3⟩ := HR.out.room (oz + j) (by omega) (by omega)
        have g4 := HR.out.free (oz + j)
        have gx := g1
        rw [g3] at gx
        simp only [Option.some.injEq, Value.int.injEq, true_and] at gx
        subst gx
        have uj := getD_u64 wx j (by omega)
        by_cases hmax : X[j]?.getD 0 = 0
        · have hn1 := Lib.hid (HR.out.step (F' := VWS X y (j + 1)) (by omega) umax (fun v h => h.keep (by omega) hmax) 0)
          have hb : (X[j]?.getD 0 != 0) = false := by rw [hmax]; rfl
          clear hl lx g3 uj hmax
          generalize X[j]?.getD 0 = xj at *
          go_wp2
          go_roundw
          case rel => exact ⟨j + 1, by omega, by omega, by go_num, hn1.out⟩
          case measure => simp [intOf]; omega
        · have hub : U64 (X[j]?.getD 0 - 1) := by unfold U64 B64 at *; omega
          have hn1 := HR.out.step (F' := VWS X y (j + 1)) (by omega) hub (fun v h => h.stop (by omega)) 0
          have h3 := hn1.rest (F' := VWS X y n) HX.out Hz.out (by omega) (by omega) wx (fun v h => by rw [← lx]; exact h.rest (by omega))
          rw [lx, ← wrap_u64 hub] at h3
          have HF := Lib.hid h3
          have hb : (X[j]?.getD 0 != 0) = true := by simp [hmax]
          have hz0 := Hz.out
          obtain ⟨z0, k3⟩ := HR.out.room oz (by omega) (by omega)
          clear hl lx g3 uj hmax h3 hn1 hz0
          generalize X[j]?.getD 0 = xj at *
          go_wp2
          go_quiet (fail)
          go_wp2
          go_ret
          exact ⟨_, rfl, HF.out.drewN _⟩
      · obtain rfl : j = n := by omega
        go_wp2
        go_ret
        exact ⟨_, rfl, HR.out⟩
set_option maxRecDepth 100000 in
theorem subVW_other (bz oz bx ox n cz cx : Nat) (L X : List Int) (y : Int) (w : World) (hn : n ≤ 9223372036854775807) (h1 : 1 ≤ n) (hz : w.heap[bz]? = some (blk L)) (hl : oz + n ≤ L.length)
    (hX : At w bx ox X) (nx : bx ≠ bz) (hcz : n ≤ cz) (hcx : n ≤ cx) (hB : ∃ M, w.heap[bx]? = some (blk M)) (lx : X.length = n) (wx : wfL X) (hy : U64 y) :
    Calls Tryz.prog 187 #[.slice (some ⟨bz, oz, none⟩) n cz, .slice (some ⟨bx, ox, none⟩) n cx, .int .u64 y] w fun e w' =>
      ∃ c, e = .returned (.int .u64 c) ∧ VRel (VWS X y n) w bz oz L n c w' := by
  have HX := Lib.hid hX; have Hl := Lib.hid hl; have Hz := Lib.hid hz; have Lx := Lib.hid lx
  have hu0 := Upd.refl hz
  have g1 := hX 0 (by omega)
  have g3 := cell_blk hz oz (by omega)
  have g4 := frozen_blk hz oz
  rw [Nat.add_zero] at g1
  have u1 := getD_u64 wx 0 (by omega)
  have H1 : Hid (VRel (VWS X y 1) w bz oz L 1 (shi (X[0]?.getD 0) y 0) ((w.drewN 0).setCell ⟨bz, oz + 0, none⟩ (.int .u64 (slo (X[0]?.getD 0) y 0)))) :=
    VRel.step (.start hz (F := fun v c => v = 0) (c := 0) rfl) (by omega) (slo_u _ _ _) (fun v h => by subst h; exact VWS.one (by omega) wx hy) 0
  clear hX hl hz lx
  generalize X[0]?.getD 0 = x0 at *
  generalize L[oz]?.getD 0 = z0 at *
  have hb0 : 0 < n := by omega
  obtain ⟨M, hM⟩ := hB
  have hne : ∀ nq, (binOp .neq 145 (.pointer (some ⟨bz, oz, none⟩)) (.pointer (some ⟨bx, ox, none⟩))).run Tryz.prog ((w.setCell ⟨bz, oz, none⟩ (.int .u64 (slo x0 y 0))).drewN nq) = .ok (.bool true) ((w.setCell ⟨bz, oz, none⟩ (.int .u64 (slo x0 y 0))).drewN nq) := by
    intro nq
    have hu1 := ((Upd.refl Hz.out).set oz (slo x0 y 0)).drewN nq
    exact neq_other (by intro h; injection h with h; exact nx h.symm) hu1.here ((hu1.block bx nx).trans hM)
  have hs1 := run_slice_from (P := Tryz.prog) und86 siz87 bz oz n cz 1 1 rfl h1
  have hs2 := run_slice_from (P := Tryz.prog) und86 siz87 bx ox n cx 1 1 rfl h1
  go_enter Tryz.func187, Tryz.ntmps187
  go_wp2_with (go_at_call 223; refine (bits_Sub _ _ _ _ u1 hy bit0).mono ?_; rintro e w' ⟨rfl, rfl⟩)
  · have hc : shi x0 y 0 = 0 := by simpa using (by assumption : (shi x0 y 0 == 0) = true)
    go_quiet (fail)
    go_wp2_with (fail)
    go_still_tail 4, (by kernel_rfl)
    change wpList _ _ _ _ _ (World.drew _)
    obtain ⟨M1, hM1, lM1⟩ := H1.out.here (by have := Hl.out; omega)
    refine wpList_copy_w rfl (.tmp 40) (.tmp 42) 86 86 rfl 87 und86 siz87 _ _ _ _ _ _ rfl rfl bz (oz + 1) M1 (X.drop 1) hM1 (by have := Lx.out; simp; omega) ?hpos (by have := Lx.out; have := Hl.out; simp; omega) ?_
    case hpos =>
      intro hp
      have := Lx.out; simp at hp
      exact ⟨by rw [adv_lt (by omega)], bx, ox + 1, by rw [adv_lt (by omega)], HX.out.drop 1 (H1.out.other nx)⟩
    intro w2 hu2
    have HF : Hid (VRel (VWS X y n) w bz oz L n 0 w2) := by
      have := Lx.out; have := Hl.out
      have h2 := H1.out; rw [hc] at h2
      refine h2.upd' (R := X.drop 1) (M := M1) (by simp; omega) (by omega) (wfL_drop wx _) hM1 ⟨hu2.os, hu2.tape, hu2.output, hu2.size, hu2.here, hu2.block⟩ (fun v h => by have := h.rest (by omega); rw [← Lx.out]; exact this)
    clear hu2
    go_wp2
    go_ret
    exact ⟨_, rfl, HF.out⟩
  · have hc : shi x0 y 0 = 1 := by
      have h1 : (shi x0 y 0 == 0) = false := by assumption
      have h2 := shi_b x0 y 0
      unfold Bit at h2; simp at h1; omega
    rw [hc] at H1
    clear hc g1 g4 hu0 hne hs1 hs2 g3
    go_loopw [9] (fun i wr => ∃ j : Nat, 1 ≤ j ∧ j ≤ n ∧ i = .int .i64 j ∧ VRel (VWS X y j) w bz oz L j 1 wr) (fun i _ => n - (intOf i).toNat)
    case atStart => exact ⟨1, Nat.le_refl _, h1, rfl, H1.out⟩
    case round =>
      obtain ⟨j, hj1, hj, rfl, hR⟩ := hrel
      have HR := Lib.hid hR
      clear hR H1
      by_cases hlt : j < n
      · have hl := Hl.out; have lx := Lx.out
        have g1 := HR.out.read HX.out (fun h => absurd h nx) Hz.out (by omega) (by omega)
        obtain ⟨zj, g3⟩ := HR.out.room (oz + j) (by omega) (by omega)
        have g4 := HR.out.free (oz + j)
        have uj := getD_u64 wx j (by omega)
        by_cases hmax : X[j]?.getD 0 = 0
        · have hn1 := Lib.hid (HR.out.step (F' := VWS X y (j + 1)) (by omega) umax (fun v h => h.keep (by omega) hmax) 0)
          have hb : (X[j]?.getD 0 != 0) = false := by rw [hmax]; rfl
          clear hl lx uj hmax
          generalize X[j]?.getD 0 = xj at *
          go_wp2
          go_roundw
          case rel => exact ⟨j + 1, by omega, by omega, by go_num, hn1.out⟩
          case measure => simp [intOf]; omega
        · have hub : U64 (X[j]?.getD 0 - 1) := by unfold U64 B64 at *; omega
          have hn1 := HR.out.step (F' := VWS X y (j + 1)) (by omega) hub (fun v h => h.stop (by omega)) 0
          rw [← wrap_u64 hub] at hn1
          have HN := Lib.hid hn1
          have hb : (X[j]?.getD 0 != 0) = true := by simp [hmax]
          have hne : ∀ nq, (binOp .neq 145 (.pointer (some ⟨bz, oz, none⟩)) (.pointer (some ⟨bx, ox, none⟩))).run Tryz.prog ((wr.setCell ⟨bz, oz + j, none⟩ (.int .u64 (IntKind.u64.wrap (X[j]?.getD 0 - 1)))).drewN nq) = .ok (.bool true) ((wr.setCell ⟨bz, oz + j, none⟩ (.int .u64 (IntKind.u64.wrap (X[j]?.getD 0 - 1)))).drewN nq) := by
            intro nq
            obtain ⟨M1, hM1, lM1⟩ := HN.out.here (by omega)
            exact neq_other (by intro h; injection h with h; exact nx h.symm) hM1 ((HN.out.other nx).trans hM)
          have hs1 := run_slice_from (P := Tryz.prog) und86 siz87 bz oz n cz (j + 1) ((j : Int) + 1) (by omega) (by omega)
          have hs2 := run_slice_from (P := Tryz.prog) und86 siz87 bx ox n cx (j + 1) ((j : Int) + 1) (by omega) (by omega)
          have hj1w : IntKind.i64.wrap ((j : Int) + 1) = (j : Int) + 1 := IntWalk.i64_in _ (by omega)
          clear hl lx uj hmax hn1
          generalize X[j]?.getD 0 = xj at *
          go_wp2
          go_quiet (fail)
          go_wp2_with (fail)
          go_still_tail 8, (by kernel_rfl)
          change wpList _ _ _ _ _ (World.drew _)
          obtain ⟨M1, hM1, lM1⟩ := HN.out.here (by have := Hl.out; omega)
          refine wpList_copy_w rfl (.tmp 69) (.tmp 73) 86 86 rfl 87 und86 siz87 _ _ _ _ _ _ rfl rfl bz (oz + (j + 1)) M1 (X.drop (j + 1)) hM1 (by have := Lx.out; simp; omega) ?hpos (by have := Lx.out; have := Hl.out; simp; omega) ?_
          case hpos =>
            intro hp
            have := Lx.out; simp at hp
            exact ⟨by rw [adv_lt (by omega)], bx, ox + (j + 1), by rw [adv_lt (by omega)], HX.out.drop (j + 1) (HN.out.other nx)⟩
          intro w2 hu2
          have HF : Hid (VRel (VWS X y n) w bz oz L n 0 w2) := by
            have := Lx.out; have := Hl.out
            refine HN.out.upd' (R := X.drop (j + 1)) (M := M1) (by simp; omega) (by omega) (wfL_drop wx _) hM1 ⟨hu2.os, hu2.tape, hu2.output, hu2.size, hu2.here, hu2.block⟩ (fun v h => by have := h.rest (by omega); rw [← Lx.out]; exact this)
          clear hu2
          go_wp2
          go_ret
          exact ⟨_, rfl, HF.out⟩
      · obtain rfl : j = n := by omega
        go_wp2
        go_ret
        exact ⟨_, rfl, HR.out⟩

theorem addVW (bz oz bx ox n cz cx : Nat) (L X M : List Int) (y : Int) (w : World) (hn : n ≤ 9223372036854775807) (h1 : 1 ≤ n) (hz : w.heap[bz]? = some (blk L)) (hl : oz + n ≤ L.length)
    (hX : At w bx ox X) (ax : bx = bz → ox = oz) (hcz : n ≤ cz) (hcx : n ≤ cx) (hB : w.heap[bx]? = some (blk M)) (lx : X.length = n) (wx : wfL X) (hy : U64 y) :
    Calls Tryz.prog 198 #[.slice (some ⟨bz, oz, none⟩) n cz, .slice (some ⟨bx, ox, none⟩) n cx, .int .u64 y] w fun e w' =>
      ∃ c, e = .returned (.int .u64 c) ∧ VRel (VWF X y n) w bz oz L n c w' := by
  by_cases h : bx = bz
  · have h2 := ax h; subst h; subst h2
    exact addVW_same bx ox n cz cx L X y w hn h1 hz hl hX lx wx hy
  · exact addVW_other bz oz bx ox n cz cx L X y w hn h1 hz hl hX h hcz hcx ⟨M, hB⟩ lx wx hy
theorem subVW (bz oz bx ox n cz cx : Nat) (L X M : List Int) (y : Int) (w : World) (hn : n ≤ 9223372036854775807) (h1 : 1 ≤ n) (hz : w.heap[bz]? = some (blk L)) (hl : oz + n ≤ L.length)
    (hX : At w bx ox X) (ax : bx = bz → ox = oz) (hcz : n ≤ cz) (hcx : n ≤ cx) (hB : w.heap[bx]? = some (blk M)) (lx : X.length = n) (wx : wfL X) (hy : U64 y) :
    Calls Tryz.prog 187 #[.slice (some ⟨bz, oz, none⟩) n cz, .slice (some ⟨bx, ox, none⟩) n cx, .int .u64 y] w fun e w' =>
      ∃ c, e = .returned (.int .u64 c) ∧ VRel (VWS X y n) w bz oz L n c w' := by
  by_cases h : bx = bz
  · have h2 := ax h; subst h; subst h2
    exact subVW_same bx ox n cz cx L X y w hn h1 hz hl hX lx wx hy
  · exact subVW_other bz oz bx ox n cz cx L X y w hn h1 hz hl hX h hcz hcx ⟨M, hB⟩ lx wx hy
end Go.Proofs.YtndphemomhcjlaaGreatDoor
