/- A number and a word, added and subtracted. Conditions as in the text before. -/
import Derived.Test.YtndphemomhcjlaaGreatDoorQ03
import Derived.LaidEqlPtr
set_option linter.all false

namespace Go.Proofs.YtndphemomhcjlaaGreatDoor
open Go.RowKit

theorem spl_self (M R : List Int) (o : Nat) (hl : o + R.length ≤ M.length) (h : ∀ i, i < R.length → M[o + i]?.getD 0 = R[i]?.getD 0) : spl M o R = M := by
  apply List.ext_getElem?
  intro k
  unfold spl
  by_cases h1 : k < o
  · rw [List.append_assoc, List.getElem?_append_left (by simp; omega), List.getElem?_take, if_pos h1]
  · by_cases h2 : k < o + R.length
    · rw [List.append_assoc, List.getElem?_append_right (by simp; omega), List.length_take, show k - min o M.length = k - o by omega, List.getElem?_append_left (by omega)]
      have := h (k - o) (by omega)
      rw [show o + (k - o) = k by omega] at this
      rw [List.getElem?_eq_getElem (by omega), List.getElem?_eq_getElem (by omega)] at *
      simpa using this.symm
    · rw [List.getElem?_append_right (by simp; omega), List.getElem?_drop]
      simp only [List.length_append, List.length_take]
      rw [show o + R.length + (k - (min o M.length + R.length)) = k by omega]

/-- what is left of X stands there already, if X is what is written over -/
theorem VRel.rest {F : Int → Int → Prop} {w w1 : World} {bz oz : Nat} {L X : List Int} {j : Nat} {cc : Int} (h : VRel F w bz oz L j cc w1) (hX : At w bz oz X) (hz : w.heap[bz]? = some (blk L)) (hl : oz + X.length ≤ L.length) (hj : j ≤ X.length) (wX : wfL X)
    {F' : Int → Int → Prop} (hF : ∀ v, F v cc → F' (v + B64 ^ j * val (X.drop j)) cc) : VRel F' w bz oz L X.length cc w1 := by
  obtain ⟨Z, hZ, wZ, hv, hu⟩ := h
  have := VRel.upd (F' := F') (c' := cc) (R := X.drop j) (w2 := w1) ⟨Z, hZ, wZ, hv, hu⟩ (by simp; omega) (wfL_drop wX _) (fun M hM => by
    have e : M = spl L oz Z := by
      have h1 := hM.symm.trans hu.here
      have h2 : M.map (Value.int .u64) = (spl L oz Z).map (Value.int .u64) := by simpa [blk] using h1
      exact List.map_inj_right (fun a b h => by simpa using h) |>.1 h2
    rw [spl_self]
    · exact Upd.refl hM
    · rw [e, spl_length _ _ _ (by omega)]; simp; omega
    · intro i hi
      simp at hi
      rw [e, Nat.add_assoc, show oz + (j + i) = oz + j + i by omega, spl_get _ _ _ _ (by omega) (by omega)]
      have h3 := hX (j + i) (by omega)
      rw [cell_blk hz _ (by omega)] at h3
      simp only [Option.some.injEq, Value.int.injEq, true_and] at h3
      rw [show oz + j + i = oz + (j + i) by omega, h3, List.getElem?_drop]) hF
  rw [show X.length = j + (X.drop j).length by simp; omega]; exact this

theorem val_split (X : List Int) (j : Nat) (h : j ≤ X.length) : val X = val (X.take j) + B64 ^ j * val (X.drop j) := by
  conv => lhs; rw [← List.take_append_drop j X]
  rw [val_append, List.length_take, show min j X.length = j by omega]

theorem VWF.rest {X : List Int} {y v : Int} {j : Nat} (hj : j ≤ X.length) (h : VWF X y j v 0) : VWF X y X.length (v + B64 ^ j * val (X.drop j)) 0 := by
  refine ⟨bit0, ?_⟩
  have := h.2
  rw [List.take_length, val_split X j hj]; grind

theorem VWF.one {X : List Int} {y : Int} (h : 0 < X.length) (wx : wfL X) (hy : U64 y) : VWF X y 1 (0 + B64 ^ 0 * alo (X[0]?.getD 0) y 0) (ahi (X[0]?.getD 0) y 0) := by
  refine ⟨ahi_b (getD_u64 wx 0 h) hy bit0, ?_⟩
  have h1 := alo_ahi (X[0]?.getD 0) y 0
  have h2 := val_take_succ X 0 h
  rw [h2]; simp [val]; grind
theorem VWF.keep {X : List Int} {y v : Int} {j : Nat} (hj : j < X.length) (hx : X[j]?.getD 0 = 18446744073709551615) (h : VWF X y j v 1) : VWF X y (j + 1) (v + B64 ^ j * 0) 1 := by
  refine ⟨bit1, ?_⟩
  have := h.2
  rw [val_take_succ X j hj, hx, Int.pow_succ]
  have : B64 = 18446744073709551615 + 1 := rfl
  grind
theorem VWF.stop {X : List Int} {y v : Int} {j : Nat} (hj : j < X.length) (h : VWF X y j v 1) : VWF X y (j + 1) (v + B64 ^ j * (X[j]?.getD 0 + 1)) 0 := by
  refine ⟨bit0, ?_⟩
  have := h.2
  rw [val_take_succ X j hj, Int.pow_succ]
  grind

theorem VRel.drewN {F : Int → Int → Prop} {w w1 : World} {bz oz : Nat} {L : List Int} {j : Nat} {cc : Int} (h : VRel F w bz oz L j cc w1) (n : Nat) : VRel F w bz oz L j cc (w1.drewN n) := by
  obtain ⟨Z, hZ, wZ, hv, hu⟩ := h; exact ⟨Z, hZ, wZ, hv, hu.drewN n⟩
theorem und86 : Tryz.prog.underlying 86 = some (.slice 87) := by kernel_rfl
theorem und88 : Tryz.prog.underlying 88 = some (.slice 87) := by kernel_rfl
theorem siz87 : (Tryz.prog.info? 87).map (·.size) = some 1 := by kernel_rfl

theorem und145 : Tryz.prog.underlying 145 = some (.pointer 87) := by kernel_rfl
theorem inf87 : ∃ j, Tryz.prog.info? 87 = some j ∧ j.size ≠ 0 := by
  have h := siz87
  cases hq : Tryz.prog.info? 87 with
  | none => rw [hq] at h; simp at h
  | some j => rw [hq] at h; simp at h; exact ⟨j, rfl, by omega⟩
theorem neq_same (a : Addr) (wx : World) : (binOp .neq 145 (.pointer (some a)) (.pointer (some a))).run Tryz.prog wx = .ok (.bool false) wx := by
  obtain ⟨j, hj, _⟩ := inf87
  have h : ∀ d : Nat, (Op.equalIn (d + 1) 145 (.pointer (some a)) (.pointer (some a))).run Tryz.prog wx = .ok true wx := fun d => by
    simp [Op.equalIn, run_underlying und145, sizeOf, typeInfo, hj, run_sameAddr_same]
  simp only [binOp]
  simp [Op.equal, Op.maxDepth, h 9999]
theorem neq_other {a b : Addr} {A B : List Int} {wx : World} (hne : a ≠ b) (ha : wx.heap[a.block]? = some (blk A)) (hb : wx.heap[b.block]? = some (blk B)) :
    (binOp .neq 145 (.pointer (some a)) (.pointer (some b))).run Tryz.prog wx = .ok (.bool true) wx := by
  obtain ⟨j, hj, hs⟩ := inf87
  have h : ∀ d : Nat, (Op.equalIn (d + 1) 145 (.pointer (some a)) (.pointer (some b))).run Tryz.prog wx = .ok false wx := fun d => by
    simp [Op.equalIn, run_underlying und145, sizeOf, typeInfo, hj, hs, run_sameAddr_other wx hne ha hb]
  simp only [binOp]
  simp [Op.equal, Op.maxDepth, h 9999]

set_option maxRecDepth 100000 in
theorem addVW_same (bz oz n cz cx : Nat) (L X : List Int) (y : Int) (w : World) (hn : n ≤ 9223372036854775807) (h1 : 1 ≤ n) (hz : w.heap[bz]? = some (blk L)) (hl : oz + n ≤ L.length)
    (hX : At w bz oz X) (lx : X.length = n) (wx : wfL X) (hy : U64 y) :
    Calls Tryz.prog 198 #[.slice (some ⟨bz, oz, none⟩) n cz, .slice (some ⟨bz, oz, none⟩) n cx, .int .u64 y] w fun e w' =>
      ∃ c, e = .returned (.int .u64 c) ∧ VRel (VWF X y n) w bz oz L n c w' := by
  have HX := Lib.hid hX; have Hl := Lib.hid hl; have Hz := Lib.hid hz; have Lx := Lib.hid lx
  have hu0 := Upd.refl hz
  have g1 := hX 0 (by omega)
  have g3 := cell_blk hz oz (by omega)
  have g4 := frozen_blk hz oz
  rw [Nat.add_zero] at g1
  have u1 := getD_u64 wx 0 (by omega)
  have H1 : Hid (VRel (VWF X y 1) w bz oz L 1 (ahi (X[0]?.getD 0) y 0) ((w.drewN 0).setCell ⟨bz, oz + 0, none⟩ (.int .u64 (alo (X[0]?.getD 0) y 0)))) :=
    VRel.step (.start hz (F := fun v c => v = 0) (c := 0) rfl) (by omega) (alo_u _ _ _) (fun v h => by subst h; exact VWF.one (by omega) wx hy) 0
  clear hX hl hz lx
  generalize X[0]?.getD 0 = x0 at *
  generalize L[oz]?.getD 0 = z0 at *
  have hz0 : x0 = z0 := by rw [g1] at g3; simpa using g3
  subst hz0
  clear g3
  have hb0 : 0 < n := by omega
  have hne := neq_same ⟨bz, oz, none⟩
  go_enter Tryz.func198, Tryz.ntmps198
  go_wp2_with (go_at_call 229; refine (bits_Add _ _ _ _ u1 hy bit0).mono ?_; rintro e w' ⟨rfl, rfl⟩)
  · have hc : ahi x0 y 0 = 0 := by simpa using (by assumption : (ahi x0 y 0 == 0) = true)
    have HF : Hid (VRel (VWF X y n) w bz oz L n 0 ((w.drewN 0).setCell ⟨bz, oz + 0, none⟩ (.int .u64 (alo x0 y 0)))) := by
      have := Lx.out; have := Hl.out
      have h2 := H1.out; rw [hc] at h2
      have h3 := h2.rest (F' := VWF X y n) HX.out Hz.out (by omega) (by omega) wx (fun v h => by rw [← Lx.out]; exact h.rest (by omega))
      rw [Lx.out] at h3; exact h3
    clear hc H1
    go_wp2_with (fail)
    go_quiet (fail)
    go_wp2
    go_ret
    exact ⟨_, rfl, HF.out.drewN _⟩
  · have hc : ahi x0 y 0 = 1 := by
      have h1 : (ahi x0 y 0 == 0) = false := by assumption
      have h2 := ahi_b u1 hy bit0
      unfold Bit at h2; simp at h1; omega
    rw [hc] at H1
    clear hc g1 g4 hu0
    go_loopw [9] (fun i wr => ∃ j : Nat, 1 ≤ j ∧ j ≤ n ∧ i = .int .i64 j ∧ VRel (VWF X y j) w bz oz L j 1 wr) (fun i _ => n - (intOf i).toNat)
    case atStart => exact ⟨1, Nat.le_refl _, h1, rfl, H1.out⟩
    case round =>
      obtain ⟨j, hj1, hj, rfl, hR⟩ := hrel
      have HR := Lib.hid hR
      clear hR H1
      by_cases hlt : j < n
      · have hl := Hl.out; have lx := Lx.out
        have g1 := HR.out.read HX.out (fun _ => rfl) Hz.out (by omega) (by omega)
        obtain ⟨zj, g3⟩ := HR.out.room (oz + j) (by omega) (by omega)
        have g4 := HR.out.free (oz + j)
        have gx := g1
        rw [g3] at gx
        simp only [Option.some.injEq, Value.int.injEq, true_and] at gx
        subst gx
        have uj := getD_u64 wx j (by omega)
        by_cases hmax : X[j]?.getD 0 = 18446744073709551615
        · have hn1 := Lib.hid (HR.out.step (F' := VWF X y (j + 1)) (by omega) u0 (fun v h => h.keep (by omega) hmax) 0)
          have hb : (X[j]?.getD 0 != 18446744073709551615) = false := by rw [hmax]; rfl
          clear hl lx g3 uj hmax
          generalize X[j]?.getD 0 = xj at *
          go_wp2
          go_roundw
          case rel => exact ⟨j + 1, by omega, by omega, by go_num, hn1.out⟩
          case measure => simp [intOf]; omega
        · have hub : U64 (X[j]?.getD 0 + 1) := by unfold U64 B64 at *; omega
          have hn1 := HR.out.step (F' := VWF X y (j + 1)) (by omega) hub (fun v h => h.stop (by omega)) 0
          have h3 := hn1.rest (F' := VWF X y n) HX.out Hz.out (by omega) (by omega) wx (fun v h => by rw [← lx]; exact h.rest (by omega))
          rw [lx, ← wrap_u64 hub] at h3
          have HF := Lib.hid h3
          have hb : (X[j]?.getD 0 != 18446744073709551615) = true := by simp [hmax]
          have hz0 := Hz.out
          obtain ⟨z0, k3⟩ := HR.out.room oz (by omega) (by omega)
          clear hl lx g3 uj hmax h3 hn1 hz0
          generalize X[j]?.getD 0 = xj at *
          go_wp2
          go_quiet (fail)
          go_wp2
          go_ret
          exact ⟨_, rfl, HF.out.drewN _⟩
      · obtain rfl : j = n := by omega
        go_wp2
        go_ret
        exact ⟨_, rfl, HR.out⟩
end Go.Proofs.YtndphemomhcjlaaGreatDoor
