/- Words shifted to the right by some bits. Conditions: the slices are of one length, the shift is from 1 to 63. The stack of temporary words: a short slice of its own. Conditions: one to four words, the stack not yet in use. -/
import Derived.Lib.AppendZeros
import Derived.Test.YtjcfacinlgogaaaGreatDoorQ09
import Derived.Test.YtjcfacinlgogaaaGreatDoorQ11
set_option linter.all false
set_option maxHeartbeats 2000000
set_option maxRecDepth 100000
namespace Go.Proofs.YtjcfacinlgogaaaGreatDoor
open Go.RowKit
def ShrF (X : List Int) (s : Nat) (j : Nat) (v _c : Int) : Prop := v + B64 ^ j * (X[j]?.getD 0 / 2 ^ s) = val (X.take (j + 1)) / 2 ^ s
def ShrE (X : List Int) (s : Nat) (v _c : Int) : Prop := v = val X / 2 ^ s
theorem shr_parts {x : Int} {s : Nat} (hx : U64 x) (h : s ≤ 64) : x * 2 ^ (64 - s) % B64 + B64 * (x / 2 ^ s) = x * 2 ^ (64 - s) := by
  have := shl_parts hx (s := 64 - s) (by omega)
  rw [show 64 - (64 - s) = s by omega] at this
  exact this
theorem pow_cut (j s : Nat) (hs : s ≤ 64) : B64 ^ (j + 1) = B64 ^ j * 2 ^ (64 - s) * 2 ^ s := by
  rw [Int.pow_succ, Int.mul_assoc, ← Int.pow_add, show 64 - s + s = 64 by omega]; rfl
theorem ShrF.start {X : List Int} {s : Nat} (h : 0 < X.length) : ShrF X s 0 0 0 := by
  unfold ShrF
  rw [val_take_succ X 0 h]; simp [val]
theorem ShrF.step {X : List Int} {s j : Nat} {v c : Int} (wx : wfL X) (hj : j + 1 < X.length) (hs : s ≤ 64) (h : ShrF X s j v c) (c' : Int) :
    ShrF X s (j + 1) (v + B64 ^ j * (X[j]?.getD 0 / 2 ^ s + X[j + 1]?.getD 0 * 2 ^ (64 - s) % B64)) c' := by
  unfold ShrF at *
  have hp := shr_parts (getD_u64 wx (j + 1) hj) hs
  have hq : (0 : Int) < 2 ^ s := Int.pow_pos (by decide)
  rw [val_take_succ X (j + 1) hj]
  have e2 : (val (X.take (j + 1)) + B64 ^ (j + 1) * (X[j + 1]?.getD 0)) / 2 ^ s = val (X.take (j + 1)) / 2 ^ s + B64 ^ j * (X[j + 1]?.getD 0 * 2 ^ (64 - s)) := by
    rw [show B64 ^ (j + 1) * (X[j + 1]?.getD 0) = B64 ^ j * (X[j + 1]?.getD 0 * 2 ^ (64 - s)) * 2 ^ s by rw [pow_cut j s hs]; ac_rfl]
    exact Int.add_mul_ediv_right _ _ (by omega)
  rw [e2, ← h, Int.pow_succ]
  generalize X[j + 1]?.getD 0 * 2 ^ (64 - s) % B64 = p at *
  generalize X[j + 1]?.getD 0 / 2 ^ s = q at *
  generalize X[j]?.getD 0 / 2 ^ s = r at *
  rw [← hp]
  clear hp e2 h wx hq
  generalize B64 ^ j = b
  generalize (B64 : Int) = t
  rw [Int.mul_add, Int.mul_add]
  rw [Int.mul_assoc]
  omega
theorem ShrF.last {X : List Int} {s j : Nat} {v c : Int} (hj : j + 1 = X.length) (h : ShrF X s j v c) : ShrE X s (v + B64 ^ j * (X[j]?.getD 0 / 2 ^ s)) 0 := by
  unfold ShrF ShrE at *
  rw [h, List.take_of_length_le (by omega)]
theorem or_shift_r {x y : Int} {s : Nat} (hx : U64 x) (hy : U64 y) (h0 : 1 ≤ s) (h1 : s ≤ 63) :
    bits .or .u64 (y / 2 ^ s) (IntKind.u64.wrap (x * 2 ^ (64 - s))) = y / 2 ^ s + x * 2 ^ (64 - s) % B64 ∧ U64 (y / 2 ^ s + x * 2 ^ (64 - s) % B64) := by
  obtain ⟨e1, e2, e3, e4⟩ := or_shift hx hy (s := 64 - s) (by omega) (by omega)
  rw [show 64 - (64 - s) = s by omega] at e1 e2 e3 e4
  have hw : U64 (IntKind.u64.wrap (x * 2 ^ (64 - s))) := by rw [IntKind.wrap_u64]; unfold U64 B64; omega
  have hy2 : y / 2 ^ s < B64 := Int.lt_of_le_of_lt (Int.ediv_le_self _ hy.1) hy.2
  have hcomm : bits .or .u64 (y / 2 ^ s) (IntKind.u64.wrap (x * 2 ^ (64 - s))) = bits .or .u64 (IntKind.u64.wrap (x * 2 ^ (64 - s))) (y / 2 ^ s) := by
    obtain ⟨a, ha⟩ := Int.eq_ofNat_of_zero_le hw.1
    obtain ⟨b, hb⟩ := Int.eq_ofNat_of_zero_le e3
    have ha2 : (a : Int) < 18446744073709551616 := by rw [← ha]; exact hw.2
    have hb2 : (b : Int) < 18446744073709551616 := by rw [← hb]; exact hy2
    rw [ha, hb, u64_or_nat _ _ (by omega) (by omega), u64_or_nat _ _ (by omega) (by omega), Nat.or_comm]
  rw [hcomm, e1, Int.add_comm (y / 2 ^ s)]
  exact ⟨rfl, e2⟩
theorem VRel.readAt {F : Int → Int → Prop} {w wr : World} {bz oz bx ox : Nat} {L X : List Int} {j : Nat} {cc : Int} (h : VRel F w bz oz L j cc wr) (hX : At w bx ox X) (ha : bx = bz → ox = oz)
    (hL : w.heap[bz]? = some (blk L)) (hl : oz + X.length ≤ L.length) (i : Nat) (hi : j ≤ i) (hj : i < X.length) : wr.cell? ⟨bx, ox + i, none⟩ = some (.int .u64 (X[i]?.getD 0)) := by
  obtain ⟨Z, rfl, wZ, hv, hu⟩ := h
  have h1 := hX i hj
  by_cases e : bx = bz
  · have e2 := ha e; subst e; subst e2
    rw [cell_blk hL _ (by omega)] at h1
    rw [cell_blk hu.here _ (by rw [spl_length _ _ _ (by omega)]; omega), spl_get _ _ _ _ (by omega) (by omega)]
    exact h1
  · rw [hu.cell (by exact e)]; exact h1
theorem rshVU_g (bz oz bx ox n cz cx s : Nat) (L X : List Int) (w : World) (hn : n ≤ 9223372036854775807) (h1 : 1 ≤ n) (hz : w.heap[bz]? = some (blk L)) (hl : oz + n ≤ L.length)
    (hX : At w bx ox X) (ax : bx = bz → ox = oz) (lx : X.length = n) (wx : wfL X) (hs0 : 1 ≤ s) (hs1 : s ≤ 63) :
    Calls Tryz.prog 246 #[.slice (some ⟨bz, oz, none⟩) n cz, .slice (some ⟨bx, ox, none⟩) n cx, .int .u64 s] w fun e w' =>
      ∃ c d, e = .returned (.int .u64 c) ∧ VRel (ShrE X s) w bz oz L n d w' := by
  have HX := Hq0 hX; have Hl := Hq0 hl; have Hz := Hq0 hz; have Lx := Hq0 lx; have Ax := Hq0 ax
  have e1 := and63 (s : Int) (by omega) (by omega)
  have e2 : IntKind.u64.wrap (64 - (s : Int)) = 64 - (s : Int) := by rw [IntKind.wrap_u64]; omega
  have e3 := and63 (64 - (s : Int)) (by omega) (by omega)
  have g1 := hX 0 (by omega)
  rw [Nat.add_zero] at g1
  have hs' : ((s : Int) == 0) = false := by simp; omega
  have hn' : ((n : Int) == 0) = false := by simp; omega
  have H0 : Hid (VRel (ShrF X s 0) w bz oz L 0 0 w) := .start hz (ShrF.start (by omega))
  clear hX hl hz lx ax
  generalize X[0]?.getD 0 = x0 at g1
  go_enter Tryz.func246, Tryz.ntmps246
  go_wp2
  generalize IntKind.u64.wrap (x0 * 2 ^ (64 - s)) = cc at *
  go_loopw [8] (fun i wr => ∃ j : Nat, j < n ∧ i = .int .i64 ((j : Int) + 1) ∧ VRel (ShrF X s j) w bz oz L j 0 wr) (fun i _ => n - (intOf i).toNat)
  case atStart => exact ⟨0, by omega, by go_num, H0.out⟩
  case round =>
    obtain ⟨j, hj, rfl, hR⟩ := hrel
    have HR := Hq0 hR
    clear hR H0 g1
    have hl := Hl.out; have lx := Lx.out
    by_cases hlt : j + 1 < n
    · have g0 := HR.out.readAt HX.out Ax.out Hz.out (by omega) j (Nat.le_refl _) (by omega)
      have g1 := HR.out.readAt HX.out Ax.out Hz.out (by omega) (j + 1) (by omega) (by omega)
      obtain ⟨z0, g3⟩ := HR.out.room (oz + j) (by omega) (by omega)
      have g4 := HR.out.free (oz + j)
      obtain ⟨q1, q2⟩ := or_shift_r (getD_u64 wx (j + 1) (by omega)) (getD_u64 wx j (by omega)) hs0 hs1
      have HN := Hq0 (HR.out.step (F' := ShrF X s (j + 1)) (by omega) q2 (fun v h => h.step wx (by omega) (by omega) 0) 1)
      have hb1 : (j : Int) + 1 < n := by omega
      have hb2 : (j : Int) < n := by omega
      have hw1 : IntKind.i64.wrap (j : Int) = j := IntWalk.i64_in _ (by omega)
      have hw2 : 0 ≤ (j : Int) + 1 := by omega
      have hw3 : ((j : Int) + 1).toNat = j + 1 := by omega
      clear hl lx q2
      generalize X[j]?.getD 0 = x0 at *
      generalize X[j + 1]?.getD 0 = x1 at *
      go_wp2_with (fail)
      go_still_tail 18, (by kernel_rfl)
      change wpList _ _ _ _ _ (World.drew _)
      go_wp2
      go_roundw
      case rel => exact ⟨j + 1, by omega, by go_num, HN.out⟩
      case measure => simp [intOf]; omega
    · obtain rfl : n = j + 1 := by omega
      have g0 := HR.out.readAt HX.out Ax.out Hz.out (by omega) j (Nat.le_refl _) (by omega)
      obtain ⟨z0, g3⟩ := HR.out.room (oz + j) (by omega) (by omega)
      have g4 := HR.out.free (oz + j)
      have hw1 : IntKind.i64.wrap (j : Int) = j := IntWalk.i64_in _ (by omega)
      have uz : U64 (X[j]?.getD 0 / 2 ^ s) := ⟨Int.ediv_nonneg (getD_u64 wx j (by omega)).1 (Int.le_of_lt (Int.pow_pos (by decide))), Int.lt_of_le_of_lt (Int.ediv_le_self _ (getD_u64 wx j (by omega)).1) (getD_u64 wx j (by omega)).2⟩
      have HN := Hq0 (fun q => HR.out.step (F' := ShrE X s) (c' := 0) (by omega) uz (fun v h => h.last (by omega)) q)
      clear hl lx uz
      generalize X[j]?.getD 0 = x0 at *
      go_wp2_with (fail)
      refine bodyPost_ret (v := .int .u64 cc) (by simp [results, Tryz.func246, go_sem]) rfl ?_
      exact ⟨_, 0, rfl, HN.out 0⟩
end Go.Proofs.YtjcfacinlgogaaaGreatDoor
namespace Go.Proofs.YtjcfacinlgogaaaGreatDoor
open Go.RowKit
theorem infW : (Tryz.prog.info? 104).map (fun i => (i.zero, i.size, i.bytes)) = some (some (.int .u64 0), 1, 8) := by kernel_rfl
theorem zero_cells (n m : Nat) : Obj.cells (Builtin.zeroCells (Value.int .u64 0).cells n ++ Builtin.zeroCells (Value.int .u64 0).cells m) 104 = blk (zeros (n + m)) := by
  unfold blk
  congr 1
  apply Array.ext'
  simp only [Builtin.zeroCells, zeros, Value.cells]
  apply List.ext_getElem?
  intro j
  by_cases h : j < n
  · have h2 : j < n + m := by omega
    simp [h, h2, Nat.mod_one, List.getElem?_append]
  · by_cases h2 : j < n + m
    · have h3 : j - n < m := by omega
      simp [h, h2, h3, Nat.mod_one, List.getElem_append]
    · have h3 : ¬ j - n < m := by omega
      simp [h, h2, h3, List.getElem?_append]
theorem run_append_make (w : World) (n : Nat) (h0 : 0 < n) (h : n ≤ 1000000000000) :
    ∃ cap, n ≤ cap ∧ cap ≤ 9223372036854775807 ∧ ∀ ty, (Builtin.append_ #[105, 3] ty #[.slice none 0 0, .int .i64 n]).run Tryz.prog w = .ok (.slice (some ⟨w.heap.size, 0, none⟩) n cap) (w.drew.alloc (blk (zeros cap))) := by
  have hp := infW
  cases hq : Tryz.prog.info? 104 with
  | none => rw [hq] at hp; simp at hp
  | some i =>
    rw [hq] at hp
    simp only [Option.map_some, Option.some.injEq, Prod.mk.injEq] at hp
    have hr := fun ty => Lib.run_append_nil_zeros (P := Tryz.prog) w 105 3 ty 104 i (.int .u64 0) .i64 .i64 und88 (by kernel_rfl) hq hp.1 n h0 (by omega) (by omega) (by rw [hp.2.2]; omega)
    refine ⟨grownCap w n 0 104, grownCap_ge _ _ _ _, grownCap_le_maxLen _ _ _ _ (by simp [maxLen]; omega), fun ty => ?_⟩
    have hge := grownCap_ge w n 0 104
    have h1 := zero_cells n (grownCap w n 0 104 - n)
    rw [show n + (grownCap w n 0 104 - n) = grownCap w n 0 104 by omega] at h1
    rw [hr, h1]
theorem grow_nil (n : Nat) (w : World) (h0 : 0 < n) (h : n ≤ 1000000000000) :
    Calls Tryz.prog 188 #[.slice none 0 0, .int .i64 n] w fun e w' => ∃ cap, e = .returned (.slice (some ⟨w.heap.size, 0, none⟩) 0 cap) ∧ n ≤ cap ∧ cap ≤ 9223372036854775807 ∧ ∃ q, w' = (w.drewN q).alloc (blk (zeros cap)) := by
  have hn0 : ¬ ((n : Int) < 0) := by omega
  have hn1 : decide ((0 : Int) < n) = true := by simp; omega
  have hw : IntKind.i64.wrap (n : Int) = n := IntWalk.i64_in _ (by omega)
  have hn2 : (0 : Int) < n := by omega
  obtain ⟨cap, c1, c2, hrun⟩ := run_append_make w n h0 h
  have R1 := run_slice_to (P := Tryz.prog) und88 siz87 w.heap.size n cap 0 0 rfl (by omega)
  go_enter Tryz.func188, Tryz.ntmps188
  go_wp2_with (at_builtin; refine Lib.wpList_append_run _ rfl _ _ _ _ rfl _ _ rfl rfl _ _ (hrun _) ?_)
  go_ret
  exact ⟨cap, rfl, c1, c2, 1, rfl⟩
theorem stackNat_small (bs n : Nat) (w : World) (h0 : 0 < n) (h : n ≤ 4) (hs : w.cell? ⟨bs, 0, none⟩ = some (.pointer none)) :
    Calls Tryz.prog 165 #[.pointer (some ⟨bs, 0, none⟩), .int .i64 n] w fun e w' => ∃ b cap L, e = .returned (.slice (some ⟨b, 0, none⟩) n cap) ∧ w.heap.size ≤ b ∧ n ≤ cap ∧ cap ≤ 9223372036854775807 ∧ w'.heap[b]? = some (blk L) ∧ L.length = cap ∧ w.grownBy w' none := by
  have hn1 : decide ((n : Int) ≤ 4) = true := by simp; omega
  have hn2 : decide ((0 : Int) < n) = true := by simp; omega
  have hn3 : (0 : Int) < n := by omega
  have hn4 : (n : Int) ≤ 4 := by omega
  have HG := Hq0 (fun w => grow_nil n w h0 (by omega))
  go_enter Tryz.func165, Tryz.ntmps165
  go_wp2_with (fail)
  refine (HG.out _).mono ?_
  rintro e w1 ⟨cap, rfl, c1, c2, q, rfl⟩
  have R1 := run_slice_to (P := Tryz.prog) und88 siz87 w.heap.size 0 cap n (n : Int) rfl (by omega)
  have HB : Hid (((w.drewN q).alloc (blk (zeros cap))).heap[w.heap.size]? = some (blk (zeros cap))) := heap_alloc_new (w.drewN q) _
  have hz := zeros_length cap
  have g1 := cell_blk HB.out 0 (by omega)
  have g2 := frozen_blk HB.out 0
  have G1 : Hid (w.grownBy ((w.drewN q).alloc (blk (zeros cap))) none) := grown_trans (grown_drewN w q) (World.grownBy_alloc _ _ none)
  generalize (zeros cap)[0]?.getD 0 = old at g1
  generalize zeros cap = L at *
  generalize (w.drewN q).alloc (blk L) = w2 at *
  go_wp2
  go_ret
  have hu := (Upd.refl HB.out).set 0 11259375
  exact ⟨w.heap.size, cap, _, rfl, Nat.le_refl _, c1, c2, hu.here, by simpa using hz, grown_own G1.out hu.grown (.inr (Nat.le_refl _))⟩
end Go.Proofs.YtjcfacinlgogaaaGreatDoor
