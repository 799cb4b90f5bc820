/- Words shifted by some bits. Conditions: the slices are of one length, the shift is from 1 to 63. -/
import Derived.Test.YtndphemomhcjlaaGreatDoorQ05
import Derived.Laws.BitsAllLaws
set_option linter.all false

namespace Go.Proofs.YtndphemomhcjlaaGreatDoor
open Go.RowKit

theorem and63 (s : Int) (h0 : 0 ≤ s) (h1 : s ≤ 63) : bits .and .u64 s 63 = s := by
  rw [u64_and s 63 h0 (by omega) (by decide) (by decide), show (63 : Int).toNat = 63 from rfl, nat_mask6]; omega

theorem pow_split {s : Nat} (h : s ≤ 64) : (2 : Nat) ^ s * 2 ^ (64 - s) = 18446744073709551616 := by
  rw [← Nat.pow_add, show s + (64 - s) = 64 by omega]
/-- two words side by side, shifted: the lower bits of the first, the upper ones of the second -/
theorem or_shift {x y : Int} {s : Nat} (hx : U64 x) (hy : U64 y) (h0 : 1 ≤ s) (h1 : s ≤ 63) :
    bits .or .u64 (IntKind.u64.wrap (x * 2 ^ s)) (y / 2 ^ (64 - s)) = x * 2 ^ s % B64 + y / 2 ^ (64 - s) ∧ U64 (x * 2 ^ s % B64 + y / 2 ^ (64 - s)) ∧ 0 ≤ y / 2 ^ (64 - s) ∧ y / 2 ^ (64 - s) < 2 ^ s := by
  obtain ⟨X, rfl⟩ := Int.eq_ofNat_of_zero_le hx.1
  obtain ⟨Y, rfl⟩ := Int.eq_ofNat_of_zero_le hy.1
  have hX := hx.2; have hY := hy.2
  unfold B64 at hX hY
  have hp := pow_split (s := s) (by omega)
  have c1 : (2 : Int) ^ s = ((2 ^ s : Nat) : Int) := by simp
  have c2 : (2 : Int) ^ (64 - s) = ((2 ^ (64 - s) : Nat) : Int) := by simp
  rw [IntKind.wrap_u64, c1, c2]
  have hps : 0 < 2 ^ s := Nat.pow_pos (by decide)
  have hpt : 0 < 2 ^ (64 - s) := Nat.pow_pos (by decide)
  clear c1 c2
  generalize hpp : 2 ^ s = p at hp hps ⊢
  generalize 2 ^ (64 - s) = q at *
  have hy2 : Y / q < p := by
    rw [Nat.div_lt_iff_lt_mul hpt, hp]; omega
  have hpB : p ≤ 18446744073709551616 := by rw [← hp]; exact Nat.le_mul_of_pos_right _ hpt
  have hxm : X * p % 18446744073709551616 % p = 0 := by
    rw [Nat.mod_mod_of_dvd _ ⟨q, hp.symm⟩]; exact Nat.mul_mod_left _ _
  have hsum : X * p % 18446744073709551616 + Y / q < 18446744073709551616 := by
    have h3 : X * p % 18446744073709551616 < 18446744073709551616 := Nat.mod_lt _ (by decide)
    obtain ⟨k, hk⟩ := Nat.dvd_of_mod_eq_zero hxm
    have h4 : k < q := by
      rw [hk, ← hp] at h3; exact Nat.lt_of_mul_lt_mul_left h3
    rw [hk]
    have h5 : p * (k + 1) ≤ p * q := Nat.mul_le_mul_left _ h4
    rw [Nat.mul_add] at h5; omega
  have e1 : ((X : Int) * (p : Nat) % 18446744073709551616) = ((X * p % 18446744073709551616 : Nat) : Int) := by omega
  have e2 : ((Y : Int) / (q : Nat)) = ((Y / q : Nat) : Int) := by omega
  unfold U64 B64
  rw [e1, e2]
  have hm : X * p % 18446744073709551616 < 18446744073709551616 := Nat.mod_lt _ (by decide)
  clear e1 e2
  generalize Y / q = r at *
  generalize X * p % 18446744073709551616 = m at *
  refine ⟨?_, ?_, by omega, by omega⟩
  · rw [u64_or_nat _ _ hm (by omega), nat_join s m r (by rw [hpp]; exact hxm) (by rw [hpp]; exact hy2)]
    omega
  · omega

/-- what a shift to the left leaves -/
def ShlF (X : List Int) (s : Nat) (v c : Int) : Prop := 0 ≤ c ∧ c < 2 ^ s ∧ v + B64 ^ X.length * c = val X * 2 ^ s
/-- after the words from k + 1 on have been written -/
def DRel (X : List Int) (s : Nat) (c : Int) (w : World) (bz oz : Nat) (L : List Int) (k : Nat) (wr : World) : Prop :=
  ∃ Z : List Int, Z.length + k + 1 = X.length ∧ wfL Z ∧ val Z + B64 ^ Z.length * c = val (X.drop (k + 1)) * 2 ^ s + X[k]?.getD 0 / 2 ^ (64 - s) ∧ Upd w wr bz (spl L (oz + k + 1) Z)

theorem spl_cons (L : List Int) (o : Nat) (Z : List Int) (z : Int) (h : o < L.length) : (spl L (o + 1) Z).set o z = spl L o (z :: Z) := by
  unfold spl
  rw [List.append_assoc, List.set_append_left _ _ (by simp; omega)]
  have : L.take (o + 1) = L.take o ++ [L[o]] := List.take_succ_eq_append_getElem h
  rw [this, List.set_append_right _ _ (by simp; omega)]
  have e : o - min o L.length = 0 := by omega
  simp [e, show o + 1 + Z.length = o + (Z.length + 1) by omega]

theorem drop_cons (X : List Int) (k : Nat) (h : k < X.length) : X.drop k = X[k]?.getD 0 :: X.drop (k + 1) := by
  rw [List.drop_eq_getElem_cons h]; simp [h]

/-- a word's upper and lower parts -/
theorem shl_parts {x : Int} {s : Nat} (hx : U64 x) (h : s ≤ 64) : x * 2 ^ s % B64 + B64 * (x / 2 ^ (64 - s)) = x * 2 ^ s := by
  have hp : (2 : Int) ^ s * 2 ^ (64 - s) = B64 := by
    have := pow_split h
    rw [show B64 = ((18446744073709551616 : Nat) : Int) from rfl, ← this]; simp
  have hs : (0 : Int) < 2 ^ s := Int.pow_pos (by decide)
  have ht : (0 : Int) < 2 ^ (64 - s) := Int.pow_pos (by decide)
  have e : x / 2 ^ (64 - s) = x * 2 ^ s / B64 := by
    rw [← hp, Int.mul_comm x, Int.mul_ediv_mul_of_pos _ _ hs]
  rw [e]; exact Int.emod_add_mul_ediv _ _

theorem DRel.step {X : List Int} {s : Nat} {c : Int} {w wr : World} {bz oz : Nat} {L : List Int} {k : Nat} (h : DRel X s c w bz oz L (k + 1) wr) (wx : wfL X) (hk : k + 1 < X.length) (hl : oz + X.length ≤ L.length) (h0 : 1 ≤ s) (h1 : s ≤ 63) :
    DRel X s c w bz oz L k (wr.setCell ⟨bz, oz + (k + 1), none⟩ (.int .u64 (bits .or .u64 (IntKind.u64.wrap (X[k + 1]?.getD 0 * 2 ^ s)) (X[k]?.getD 0 / 2 ^ (64 - s))))) := by
  obtain ⟨Z, hZ, wZ, hv, hu⟩ := h
  obtain ⟨e1, e2, _, _⟩ := or_shift (getD_u64 wx (k + 1) hk) (getD_u64 wx k (by omega)) h0 h1
  rw [e1]
  refine ⟨(X[k + 1]?.getD 0 * 2 ^ s % B64 + X[k]?.getD 0 / 2 ^ (64 - s)) :: Z, by simp; omega, wfL_cons e2 wZ, ?_, ?_⟩
  · rw [drop_cons X (k + 1) hk]
    simp only [val, List.length_cons, Int.pow_succ]
    have := shl_parts (getD_u64 wx (k + 1) hk) (s := s) (by omega)
    generalize X[k + 1]?.getD 0 * 2 ^ s % B64 = a at *
    generalize X[k + 1]?.getD 0 / 2 ^ (64 - s) = b at *
    generalize X[k]?.getD 0 / 2 ^ (64 - s) = d at *
    grind
  · rw [← spl_cons _ _ _ _ (by omega)]; exact hu.set _ _

theorem DRel.last {X : List Int} {s : Nat} {c : Int} {w wr : World} {bz oz : Nat} {L : List Int} (h : DRel X s c w bz oz L 0 wr) (wx : wfL X) (hk : 0 < X.length) (hl : oz + X.length ≤ L.length) (h1 : s ≤ 63) (hc0 : 0 ≤ c) (hc1 : c < 2 ^ s) :
    VRel (ShlF X s) w bz oz L X.length c (wr.setCell ⟨bz, oz, none⟩ (.int .u64 (IntKind.u64.wrap (X[0]?.getD 0 * 2 ^ s)))) := by
  obtain ⟨Z, hZ, wZ, hv, hu⟩ := h
  refine ⟨IntKind.u64.wrap (X[0]?.getD 0 * 2 ^ s) :: Z, by simp; omega, wfL_cons (by rw [IntKind.wrap_u64]; unfold U64 B64; omega) wZ, ⟨hc0, hc1, ?_⟩, ?_⟩
  · have hX : val X = X[0]?.getD 0 + B64 * val (X.drop 1) := by
      conv => lhs; rw [show X = X.drop 0 by simp, drop_cons X 0 hk]
      rfl
    rw [hX, ← hZ]
    simp only [val, Nat.add_zero, Int.pow_succ] at *
    have := shl_parts (getD_u64 wx 0 hk) (s := s) (by omega)
    have e : IntKind.u64.wrap (X[0]?.getD 0 * 2 ^ s) = X[0]?.getD 0 * 2 ^ s % B64 := IntKind.wrap_u64 _
    rw [e]
    generalize X[0]?.getD 0 * 2 ^ s % B64 = a at *
    generalize X[0]?.getD 0 / 2 ^ (64 - s) = b at *
    grind
  · rw [← spl_cons _ _ _ _ (by omega)]; exact hu.set _ _

theorem DRel.cell {X : List Int} {s : Nat} {c : Int} {w wr : World} {bz oz : Nat} {L : List Int} {k : Nat} (h : DRel X s c w bz oz L k wr) (hl : oz + X.length ≤ L.length) (i : Nat) (hi : i < L.length) : ∃ v, wr.cell? ⟨bz, i, none⟩ = some (.int .u64 v) := by
  obtain ⟨Z, hZ, wZ, hv, hu⟩ := h
  exact ⟨_, cell_blk hu.here _ (by rw [spl_length _ _ _ (by omega)]; exact hi)⟩
theorem DRel.free {X : List Int} {s : Nat} {c : Int} {w wr : World} {bz oz : Nat} {L : List Int} {k : Nat} (h : DRel X s c w bz oz L k wr) (i : Nat) : wr.frozen? ⟨bz, i, none⟩ = false := by
  obtain ⟨Z, hZ, wZ, hv, hu⟩ := h
  exact frozen_blk hu.here _
theorem DRel.read {X : List Int} {s : Nat} {c : Int} {w wr : World} {bz oz bx ox : Nat} {L : List Int} {k : Nat} (h : DRel X s c w bz oz L k wr) (hX : At w bx ox X) (nx : bx ≠ bz) (i : Nat) (hi : i < X.length) : wr.cell? ⟨bx, ox + i, none⟩ = some (.int .u64 (X[i]?.getD 0)) := by
  obtain ⟨Z, hZ, wZ, hv, hu⟩ := h
  rw [hu.cell (by exact nx)]; exact hX i hi
theorem DRel.drew {X : List Int} {s : Nat} {c : Int} {w wr : World} {bz oz : Nat} {L : List Int} {k : Nat} (h : DRel X s c w bz oz L k wr) : DRel X s c w bz oz L k wr.drew := by
  obtain ⟨Z, hZ, wZ, hv, hu⟩ := h
  exact ⟨Z, hZ, wZ, hv, hu.drew⟩

set_option maxRecDepth 100000 in
theorem lshVU_g (bz oz bx ox n cz cx s : Nat) (L X : List Int) (w : World) (hn : n ≤ 9223372036854775807) (h1 : 1 ≤ n) (hz : w.heap[bz]? = some (blk L)) (hl : oz + n ≤ L.length)
    (hX : At w bx ox X) (nx : bx ≠ bz) (lx : X.length = n) (wx : wfL X) (hs0 : 1 ≤ s) (hs1 : s ≤ 63) :
    Calls Tryz.prog 153 #[.slice (some ⟨bz, oz, none⟩) n cz, .slice (some ⟨bx, ox, none⟩) n cx, .int .u64 s] w fun e w' =>
      ∃ c, e = .returned (.int .u64 c) ∧ VRel (ShlF X s) w bz oz L n c w' := by
  have HX := Lib.hid hX; have Hl := Lib.hid hl; have Hz := Lib.hid hz; have Lx := Lib.hid lx
  have e1 := and63 (s : Int) (by omega) (by omega)
  have e2 : IntKind.u64.wrap (64 - (s : Int)) = 64 - (s : Int) := by rw [IntKind.wrap_u64]; omega
  have e3 := and63 (64 - (s : Int)) (by omega) (by omega)
  have g1 := hX (n - 1) (by omega)
  have hs' : ((s : Int) == 0) = false := by simp; omega
  have hn' : ((n : Int) == 0) = false := by simp; omega
  obtain ⟨_, _, c0, c1⟩ := or_shift u0 (getD_u64 wx (n - 1) (by omega)) hs0 hs1
  have H0 : Hid (DRel X s (X[n - 1]?.getD 0 / 2 ^ (64 - s)) w bz oz L (n - 1) w) :=
    ⟨[], by simp; omega, wfL_nil, by rw [List.drop_eq_nil_of_le (by omega)]; simp [val], by rw [spl_nil]; exact Upd.refl hz⟩
  have C0 := Lib.hid c0; have C1 := Lib.hid c1
  clear hX hl hz lx c0 c1
  go_enter Tryz.func153, Tryz.ntmps153
  go_wp2
  generalize X[n - 1]?.getD 0 / 2 ^ (64 - s) = cc at *
  go_loopw [8] (fun i wr => ∃ k : Nat, k < n ∧ i = .int .i64 k ∧ DRel X s cc w bz oz L k wr) (fun i _ => (intOf i).toNat)
  case atStart => exact ⟨n - 1, by omega, by go_num, H0.out⟩
  case round =>
    obtain ⟨k, hk, rfl, hR⟩ := hrel
    have HR := Lib.hid hR
    clear hR H0 g1
    have hl := Hl.out; have lx := Lx.out
    cases k with
    | zero =>
      have g0 := HR.out.read HX.out nx 0 (by omega)
      rw [Nat.add_zero] at g0
      obtain ⟨z0, g3⟩ := HR.out.cell (by omega) oz (by omega)
      have g4 := HR.out.free oz
      have HF := Lib.hid (HR.out.last wx (by omega) (by omega) hs1 C0.out C1.out)
      clear hl lx
      generalize X[0]?.getD 0 = x0 at *
      go_wp2
      go_ret
      exact ⟨_, rfl, by have := HF.out; rw [Lx.out] at this; exact this⟩
    | succ k =>
      have g0 := HR.out.read HX.out nx k (by omega)
      have g1 := HR.out.read HX.out nx (k + 1) (by omega)
      obtain ⟨z0, g3⟩ := HR.out.cell (by omega) (oz + (k + 1)) (by omega)
      have g4 := HR.out.free (oz + (k + 1))
      have HN := Lib.hid (HR.out.drew.step wx (by omega) (by omega) hs0 hs1)
      have hb1 : (k : Int) + 1 < n := by omega
      have hb2 : (k : Int) < n := by omega
      have hw1 : IntKind.i64.wrap (k : Int) = k := IntWalk.i64_in _ (by omega)
      have hw2 : 0 ≤ (k : Int) + 1 := by omega
      have hw3 : ((k : Int) + 1).toNat = k + 1 := by omega
      clear hl lx
      generalize X[k]?.getD 0 = x0 at *
      generalize X[k + 1]?.getD 0 = x1 at *
      go_wp2_with (fail)
      go_still_tail 17, (by kernel_rfl)
      change wpList _ _ _ _ _ (World.drew _)
      go_wp2
      go_roundw
      case rel => exact ⟨k, by omega, by go_num, HN.out⟩
      case measure => simp [intOf]
end Go.Proofs.YtndphemomhcjlaaGreatDoor
