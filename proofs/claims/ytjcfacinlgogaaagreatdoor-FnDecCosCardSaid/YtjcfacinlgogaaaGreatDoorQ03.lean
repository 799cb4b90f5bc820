/- Natural numbers: which one is greater. Conditions: both are without zeros at the end, of at most 10^12 words. Natural numbers: products. Conditions: at most 10^11 words; the shorter one of fewer than 40. -/
import Derived.Test.YtjcfacinlgogaaaGreatDoorQ02
set_option linter.all false
set_option maxRecDepth 100000
namespace Go.Proofs.YtjcfacinlgogaaaGreatDoor
open Go.RowKit
theorem dd (w : World) (a b : Nat) : (w.drewN a).drewN b = w.drewN (a + b) := by unfold World.drewN; simp [Nat.add_assoc]
theorem dd3 (w : World) (a b c : Nat) : ((w.drewN a).drewN b).drewN c = w.drewN (a + b + c) := by rw [dd, dd, Nat.add_assoc]
theorem dd4 (w : World) (a b c d : Nat) : (((w.drewN a).drewN b).drewN c).drewN d = w.drewN (a + b + c + d) := by rw [dd, dd, dd]; congr 1; omega
def Nrm (l : List Int) : Prop := nrm l = l
def icmp (a b : Int) : Int := if a < b then -1 else if b < a then 1 else 0
theorem Nrm.last {l : List Int} (h : Nrm l) (hl : 0 < l.length) : l[l.length - 1]?.getD 0 ≠ 0 := by
  intro h0
  have e : l.take (l.length - 1 + 1) = l := by rw [show l.length - 1 + 1 = l.length by omega, List.take_length]
  have h1 := nrm_take0 l (l.length - 1) (by omega) h0
  rw [e, h] at h1
  have h2 := nrm_length_le (l.take (l.length - 1))
  rw [← h1] at h2; simp at h2; omega
theorem Nrm.nil : Nrm [] := rfl
theorem val_at (l : List Int) (k : Nat) (h : k < l.length) : val l = val (l.take k) + B64 ^ k * (l[k]?.getD 0 + B64 * val (l.drop (k + 1))) := by
  rw [val_split l k (by omega), drop_cons l k h]; simp [val]
theorem val_ge {l : List Int} (h : Nrm l) (wl : wfL l) (hl : 0 < l.length) : B64 ^ (l.length - 1) ≤ val l := by
  have h1 := h.last hl
  have h2 := getD_u64 wl (l.length - 1) (by omega)
  have h3 := val_nonneg (wfL_take wl (l.length - 1))
  rw [val_at l (l.length - 1) (by omega), List.drop_eq_nil_of_le (by omega)]
  simp only [val]
  have h4 : B64 ^ (l.length - 1) * 1 ≤ B64 ^ (l.length - 1) * (l[l.length - 1]?.getD 0 + B64 * 0) := Int.mul_le_mul_of_nonneg_left (by have := h2.1; omega) (Int.le_of_lt (B64_pow_pos _))
  omega
theorem pow_mono {a b : Nat} (h : a ≤ b) : B64 ^ a ≤ B64 ^ b := by
  rw [show b = a + (b - a) by omega, Int.pow_add]
  have := B64_pow_pos a
  have h2 : 1 ≤ B64 ^ (b - a) := B64_pow_pos (b - a)
  have h3 : B64 ^ a * 1 ≤ B64 ^ a * B64 ^ (b - a) := Int.mul_le_mul_of_nonneg_left h2 (by omega)
  omega
theorem val_lt_of_len {l m : List Int} (wl : wfL l) (wm : wfL m) (hm : Nrm m) (h : l.length < m.length) : val l < val m := by
  have h1 := val_lt wl
  have h2 := val_ge hm wm (by omega)
  have h3 := pow_mono (a := l.length) (b := m.length - 1) (by omega)
  omega
theorem val_lt_at {l m : List Int} (wl : wfL l) (wm : wfL m) {k : Nat} (hk : k < l.length) (hk2 : k < m.length) (hd : l.drop (k + 1) = m.drop (k + 1)) (h : l[k]?.getD 0 < m[k]?.getD 0) : val l < val m := by
  rw [val_at l k hk, val_at m k hk2, hd]
  have h1 := val_lt (wfL_take wl k)
  rw [List.length_take, show min k l.length = k by omega] at h1
  have h2 := val_nonneg (wfL_take wm k)
  have h3 : B64 ^ k * (l[k]?.getD 0 + 1) ≤ B64 ^ k * (m[k]?.getD 0) := Int.mul_le_mul_of_nonneg_left (by omega) (Int.le_of_lt (B64_pow_pos _))
  rw [Int.mul_add] at h3
  rw [Int.mul_add, Int.mul_add]; omega
theorem icmp_lt {a b : Int} (h : a < b) : icmp a b = -1 := by unfold icmp; rw [if_pos h]
theorem icmp_gt {a b : Int} (h : b < a) : icmp a b = 1 := by unfold icmp; rw [if_neg (by omega), if_pos h]
theorem icmp_eq {a b : Int} (h : a = b) : icmp a b = 0 := by unfold icmp; rw [if_neg (by omega), if_neg (by omega)]
theorem cmp_len {w : World} {x y : Value} {lx ly : List Int} (hx : IsNat w x lx) (hy : IsNat w y ly) (wx : wfL lx) (wy : wfL ly) (nx : Nrm lx) (ny : Nrm ly) (h : lx.length ≠ ly.length ∨ lx = []) (h1 : lx.length ≤ 1000000000000) (h2 : ly.length ≤ 1000000000000) :
    Calls Tryz.prog 113 #[x, y] w fun e w' => e = .returned (.int .i64 (icmp (val lx) (val ly))) ∧ w = w' := by
  obtain ⟨xa, xc, rfl⟩ : ∃ xa xc, x = .slice xa lx.length xc := by
    rcases hx with ⟨rfl, rfl⟩ | ⟨b, cap, M, rfl, _⟩
    · exact ⟨none, 0, rfl⟩
    · exact ⟨some ⟨b, 0, none⟩, cap, rfl⟩
  obtain ⟨ya, yc, rfl⟩ : ∃ ya yc, y = .slice ya ly.length yc := by
    rcases hy with ⟨rfl, rfl⟩ | ⟨b, cap, M, rfl, _⟩
    · exact ⟨none, 0, rfl⟩
    · exact ⟨some ⟨b, 0, none⟩, cap, rfl⟩
  clear hx hy
  rcases Nat.lt_trichotomy lx.length ly.length with hlt | heq | hgt
  · have HC := Hq0 (icmp_lt (val_lt_of_len wx wy ny hlt))
    have hne : ((lx.length : Int) != (ly.length : Int)) = true := by rw [bne_iff_ne]; omega
    generalize lx.length = n at *
    generalize ly.length = m at *
    clear h
    go_enter Tryz.func113, Tryz.ntmps113
    go_wp2
    go_ret
    exact ⟨ret_int HC.out.symm, rfl⟩
  · rcases h with h | h
    · exact absurd heq h
    · subst h
      have hl : ly = [] := List.eq_nil_of_length_eq_zero (by simpa using heq.symm)
      subst hl
      have HC := Hq0 (icmp_eq (a := val []) (b := val []) rfl)
      go_enter Tryz.func113, Tryz.ntmps113
      go_wp2
      go_ret
      exact ⟨ret_int HC.out.symm, rfl⟩
  · have HC := Hq0 (icmp_gt (val_lt_of_len wy wx nx hgt))
    have hne : ((lx.length : Int) != (ly.length : Int)) = true := by rw [bne_iff_ne]; omega
    have hnl : ¬ ((lx.length : Int) < (ly.length : Int)) := by omega
    generalize lx.length = n at *
    generalize ly.length = m at *
    clear h
    go_enter Tryz.func113, Tryz.ntmps113
    go_wp2
    go_ret
    exact ⟨ret_int HC.out.symm, rfl⟩
def CmpAt (lx ly : List Int) (k : Nat) : Prop := lx.drop (k + 1) = ly.drop (k + 1)
theorem cmp_same {w : World} {bx by_ n cx cy : Nat} {lx ly : List Int} (hx : At w bx 0 lx) (hy : At w by_ 0 ly) (wx : wfL lx) (wy : wfL ly) (h1 : lx.length = n) (h2 : ly.length = n) (hn : n ≤ 1000000000000) (h0 : 1 ≤ n) :
    Calls Tryz.prog 113 #[.slice (some ⟨bx, 0, none⟩) n cx, .slice (some ⟨by_, 0, none⟩) n cy] w fun e w' => e = .returned (.int .i64 (icmp (val lx) (val ly))) ∧ ∃ q, w' = w.drewN q := by
  have HX := Hq0 hx; have HY := Hq0 hy; have L1 := Hq0 h1; have L2 := Hq0 h2
  have hne : ((n : Int) != (n : Int)) = false := by simp
  have hn0 : ((n : Int) == 0) = false := by simp; omega
  clear hx hy h1 h2
  go_enter Tryz.func113, Tryz.ntmps113
  go_wp2
  go_loopw [7] (fun i wr => ∃ k : Nat, k < n ∧ i = .int .i64 k ∧ CmpAt lx ly k ∧ ∃ q, wr = w.drewN q) (fun i _ => (intOf i).toNat)
  case atStart => exact ⟨n - 1, by omega, by go_num, by unfold CmpAt; rw [List.drop_eq_nil_of_le (by have := L1.out; omega), List.drop_eq_nil_of_le (by have := L2.out; omega)], 0, rfl⟩
  case round =>
    obtain ⟨k, hk, rfl, hC, q, rfl⟩ := hrel
    have HC := Hq0 hC
    clear hC
    have l1 := L1.out; have l2 := L2.out
    have e0 : ∀ q, (w.drewN q).cell? = w.cell? := fun q => rfl
    cases k with
    | zero =>
      have g1 := HX.out 0 (by omega)
      have g2 := HY.out 0 (by omega)
      rcases Int.lt_trichotomy (lx[0]?.getD 0) (ly[0]?.getD 0) with hlt | heq | hgt
      · have HV := Hq0 (icmp_lt (val_lt_at wx wy (k := 0) (by omega) (by omega) HC.out hlt))
        clear l1 l2 e0
        generalize lx[0]?.getD 0 = x0 at *
        generalize ly[0]?.getD 0 = y0 at *
        go_wp2_with (fail)
        go_quiet (fail)
        go_wp2_with (fail)
        go_quiet (fail)
        go_wp2
        go_ret
        exact ⟨ret_int HV.out.symm, _, dd3 _ _ _ _⟩
      · have hv : lx = ly := by
          rw [show lx = lx.drop 0 by simp, show ly = ly.drop 0 by simp, drop_cons lx 0 (by omega), drop_cons ly 0 (by omega), heq]
          congr 1
        have HV := Hq0 (icmp_eq (congrArg val hv))
        have hnl : ¬ (lx[0]?.getD 0 < ly[0]?.getD 0) := by omega
        have hng : ¬ (ly[0]?.getD 0 < lx[0]?.getD 0) := by omega
        have d1 : decide (lx[0]?.getD 0 < ly[0]?.getD 0) = false := by simpa using hnl
        have d2 : decide (ly[0]?.getD 0 < lx[0]?.getD 0) = false := by simpa using hng
        clear l1 l2 e0 heq hv hnl hng
        generalize lx[0]?.getD 0 = x0 at *
        generalize ly[0]?.getD 0 = y0 at *
        go_wp2_with (fail)
        go_quiet (fail)
        go_wp2_with (fail)
        go_quiet (fail)
        go_wp2_with (fail)
        go_quiet (fail)
        go_wp2
        go_ret
        exact ⟨ret_int HV.out.symm, _, dd4 _ _ _ _ _⟩
      · have HV := Hq0 (icmp_gt (val_lt_at wy wx (k := 0) (by omega) (by omega) HC.out.symm hgt))
        have hnl : ¬ (lx[0]?.getD 0 < ly[0]?.getD 0) := by omega
        have d1 : decide (lx[0]?.getD 0 < ly[0]?.getD 0) = false := by simpa using hnl
        clear l1 l2 e0 hnl
        generalize lx[0]?.getD 0 = x0 at *
        generalize ly[0]?.getD 0 = y0 at *
        go_wp2_with (fail)
        go_quiet (fail)
        go_wp2_with (fail)
        go_quiet (fail)
        go_wp2_with (fail)
        go_quiet (fail)
        go_wp2
        go_ret
        exact ⟨ret_int HV.out.symm, _, dd4 _ _ _ _ _⟩
    | succ k =>
      have g1 := HX.out (k + 1) (by omega)
      have g2 := HY.out (k + 1) (by omega)
      rw [Nat.zero_add] at g1 g2
      have hp0 : (0 : Int) < (k : Int) + 1 := by omega
      have hp1 : (k : Int) + 1 < n := by omega
      have hp3 : 0 ≤ (k : Int) + 1 := by omega
      have hp2 : ((k : Int) + 1).toNat = k + 1 := by omega
      rcases Int.lt_trichotomy (lx[k + 1]?.getD 0) (ly[k + 1]?.getD 0) with hlt | heq | hgt
      · have HV := Hq0 (icmp_lt (val_lt_at wx wy (k := k + 1) (by omega) (by omega) HC.out hlt))
        have d0 : (lx[k + 1]?.getD 0 == ly[k + 1]?.getD 0) = false := by rw [beq_eq_false_iff_ne]; omega
        clear l1 l2 e0
        generalize lx[k + 1]?.getD 0 = x0 at *
        generalize ly[k + 1]?.getD 0 = y0 at *
        go_wp2_with (fail)
        go_quiet (fail)
        go_wp2_with (fail)
        go_quiet (fail)
        go_wp2
        go_ret
        exact ⟨ret_int HV.out.symm, _, dd3 _ _ _ _⟩
      · have HN : Hid (CmpAt lx ly k) := by show CmpAt lx ly k; unfold CmpAt; rw [drop_cons lx (k + 1) (by omega), drop_cons ly (k + 1) (by omega), heq]; congr 1
        have d0 : (lx[k + 1]?.getD 0 == ly[k + 1]?.getD 0) = true := by rw [beq_iff_eq]; exact heq
        clear l1 l2 e0 heq
        generalize lx[k + 1]?.getD 0 = x0 at *
        generalize ly[k + 1]?.getD 0 = y0 at *
        go_wp2_with (fail)
        go_quiet (fail)
        go_wp2
        go_roundw
        case rel => exact ⟨k, by omega, by go_num, HN.out, _, rfl⟩
        case measure => simp [intOf]
      · have HV := Hq0 (icmp_gt (val_lt_at wy wx (k := k + 1) (by omega) (by omega) HC.out.symm hgt))
        have d0 : (lx[k + 1]?.getD 0 == ly[k + 1]?.getD 0) = false := by rw [beq_eq_false_iff_ne]; omega
        have hnl : ¬ (lx[k + 1]?.getD 0 < ly[k + 1]?.getD 0) := by omega
        have d1 : decide (lx[k + 1]?.getD 0 < ly[k + 1]?.getD 0) = false := by simpa using hnl
        clear l1 l2 e0 hnl
        generalize lx[k + 1]?.getD 0 = x0 at *
        generalize ly[k + 1]?.getD 0 = y0 at *
        go_wp2_with (fail)
        go_quiet (fail)
        go_wp2_with (fail)
        go_quiet (fail)
        go_wp2_with (fail)
        go_quiet (fail)
        go_wp2
        go_ret
        exact ⟨ret_int HV.out.symm, _, dd4 _ _ _ _ _⟩
theorem cmp_any {w : World} {x y : Value} {lx ly : List Int} (hx : IsNat w x lx) (hy : IsNat w y ly) (wx : wfL lx) (wy : wfL ly) (nx : Nrm lx) (ny : Nrm ly) (h1 : lx.length ≤ 1000000000000) (h2 : ly.length ≤ 1000000000000) :
    Calls Tryz.prog 113 #[x, y] w fun e w' => e = .returned (.int .i64 (icmp (val lx) (val ly))) ∧ ∃ q, w' = w.drewN q := by
  by_cases h : lx.length ≠ ly.length ∨ lx = []
  · exact (cmp_len hx hy wx wy nx ny h h1 h2).mono fun e w' ⟨a, b⟩ => ⟨a, 0, b.symm⟩
  · have hl : lx ≠ [] := fun e => h (.inr e)
    have he : lx.length = ly.length := Classical.byContradiction fun e => h (.inl e)
    have hl2 : ly ≠ [] := by intro e; subst e; exact hl (List.eq_nil_of_length_eq_zero (by simpa using he))
    obtain ⟨b, cap, M, rfl, hb, hc, hm, hat, hown⟩ := hx.split hl
    obtain ⟨b2, cap2, M2, rfl, hb2, hc2, hm2, hat2, hown2⟩ := hy.split hl2
    have := cmp_same (cx := cap) (cy := cap2) hat hat2 wx wy rfl he.symm h1 (by cases lx with | nil => exact absurd rfl hl | cons a l => simp)
    rw [he] at this ⊢; exact this
end Go.Proofs.YtjcfacinlgogaaaGreatDoor
namespace Go.Proofs.YtjcfacinlgogaaaGreatDoor
open Go.RowKit
theorem addVV (bz oz bx ox by_ oy n cz cx cy : Nat) (L X Y : List Int) (w : World) (hn : n ≤ 9223372036854775807) (hz : w.heap[bz]? = some (blk L)) (hl : oz + n ≤ L.length)
    (hX : At w bx ox X) (hY : At w by_ oy Y) (lx : X.length = n) (ly : Y.length = n) (wx : wfL X) (wy : wfL Y) (ax : bx = bz → ox = oz) (ay : by_ = bz → oy = oz) :
    Calls Tryz.prog 146 #[.slice (some ⟨bz, oz, none⟩) n cz, .slice (some ⟨bx, ox, none⟩) n cx, .slice (some ⟨by_, oy, none⟩) n cy] w fun e w' =>
      ∃ c, e = .returned (.int .u64 c) ∧ VRel (AddF X Y n) w bz oz L n c w' := by
  have H := Hq0 (addVV_g bz oz bx ox by_ oy n cz cx cy L X Y w hn hz hl hX hY lx ly wx wy ax ay)
  clear hX hY hl hz lx ly ax ay
  go_enter Tryz.func146, Tryz.ntmps146
  go_wp2_with (fail)
  refine H.out.mono ?_
  rintro e w' ⟨c, rfl, hv⟩
  have HV := Hq0 hv; clear hv
  go_wp2
  go_ret
  exact ⟨_, rfl, HV.out⟩
theorem subVV (bz oz bx ox by_ oy n cz cx cy : Nat) (L X Y : List Int) (w : World) (hn : n ≤ 9223372036854775807) (hz : w.heap[bz]? = some (blk L)) (hl : oz + n ≤ L.length)
    (hX : At w bx ox X) (hY : At w by_ oy Y) (lx : X.length = n) (ly : Y.length = n) (wx : wfL X) (wy : wfL Y) (ax : bx = bz → ox = oz) (ay : by_ = bz → oy = oz) :
    Calls Tryz.prog 148 #[.slice (some ⟨bz, oz, none⟩) n cz, .slice (some ⟨bx, ox, none⟩) n cx, .slice (some ⟨by_, oy, none⟩) n cy] w fun e w' =>
      ∃ c, e = .returned (.int .u64 c) ∧ VRel (SubF X Y n) w bz oz L n c w' := by
  have H := Hq0 (subVV_g bz oz bx ox by_ oy n cz cx cy L X Y w hn hz hl hX hY lx ly wx wy ax ay)
  clear hX hY hl hz lx ly ax ay
  go_enter Tryz.func148, Tryz.ntmps148
  go_wp2_with (fail)
  refine H.out.mono ?_
  rintro e w' ⟨c, rfl, hv⟩
  have HV := Hq0 hv; clear hv
  go_wp2
  go_ret
  exact ⟨_, rfl, HV.out⟩
theorem mulAddVWW (bz oz bx ox n cz cx : Nat) (L X : List Int) (y r : Int) (w : World) (hn : n ≤ 9223372036854775807) (hz : w.heap[bz]? = some (blk L)) (hl : oz + n ≤ L.length)
    (hX : At w bx ox X) (lx : X.length = n) (wx : wfL X) (ax : bx = bz → ox = oz) (hy : U64 y) (hr : U64 r) :
    Calls Tryz.prog 185 #[.slice (some ⟨bz, oz, none⟩) n cz, .slice (some ⟨bx, ox, none⟩) n cx, .int .u64 y, .int .u64 r] w fun e w' =>
      ∃ c, e = .returned (.int .u64 c) ∧ VRel (MulF X y r n) w bz oz L n c w' := by
  have H := Hq0 (mulAddVWW_g bz oz bx ox n cz cx L X y r w hn hz hl hX lx wx ax hy hr)
  clear hX hl hz lx ax
  go_enter Tryz.func185, Tryz.ntmps185
  go_wp2_with (fail)
  refine H.out.mono ?_
  rintro e w' ⟨c, rfl, hv⟩
  have HV := Hq0 hv; clear hv
  go_wp2
  go_ret
  exact ⟨_, rfl, HV.out⟩
theorem addMulVVWW (bz oz bx ox by_ oy n cz cx cy : Nat) (L X Y : List Int) (m a : Int) (w : World) (hn : n ≤ 9223372036854775807) (hz : w.heap[bz]? = some (blk L)) (hl : oz + n ≤ L.length)
    (hX : At w bx ox X) (hY : At w by_ oy Y) (lx : X.length = n) (ly : Y.length = n) (wx : wfL X) (wy : wfL Y) (ax : bx = bz → ox = oz) (ay : by_ = bz → oy = oz) (hm : U64 m) (ha : U64 a) :
    Calls Tryz.prog 182 #[.slice (some ⟨bz, oz, none⟩) n cz, .slice (some ⟨bx, ox, none⟩) n cx, .slice (some ⟨by_, oy, none⟩) n cy, .int .u64 m, .int .u64 a] w fun e w' =>
      ∃ c, e = .returned (.int .u64 c) ∧ VRel (AddMulF X Y m a n) w bz oz L n c w' := by
  have H := Hq0 (addMulVVWW_g bz oz bx ox by_ oy n cz cx cy L X Y m a w hn hz hl hX hY lx ly wx wy ax ay hm ha)
  clear hX hY hl hz lx ly ax ay
  go_enter Tryz.func182, Tryz.ntmps182
  go_wp2_with (fail)
  refine H.out.mono ?_
  rintro e w' ⟨c, rfl, hv⟩
  have HV := Hq0 hv; clear hv
  go_wp2
  go_ret
  exact ⟨_, rfl, HV.out⟩
theorem lshVU (bz oz bx ox n cz cx s : Nat) (L X : List Int) (w : World) (hn : n ≤ 9223372036854775807) (h1 : 1 ≤ n) (hz : w.heap[bz]? = some (blk L)) (hl : oz + n ≤ L.length)
    (hX : At w bx ox X) (nx : bx ≠ bz) (lx : X.length = n) (wx : wfL X) (hs0 : 1 ≤ s) (hs1 : s ≤ 63) :
    Calls Tryz.prog 184 #[.slice (some ⟨bz, oz, none⟩) n cz, .slice (some ⟨bx, ox, none⟩) n cx, .int .u64 s] w fun e w' =>
      ∃ c, e = .returned (.int .u64 c) ∧ VRel (ShlF X s) w bz oz L n c w' := by
  have H := Hq0 (lshVU_g bz oz bx ox n cz cx s L X w hn h1 hz hl hX nx lx wx hs0 hs1)
  clear hX hl hz lx
  go_enter Tryz.func184, Tryz.ntmps184
  go_wp2_with (fail)
  refine H.out.mono ?_
  rintro e w' ⟨c, rfl, hv⟩
  have HV := Hq0 hv; clear hv
  go_wp2
  go_ret
  exact ⟨_, rfl, HV.out⟩
theorem Made.fin {w w1 w2 : World} {z : Value} {b cap : Nat} {L Z : List Int} (h : Made w w1 z b cap L) (u : Upd w1 w2 b (spl L 0 Z)) (hz : Z.length ≤ cap) :
    NatRes w w2 z.ownBlock (.slice (some ⟨b, 0, none⟩) (nrm Z).length cap) (nrm Z) := by
  have h1 := nrm_length_le Z
  have h2 := h.len
  refine h.res u (spl_length _ _ _ (by omega)) (by omega) ?_
  unfold spl
  rw [List.append_assoc, List.take_zero, List.nil_append, List.take_append_of_le_length h1, nrm_take]
theorem At.spl0 {w : World} {b : Nat} {L Z : List Int} (h : w.heap[b]? = some (blk (spl L 0 Z))) (hz : Z.length ≤ L.length) : At w b 0 Z :=
  At.of_blk h Z (by rw [spl_length _ _ _ (by omega)]; omega) (fun i hi => spl_in L 0 Z i hi (by omega))
def NatVal (w w' : World) (zb : Option Nat) (e : Ending) (n : Int) : Prop := ∃ v l, e = .returned v ∧ NatRes w w' zb v l ∧ wfL l ∧ Nrm l ∧ val l = n
theorem NatRes.draw {w w1 : World} {zb : Option Nat} {v : Value} {l : List Int} (h : NatRes w w1 zb v l) (n : Nat) : NatRes w (w1.drewN n) zb v l :=
  ⟨grown_trans h.grown (grown_weak (grown_drewN w1 n)), h.nat.grown0 (grown_drewN w1 n), h.own⟩
theorem mulAddWW_any {w : World} {z x : Value} {lz lx : List Int} (y r : Int) (hz : IsNat w z lz) (hx : IsNat w x lx) (wx : wfL lx) (hn : lx.length ≤ 100000000000) (hy : U64 y) (hr : U64 r) :
    Calls Tryz.prog 161 #[z, x, .int .u64 y, .int .u64 r] w fun e w' => NatVal w w' z.ownBlock e (val lx * y + r) := by
  by_cases h0 : lx = []
  · subst h0
    obtain ⟨xa, xc, rfl⟩ : ∃ xa xc, x = .slice xa 0 xc := by
      rcases hx with ⟨rfl, _⟩ | ⟨b, cap, M, rfl, _⟩
      · exact ⟨none, 0, rfl⟩
      · exact ⟨some ⟨b, 0, none⟩, cap, rfl⟩
    have Hz := Hq0 hz
    have HE : Hid (∀ e w', (∃ v, e = .returned v ∧ NatRes w w' z.ownBlock v (nrm [r])) → NatVal w w' z.ownBlock e (val [] * y + r)) := by
      rintro e w' ⟨v, rfl, h⟩
      exact ⟨v, _, rfl, h, wfL_nrm (wfL_cons hr wfL_nil), nrm_nrm _, by rw [val_nrm]; simp [val]⟩
    clear hz hx
    go_enter Tryz.func161, Tryz.ntmps161
    go_wp2_with (fail)
    refine (setWord_any Hz.out r).mono ?_
    rintro e w1 ⟨v, rfl, hres⟩
    have HR := Hq0 (HE.out _ _ ⟨v, rfl, hres⟩)
    clear hres
    go_wp2
    go_ret
    exact HR.out
  · by_cases hy0 : y = 0
    · subst hy0
      obtain ⟨b, cap, M, rfl, hb, hc, hm, hat, hown⟩ := hx.split h0
      have Hz := Hq0 hz
      have HE : Hid (∀ e w', (∃ v, e = .returned v ∧ NatRes w w' z.ownBlock v (nrm [r])) → NatVal w w' z.ownBlock e (val lx * 0 + r)) := by
        rintro e w' ⟨v, rfl, h⟩
        exact ⟨v, _, rfl, h, wfL_nrm (wfL_cons hr wfL_nil), nrm_nrm _, by rw [val_nrm]; simp [val]⟩
      have hl1 : ((lx.length : Int) == 0) = false := by
        cases lx with
        | nil => exact absurd rfl h0
        | cons a l => simp; omega
      clear hz hx hb hat hown h0
      go_enter Tryz.func161, Tryz.ntmps161
      go_wp2_with (fail)
      refine (setWord_any Hz.out r).mono ?_
      rintro e w1 ⟨v, rfl, hres⟩
      have HR := Hq0 (HE.out _ _ ⟨v, rfl, hres⟩)
      clear hres
      go_wp2
      go_ret
      exact HR.out
    · obtain ⟨b, cap, M, rfl, hb, hc, hm, hat, hown⟩ := hx.split h0
      have hl1 : ((lx.length : Int) == 0) = false := by
        cases lx with
        | nil => exact absurd rfl h0
        | cons a l => simp; omega
      have hy1 : (y == 0) = false := by simp [hy0]
      have Hz := Hq0 hz; have Hb := Hq0 hb; have Hat := Hq0 hat
      obtain ⟨n, hln⟩ : ∃ n, lx.length = n := ⟨_, rfl⟩
      have Hln := Hq0 hln
      have hn1 : 1 ≤ n := by rw [← hln]; cases lx with | nil => exact absurd rfl h0 | cons a l => simp
      rw [hln] at hc hn ⊢
      clear hz hx hb hat hown h0 hy0 hln hl1
      have hl1 : ((n : Int) == 0) = false := by simp; omega
      go_enter Tryz.func161, Tryz.ntmps161
      go_wp2_with (fail)
      refine (make_any Hz.out (n + 1) (by omega) (by omega)).mono ?_
      rintro e w1 ⟨b1, cap1, L, rfl, hc1, hmade⟩
      have HM := Hq0 hmade
      clear hmade
      go_wp2_with (fail)
      refine (mulAddVWW b1 0 b 0 n cap1 cap L lx y r w1 (by omega) HM.out.here (by have := HM.out.len; omega) (Hat.out.grown HM.out.grown (Array.getElem?_eq_some_iff.1 Hb.out).1) Hln.out wx (fun _ => rfl) hy hr).mono ?_
      rintro e w2 ⟨c, rfl, hv⟩
      obtain ⟨Z, hZ, wZ, ⟨uc, hF⟩, hu⟩ := hv
      have g1 := cell_blk hu.here n (by rw [spl_length _ _ _ (by have := HM.out.len; omega)]; have := HM.out.len; omega)
      have g2 := frozen_blk hu.here n
      have hu3 := hu.set n c
      rw [show n = 0 + Z.length by omega, spl_snoc _ _ _ _ (by have := HM.out.len; omega), show 0 + Z.length = n by omega] at hu3
      have hat3 := At.spl0 hu3.here (by have := HM.out.len; simp; omega)
      have HR : Hid (NatVal w (w2.setCell ⟨b1, n, none⟩ (.int .u64 c)) z.ownBlock (.returned (.slice (some ⟨b1, 0, none⟩) (nrm (Z ++ [c])).length cap1)) (val lx * y + r)) := by
        refine ⟨_, _, rfl, HM.out.fin hu3 (by simp; omega), wfL_nrm (wfL_snoc wZ uc), nrm_nrm _, ?_⟩
        rw [val_nrm, val_snoc, hZ]
        rw [← Hln.out, List.take_length] at hF
        rw [← Hln.out]; exact hF
      have HA := Hq0 hat3; have HL : Hid ((Z ++ [c]).length = n + 1) := by show _ = _; simp [hZ]
      clear hu hu3 hat3 hF hZ wZ
      generalize (spl L 0 Z)[n]?.getD 0 = old at *
      go_wp2_with (fail)
      refine (norm_any b1 0 (n + 1) cap1 (Z ++ [c]) _ HL.out hc1 (by omega) HA.out).mono ?_
      rintro e w4 ⟨rfl, rfl⟩
      go_wp2
      go_ret
      exact HR.out
end Go.Proofs.YtjcfacinlgogaaaGreatDoor
