/- Small whole numbers as floats: their differences, their way back. Plain numbers. No condition. Decimals: a number with another exponent. Decimals: a number with a greater exponent, cut off. -/
import Derived.Test.YtjcfacinlgogaaaGreatDoorQ11
import Derived.Test.YtjcfacinlgogaaaGreatDoorQ20
import Derived.Test.YtjcfacinlgogaaaGreatDoorQ08
import Derived.Test.YtjcfacinlgogaaaGreatDoorQ19
set_option linter.all false
set_option maxHeartbeats 2000000
set_option maxRecDepth 100000
set_option exponentiation.threshold 2000
namespace Go.Proofs.YtjcfacinlgogaaaGreatDoor
theorem cut_exact {way : Ieee.Toward} {neg : Bool} {n drop q : Nat} (h : n = q * 2 ^ drop) (hd : drop ≤ n.log2 + 2) : way.cut neg n drop = q := by
  unfold Ieee.Toward.cut
  rw [Nat.min_eq_left hd, Nat.one_shiftLeft]
  have hp : 0 < 2 ^ drop := Nat.pow_pos (by decide)
  have h1 : n / 2 ^ drop = q := by rw [h]; exact Nat.mul_div_cancel _ hp
  have h2 : n % 2 ^ drop = 0 := by rw [h]; exact Nat.mul_mod_left _ _
  simp only [h1, h2]
  cases way <;> simp
theorem cut_zero {way : Ieee.Toward} {neg : Bool} (drop : Nat) : way.cut neg 0 drop = 0 := by
  unfold Ieee.Toward.cut
  have h3 : 0 < 1 <<< min drop (Nat.log2 0 + 2) := by rw [Nat.one_shiftLeft]; exact Nat.pow_pos (by decide)
  simp only [Nat.zero_div, Nat.zero_mod]
  cases way <;> simp
theorem log2_mul_pow {c : Nat} (k : Nat) (h0 : 0 < c) : (c * 2 ^ k).log2 = c.log2 + k := by
  have hp : 0 < 2 ^ k := Nat.pow_pos (by decide)
  apply log2_eq
  · rw [Nat.pow_add]; exact Nat.mul_le_mul_right _ (Nat.log2_self_le (by omega))
  · rw [show c.log2 + k + 1 = c.log2 + 1 + k by omega, Nat.pow_add]
    exact (Nat.mul_lt_mul_right hp).2 (Nat.lt_log2_self)
theorem nearest_scale (neg : Bool) {c : Nat} (k : Nat) (h0 : 0 < c) (h : c < 9007199254740992) :
    Ieee.double.nearest neg (c * 2 ^ k) (-(k : Int)) = Ieee.double.nearest neg c 0 := by
  have hp : 0 < 2 ^ k := Nat.pow_pos (by decide)
  have hm : c * 2 ^ k ≠ 0 := Nat.ne_of_gt (Nat.mul_pos h0 hp)
  have hL : c.log2 ≤ 52 := by
    have h1 := Nat.log2_self_le (n := c) (by omega)
    rcases Nat.lt_or_ge 52 c.log2 with h2 | h2
    · have h3 : 2 ^ 53 ≤ 2 ^ c.log2 := Nat.pow_le_pow_right (by decide) h2
      omega
    · exact h2
  have key : ∀ (j : Nat), Ieee.double.nearest neg (c * 2 ^ j) (-(j : Int)) = Ieee.double.word neg (min ((((c.log2 : Int) - 52) + 1074).toNat * Ieee.double.binade + c * 2 ^ (52 - c.log2)) Ieee.double.infRung) := by
    intro j
    have hpj : 0 < 2 ^ j := Nat.pow_pos (by decide)
    unfold Ieee.Format.nearest
    rw [if_neg (Nat.ne_of_gt (Nat.mul_pos h0 hpj)), log2_mul_pow j h0]
    have e1 : Ieee.double.leastPlace = -1074 := by decide
    have e2 : (Ieee.double.fractionBits : Int) = 52 := by decide
    have e3 : max (-(j : Int) + ((c.log2 + j : Nat) : Int) - (Ieee.double.fractionBits : Int)) Ieee.double.leastPlace = (c.log2 : Int) - 52 := by
      rw [e1, e2]; omega
    simp only [e3]
    rw [e1]
    have e4 : Ieee.Toward.even.cut neg ((c * 2 ^ j) <<< (-(j : Int) - ((c.log2 : Int) - 52)).toNat) ((c.log2 : Int) - 52 - -(j : Int)).toNat = c * 2 ^ (52 - c.log2) := by
      rcases Nat.le_total j (52 - c.log2) with hj | hj
      · rw [show (-(j : Int) - ((c.log2 : Int) - 52)).toNat = 52 - c.log2 - j by omega, show ((c.log2 : Int) - 52 - -(j : Int)).toNat = 0 by omega]
        rw [Nat.shiftLeft_eq, Nat.mul_assoc, ← Nat.pow_add, show j + (52 - c.log2 - j) = 52 - c.log2 by omega]
        exact cut_exact (by simp) (Nat.zero_le _)
      · rw [show (-(j : Int) - ((c.log2 : Int) - 52)).toNat = 0 by omega, show ((c.log2 : Int) - 52 - -(j : Int)).toNat = j - (52 - c.log2) by omega, Nat.shiftLeft_zero]
        refine cut_exact ?_ (by rw [log2_mul_pow j h0]; omega)
        rw [Nat.mul_assoc, ← Nat.pow_add, show 52 - c.log2 + (j - (52 - c.log2)) = j by omega]
    rw [e4, show ((c.log2 : Int) - 52 - -1074) = (c.log2 : Int) - 52 + 1074 by omega]
  have k0 := key 0
  rw [Nat.pow_zero, Nat.mul_one] at k0
  rw [key k]
  exact k0.symm
def fw (n : Int) : Nat := Ieee.double.nearest (decide (n < 0)) n.natAbs 0
structure RdI (n : Int) (s : Bool) (v i : Nat) : Prop where
  le : i ≤ 1074
  sg : ∀ k : Nat, i ≤ k → Ieee.signed s v (k - i) = n * 2 ^ k
  sn : s = decide (n < 0)
theorem signed_eq (s : Bool) (m u : Nat) : Ieee.signed s m u = (if s then -1 else 1) * ((m * 2 ^ u : Nat) : Int) := by
  unfold Ieee.signed; rw [Nat.shiftLeft_eq]; cases s <;> simp
theorem read_fw {n : Int} (h : n.natAbs < 2147483648) : ∃ s v i, Ieee.double.read (fw n) = .number s v (-((i : Nat) : Int)) ∧ RdI n s v i := by
  by_cases h0 : n = 0
  · subst h0
    refine ⟨false, 0, 1074, by decide, Nat.le_refl _, fun k hk => ?_, by decide⟩
    rw [signed_eq]; simp
  · obtain ⟨x, m, hm, hx, hx2, hn, _, hv⟩ := int_rung (decide (n < 0)) n.natAbs (by omega) (by omega)
    have hx3 : x ≤ 1054 := by
      rcases Nat.lt_or_ge 1054 x with h1 | h1
      · exfalso
        have h2 : 2 ^ 32 ≤ 2 ^ (x - 1023) := Nat.pow_le_pow_right (by decide) (by omega)
        have h3 : (4503599627370496 + m) * 2 ^ 32 ≤ (4503599627370496 + m) * 2 ^ (x - 1023) := Nat.mul_le_mul_left _ h2
        rw [hv] at h3; omega
      · exact h1
    refine ⟨decide (n < 0), 4503599627370496 + m, 1075 - x, ?_, by omega, fun k hk => ?_, rfl⟩
    · unfold fw
      rw [hn, read_word _ x m hm (by omega) (by omega)]
      congr 1; omega
    · rw [signed_eq]
      have e1 : (4503599627370496 + m) * 2 ^ (k - (1075 - x)) = n.natAbs * 2 ^ k := by
        have h1 : (4503599627370496 + m) * 2 ^ (x - 1023) * 2 ^ (k - (1075 - x)) = n.natAbs * 2 ^ 52 * 2 ^ (k - (1075 - x)) := by rw [hv]
        have h2 : n.natAbs * 2 ^ 52 * 2 ^ (k - (1075 - x)) = n.natAbs * 2 ^ k * 2 ^ (x - 1023) := by
          rw [Nat.mul_assoc, Nat.mul_assoc, ← Nat.pow_add, ← Nat.pow_add]; congr 2; omega
        rw [h2, Nat.mul_right_comm] at h1
        exact Nat.eq_of_mul_eq_mul_right (Nat.pow_pos (by decide)) h1
      rw [e1]
      by_cases hneg : n < 0
      · simp only [hneg, decide_true, if_true]
        rw [Int.natCast_mul, Int.natCast_pow]
        have : (n.natAbs : Int) = -n := by omega
        rw [this]; simp [Int.neg_mul]
      · simp only [hneg, decide_false]
        rw [Int.natCast_mul, Int.natCast_pow]
        have : (n.natAbs : Int) = n := by omega
        rw [this]; simp
theorem fw_sub {a b : Int} (ha : a.natAbs < 1073741824) (hb : b.natAbs < 1073741824) : Ieee.double.sub (fw a) (fw b) = some (fw (a - b)) := by
  obtain ⟨s, v, i, e1, r1⟩ := read_fw (n := a) (by omega)
  obtain ⟨t, u, j, e2, r2⟩ := read_fw (n := b) (by omega)
  unfold Ieee.Format.sub
  rw [e1, e2]
  simp only [Ieee.Datum.opposite, Ieee.Datum.sum, Option.map_some, Option.some.injEq, Ieee.Format.write]
  obtain ⟨k, hk⟩ : ∃ k : Nat, min (-(i : Int)) (-(j : Int)) = -(k : Int) ∧ i ≤ k ∧ j ≤ k := ⟨max i j, by omega, by omega, by omega⟩
  rw [hk.1, show (-(i : Int) - -(k : Int)).toNat = k - i by omega, show (-(j : Int) - -(k : Int)).toNat = k - j by omega]
  have h1 := r1.sg k hk.2.1
  have h2 := r2.sg k hk.2.2
  have h3 : Ieee.signed (!t) u (k - j) = -(b * 2 ^ k) := by
    rw [← h2]; unfold Ieee.signed; cases t <;> simp
  rw [h1, h3]
  have h4 : a * 2 ^ k + -(b * 2 ^ k) = (a - b) * 2 ^ k := by rw [Int.sub_mul]; omega
  rw [h4]
  have hp : (0 : Int) < 2 ^ k := Int.pow_pos (by decide)
  have h5 : ((a - b) * 2 ^ k).natAbs = (a - b).natAbs * 2 ^ k := by
    rw [Int.natAbs_mul, Int.natAbs_pow]; rfl
  rw [h5]
  by_cases hab : a - b = 0
  · rw [hab]
    have hab2 : a = b := by omega
    rw [r1.sn, r2.sn, hab2]
    simp only [Int.zero_mul, if_true, Int.natAbs_zero, Nat.zero_mul]
    have : (decide (b < 0) && !decide (b < 0)) = false := by simp
    have e0 : ∀ p, Ieee.double.nearest false 0 p = Ieee.double.word false 0 := fun p => by unfold Ieee.Format.nearest; rw [if_pos rfl]
    rw [this, e0]; exact (e0 0).symm
  · have h6 : (a - b) * 2 ^ k ≠ 0 := Int.mul_ne_zero hab (by omega)
    rw [if_neg h6]
    have h7 : decide ((a - b) * 2 ^ k < 0) = decide (a - b < 0) := by
      by_cases h : a - b < 0
      · have := Int.mul_neg_of_neg_of_pos h hp
        simp [h, this]
      · have := Int.mul_nonneg (show 0 ≤ a - b by omega) (Int.le_of_lt hp)
        simp only [h, decide_false, decide_eq_false_iff_not]; omega
    rw [h7, nearest_scale _ k (by omega) (by omega)]
    rfl
theorem fw_int {n : Int} (h : n.natAbs < 2147483648) : (Ieee.double.read (fw n)).toInt .zero = some n := by
  obtain ⟨s, v, i, e1, r1⟩ := read_fw h
  rw [e1]
  simp only [Ieee.Datum.toInt, Ieee.Datum.integral]
  have h1 := r1.sg i (Nat.le_refl _)
  rw [Nat.sub_self, signed_eq, Nat.pow_zero, Nat.mul_one] at h1
  have hv : v = n.natAbs * 2 ^ i := by
    have h2 := congrArg Int.natAbs h1
    rw [Int.natAbs_mul, Int.natAbs_mul, Int.natAbs_pow] at h2
    have h3 : (if s = true then (-1 : Int) else 1).natAbs = 1 := by cases s <;> rfl
    rw [h3, Nat.one_mul] at h2
    simpa using h2
  rw [show (-(i : Int)).toNat = 0 by omega, Nat.shiftLeft_zero, show (- -(i : Int)).toNat = i by omega]
  by_cases h0 : n = 0
  · subst h0
    have : v = 0 := by simpa using hv
    rw [this, cut_zero]
    unfold Ieee.signed; simp
  · rw [cut_exact hv (by rw [hv, log2_mul_pow i (by omega)]; omega), signed_eq, r1.sn]
    by_cases hneg : n < 0
    · simp [hneg]; omega
    · simp [hneg]; omega
theorem nearest_word (c : Nat) : ∃ r, r < 9223372036854775808 ∧ ∀ neg, Ieee.double.nearest neg c 0 = Ieee.double.word neg r := by
  have hi : Ieee.double.infRung = 9218868437227405312 := by decide
  by_cases h0 : c = 0
  · exact ⟨0, by decide, fun neg => by unfold Ieee.Format.nearest; rw [if_pos h0]⟩
  · obtain ⟨r, hr⟩ : ∃ r, Ieee.double.nearest false c 0 = Ieee.double.word false (min r Ieee.double.infRung) ∧ Ieee.double.nearest true c 0 = Ieee.double.word true (min r Ieee.double.infRung) := by
      unfold Ieee.Format.nearest
      rw [if_neg h0, if_neg h0]
      exact ⟨_, rfl, rfl⟩
    refine ⟨min r Ieee.double.infRung, by rw [hi]; omega, fun neg => by cases neg; exact hr.1; exact hr.2⟩
theorem fw_abs (n : Int) : ∃ r, r < 9223372036854775808 ∧ fw n = (if n < 0 then 9223372036854775808 + r else r) ∧ fw n.natAbs = r := by
  obtain ⟨r, hr, h⟩ := nearest_word n.natAbs
  have e1 : Ieee.double.signWeight = 9223372036854775808 := by decide
  refine ⟨r, hr, ?_, ?_⟩
  · unfold fw
    rw [h]; unfold Ieee.Format.word
    rw [e1]
    by_cases hn : n < 0 <;> simp [hn]
  · unfold fw
    have h2 : decide ((n.natAbs : Int) < 0) = false := by simp
    rw [h2, Int.natAbs_natCast, h]; rfl
end Go.Proofs.YtjcfacinlgogaaaGreatDoor
namespace Go.Proofs.YtjcfacinlgogaaaGreatDoor
open Go.RowKit
def DecFr (w w' : World) (r : Ending) (n : Int) (e : Int) : Prop := ∃ b v, r = .returned (decV b e) ∧ w.heap.size ≤ b ∧ IntBox w' b v n ∧ w.grownBy w' none ∧ ∀ k, v.ownBlock = some k → w.heap.size ≤ k
def DecNew (w w' : World) (r : Ending) (n : Int) (e : Int) : Prop := ∃ b v, r = .returned (decV b e) ∧ w.heap.size ≤ b ∧ IntBox w' b v n ∧ w.grownBy w' none
theorem Abs_fw (n : Int) (w : World) : Calls Tryz.prog 119 #[.float .f64 (fw n)] w fun e w' => e = .returned (.float .f64 (fw n.natAbs)) ∧ w = w' := by
  obtain ⟨r, hr, e1, e2⟩ := fw_abs n
  have hb := run_f64bits (fw n)
  have hf := run_f64from (fw n.natAbs : Nat)
  have ha : bits .andNot .u64 ((fw n : Nat) : Int) 9223372036854775808 = (fw n.natAbs : Nat) := by
    rw [e1, e2]
    by_cases hn : n < 0
    · rw [if_pos hn]
      have h1 := u64_andNot_nat (9223372036854775808 + r) 9223372036854775808 (by omega) (by decide)
      have h2 : (9223372036854775808 + r) &&& (18446744073709551615 - 9223372036854775808) = (9223372036854775808 + r) % 2 ^ 63 := Nat.and_two_pow_sub_one_eq_mod _ 63
      rw [h2] at h1
      have h3 : (9223372036854775808 + r) % 2 ^ 63 = r := by
        rw [show (2 : Nat) ^ 63 = 9223372036854775808 by decide]; omega
      rw [h3] at h1
      exact h1
    · rw [if_neg hn]; exact andNot_top r hr
  simp only [Int.toNat_natCast] at hf
  clear e1 e2
  generalize fw n = x at *
  generalize fw n.natAbs = y at *
  go_enter Tryz.func119, Tryz.ntmps119
  go_wp2
  go_ret
  exact ⟨by first | rfl | simp, rfl⟩
theorem run_fw_sub (a b : Int) (ha : a.natAbs ≤ 2000) (hb : b.natAbs ≤ 2000) (wx : World) : (binOp .sub 92 (.float .f64 (floatOfInt .f64 a)) (.float .f64 (floatOfInt .f64 b))).run Tryz.prog wx = .ok (.float .f64 (fw (a - b))) wx :=
  run_float_arith wx .sub 92 .f64 _ _ _ (fw_sub (by omega) (by omega))
theorem und_f64 : Tryz.prog.underlying 92 = some (.float .f64) := by kernel_rfl
theorem und_i64 : Tryz.prog.underlying 2 = some (.int .i64) := by kernel_rfl
theorem run_fw_int (n : Int) (h : n.natAbs ≤ 4000) (wx : World) : (convert 92 2 (.float .f64 (fw n))).run Tryz.prog wx = .ok (.int .i64 n) wx := by
  refine run_convert_float_int wx 92 2 .f64 .i64 (fw n) n (by rw [und_f64]; rfl) und_i64 ?_
  have h1 : (FloatKind.f64.decode (fw n)).toInt .zero = some n := fw_int (by omega)
  unfold floatToIntVal
  rw [h1]
  show (if IntKind.i64.min ≤ n ∧ n ≤ IntKind.i64.max then some n else none) = some n
  have h2 : IntKind.i64.min ≤ n := by show -9223372036854775808 ≤ n; omega
  have h3 : n ≤ IntKind.i64.max := by show n ≤ 9223372036854775807; omega
  rw [if_pos ⟨h2, h3⟩]
structure Dbx (w W0 : World) (b : Nat) (e : Int) : Prop where
  g : w.grownBy W0 none
  c0 : W0.cell? ⟨w.heap.size, 0, none⟩ = some (.pointer (some ⟨b, 0, none⟩))
  c1 : W0.cell? ⟨w.heap.size, 1, none⟩ = some (.int .i32 e)
  r : W0.heap[w.heap.size + 1]? = some (.cells #[.pointer none, .int .i32 0] 56)
theorem dbx_new (w : World) (b : Nat) (e : Int) : ∃ W0, W0 = (w.alloc (.cells #[.pointer (some ⟨b, 0, none⟩), .int .i32 e] 56)).alloc (.cells #[.pointer none, .int .i32 0] 56) ∧ Dbx w W0 b e ∧ W0.heap.size = w.heap.size + 2 := by
  have hh := heap_new w (.cells #[.pointer (some ⟨b, 0, none⟩), .int .i32 e] 56)
  have hs := size_alloc w (.cells #[.pointer (some ⟨b, 0, none⟩), .int .i32 e] 56)
  have h2 := heap_new (w.alloc (.cells #[.pointer (some ⟨b, 0, none⟩), .int .i32 e] 56)) (.cells #[.pointer none, .int .i32 0] 56)
  have g1 := World.grownBy_alloc w (.cells #[.pointer (some ⟨b, 0, none⟩), .int .i32 e] 56) none
  have g2 := World.grownBy_alloc (w.alloc (.cells #[.pointer (some ⟨b, 0, none⟩), .int .i32 e] 56)) (.cells #[.pointer none, .int .i32 0] 56) none
  rw [hs] at h2
  refine ⟨_, rfl, ⟨grown_trans g1 g2, ?_, ?_, h2⟩, by rw [size_alloc, hs]⟩
  · refine kpc g2 ?_
    unfold World.cell?; rw [hh]; rfl
  · refine kpc g2 ?_
    unfold World.cell?; rw [hh]; rfl
theorem Dbx.same {w W0 W1 : World} {b : Nat} {e : Int} (h : Dbx w W0 b e) (g : W0.grownBy W1 none) : Dbx w W1 b e :=
  ⟨grown_trans h.g g, kpc g h.c0, kpc g h.c1, kpb g h.r⟩
theorem rescale_fits {n : Int} {k : Nat} (hn : (n.natAbs : Int) < B64 ^ 39) (hk : k ≤ 423) : ((n * 10 ^ k).natAbs : Int) < B64 ^ 1000 := by
  have h1 := ten_lt2 hk
  have h0 : (0 : Int) < 10 ^ k := Int.pow_pos (by decide)
  rw [Int.natAbs_mul, Int.natCast_mul]
  have h2 : (((10 : Int) ^ k).natAbs : Int) = 10 ^ k := by omega
  rw [h2]
  have h3 : (n.natAbs : Int) * 10 ^ k < B64 ^ 39 * B64 ^ 22 := Int.mul_lt_mul hn (Int.le_of_lt h1) h0 (Int.le_of_lt (B64_pow_pos _))
  rw [← Int.pow_add] at h3
  exact Int.lt_of_lt_of_le h3 (pow_mono (by decide))
theorem isNat_cells {w : World} {b : Nat} {cs : Array Value} {v : Value} {l : List Int} (h : w.heap[b]? = some (.cells cs 56)) (hn : IsNat w v l) : v.ownBlock ≠ some b := by
  intro e
  rcases hn with ⟨rfl, _⟩ | ⟨c, cap, M, rfl, hc, _⟩
  · simp [Value.ownBlock] at e
  · simp [Value.ownBlock] at e; subst e
    rw [h] at hc
    simp only [blk, Option.some.injEq, Obj.cells.injEq] at hc
    exact absurd hc.2.1 (by decide)
theorem IntBox.setD {w : World} {b r o : Nat} {cs : Array Value} {x u : Value} {n : Int} (h : IntBox w b x n) (hr : w.heap[r]? = some (.cells cs 56)) (hne : b ≠ r) : IntBox (w.setCell ⟨r, o, none⟩ u) b x n := by
  obtain ⟨h1, l, hn, wl, nl, hv, hl⟩ := h
  exact ⟨(Below.heap_setCell _ _ _ _ hne).trans h1, l, hn.set (isNat_cells hr hn) o u, wl, nl, hv, hl⟩
theorem IntBox.same0 {w w' : World} {b : Nat} {v : Value} {n : Int} (h : IntBox w b v n) (g : w.grownBy w' none) : IntBox w' b v n := by
  obtain ⟨h1, l, hn, k⟩ := h
  exact ⟨kpb g h1, l, hn.grown0 g, k⟩
structure DfRes (w w5 : World) (r bz : Nat) (v : Value) (n e2 : Int) : Prop where
  c0 : w5.cell? ⟨r, 0, none⟩ = some (.pointer (some ⟨bz, 0, none⟩))
  c1 : w5.cell? ⟨r, 1, none⟩ = some (.int .i32 e2)
  box : IntBox w5 bz v n
  g : w.grownBy w5 none
theorem df_of {w w4 : World} {r bz : Nat} {v : Value} {n e2 : Int} (hr : w4.heap[r]? = some (.cells #[.pointer none, .int .i32 0] 56)) (hb : IntBox w4 bz v n) (hne : bz ≠ r) (g : w.grownBy w4 none) (hs : w.heap.size ≤ r) :
    DfRes w ((w4.setCell ⟨r, 0, none⟩ (.pointer (some ⟨bz, 0, none⟩))).setCell ⟨r, 1, none⟩ (.int .i32 e2)) r bz v n e2 := by
  have h1 : (w4.setCell ⟨r, 0, none⟩ (.pointer (some ⟨bz, 0, none⟩))).heap[r]? = some (.cells #[.pointer (some ⟨bz, 0, none⟩), .int .i32 0] 56) := by
    simp [World.setCell, Array.getElem?_modify, hr]
  have h2 : ((w4.setCell ⟨r, 0, none⟩ (.pointer (some ⟨bz, 0, none⟩))).setCell ⟨r, 1, none⟩ (.int .i32 e2)).heap[r]? = some (.cells #[.pointer (some ⟨bz, 0, none⟩), .int .i32 e2] 56) := by
    rw [World.setCell]; simp [Array.getElem?_modify, h1]
  have g2 := (grown_set2 (b := r) g 0 (.pointer (some ⟨bz, 0, none⟩))).set 1 (.int .i32 e2)
  refine ⟨?_, ?_, (hb.setD hr hne).setD h1 hne, ⟨g2.os, g2.tape, g2.output, g2.size, fun i hi _ => g2.block i hi (by omega) (by simp)⟩⟩
  · unfold World.cell?; rw [h2]; rfl
  · unfold World.cell?; rw [h2]; rfl
theorem rescale_down {w : World} {b : Nat} {x : Value} {n e e2 : Int} (hx : IntC w b 0 x n) (h1 : e2 < e) (he : e.natAbs ≤ 2000) (he2 : e2.natAbs ≤ 2000) (hd : e - e2 ≤ 423) (hK : TabK w) (hn : (n.natAbs : Int) < B64 ^ 39) :
    Calls Tryz.prog 97 #[decV b e, .int .i32 e2] w fun r w' => DecFr w w' r (n * 10 ^ (e - e2).toNat) e2 := by
  have HX := Hq0 hx; have HK := Hq0 hK; have HN := Hq0 hn
  have hne : (e == e2) = false := by simp; omega
  have hgt : ¬ (e < e2) := by omega
  have hsub := run_fw_sub e2 e he2 he
  have hcnv := run_fw_int ((e2 - e).natAbs : Int) (by omega)
  have HA := Hq0 (Abs_fw (e2 - e))
  have HV := Hq0 (fun (w : World) => getValue_any b e w)
  have ed : ((e2 - e).natAbs : Int) = ((e - e2).toNat : Nat) := by omega
  have hd2 : (e - e2).toNat ≤ 423 := by omega
  rw [ed] at hcnv HA
  generalize (e - e2).toNat = k at *
  clear hx hK ed hd hn
  unfold decV at HV ⊢
  obtain ⟨W0, hW0, h0, hs0⟩ := dbx_new w b e
  have HB := Hq0 h0
  have e0 := h0.c0
  have e1 := h0.c1
  clear h0
  have HS0 := Hq0 hs0
  clear hs0
  generalize e2 - e = dd at *
  go_enter Tryz.func97, Tryz.ntmps97
  go_upto_region 1 with (fail)
  rw [← hW0]
  clear hW0
  go_upto_region 3 with (fail)
  generalize fw dd = fdd at *
  generalize fw k = fk at *
  go_wp2_with (fail)
  refine (HA.out _).mono ?_
  rintro r w1 ⟨rfl, rfl⟩
  go_upto_region 5 with (fail)
  have hnew : Hid ((W0.alloc (.cells #[.bool false, .slice none 0 0] 107)).heap[W0.heap.size]? = some (ibox false (.slice none 0 0))) := Hq0 (heap_new W0 (ibox false (.slice none 0 0)))
  have hga : Hid (W0.grownBy (W0.alloc (.cells #[.bool false, .slice none 0 0] 107)) none) := Hq0 (World.grownBy_alloc W0 (ibox false (.slice none 0 0)) none)
  generalize W0.alloc (.cells #[.bool false, .slice none 0 0] 107) = W1 at *
  have q0 := kpc hga.out e0
  have q1 := kpc hga.out e1
  clear e0 e1
  go_upto_if 29 with (fail)
  have hdec : decide (e < e2) = false := by simp; omega
  rw [hdec]
  clear hne hsub he he2 hgt hdec h1
  go_wp2_with (fail)
  refine (HV.out _).mono ?_
  rintro r w2 ⟨rfl, g2⟩
  have G2 := Hq0 (grown_trans HB.out.g (grown_trans hga.out g2))
  have H2 : Hid (w2.heap[W0.heap.size]? = some (ibox false (.slice none 0 0))) := kpb g2 hnew.out
  have HB2 := Hq0 ((HB.out.same hga.out).same g2)
  have hb1 := HX.out
  have hbl : b < w.heap.size := by obtain ⟨_, _, ho⟩ := HX.out.obj; exact (Array.getElem?_eq_some_iff.1 ho).1
  clear g2 q0 q1 hnew hb1
  go_wp2_with (fail)
  refine (pow10_up k w2 hd2 (HK.out.same G2.out)).mono ?_
  rintro r w3 ⟨b3, v3, rfl, hb3, hx3, hg3⟩
  have G3 := Hq0 (grown_trans G2.out hg3)
  have H3 : Hid (w3.heap[W0.heap.size]? = some (ibox false (.slice none 0 0))) := kpb hg3 H2.out
  have HB3 := Hq0 (HB2.out.same hg3)
  have hs0 := HS0.out
  have hlt2 : W0.heap.size < w2.heap.size := (Array.getElem?_eq_some_iff.1 H2.out).1
  have HMU := Hq0 (Mul_any H3.out (HX.out.same G3.out) hx3.c (by omega) (by omega) (by intro e; injection e; omega) (.inl HN.out) (HK.out.same G3.out) (rescale_fits HN.out hd2))
  clear hx3 hg3 hb3 hs0
  go_wp2_with (fail)
  refine HMU.out.mono ?_
  rintro r w4 ⟨rfl, v4, hb4, hg4⟩
  have HR : Hid (w4.heap[w.heap.size + 1]? = some (.cells #[.pointer none, .int .i32 0] 56)) := Hq0 ((hg4.block _ (by have := (Array.getElem?_eq_some_iff.1 HB3.out.r).1; omega) (by have := HS0.out; omega) (by simp)).trans HB3.out.r)
  have HFR := Hq0 hg4.fr
  have HF := Hq0 (show _ ∧ _ from ⟨hb4, Grown2.new G3.out hg4.toGrown2 (by have := HS0.out; omega)⟩)
  have r0 : w4.cell? ⟨w.heap.size + 1, 0, none⟩ = some (.pointer none) := by unfold World.cell?; rw [HR.out]; rfl
  have r1 : w4.cell? ⟨w.heap.size + 1, 1, none⟩ = some (.int .i32 0) := by unfold World.cell?; rw [HR.out]; rfl
  have r2 : w4.frozen? ⟨w.heap.size + 1, 0, none⟩ = false := by unfold World.frozen?; rw [HR.out]; rfl
  have r3 : w4.frozen? ⟨w.heap.size + 1, 1, none⟩ = false := by unfold World.frozen?; rw [HR.out]; rfl
  clear hb4 hg4 HMU
  go_wp2
  have hD := df_of (e2 := e2) HR.out HF.out.1 (by have := HS0.out; omega) HF.out.2 (by omega)
  generalize (w4.setCell ⟨w.heap.size + 1, 0, none⟩ (.pointer (some ⟨W0.heap.size, 0, none⟩))).setCell ⟨w.heap.size + 1, 1, none⟩ (.int .i32 e2) = w5 at *
  obtain ⟨s0, s1, hbx, hg5⟩ := hD
  have HF5 := Hq0 (show _ ∧ _ from ⟨hbx, hg5⟩)
  clear hbx hg5 r0 r1 r2 r3
  refine bodyPost_ret (v := decV W0.heap.size e2) (by simp [results, Tryz.func97, go_sem, s0, s1, decV]; try rfl) rfl ?_
  exact ⟨W0.heap.size, v4, rfl, by have := HS0.out; omega, HF5.out.1, HF5.out.2, fun k hk => Nat.le_trans G3.out.size (HFR.out k hk)⟩
end Go.Proofs.YtjcfacinlgogaaaGreatDoor
namespace Go.Proofs.YtjcfacinlgogaaaGreatDoor
open Go.RowKit
theorem ten_ne (k : Nat) : (10 : Int) ^ k ≠ 0 := by
  have : (0 : Int) < 10 ^ k := Int.pow_pos (by decide)
  omega
theorem ten_3 {k : Nat} (h : k ≤ 57) : (((10 : Int) ^ k).natAbs : Int) < B64 ^ 3 := by
  have h1 : (10 : Nat) ^ k ≤ 10 ^ 57 := Nat.pow_le_pow_right (by decide) h
  have h2 : (10 : Nat) ^ 57 < 18446744073709551616 ^ 3 := by decide
  have h3 : ((10 ^ k : Nat) : Int) < ((18446744073709551616 ^ 3 : Nat) : Int) := Int.ofNat_lt.2 (by omega)
  have h4 : (((10 : Int) ^ k).natAbs : Int) = ((10 ^ k : Nat) : Int) := by rw [Int.natAbs_pow]; simp
  rw [h4]; simpa [B64] using h3
theorem tdiv_fits {n m : Int} (hn : (n.natAbs : Int) < B64 ^ 39) : ((n.tdiv m).natAbs : Int) < B64 ^ 1000 := by
  rw [tdiv_abs]
  have h1 : ((n.natAbs / m.natAbs : Nat) : Int) ≤ n.natAbs := Int.ofNat_le.2 (Nat.div_le_self _ _)
  exact Int.lt_of_lt_of_le (Int.lt_of_le_of_lt h1 hn) (pow_mono (by decide))
theorem rescale_up {w : World} {b : Nat} {x : Value} {n e e2 : Int} (hx : IntC w b 0 x n) (h1 : e < e2) (he : e.natAbs ≤ 2000) (he2 : e2.natAbs ≤ 2000) (hd : e2 - e ≤ 57) (hK : TabK w) (hn : (n.natAbs : Int) < B64 ^ 39) :
    Calls Tryz.prog 97 #[decV b e, .int .i32 e2] w fun r w' => DecNew w w' r (n.tdiv (10 ^ (e2 - e).toNat)) e2 := by
  have HX := Hq0 hx; have HK := Hq0 hK; have HN := Hq0 hn
  have hne : (e == e2) = false := by simp; omega
  have hgt : e < e2 := by omega
  have hsub := run_fw_sub e2 e he2 he
  have hcnv := run_fw_int ((e2 - e).natAbs : Int) (by omega)
  have HA := Hq0 (Abs_fw (e2 - e))
  have HV := Hq0 (fun (w : World) => getValue_any b e w)
  have ed : ((e2 - e).natAbs : Int) = ((e2 - e).toNat : Nat) := by omega
  have hd2 : (e2 - e).toNat ≤ 57 := by omega
  rw [ed] at hcnv HA
  generalize (e2 - e).toNat = k at *
  clear hx hK ed hd hn
  unfold decV at HV ⊢
  obtain ⟨W0, hW0, h0, hs0⟩ := dbx_new w b e
  have HB := Hq0 h0
  have e0 := h0.c0
  have e1 := h0.c1
  clear h0
  have HS0 := Hq0 hs0
  clear hs0
  generalize e2 - e = dd at *
  go_enter Tryz.func97, Tryz.ntmps97
  go_upto_region 1 with (fail)
  rw [← hW0]
  clear hW0
  go_upto_region 3 with (fail)
  generalize fw dd = fdd at *
  generalize fw k = fk at *
  go_wp2_with (fail)
  refine (HA.out _).mono ?_
  rintro r w1 ⟨rfl, rfl⟩
  go_upto_region 5 with (fail)
  have hnew : Hid ((W0.alloc (.cells #[.bool false, .slice none 0 0] 107)).heap[W0.heap.size]? = some (ibox false (.slice none 0 0))) := Hq0 (heap_new W0 (ibox false (.slice none 0 0)))
  have hga : Hid (W0.grownBy (W0.alloc (.cells #[.bool false, .slice none 0 0] 107)) none) := Hq0 (World.grownBy_alloc W0 (ibox false (.slice none 0 0)) none)
  generalize W0.alloc (.cells #[.bool false, .slice none 0 0] 107) = W1 at *
  have q0 := kpc hga.out e0
  have q1 := kpc hga.out e1
  clear e0 e1
  go_upto_if 29 with (fail)
  have hdec : decide (e < e2) = true := by simp; omega
  try rw [hdec]
  clear hne hsub he he2 hgt hdec h1
  go_wp2_with (fail)
  refine (HV.out _).mono ?_
  rintro r w2 ⟨rfl, g2⟩
  have G2 := Hq0 (grown_trans HB.out.g (grown_trans hga.out g2))
  have H2 : Hid (w2.heap[W0.heap.size]? = some (ibox false (.slice none 0 0))) := kpb g2 hnew.out
  have HB2 := Hq0 ((HB.out.same hga.out).same g2)
  have hb1 := HX.out
  have hbl : b < w.heap.size := by obtain ⟨_, _, ho⟩ := HX.out.obj; exact (Array.getElem?_eq_some_iff.1 ho).1
  clear g2 q0 q1 hnew hb1
  go_wp2_with (fail)
  refine (pow10_up k w2 (by omega) (HK.out.same G2.out)).mono ?_
  rintro r w3 ⟨b3, v3, rfl, hb3, hx3, hg3⟩
  have G3 := Hq0 (grown_trans G2.out hg3)
  have H3 : Hid (w3.heap[W0.heap.size]? = some (ibox false (.slice none 0 0))) := kpb hg3 H2.out
  have HB3 := Hq0 (HB2.out.same hg3)
  have hs0 := HS0.out
  have hlt2 : W0.heap.size < w2.heap.size := (Array.getElem?_eq_some_iff.1 H2.out).1
  have HMU := Hq0 (Quo_any H3.out (HX.out.same G3.out) hx3.c (by omega) (by omega) (ten_ne k) (ten_3 hd2) (HK.out.same G3.out) (tdiv_fits HN.out))
  clear hx3 hg3 hb3 hs0
  go_wp2_with (fail)
  refine HMU.out.mono ?_
  rintro r w4 ⟨rfl, v4, hb4, hg4⟩
  have HB4 : Hid (Dbx w w4 b e) := by
    have h3 := HB3.out
    have hs := HS0.out
    have k0 : w4.heap[w.heap.size]? = w3.heap[w.heap.size]? := hg4.block _ (World.block_lt_of_cell? _ _ h3.c0) (by omega) (by simp)
    refine ⟨Grown2.new G3.out hg4.toGrown2 (by omega), ?_, ?_, ?_⟩
    · rw [World.cell?_of_block k0]; exact h3.c0
    · rw [World.cell?_of_block k0]; exact h3.c1
    · rw [hg4.block _ (Array.getElem?_eq_some_iff.1 h3.r).1 (by omega) (by simp)]; exact h3.r
  have HF := Hq0 hb4
  have q0 := HB4.out.c0
  have q1 := HB4.out.c1
  have HX4 := Hq0 (HX.out.same HB4.out.g)
  clear hb4 hg4 HMU
  go_wp2_with (fail)
  refine (Sign_any HF.out.c).mono ?_
  rintro r w5 ⟨rfl, rfl⟩
  have hfin : ∀ (wz : World) (vz : Value), wz.heap[w.heap.size + 1]? = some (.cells #[.pointer none, .int .i32 0] 56) → IntBox wz W0.heap.size vz (n.tdiv (10 ^ k)) → w.grownBy wz none → DfRes w ((wz.setCell ⟨w.heap.size + 1, 0, none⟩ (.pointer (some ⟨W0.heap.size, 0, none⟩))).setCell ⟨w.heap.size + 1, 1, none⟩ (.int .i32 e2)) (w.heap.size + 1) W0.heap.size vz (n.tdiv (10 ^ k)) e2 := fun wz vz a1 a2 a3 => df_of a1 a2 (by have := HS0.out; omega) a3 (by omega)
  have HFIN := Hq0 hfin
  clear hfin
  by_cases hq : n.tdiv (10 ^ k) = 0
  · have e5 : isgn (n.tdiv (10 ^ k)) = 0 := by rw [hq]; rfl
    rw [e5]
    have HQ0 := Hq0 hq
    clear hq e5
    by_cases hn0 : n = 0
    · have e6 : isgn n = 0 := by rw [hn0]; rfl
      clear hn0
      go_wp2_with (fail)
      refine (HV.out _).mono ?_
      rintro r w6 ⟨rfl, g6⟩
      have HB6 := Hq0 (HB4.out.same g6)
      have HF6 : Hid (IntBox w6 W0.heap.size v4 (n.tdiv (10 ^ k))) := Hq0 (HF.out.same0 g6)
      have hx6 := HX4.out.same g6
      clear g6
      go_wp2_with (fail)
      refine (Sign_any hx6).mono ?_
      rintro r w7 ⟨rfl, rfl⟩
      rw [e6]
      clear hx6 e6 q0 q1
      have hr := HB6.out.r
      have r0 : w6.cell? ⟨w.heap.size + 1, 0, none⟩ = some (.pointer none) := by unfold World.cell?; rw [hr]; rfl
      have r1 : w6.cell? ⟨w.heap.size + 1, 1, none⟩ = some (.int .i32 0) := by unfold World.cell?; rw [hr]; rfl
      have r2 : w6.frozen? ⟨w.heap.size + 1, 0, none⟩ = false := by unfold World.frozen?; rw [hr]; rfl
      have r3 : w6.frozen? ⟨w.heap.size + 1, 1, none⟩ = false := by unfold World.frozen?; rw [hr]; rfl
      have HD := Hq0 (HFIN.out w6 v4 hr HF6.out HB6.out.g)
      clear hr
      go_wp2
      have hD := HD.out
      clear HD
      generalize (w6.setCell ⟨w.heap.size + 1, 0, none⟩ (.pointer (some ⟨W0.heap.size, 0, none⟩))).setCell ⟨w.heap.size + 1, 1, none⟩ (.int .i32 e2) = w9 at *
      obtain ⟨s0, s1, hbx, hg5⟩ := hD
      have HF5 := Hq0 (show _ ∧ _ from ⟨hbx, hg5⟩)
      clear hbx hg5 r0 r1 r2 r3
      refine bodyPost_ret (v := decV W0.heap.size e2) (by simp [results, Tryz.func97, go_sem, s0, s1, decV]; try rfl) rfl ?_
      exact ⟨W0.heap.size, v4, rfl, by have := HS0.out; omega, HF5.out.1, HF5.out.2⟩
    · have e6 : isgn n ≠ 0 := by unfold isgn; rw [if_neg hn0]; split <;> decide
      have e7 : (isgn n == 0) = false := by simp [e6]
      clear hn0
      go_wp2_with (fail)
      refine (HV.out _).mono ?_
      rintro r w6 ⟨rfl, g6⟩
      have HB6 := Hq0 (HB4.out.same g6)
      have HF6 : Hid (IntBox w6 W0.heap.size v4 (n.tdiv (10 ^ k))) := Hq0 (HF.out.same0 g6)
      have hx6 := HX4.out.same g6
      clear g6
      go_wp2_with (fail)
      refine (Sign_any hx6).mono ?_
      rintro r w7 ⟨rfl, rfl⟩
      clear hx6 q0 q1
      generalize isgn n = sg at *
      clear e6
      go_upto_if 45 with (fail)
      have e8 : (sg != 0) = true := by simp at e7 ⊢; exact e7
      rw [e8]
      clear e7 e8
      go_wp2_with (fail)
      have hga6 := World.grownBy_alloc w6 (.cells #[] 104) none
      have hn6 : IsNat (w6.alloc (.cells #[] 104)) (.slice (some ⟨w6.heap.size, 0, none⟩) 0 0) [] := .inr ⟨w6.heap.size, 0, [], rfl, heap_new w6 (blk []), rfl, by omega⟩
      refine (SetBits_any (kpb hga6 HF6.out.here) hn6 wfL_nil (by simp)).mono ?_
      rintro r w7 ⟨rfl, v7, hb7, hg7⟩
      have H7R : Hid (w7.heap[w.heap.size + 1]? = some (.cells #[.pointer none, .int .i32 0] 56)) :=
        Hq0 ((hg7.block _ (Array.getElem?_eq_some_iff.1 (kpb hga6 HB6.out.r)).1 (by have := HS0.out; intro e; injection e; omega)).trans (kpb hga6 HB6.out.r))
      have H7B : Hid (IntBox w7 W0.heap.size v7 (n.tdiv (10 ^ k))) := by
        have h0 : val [] = n.tdiv (10 ^ k) := HQ0.out.symm
        rw [← h0]; exact Hq0 hb7
      have H7G : Hid (w.grownBy w7 none) := Hq0 (grown_own (grown_trans HB6.out.g hga6) hg7 (.inr (by have := HS0.out; omega)))
      clear hb7 hg7 hga6 hn6
      have hr := H7R.out
      have r0 : w7.cell? ⟨w.heap.size + 1, 0, none⟩ = some (.pointer none) := by unfold World.cell?; rw [hr]; rfl
      have r1 : w7.cell? ⟨w.heap.size + 1, 1, none⟩ = some (.int .i32 0) := by unfold World.cell?; rw [hr]; rfl
      have r2 : w7.frozen? ⟨w.heap.size + 1, 0, none⟩ = false := by unfold World.frozen?; rw [hr]; rfl
      have r3 : w7.frozen? ⟨w.heap.size + 1, 1, none⟩ = false := by unfold World.frozen?; rw [hr]; rfl
      have HD := Hq0 (HFIN.out w7 v7 hr H7B.out H7G.out)
      clear hr
      go_wp2
      have hD := HD.out
      clear HD
      generalize (w7.setCell ⟨w.heap.size + 1, 0, none⟩ (.pointer (some ⟨W0.heap.size, 0, none⟩))).setCell ⟨w.heap.size + 1, 1, none⟩ (.int .i32 e2) = w9 at *
      obtain ⟨s0, s1, hbx, hg5⟩ := hD
      have HF5 := Hq0 (show _ ∧ _ from ⟨hbx, hg5⟩)
      clear hbx hg5 r0 r1 r2 r3
      refine bodyPost_ret (v := decV W0.heap.size e2) (by simp [results, Tryz.func97, go_sem, s0, s1, decV]; try rfl) rfl ?_
      exact ⟨W0.heap.size, v7, rfl, by have := HS0.out; omega, HF5.out.1, HF5.out.2⟩
  · have e5 : isgn (n.tdiv (10 ^ k)) ≠ 0 := by unfold isgn; rw [if_neg hq]; split <;> decide
    have e7 : (isgn (n.tdiv (10 ^ k)) == 0) = false := by simp [e5]
    clear hq q0 q1
    generalize isgn (n.tdiv (10 ^ k)) = sg at *
    have hr := HB4.out.r
    have r0 : w4.cell? ⟨w.heap.size + 1, 0, none⟩ = some (.pointer none) := by unfold World.cell?; rw [hr]; rfl
    have r1 : w4.cell? ⟨w.heap.size + 1, 1, none⟩ = some (.int .i32 0) := by unfold World.cell?; rw [hr]; rfl
    have r2 : w4.frozen? ⟨w.heap.size + 1, 0, none⟩ = false := by unfold World.frozen?; rw [hr]; rfl
    have r3 : w4.frozen? ⟨w.heap.size + 1, 1, none⟩ = false := by unfold World.frozen?; rw [hr]; rfl
    have HD := Hq0 (HFIN.out w4 v4 hr HF.out HB4.out.g)
    clear hr
    go_wp2
    have hD := HD.out
    clear HD
    generalize (w4.setCell ⟨w.heap.size + 1, 0, none⟩ (.pointer (some ⟨W0.heap.size, 0, none⟩))).setCell ⟨w.heap.size + 1, 1, none⟩ (.int .i32 e2) = w9 at *
    obtain ⟨s0, s1, hbx, hg5⟩ := hD
    have HF5 := Hq0 (show _ ∧ _ from ⟨hbx, hg5⟩)
    clear hbx hg5 r0 r1 r2 r3
    refine bodyPost_ret (v := decV W0.heap.size e2) (by simp [results, Tryz.func97, go_sem, s0, s1, decV]; try rfl) rfl ?_
    exact ⟨W0.heap.size, v4, rfl, by have := HS0.out; omega, HF5.out.1, HF5.out.2⟩
end Go.Proofs.YtjcfacinlgogaaaGreatDoor
