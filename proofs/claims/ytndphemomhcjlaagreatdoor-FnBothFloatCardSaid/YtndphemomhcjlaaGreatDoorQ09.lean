/- Division of two words by one through the reciprocal. Conditions: the higher word is less than the divisor. A row of words divided by one word. Conditions: the slices are of one length; what is read is what is written, or lies in another block. -/
import Derived.Test.YtndphemomhcjlaaGreatDoorQ08
import Derived.Deep.CutRange
set_option linter.all false

namespace Go.Proofs.YtndphemomhcjlaaGreatDoor
open Go.RowKit

theorem bitsDiv_small (lo y : Int) (w : World) (hl : U64 lo) (hy : U64 y) (h0 : y ≠ 0) :
    Calls Tryz.prog 199 #[.int .u64 0, .int .u64 lo, .int .u64 y] w fun e w' => e = .returned (.tuple #[.int .u64 (lo / y), .int .u64 (lo % y)]) ∧ ∃ q, w' = w.drewN q := by
  go_enter Tryz.func199, Tryz.ntmps199
  go_wp2_with (fail)
  refine (bitsDiv64_small lo y _ hl hy h0).mono ?_
  rintro e w' ⟨rfl, q, rfl⟩
  go_wp2_with (fail)
  go_ret2
  exact ⟨rfl, _, rfl⟩
theorem bitsDiv_norm (hi lo y : Int) (w : World) (hh : U64 hi) (hl : U64 lo) (hy : U64 y) (hn : 9223372036854775808 ≤ y) (hlt : hi < y) (h0 : hi ≠ 0) :
    Calls Tryz.prog 199 #[.int .u64 hi, .int .u64 lo, .int .u64 y] w fun e w' => e = .returned (.tuple #[.int .u64 ((hi * B64 + lo) / y), .int .u64 ((hi * B64 + lo) % y)]) ∧ w = w' := by
  go_enter Tryz.func199, Tryz.ntmps199
  go_wp2_with (fail)
  refine (bitsDiv64_norm hi lo y _ hh hl hy hn hlt h0).mono ?_
  rintro e w' ⟨rfl, rfl⟩
  go_wp2_with (fail)
  go_ret2
  exact ⟨rfl, rfl⟩

/-- the reciprocal of a word whose highest bit is set -/
def recip (u : Int) : Int := ((B64 - 1 - u) * B64 + (B64 - 1)) / u
/-- by how much a word is shifted -/
theorem nlz_shift {y : Int} (hy : U64 y) (h0 : y ≠ 0) : ∃ s : Nat, nlzI y = s ∧ s ≤ 63 ∧ 9223372036854775808 ≤ y * 2 ^ s ∧ U64 (y * 2 ^ s) := by
  have h1 := hy.1; have h2 := hy.2
  unfold B64 at h2
  have h3 := bitLen_le64 y.toNat (by omega)
  obtain ⟨g1, g2, g3⟩ := Lib.bitLenAux_bounds 64 y.toNat (by omega) (by omega)
  unfold nlzI
  unfold Lib.bitLen at *
  generalize Lib.bitLenAux 64 y.toNat = b at *
  refine ⟨64 - b, by omega, by omega, ?_, by have : (0 : Int) < 2 ^ (64 - b) := Int.pow_pos (by decide); exact Int.mul_nonneg h1 (by omega), ?_⟩
  · have e : (2 : Nat) ^ (b - 1) * 2 ^ (64 - b) = 9223372036854775808 := by
      rw [← Nat.pow_add, show b - 1 + (64 - b) = 63 by omega]
    have h4 : 2 ^ (b - 1) * 2 ^ (64 - b) ≤ y.toNat * 2 ^ (64 - b) := Nat.mul_le_mul_right _ g2
    rw [e] at h4
    have h5 : y * 2 ^ (64 - b) = ((y.toNat * 2 ^ (64 - b) : Nat) : Int) := by
      rw [Int.natCast_mul, Int.toNat_of_nonneg h1]; simp
    omega
  · have e : (2 : Nat) ^ b * 2 ^ (64 - b) = 18446744073709551616 := by
      rw [← Nat.pow_add, show b + (64 - b) = 64 by omega]
    have h4 : y.toNat * 2 ^ (64 - b) < 2 ^ b * 2 ^ (64 - b) := Nat.mul_lt_mul_of_pos_right g3 (Nat.pow_pos (by decide))
    rw [e] at h4
    have h5 : y * 2 ^ (64 - b) = ((y.toNat * 2 ^ (64 - b) : Nat) : Int) := by
      rw [Int.natCast_mul, Int.toNat_of_nonneg h1]; simp
    unfold B64; omega

theorem xor_ones (a : Nat) (h : a < 18446744073709551616) : 18446744073709551615 ^^^ a = 18446744073709551615 - a := by
  have h1 : (BitVec.allOnes 64 ^^^ BitVec.ofNat 64 a).toNat = 18446744073709551615 ^^^ a := by
    rw [BitVec.toNat_xor, BitVec.toNat_ofNat, Nat.mod_eq_of_lt (by omega)]; rfl
  have h2 : (~~~ (BitVec.ofNat 64 a)).toNat = 18446744073709551615 - a := by
    rw [BitVec.toNat_not, BitVec.toNat_ofNat, Nat.mod_eq_of_lt (by omega)]
  rw [← h1, ← h2, BitVec.allOnes_xor]
theorem xor_u64 {u : Int} (h : U64 u) : bits .xor .u64 IntKind.u64.max u = B64 - 1 - u := by
  have h1 := h.1; have h2 := h.2
  unfold B64 at *
  rw [u64_xor _ _ (by decide) (by decide) h1 h2, show IntKind.u64.max.toNat = 18446744073709551615 from by decide, xor_ones _ (by omega)]
  omega

theorem reciprocalWord (y : Int) (w : World) (hy : U64 y) (h0 : y ≠ 0) (s : Nat) (hs : nlzI y = s) (hs1 : s ≤ 63) (hn : 9223372036854775808 ≤ y * 2 ^ s) (hu : U64 (y * 2 ^ s)) :
    Calls Tryz.prog 200 #[.int .u64 y] w fun e w' => e = .returned (.int .u64 (recip (y * 2 ^ s))) ∧ ∃ q, w' = w.drewN q := by
  have hM : U64 18446744073709551615 := by unfold U64 B64; omega
  have hw := wrap_u64 hu
  have hx := xor_u64 hu
  have e1 : recip (y * 2 ^ s) = ((B64 - 1 - y * 2 ^ s) * B64 + 18446744073709551615) / (y * 2 ^ s) := by unfold recip; rfl
  generalize hU : y * 2 ^ s = u at *
  have hh : U64 (B64 - 1 - u) := by have := hu.1; have := hu.2; unfold U64 B64 at *; omega
  have hlt : B64 - 1 - u < u := by unfold B64; omega
  have HE := Lib.hid e1; have HX := Lib.hid hx
  clear e1 hx
  go_enter Tryz.func200, Tryz.ntmps200
  go_wp2_with (go_at_call 155; refine (nlz_any _ _ hy).mono ?_; rintro e w' ⟨rfl, rfl⟩; rw [hs])
  rw [HX.out]
  by_cases hz : B64 - 1 - u = 0
  · rw [hz] at HE ⊢
    refine (bitsDiv_small _ _ _ hM hu (by omega)).mono ?_
    rintro e w' ⟨rfl, q, rfl⟩
    go_wp2_with (fail)
    go_ret
    exact ⟨ret_int (by rw [HE.out]; simp), _, rfl⟩
  · refine (bitsDiv_norm _ _ _ _ hh hM hu hn hlt hz).mono ?_
    rintro e w' ⟨rfl, rfl⟩
    go_wp2_with (fail)
    go_ret
    exact ⟨ret_int (by rw [HE.out]), 0, rfl⟩

/-- the guess of the quotient -/
def dT (d a b m : Int) : Int := alo (mhi m a) a (ahi (mlo m a) b 0)
def dR0 (d a b t : Int) : Int := slo b (mlo d t) 0
def dR1 (d a b t : Int) : Int := slo a (mhi d t) (shi b (mlo d t) 0)
theorem recip_spec {d : Int} (hd : U64 d) (hn : 9223372036854775808 ≤ d) : (recip d + B64) * d ≤ B64 * B64 - 1 ∧ B64 * B64 - d ≤ (recip d + B64) * d ∧ U64 (recip d) := by
  have h1 := hd.2
  have e : recip d + B64 = (B64 * B64 - 1) / d := by
    unfold recip
    rw [← Int.add_mul_ediv_right _ _ (show d ≠ 0 by omega)]
    congr 1; unfold B64; omega
  have h2 := Int.emod_add_mul_ediv (B64 * B64 - 1) d
  have h3 := Int.emod_nonneg (B64 * B64 - 1) (show d ≠ 0 by omega)
  have h4 := Int.emod_lt_of_pos (B64 * B64 - 1) (show 0 < d by omega)
  rw [← e, Int.mul_comm d] at h2
  refine ⟨by omega, by omega, ?_⟩
  unfold recip
  refine ⟨Int.ediv_nonneg (by unfold B64 at *; omega) (by omega), Int.ediv_lt_of_lt_mul (by omega) (by unfold B64 at *; omega)⟩
theorem dT_spec {d a b : Int} (hd : U64 d) (hn : 9223372036854775808 ≤ d) (ha : 0 ≤ a) (had : a < d) (hb : U64 b) :
    U64 (dT d a b (recip d)) ∧ 0 ≤ a * B64 + b - d * dT d a b (recip d) ∧ a * B64 + b - d * dT d a b (recip d) < B64 + d := by
  obtain ⟨m1, m2, m3⟩ := recip_spec hd hn
  have hua : U64 a := ⟨ha, by have := hd.2; omega⟩
  have e1 := mlo_mhi (recip d) a
  have e2 := alo_ahi (mlo (recip d) a) b 0
  have u1 := mlo_u (recip d) a
  have u2 := alo_u (mlo (recip d) a) b 0
  have u3 := mhi_u m3 hua
  have u4 := ahi_b u1 hb bit0
  have e3 := alo_ahi (mhi (recip d) a) a (ahi (mlo (recip d) a) b 0)
  have u5 := ahi_b u3 hua u4
  have u6 := alo_u (mhi (recip d) a) a (ahi (mlo (recip d) a) b 0)
  show U64 (alo (mhi (recip d) a) a (ahi (mlo (recip d) a) b 0)) ∧ 0 ≤ a * B64 + b - d * alo (mhi (recip d) a) a (ahi (mlo (recip d) a) b 0) ∧ a * B64 + b - d * alo (mhi (recip d) a) a (ahi (mlo (recip d) a) b 0) < B64 + d
  have hma : (recip d + B64) * a ≤ B64 * B64 - 1 - B64 := by
    have q1 : (recip d + B64) * a ≤ (recip d + B64) * (d - 1) := Int.mul_le_mul_of_nonneg_left (by omega) (by have := m3.1; unfold B64; omega)
    have q2 : (recip d + B64) * (d - 1) = (recip d + B64) * d - (recip d + B64) := by rw [Int.mul_sub]; omega
    have := m3.1; omega
  have hT : (recip d + B64) * a + b = alo (mlo (recip d) a) b 0 + B64 * (alo (mhi (recip d) a) a (ahi (mlo (recip d) a) b 0) + B64 * ahi (mhi (recip d) a) a (ahi (mlo (recip d) a) b 0)) := by
    rw [e3, Int.add_mul]; simp only [Int.mul_add]; omega
  generalize ahi (mhi (recip d) a) a (ahi (mlo (recip d) a) b 0) = o at *
  generalize alo (mhi (recip d) a) a (ahi (mlo (recip d) a) b 0) = t at *
  generalize alo (mlo (recip d) a) b 0 = l at *
  generalize recip d = m at *
  clear e1 e2 e3 u1 u3 u4
  have ho : o = 0 := by
    have := u5.1; have := u5.2; have := u6.1; have := u2.1; have := hb.2
    have h5 : o = 0 ∨ o = 1 := by omega
    rcases h5 with h5 | h5
    · exact h5
    · subst h5; exfalso
      unfold B64 at *; omega
  subst ho
  refine ⟨u6, ?_, ?_⟩
  · have q1 : d * (B64 * t) ≤ d * ((m + B64) * a + b) := Int.mul_le_mul_of_nonneg_left (by have := u2.1; simp at hT; omega) (by omega)
    have q2 : d * ((m + B64) * a + b) = (m + B64) * d * a + d * b := by grind
    have q3 : (m + B64) * d * a ≤ (B64 * B64 - 1) * a := Int.mul_le_mul_of_nonneg_right m1 ha
    have q4 : d * b ≤ B64 * b := Int.mul_le_mul_of_nonneg_right (by have := hd.2; omega) hb.1
    have q5 : B64 * (a * B64 + b - d * t) = (B64 * B64 - 1) * a + a + B64 * b - d * (B64 * t) := by grind
    have q6 : 0 ≤ B64 * (a * B64 + b - d * t) := by omega
    exact Int.nonneg_of_mul_nonneg_right q6 B64_pos
  · have q1 : d * ((m + B64) * a + b - B64 * t) ≤ d * (B64 - 1) := Int.mul_le_mul_of_nonneg_left (by have := u2.2; simp at hT; omega) (by omega)
    have q2 : d * ((m + B64) * a + b - B64 * t) = (m + B64) * d * a + d * b - d * (B64 * t) := by grind
    have q3 : (B64 * B64 - d) * a ≤ (m + B64) * d * a := Int.mul_le_mul_of_nonneg_right m2 ha
    have q4 : (B64 - d) * b ≤ (B64 - d) * (B64 - 1) := Int.mul_le_mul_of_nonneg_left (by have := hb.2; omega) (by have := hd.2; omega)
    have q5 : d * a ≤ d * d := Int.mul_le_mul_of_nonneg_left (by omega) (by omega)
    have q6 : d * d ≤ d * B64 := Int.mul_le_mul_of_nonneg_left (by have := hd.2; omega) (by omega)
    have q7 : B64 * (a * B64 + b - d * t) < B64 * (B64 + d) := by
      have q8 : B64 * (a * B64 + b - d * t) = (B64 * B64 - d) * a + d * b - d * (B64 * t) + d * a + (B64 - d) * b := by grind
      have q9 : (B64 - d) * (B64 - 1) + d * (B64 - 1) = B64 * (B64 - 1) := by grind
      have q10 : B64 * (B64 + d) = B64 * (B64 - 1) + B64 + d * B64 := by grind
      have := B64_pos
      omega
    exact Int.lt_of_mul_lt_mul_left q7 (Int.le_of_lt B64_pos)

theorem dR_spec {d a b t : Int} (hd : U64 d) (ha : U64 a) (hb : U64 b) (ht : U64 t) (h0 : 0 ≤ a * B64 + b - d * t) (h1 : a * B64 + b - d * t < B64 + d) :
    dR0 d a b t + B64 * dR1 d a b t = a * B64 + b - d * t := by
  have e1 := mlo_mhi d t
  have u1 := mlo_u d t
  have u2 := mhi_u hd ht
  have e2 := slo_shi hb u1 bit0
  have u3 := shi_b b (mlo d t) 0
  have e3 := slo_shi ha u2 u3
  have u4 := slo_u b (mlo d t) 0
  have u5 := slo_u a (mhi d t) (shi b (mlo d t) 0)
  have u6 := shi_b a (mhi d t) (shi b (mlo d t) 0)
  show slo b (mlo d t) 0 + B64 * slo a (mhi d t) (shi b (mlo d t) 0) = _
  generalize shi a (mhi d t) (shi b (mlo d t) 0) = k at *
  generalize slo a (mhi d t) (shi b (mlo d t) 0) = r1 at *
  generalize shi b (mlo d t) 0 = c at *
  generalize slo b (mlo d t) 0 = r0 at *
  generalize mlo d t = p at *
  generalize mhi d t = q at *
  have hk : k = 0 ∨ k = 1 := by have := u6.1; have := u6.2; omega
  have hd2 := hd.2
  unfold U64 Bit B64 at *
  rw [← e1] at h0 h1 ⊢
  rcases hk with rfl | rfl <;> omega

/-- how the division ends -/
def DivEnd (d n t r0 r1 : Int) : Prop :=
  (r1 = 0 ∧ r0 < d ∧ t = n / d ∧ r0 = n % d) ∨
  (r1 = 0 ∧ d ≤ r0 ∧ IntKind.u64.wrap (t + 1) = n / d ∧ IntKind.u64.wrap (r0 - d) = n % d) ∨
  (r1 ≠ 0 ∧ IntKind.u64.wrap (r0 - d) < d ∧ IntKind.u64.wrap (t + 1) = n / d ∧ IntKind.u64.wrap (r0 - d) = n % d) ∨
  (r1 ≠ 0 ∧ d ≤ IntKind.u64.wrap (r0 - d) ∧ IntKind.u64.wrap (IntKind.u64.wrap (t + 1) + 1) = n / d ∧ IntKind.u64.wrap (IntKind.u64.wrap (r0 - d) - d) = n % d)
theorem divEnd {d a b : Int} (hd : U64 d) (hn : 9223372036854775808 ≤ d) (ha : 0 ≤ a) (had : a < d) (hb : U64 b) {t : Int} (ht : dT d a b (recip d) = t) :
    DivEnd d (a * B64 + b) t (dR0 d a b t) (dR1 d a b t) := by
  obtain ⟨s1, s2, s3⟩ := dT_spec hd hn ha had hb
  rw [ht] at s1 s2 s3
  have hua : U64 a := ⟨ha, by have := hd.2; omega⟩
  have s4 := dR_spec hd hua hb s1 s2 s3
  have u0 : U64 (dR0 d a b t) := slo_u _ _ _
  have u1 : U64 (dR1 d a b t) := slo_u _ _ _
  have hq : (a * B64 + b) / d < B64 := Int.ediv_lt_of_lt_mul (by omega) (by
    have : (a + 1) * B64 ≤ d * B64 := Int.mul_le_mul_of_nonneg_right (by omega) (by unfold B64; omega)
    rw [Int.mul_comm B64 d]
    have := hb.2; rw [Int.add_mul] at *; omega)
  generalize dR0 d a b t = r0 at *
  generalize dR1 d a b t = r1 at *
  generalize a * B64 + b = n at *
  clear ht
  have hp := hd.2
  have key : ∀ q r, r + d * q = n → 0 ≤ r → r < d → q = n / d ∧ r = n % d := by
    intro q r h1 h2 h3
    have := (Int.ediv_emod_unique (a := n) (b := d) (r := r) (q := q) (by omega)).2 ⟨h1, h2, h3⟩
    exact ⟨this.1.symm, this.2.symm⟩
  have hr1 : r1 = 0 ∨ r1 = 1 := by unfold U64 B64 at *; omega
  unfold DivEnd
  rcases hr1 with rfl | rfl
  · by_cases h : r0 < d
    · exact .inl ⟨rfl, h, key t r0 (by omega) u0.1 h⟩
    · obtain ⟨k1, k2⟩ := key (t + 1) (r0 - d) (by rw [Int.mul_add]; omega) (by omega) (by have := u0.2; unfold B64 at *; omega)
      refine .inr (.inl ⟨rfl, by omega, ?_, ?_⟩)
      · rw [wrap_u64 ⟨by have := s1.1; omega, by omega⟩]; exact k1
      · rw [wrap_u64 ⟨by omega, by have := u0.2; omega⟩]; exact k2
  · have e : IntKind.u64.wrap (r0 - d) = n - d * t - d := by rw [IntKind.wrap_u64]; unfold U64 B64 at *; omega
    rw [e]
    by_cases h : n - d * t - d < d
    · obtain ⟨k1, k2⟩ := key (t + 1) (n - d * t - d) (by rw [Int.mul_add]; omega) (by have := u0.1; unfold B64 at *; omega) h
      refine .inr (.inr (.inl ⟨by omega, h, ?_, k2⟩))
      rw [wrap_u64 ⟨by have := s1.1; omega, by omega⟩]; exact k1
    · obtain ⟨k1, k2⟩ := key (t + 2) (n - d * t - d - d) (by rw [Int.mul_add]; omega) (by omega) (by unfold B64 at *; omega)
      refine .inr (.inr (.inr ⟨by omega, by omega, ?_, ?_⟩))
      · rw [wrap_u64 (show U64 (t + 1) from ⟨by have := s1.1; omega, by omega⟩), wrap_u64 (show U64 (t + 1 + 1) from ⟨by have := s1.1; omega, by omega⟩)]; omega
      · rw [wrap_u64 ⟨by omega, by unfold B64 at *; omega⟩]; exact k2

set_option maxRecDepth 100000 in
theorem divWW (a b y : Int) (w : World) (ha : 0 ≤ a) (hay : a < y) (hb : U64 b) (hy : U64 y) (h0 : y ≠ 0) (s : Nat) (hs : nlzI y = s) (hs1 : s ≤ 63) (hn : 9223372036854775808 ≤ y * 2 ^ s) (hu : U64 (y * 2 ^ s)) :
    Calls Tryz.prog 201 #[.int .u64 a, .int .u64 b, .int .u64 y, .int .u64 (recip (y * 2 ^ s))] w fun e w' => e = .returned (.tuple #[.int .u64 ((a * B64 + b) / y), .int .u64 ((a * B64 + b) % y)]) ∧ w = w' := by
  have hps : (0 : Int) < 2 ^ s := Int.pow_pos (by decide)
  have hua : U64 a := ⟨ha, by have := hy.2; omega⟩
  obtain ⟨A, Bb, hA, hB, hAB, hA0, hAd, hBu⟩ : ∃ A Bb : Int, (s ≠ 0 → bits .or .u64 (IntKind.u64.wrap (a * 2 ^ s)) (b / 2 ^ (64 - s)) = A ∧ IntKind.u64.wrap (b * 2 ^ s) = Bb) ∧ (s = 0 → A = a ∧ Bb = b) ∧ A * B64 + Bb = (a * B64 + b) * 2 ^ s ∧ 0 ≤ A ∧ A < y * 2 ^ s ∧ U64 Bb := by
    by_cases hs0 : s = 0
    · subst hs0
      exact ⟨a, b, fun h => absurd rfl h, fun _ => ⟨rfl, rfl⟩, by simp, ha, by simpa using hay, hb⟩
    · obtain ⟨o1, o2, o3, o4⟩ := or_shift hua hb (s := s) (by omega) hs1
      have hlt : (a + 1) * 2 ^ s ≤ y * 2 ^ s := Int.mul_le_mul_of_nonneg_right (by omega) (by omega)
      rw [Int.add_mul] at hlt
      have hm : a * 2 ^ s % B64 = a * 2 ^ s := Int.emod_eq_of_lt (Int.mul_nonneg ha (by omega)) (by have := hu.2; omega)
      have hs2 := shl_parts hb (s := s) (by omega)
      rw [hm] at o1 o2
      have hbw : IntKind.u64.wrap (b * 2 ^ s) = b * 2 ^ s % B64 := IntKind.wrap_u64 _
      refine ⟨_, _, fun _ => ⟨o1, hbw⟩, fun h => absurd h hs0, ?_, o2.1, by omega, mlo_u _ _⟩
      generalize b * 2 ^ s % B64 = p at *
      generalize b / 2 ^ (64 - s) = q at *
      grind
  have hE := divEnd hu hn hA0 hAd hBu rfl
  have hq : (A * B64 + Bb) / (y * 2 ^ s) = (a * B64 + b) / y := by rw [hAB]; exact Int.mul_ediv_mul_of_pos_left _ _ hps
  have hr : (A * B64 + Bb) % (y * 2 ^ s) / 2 ^ s = (a * B64 + b) % y := by
    rw [hAB, Int.mul_comm _ (2 ^ s), Int.mul_comm y, Int.mul_emod_mul_of_pos _ _ hps, Int.mul_ediv_cancel_left _ (by omega)]
  have hA' := hA0
  have uA : U64 A := ⟨hA0, by have := hu.2; omega⟩
  obtain ⟨_, _, m3⟩ := recip_spec hu hn
  have hw := wrap_u64 hu
  generalize hd : y * 2 ^ s = d at *
  have HE := Lib.hid hE; have Hq := Lib.hid hq; have Hr := Lib.hid hr; have HAd := Lib.hid hAd
  clear hE hq hr hAB hAd hay
  generalize hm : recip d = m at *
  go_enter Tryz.func201, Tryz.ntmps201
  go_upto_if 26 with (go_at_call 155; refine (nlz_any _ _ hy).mono ?_; rintro e w' ⟨rfl, rfl⟩; rw [hs])
  go_cut [0, 1, 2] from 25 (fun s0 s1 s2 wx => s0 = .int .u64 A ∧ s1 = .int .u64 Bb ∧ s2 = .int .u64 d ∧ w = wx)
  case first =>
    by_cases hs0 : s = 0
    · obtain ⟨rfl, rfl⟩ := hB hs0
      subst hs0
      go_wp2
      go_meet
      exact ⟨rfl, rfl, by rw [← hd]; simp, rfl⟩
    · obtain ⟨o1, o2⟩ := hA hs0
      have e2 : IntKind.u64.wrap (64 - (s : Int)) = 64 - (s : Int) := by rw [IntKind.wrap_u64]; omega
      have hs' : ((s : Int) != 0) = true := by simp; omega
      go_wp2
      go_meet
      refine ⟨?_, ?_, ?_, rfl⟩
      · first | rfl | rw [o1]
      · first | rfl | rw [o2]
      · first | rfl | rw [hd] | rw [hd, hw]
  case rest =>
    obtain ⟨rfl, rfl, rfl, rfl⟩ := hcut
    have f1 := mlo_u m A
    have f2 := mhi_u m3 uA
    have f3 := ahi_b f1 hBu bit0
    obtain ⟨t, ht⟩ : ∃ t, dT d A Bb m = t := ⟨_, rfl⟩
    have f4 : U64 t := by rw [← ht]; exact alo_u _ _ _
    have f5 := mlo_u d t
    have f6 := mhi_u hu f4
    have f7 := shi_b Bb (mlo d t) 0
    rw [ht] at HE
    obtain ⟨r0, hr0⟩ : ∃ r, dR0 d A Bb t = r := ⟨_, rfl⟩
    obtain ⟨r1, hr1⟩ : ∃ r, dR1 d A Bb t = r := ⟨_, rfl⟩
    rw [hr0, hr1] at HE
    unfold dT at ht
    unfold dR0 at hr0
    unfold dR1 at hr1
    have M1 := bits_Mul m A
    have M2 := bits_Mul d t
    generalize mlo m A = l1 at *
    generalize mhi m A = h1 at *
    generalize mlo d t = l2 at *
    generalize mhi d t = h2 at *
    have A1 := bits_Add l1 Bb 0
    generalize ahi l1 Bb 0 = c1 at *
    generalize alo l1 Bb 0 = l3 at *
    have A2 := bits_Add h1 A c1
    generalize ahi h1 A c1 = c2 at *
    rw [ht] at A2
    have S1 := bits_Sub Bb l2 0
    generalize shi Bb l2 0 = c3 at *
    rw [hr0] at S1
    have S2 := bits_Sub A h2 c3
    generalize shi A h2 c3 = c4 at *
    rw [hr1] at S2
    clear ht hr0 hr1
    go_wp2_with (fail)
    refine (M1 _ m3 uA).mono ?_
    rintro e w' ⟨rfl, rfl⟩
    go_wp2_with (fail)
    refine (A1 _ f1 hBu bit0).mono ?_
    rintro e w' ⟨rfl, rfl⟩
    go_wp2_with (fail)
    refine (A2 _ f2 uA f3).mono ?_
    rintro e w' ⟨rfl, rfl⟩
    go_wp2_with (fail)
    refine (M2 _ hu f4).mono ?_
    rintro e w' ⟨rfl, rfl⟩
    go_wp2_with (fail)
    refine (S1 _ hBu f5 bit0).mono ?_
    rintro e w' ⟨rfl, rfl⟩
    go_wp2_with (fail)
    refine (S2 _ uA f6 f7).mono ?_
    rintro e w' ⟨rfl, rfl⟩
    rcases HE.out with ⟨g1, g2, g3, g4⟩ | ⟨g1, g2, g3, g4⟩ | ⟨g1, g2, g3, g4⟩ | ⟨g1, g2, g3, g4⟩ <;> (have G3 := Lib.hid g3; have G4 := Lib.hid g4; clear g3 g4 HE)
    · have b1 : (r1 != 0) = false := by simp [g1]
      go_wp2
      go_ret2
      refine ⟨?_, rfl⟩
      have g3 := G3.out; have g4 := G4.out; have hq := Hq.out; have hr := Hr.out
      rw [← g3] at hq; rw [← g4] at hr
      rw [← hq, ← hr]; rfl
    · have b1 : (r1 != 0) = false := by simp [g1]
      go_wp2
      go_ret2
      refine ⟨?_, rfl⟩
      have g3 := G3.out; have g4 := G4.out; have hq := Hq.out; have hr := Hr.out
      rw [← g3] at hq; rw [← g4] at hr
      rw [← hq, ← hr]; rfl
    · have b1 : (r1 != 0) = true := by simp [g1]
      go_wp2
      go_ret2
      refine ⟨?_, rfl⟩
      have g3 := G3.out; have g4 := G4.out; have hq := Hq.out; have hr := Hr.out
      rw [← g3] at hq; rw [← g4] at hr
      rw [← hq, ← hr]; rfl
    · have b1 : (r1 != 0) = true := by simp [g1]
      go_wp2
      go_ret2
      refine ⟨?_, rfl⟩
      have g3 := G3.out; have g4 := G4.out; have hq := Hq.out; have hr := Hr.out
      rw [← g3] at hq; rw [← g4] at hr
      rw [← hq, ← hr]; rfl
end Go.Proofs.YtndphemomhcjlaaGreatDoor

namespace Go.Proofs.YtndphemomhcjlaaGreatDoor
open Go.RowKit

theorem spl_below (L : List Int) (o : Nat) (Z : List Int) (i : Nat) (h : i < o) (ho : o ≤ L.length) : (spl L o Z)[i]?.getD 0 = L[i]?.getD 0 := by
  unfold spl
  rw [List.append_assoc, List.getElem?_append_left (by simp; omega), List.getElem?_take_of_lt h]
/-- the words from k on are divided, the rest is r -/
def DvRel (X : List Int) (y : Int) (w : World) (bz oz : Nat) (L : List Int) (k : Nat) (r : Int) (wr : World) : Prop :=
  ∃ Z : List Int, Z.length + k = X.length ∧ wfL Z ∧ val (X.drop k) = val Z * y + r ∧ 0 ≤ r ∧ r < y ∧ Upd w wr bz (spl L (oz + k) Z)
theorem DvRel.start {X : List Int} {y : Int} {w w' : World} {bz oz : Nat} {L : List Int} (hz : w.heap[bz]? = some (blk L)) (hy : 0 < y) (q : Nat) (hw : w' = w.drewN q) : DvRel X y w bz oz L X.length 0 w' :=
  ⟨[], by simp, wfL_nil, by rw [List.drop_eq_nil_of_le (by omega)]; simp [val], Int.le_refl _, hy, by rw [spl_nil, hw]; exact (Upd.refl hz).drewN q⟩
theorem DvRel.r {X : List Int} {y : Int} {w wr : World} {bz oz : Nat} {L : List Int} {k : Nat} {r : Int} (h : DvRel X y w bz oz L k r wr) : 0 ≤ r ∧ r < y := by
  obtain ⟨Z, _, _, _, h1, h2, _⟩ := h; exact ⟨h1, h2⟩
theorem dv_word {x y r : Int} (hx : U64 x) (hr : 0 ≤ r) (hy : r < y) : U64 ((r * B64 + x) / y) := by
  refine ⟨Int.ediv_nonneg (by have := hx.1; unfold B64; omega) (by omega), Int.ediv_lt_of_lt_mul (by omega) ?_⟩
  have : (r + 1) * B64 ≤ y * B64 := Int.mul_le_mul_of_nonneg_right (by omega) (by unfold B64; omega)
  rw [Int.mul_comm B64]
  have := hx.2; rw [Int.add_mul] at *; omega
theorem DvRel.step {X : List Int} {y : Int} {w wr : World} {bz oz : Nat} {L : List Int} {k : Nat} {r : Int} (h : DvRel X y w bz oz L (k + 1) r wr) (wx : wfL X) (hl : oz + X.length ≤ L.length) :
    DvRel X y w bz oz L k ((r * B64 + X[k]?.getD 0) % y) (wr.setCell ⟨bz, oz + k, none⟩ (.int .u64 ((r * B64 + X[k]?.getD 0) / y))) := by
  obtain ⟨Z, hZ, wZ, hv, h0, h1, hu⟩ := h
  have hxk := getD_u64 wx k (by omega)
  refine ⟨((r * B64 + X[k]?.getD 0) / y) :: Z, by simp; omega, wfL_cons (dv_word hxk h0 h1) wZ, ?_, Int.emod_nonneg _ (by omega), Int.emod_lt_of_pos _ (by omega), ?_⟩
  · rw [drop_cons X k (by omega)]
    simp only [val]
    have := Int.emod_add_mul_ediv (r * B64 + X[k]?.getD 0) y
    rw [hv]
    generalize (r * B64 + X[k]?.getD 0) / y = q at *
    generalize (r * B64 + X[k]?.getD 0) % y = s at *
    grind
  · rw [← spl_cons _ _ _ _ (by omega)]; exact hu.set _ _
theorem DvRel.read {X : List Int} {y : Int} {w wr : World} {bz oz bx ox : Nat} {L : List Int} {k : Nat} {r : Int} (h : DvRel X y w bz oz L (k + 1) r wr) (hX : At w bx ox X) (ha : bx = bz → ox = oz)
    (hz : w.heap[bz]? = some (blk L)) (hl : oz + X.length ≤ L.length) (hk : k < X.length) : wr.cell? ⟨bx, ox + k, none⟩ = some (.int .u64 (X[k]?.getD 0)) := by
  obtain ⟨Z, hZ, wZ, hv, h0, h1, hu⟩ := h
  have hx := hX k hk
  by_cases hb : bx = bz
  · obtain rfl := hb
    obtain rfl := ha rfl
    rw [cell_blk hz _ (by omega)] at hx
    rw [cell_blk hu.here _ (by rw [spl_length _ _ _ (by omega)]; omega), spl_below _ _ _ _ (by omega) (by omega), hx]
  · rw [hu.cell (by exact hb)]; exact hx
theorem DvRel.cell {X : List Int} {y : Int} {w wr : World} {bz oz : Nat} {L : List Int} {k : Nat} {r : Int} (h : DvRel X y w bz oz L k r wr) (hl : oz + X.length ≤ L.length) (i : Nat) (hi : i < L.length) : ∃ v, wr.cell? ⟨bz, i, none⟩ = some (.int .u64 v) := by
  obtain ⟨Z, hZ, wZ, hv, h0, h1, hu⟩ := h
  exact ⟨_, cell_blk hu.here _ (by rw [spl_length _ _ _ (by omega)]; exact hi)⟩
theorem DvRel.free {X : List Int} {y : Int} {w wr : World} {bz oz : Nat} {L : List Int} {k : Nat} {r : Int} (h : DvRel X y w bz oz L k r wr) (i : Nat) : wr.frozen? ⟨bz, i, none⟩ = false := by
  obtain ⟨Z, hZ, wZ, hv, h0, h1, hu⟩ := h
  exact frozen_blk hu.here _

/-- what the division of a row leaves -/
def DvF (X : List Int) (y : Int) (v c : Int) : Prop := 0 ≤ c ∧ c < y ∧ val X = v * y + c
theorem DvRel.fin {X : List Int} {y : Int} {w wr : World} {bz oz : Nat} {L : List Int} {r : Int} (h : DvRel X y w bz oz L 0 r wr) : VRel (DvF X y) w bz oz L X.length r wr := by
  obtain ⟨Z, hZ, wZ, hv, h0, h1, hu⟩ := h
  exact ⟨Z, by simpa using hZ, wZ, ⟨h0, h1, hv⟩, hu⟩

set_option maxRecDepth 100000 in
theorem divWVW (bz oz bx ox n cz cx : Nat) (L X : List Int) (y : Int) (w : World) (hn : n ≤ 9223372036854775807) (h1 : 1 ≤ n) (hz : w.heap[bz]? = some (blk L)) (hl : oz + n ≤ L.length)
    (hX : At w bx ox X) (ha : bx = bz → ox = oz) (lx : X.length = n) (wx : wfL X) (hy : U64 y) (h0 : y ≠ 0) :
    Calls Tryz.prog 154 #[.slice (some ⟨bz, oz, none⟩) n cz, .int .u64 0, .slice (some ⟨bx, ox, none⟩) n cx, .int .u64 y] w fun e w' =>
      ∃ c, e = .returned (.int .u64 c) ∧ VRel (DvF X y) w bz oz L n c w' := by
  have hy0 : 0 < y := by have := hy.1; omega
  by_cases hn1 : n = 1
  · subst hn1
    obtain ⟨x, rfl⟩ : ∃ x, X = [x] := by match X, lx with | [x], _ => exact ⟨x, rfl⟩
    have ux : U64 x := wx x (by simp)
    have g1 : w.cell? ⟨bx, ox, none⟩ = some (.int .u64 x) := hX 0 (by simp)
    have g2 : w.cell? ⟨bz, oz, none⟩ = some (.int .u64 (L[oz]?.getD 0)) := cell_blk hz oz (by omega)
    have g3 := frozen_blk hz oz
    generalize L[oz]?.getD 0 = z0 at *
    have HR : Hid (∀ q, VRel (DvF [x] y) w bz oz L 1 (x % y) ((w.drewN q).setCell ⟨bz, oz, none⟩ (.int .u64 (x / y)))) := Lib.hid fun q => by
      have h := (DvRel.start (X := [x]) hz hy0 q rfl).step (k := 0) (w := w) wx (by simpa using hl)
      simp only [Int.zero_mul, Int.zero_add] at h
      exact h.fin
    clear hX hz hl ha lx wx
    go_enter Tryz.func154, Tryz.ntmps154
    go_wp2_with (fail)
    refine (bitsDiv_small x y _ ux hy h0).mono ?_
    rintro e w' ⟨rfl, q, rfl⟩
    have g4 : (w.drewN q).cell? ⟨bz, oz, none⟩ = some (.int .u64 z0) := g2
    have g5 : (w.drewN q).frozen? ⟨bz, oz, none⟩ = false := g3
    go_wp2
    go_ret
    exact ⟨_, rfl, HR.out q⟩
  · obtain ⟨s, hs, hs1, hs2, hu⟩ := nlz_shift hy h0
    have HX := Lib.hid hX; have Hl := Lib.hid hl; have Hz := Lib.hid hz; have Lx := Lib.hid lx
    have HS : Hid (∀ q, DvRel X y w bz oz L n 0 (w.drewN q)) := Lib.hid fun q => by rw [← lx]; exact DvRel.start hz hy0 q rfl
    have hb : ((n : Int) == 1) = false := by simp; omega
    have R1 := reciprocalWord y w hy h0 s hs hs1 hs2 hu
    have W1 := fun a b ww ha hb hub => divWW a b y ww ha hb hub hy h0 s hs hs1 hs2 hu
    generalize recip (y * 2 ^ s) = m at *
    clear hX hl hz lx hs hs2 hu hs1
    go_enter Tryz.func154, Tryz.ntmps154
    go_wp2_with (fail)
    refine R1.mono ?_
    rintro e w' ⟨rfl, q, rfl⟩
    go_wp2_with (fail)
    go_loopw [8, 12] (fun s8 s12 wr => ∃ k : Nat, ∃ r : Int, k ≤ n ∧ s12 = .int .i64 ((k : Int) - 1) ∧ s8 = .int .u64 r ∧ DvRel X y w bz oz L k r wr) (fun _ i _ => ((intOf i) + 1).toNat)
    case atStart => exact ⟨n, 0, by omega, by go_num, rfl, HS.out q⟩
    case round =>
      obtain ⟨k, r, hk, rfl, rfl, hR⟩ := hrel
      have HR := Lib.hid hR
      clear hR HS R1
      have hl := Hl.out; have lx := Lx.out
      cases k with
      | zero =>
        have HF := Lib.hid (HR.out.fin)
        clear hl lx
        go_wp2
        go_ret
        exact ⟨_, rfl, by have := HF.out; rw [Lx.out] at this; exact this⟩
      | succ k =>
        have g0 := HR.out.read HX.out ha Hz.out (by omega) (by omega)
        obtain ⟨z0, g3⟩ := HR.out.cell (by omega) (oz + k) (by omega)
        have g4 := HR.out.free (oz + k)
        have uk := getD_u64 wx k (by omega)
        have hr := HR.out.r
        have HN := Lib.hid (HR.out.step wx (by omega))
        have e1 : ((k + 1 : Nat) : Int) - 1 = k := by omega
        have W2 := fun ww => W1 r (X[k]?.getD 0) ww hr.1 hr.2 uk
        have hk2 : k < n := by omega
        clear hl lx W1
        rw [e1]
        generalize X[k]?.getD 0 = x0 at *
        generalize (r * B64 + x0) / y = qq at *
        generalize (r * B64 + x0) % y = rr at *
        go_wp2_with (fail)
        refine (W2 _).mono ?_
        rintro e w' ⟨rfl, rfl⟩
        go_wp2
        go_roundw
        case rel => exact ⟨k, rr, by omega, by go_num, rfl, HN.out⟩
        case measure => simp [intOf]

/-- the quotient and the rest of a number by a word -/
theorem dvF_eq {X : List Int} {y v c : Int} (h : DvF X y v c) : v = val X / y ∧ c = val X % y := by
  obtain ⟨h0, h1, h2⟩ := h
  have := (Int.ediv_emod_unique (a := val X) (b := y) (r := c) (q := v) (by omega)).2 ⟨by rw [h2, Int.mul_comm]; omega, h0, h1⟩
  exact ⟨this.1.symm, this.2.symm⟩

/-- what a division's walk ends in -/
def NatVal2 (w w' : World) (zb : Option Nat) (e : Ending) (n r : Int) : Prop := ∃ v l, e = .returned (.tuple #[v, .int .u64 r]) ∧ NatRes w w' zb v l ∧ wfL l ∧ Nrm l ∧ val l = n

set_option maxRecDepth 100000 in
theorem divW_any {w : World} {z x : Value} {lz lx : List Int} (y : Int) (hz : IsNat w z lz) (hx : IsNat w x lx) (wx : wfL lx) (nx : Nrm lx) (hn : lx.length ≤ 100000000000) (hy : U64 y) (h0 : y ≠ 0) :
    Calls Tryz.prog 107 #[z, x, .int .u64 y] w fun e w' => NatVal2 w w' z.ownBlock e (val lx / y) (val lx % y) := by
  have y0 : (y == 0) = false := by simp [h0]
  by_cases hy1 : y = 1
  · subst hy1
    have Hz := Lib.hid hz; have Hx := Lib.hid hx
    obtain ⟨xa, xc, rfl⟩ : ∃ xa xc, x = .slice xa lx.length xc := by
      rcases hx with ⟨rfl, rfl⟩ | ⟨b, cap, M, rfl, _⟩
      · exact ⟨none, 0, rfl⟩
      · exact ⟨some ⟨b, 0, none⟩, cap, rfl⟩
    have HE : Hid (∀ e w', (∃ v, e = .returned (.tuple #[v, .int .u64 0]) ∧ NatRes w w' z.ownBlock v lx) → NatVal2 w w' z.ownBlock e (val lx / 1) (val lx % 1)) := by
      rintro e w' ⟨v, rfl, h⟩
      exact ⟨v, _, by simp, h, wx, nx, by simp⟩
    clear hz hx
    go_enter Tryz.func107, Tryz.ntmps107
    go_wp2_with (fail)
    refine (set_any Hz.out Hx.out (by omega)).mono ?_
    rintro e w1 ⟨v, rfl, hres⟩
    have HR := Lib.hid (HE.out _ _ ⟨v, rfl, hres⟩)
    clear hres
    go_wp2
    go_ret2
    exact HR.out
  · have y1 : (y == 1) = false := by simp [hy1]
    by_cases hl0 : lx = []
    · subst hl0
      obtain ⟨xa, xc, rfl⟩ : ∃ xa xc, x = .slice xa 0 xc := by
        rcases hx with ⟨rfl, _⟩ | ⟨b, cap, M, rfl, _⟩
        · exact ⟨none, 0, rfl⟩
        · exact ⟨some ⟨b, 0, none⟩, cap, rfl⟩
      obtain ⟨v, hv, hres⟩ := res_zero hz
      have HR : Hid (NatVal2 w w z.ownBlock (.returned (.tuple #[v, .int .u64 0])) (val [] / y) (val [] % y)) := ⟨v, [], by simp [val], hres, wfL_nil, Nrm.nil, by simp [val]⟩
      clear hz hx hres
      go_enter Tryz.func107, Tryz.ntmps107
      go_wp2
      go_ret2
      exact HR.out
    · obtain ⟨b, cap, M, rfl, hb, hc, hm, hat, hown⟩ := hx.split hl0
      have Hz := Lib.hid hz; have Hb := Lib.hid hb; have Hat := Lib.hid hat
      obtain ⟨n, hln⟩ : ∃ n, lx.length = n := ⟨_, rfl⟩
      have Hln := Lib.hid hln
      have hn1 : 1 ≤ n := by rw [← hln]; cases lx with | nil => exact absurd rfl hl0 | cons a l => simp
      rw [hln] at hc hn ⊢
      clear hz hx hb hat hown hl0 hln hy1
      have hl1 : ((n : Int) == 0) = false := by simp; omega
      go_enter Tryz.func107, Tryz.ntmps107
      go_wp2_with (fail)
      refine (make_any Hz.out n (by omega) (by omega)).mono ?_
      rintro e w1 ⟨b1, cap1, L, rfl, hc1, hmade⟩
      have HM := Lib.hid hmade
      clear hmade
      go_wp2_with (fail)
      refine (divWVW b1 0 b 0 n cap1 cap L lx y w1 (by omega) hn1 HM.out.here (by have := HM.out.len; omega) (Hat.out.grown HM.out.grown (Array.getElem?_eq_some_iff.1 Hb.out).1) (fun _ => rfl) Hln.out wx hy h0).mono ?_
      rintro e w2 ⟨c, rfl, hv⟩
      obtain ⟨Z, hZ, wZ, hF, hu⟩ := hv
      obtain ⟨hq, hr⟩ := dvF_eq hF
      have hat3 := At.spl0 hu.here (by have := HM.out.len; omega)
      have HR : Hid (NatVal2 w w2 z.ownBlock (.returned (.tuple #[.slice (some ⟨b1, 0, none⟩) (nrm Z).length cap1, .int .u64 c])) (val lx / y) (val lx % y)) := by
        refine ⟨_, _, by rw [hr], HM.out.fin hu (by omega), wfL_nrm wZ, nrm_nrm _, ?_⟩
        rw [val_nrm]; exact hq
      have HA := Lib.hid hat3; have HL := Lib.hid hZ
      clear hu hat3 hF hZ wZ hq hr
      go_wp2_with (fail)
      refine (norm_any b1 0 n cap1 Z _ HL.out hc1 (by omega) HA.out).mono ?_
      rintro e w4 ⟨rfl, rfl⟩
      go_wp2
      go_ret2
      exact HR.out
end Go.Proofs.YtndphemomhcjlaaGreatDoor
