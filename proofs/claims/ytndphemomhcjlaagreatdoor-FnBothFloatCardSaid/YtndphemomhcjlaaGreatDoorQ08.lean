/- Division of two words by one. Conditions: the divisor's highest bit is set, the higher word is less than it; or the higher word is 0. -/
import Derived.Test.YtndphemomhcjlaaGreatDoorQ07
import Derived.Deep.CutBlock
set_option linter.all false

namespace Go.Proofs.YtndphemomhcjlaaGreatDoor
open Go.RowKit

theorem bitsDiv64_small (lo y : Int) (w : World) (hl : U64 lo) (hy : U64 y) (h0 : y ≠ 0) :
    Calls Tryz.prog 230 #[.int .u64 0, .int .u64 lo, .int .u64 y] w fun e w' => e = .returned (.tuple #[.int .u64 (lo / y), .int .u64 (lo % y)]) ∧ ∃ q, w' = w.drewN q := by
  have h1 : (y == 0) = false := by simp [h0]
  have h2 : ¬ (y ≤ 0) := by have := hy.1; omega
  have l0 := hl.1
  have e1 : IntKind.u64.wrap (lo.tdiv y) = lo / y := by
    rw [Int.tdiv_eq_ediv_of_nonneg l0]
    exact wrap_u64 ⟨Int.ediv_nonneg l0 (by omega), Int.lt_of_le_of_lt (Int.ediv_le_self _ l0) hl.2⟩
  have e2 : lo.tmod y = lo % y := Int.tmod_eq_emod_of_nonneg l0
  go_enter Tryz.func230, Tryz.ntmps230
  go_wp2_with (fail)
  go_quiet (fail)
  go_wp2_with (fail)
  go_ret2
  exact ⟨rfl, _, rfl⟩

theorem bitLen_64 {y : Int} (hy : U64 y) (h : 9223372036854775808 ≤ y) : Lib.bitLen y.toNat = 64 := by
  have h1 := hy.1; have h2 := hy.2
  unfold B64 at h2
  have h3 := bitLen_le64 y.toNat (by omega)
  obtain ⟨g1, g2, g3⟩ := Lib.bitLenAux_bounds 64 y.toNat (by omega) (by omega)
  unfold Lib.bitLen at *
  have : 2 ^ 63 < 2 ^ Lib.bitLenAux 64 y.toNat := Nat.lt_of_le_of_lt (by omega) g3
  have := (Nat.pow_lt_pow_iff_right (by decide : 1 < 2)).1 this
  omega

/-- The round of the division by half words: h is the rest, t the next half word, q the guess. -/
structure KG (y a b h t q r : Int) : Prop where
  eq : q * a + r = h
  r0 : 0 ≤ r
  r1 : r < 4294967296
  q0 : 0 ≤ q
  q1 : q ≤ 4294967297
  ge : (h * 4294967296 + t) / y ≤ q
structure KC (y a b h t : Int) : Prop where
  ey : a * 4294967296 + b = y
  a0 : 2147483648 ≤ a
  a1 : a < 4294967296
  b0 : 0 ≤ b
  b1 : b < 4294967296
  t0 : 0 ≤ t
  t1 : t < 4294967296
  h0 : 0 ≤ h
  h1 : h < y
theorem KC.qlt {y a b h t : Int} (c : KC y a b h t) : (h * 4294967296 + t) / y < 4294967296 := by
  obtain ⟨ey, a0, a1, b0, b1, t0, t1, h0, h1⟩ := c
  exact Int.ediv_lt_of_lt_mul (by omega) (by omega)
theorem KC.q0 {y a b h t : Int} (c : KC y a b h t) : 0 ≤ (h * 4294967296 + t) / y := by
  obtain ⟨ey, a0, a1, b0, b1, t0, t1, h0, h1⟩ := c
  exact Int.ediv_nonneg (by omega) (by omega)
theorem KC.start {y a b h t : Int} (c : KC y a b h t) : KG y a b h t (h / a) (h - h / a * a) := by
  have c' := c
  obtain ⟨ey, a0, a1, b0, b1, t0, t1, h0, h1⟩ := c
  have e1 := Int.emod_add_mul_ediv h a
  have e2 := Int.emod_nonneg h (show a ≠ 0 by omega)
  have e3 := Int.emod_lt_of_pos h (show 0 < a by omega)
  have e4 : 0 ≤ h / a := Int.ediv_nonneg h0 (by omega)
  have e5 : h / a < 4294967298 := by
    apply Int.ediv_lt_of_lt_mul (by omega)
    omega
  rw [Int.mul_comm a] at e1
  generalize h / a = q at *
  refine ⟨by omega, by omega, by omega, e4, by omega, ?_⟩
  have h3 : h * 4294967296 + t < (q + 1) * y := by
    have h4 : h < (q + 1) * a := by rw [Int.add_mul]; omega
    have h5 : (h + 1) * 4294967296 ≤ (q + 1) * a * 4294967296 := by omega
    have h6 : (q + 1) * y = (q + 1) * a * 4294967296 + (q + 1) * b := by rw [← ey, Int.mul_add, Int.mul_assoc]
    have h7 : 0 ≤ (q + 1) * b := Int.mul_nonneg (by omega) b0
    omega
  have := Int.ediv_lt_of_lt_mul (show 0 < y by omega) h3
  omega
theorem KG.mulb {y a b h t q r : Int} (c : KC y a b h t) (g : KG y a b h t q r) : q * y = h * 4294967296 - r * 4294967296 + q * b := by
  rw [← c.ey, Int.mul_add, ← Int.mul_assoc, show q * a = h - r by have := g.eq; omega]; omega
theorem KG.big {y a b h t q r : Int} (c : KC y a b h t) (_ : KG y a b h t q r) (hq : 4294967296 ≤ q) : (h * 4294967296 + t) / y ≤ q - 1 := by
  have := c.qlt; omega
theorem KG.over {y a b h t q r : Int} (c : KC y a b h t) (g : KG y a b h t q r) (hq : 4294967296 * r + t < q * b) : (h * 4294967296 + t) / y ≤ q - 1 := by
  have h1 := g.mulb c
  have := Int.ediv_lt_of_lt_mul (show 0 < y by have := c.h0; have := c.h1; omega) (show h * 4294967296 + t < q * y by omega)
  omega
theorem KG.fin {y a b h t q r : Int} (c : KC y a b h t) (g : KG y a b h t q r) (hq : q * b ≤ 4294967296 * r + t) : q = (h * 4294967296 + t) / y := by
  have h1 := g.mulb c
  have := (Int.le_ediv_iff_mul_le (show 0 < y by have := c.h0; have := c.h1; omega)).2 (show q * y ≤ h * 4294967296 + t by omega)
  have := g.ge; omega
theorem KG.fin2 {y a b h t q r : Int} (c : KC y a b h t) (g : KG y a b h t q r) (hq : (h * 4294967296 + t) / y ≤ q - 1) (hr : 4294967296 ≤ r + a) : q - 1 = (h * 4294967296 + t) / y := by
  have h1 := g.mulb c
  have h2 : (q - 1) * b ≤ 4294967296 * b := Int.mul_le_mul_of_nonneg_right (by have := g.q1; omega) c.b0
  have h3 : 4294967296 * b ≤ 4294967296 * 4294967296 := by have := c.b1; omega
  have h4 : (q - 1) * y = q * y - y := by rw [Int.sub_mul]; omega
  have h5 : (q - 1) * b = q * b - b := by rw [Int.sub_mul]; omega
  have := (Int.le_ediv_iff_mul_le (show 0 < y by have := c.h0; have := c.h1; omega)).2 (show (q - 1) * y ≤ h * 4294967296 + t by have := c.ey; have := c.t0; omega)
  omega
theorem KG.next {y a b h t q r : Int} (_ : KC y a b h t) (g : KG y a b h t q r) (c : KC y a b h t) (hq : (h * 4294967296 + t) / y ≤ q - 1) (hr : r + a < 4294967296) : KG y a b h t (q - 1) (r + a) := by
  have := c.q0
  refine ⟨?_, by have := g.r0; have := c.a0; omega, hr, by omega, by have := g.q1; omega, hq⟩
  rw [Int.sub_mul]; have := g.eq; omega
theorem KG.w1 {y a b h t q r : Int} (c : KC y a b h t) (g : KG y a b h t q r) (hq : q < 4294967296) : IntKind.u64.wrap (q * b) = q * b := by
  refine wrap_u64 ⟨Int.mul_nonneg g.q0 c.b0, ?_⟩
  have h2 : q * b ≤ 4294967296 * b := Int.mul_le_mul_of_nonneg_right (by omega) c.b0
  have := c.b1; unfold B64; omega
theorem KG.w2 {y a b h t q r : Int} (c : KC y a b h t) (g : KG y a b h t q r) : IntKind.u64.wrap (IntKind.u64.wrap (4294967296 * r) + t) = 4294967296 * r + t := by
  have := g.r0; have := g.r1; have := c.t0; have := c.t1
  rw [wrap_u64 (show U64 (4294967296 * r) by unfold U64 B64; omega), wrap_u64 (show U64 (4294967296 * r + t) by unfold U64 B64; omega)]
theorem KG.w3 {y a b h t q r : Int} (c : KC y a b h t) (_ : KG y a b h t q r) (hq : (h * 4294967296 + t) / y ≤ q - 1) (g : KG y a b h t q r) : IntKind.u64.wrap (q - 1) = q - 1 := by
  have := c.q0; have := g.q1
  exact wrap_u64 (show U64 (q - 1) by unfold U64 B64; omega)
theorem KG.w4 {y a b h t q r : Int} (c : KC y a b h t) (g : KG y a b h t q r) : IntKind.u64.wrap (r + a) = r + a := by
  have := g.r0; have := g.r1; have := c.a0; have := c.a1
  exact wrap_u64 (show U64 (r + a) by unfold U64 B64; omega)
theorem wraps_u64_64 (n : Int) (h₀ : 0 ≤ n) (h₁ : n < 2 ^ 64) : IntKind.u64.wrap n = n := by rw [IntKind.wrap_u64]; omega
theorem and32 (x : Int) (h : U64 x) : bits .and .u64 x 4294967295 = x % 4294967296 := by
  have h1 := h.2; unfold B64 at h1
  exact bits_mask .u64 64 (by decide) wraps_u64_64 32 (by decide) x h.1 (by omega)
theorem or0 (x : Int) (h : U64 x) : bits .or .u64 x 0 = x := by
  obtain ⟨X, rfl⟩ := Int.eq_ofNat_of_zero_le h.1
  have h2 := h.2; unfold B64 at h2
  have := (bits_nat .u64 64 (by decide) wraps_u64_64 X 0 (by omega) (by decide)).2
  simpa using this
theorem tdiv_u {x a : Int} (hx : U64 x) (ha : 0 < a) : IntKind.u64.wrap (x.tdiv a) = x / a ∧ U64 (x / a) := by
  have l0 := hx.1
  have h : U64 (x / a) := ⟨Int.ediv_nonneg l0 (by omega), Int.lt_of_le_of_lt (Int.ediv_le_self _ l0) hx.2⟩
  rw [Int.tdiv_eq_ediv_of_nonneg l0]
  exact ⟨wrap_u64 h, h⟩

set_option maxRecDepth 100000 in
theorem bitsDiv64_norm (hi lo y : Int) (w : World) (hh : U64 hi) (hl : U64 lo) (hy : U64 y) (hn : 9223372036854775808 ≤ y) (hlt : hi < y) (h0 : hi ≠ 0) :
    Calls Tryz.prog 230 #[.int .u64 hi, .int .u64 lo, .int .u64 y] w fun e w' => e = .returned (.tuple #[.int .u64 ((hi * B64 + lo) / y), .int .u64 ((hi * B64 + lo) % y)]) ∧ w = w' := by
  have h1 : (y == 0) = false := by simp; omega
  have h2 : ¬ (y ≤ hi) := by omega
  have h3 : (hi == 0) = false := by simp [h0]
  have hlz : Hid (64 - (Lib.bitLen y.toNat : Int) = 0) := Lib.hid (by rw [bitLen_64 hy hn]; rfl)
  have hy0 := hy.1
  have hy1 : y ≤ 18446744073709551615 := by have := hy.2; unfold B64 at this; omega
  have hyn : ¬ (y / 4294967296 = 0) := by omega
  have HN := Lib.hid hn; have HL := Lib.hid hlt
  clear hn h0 hlt
  go_enter Tryz.func230, Tryz.ntmps230
  go_wp2_with (fail)
  refine (Tryz.bits_LeadingZeros64 _ _ hy0 hy1).mono ?_
  rintro e w' ⟨rfl, hw⟩
  obtain rfl := hw.symm
  rw [hlz.out]
  go_upto_block 0 with fail
  have c1 : KC y (y / 4294967296) (y % 4294967296) hi (lo / 4294967296) := by
    have := HN.out; have := HL.out; have := hh.1; have := hl.1; have := hl.2; unfold B64 at *
    exact ⟨by omega, by omega, by omega, by omega, by omega, by omega, by omega, by omega, by omega⟩
  have E1 : lo / 18446744073709551616 = 0 := by have := hl.1; have := hl.2; unfold B64 at *; omega
  rw [wrap_u64 hh, wrap_u64 hl, E1, or0 _ hh, and32 _ hy, and32 _ hl, (tdiv_u hh (by have := c1.a0; omega)).1]
  have c2 : ∀ q, q = (hi * 4294967296 + lo / 4294967296) / y → KC y (y / 4294967296) (y % 4294967296) (hi * 4294967296 + lo / 4294967296 - q * y) (lo % 4294967296) := by
    intro q hq
    have h1 : 0 < y := by have := c1.h0; have := c1.h1; omega
    have h2 := Int.emod_add_mul_ediv (hi * 4294967296 + lo / 4294967296) y
    have h3 := Int.emod_nonneg (hi * 4294967296 + lo / 4294967296) (show y ≠ 0 by omega)
    have h4 := Int.emod_lt_of_pos (hi * 4294967296 + lo / 4294967296) h1
    rw [← hq, Int.mul_comm y] at h2
    obtain ⟨ey, a0, a1, b0, b1, t0, t1, h0, h1⟩ := c1
    exact ⟨ey, a0, a1, b0, b1, by omega, by omega, by omega, by omega⟩
  have E2 : IntKind.u64.wrap (hi - IntKind.u64.wrap (hi / (y / 4294967296) * (y / 4294967296))) = hi - hi / (y / 4294967296) * (y / 4294967296) := by
    have g := c1.start
    rw [wrap_u64 (show U64 (hi / (y / 4294967296) * (y / 4294967296)) by have := g.eq; have := g.r0; have := g.q0; have := hh.2; have := c1.a0; refine ⟨Int.mul_nonneg (by omega) (by omega), by omega⟩)]
    exact wrap_u64 (by have := g.r0; have := g.r1; unfold U64 B64; omega)
  rw [E2]
  have c1s := c1.start
  have hlo0 := hl.1
  generalize hA : y / 4294967296 = ya at *
  generalize hB : y % 4294967296 = yb at *
  generalize hT : lo / 4294967296 = t1 at *
  generalize hT0 : lo % 4294967296 = t0 at *
  have Hc2 := Lib.hid c2
  clear c2 hlz hyn HN HL E1 E2
  go_cut [15, 16] from 67 (fun s15 s16 wx => s15 = .int .u64 ((hi * 4294967296 + t1) / y) ∧ (∃ r : Int, s16 = .int .u64 r) ∧ w = wx)
  case first =>
    have hG := Lib.hid c1s
    have hC := Lib.hid c1
    clear c1s c1
    go_wp2_with fail
    go_loopw [15, 16] (fun s15 s16 wr => ∃ q r : Int, s15 = .int .u64 q ∧ s16 = .int .u64 r ∧ Hid (KG y ya yb hi t1 q r) ∧ w = wr) (fun s15 _ _ => (intOf s15).toNat)
    case atStart => exact ⟨_, _, rfl, rfl, hG, rfl⟩
    case round =>
      obtain ⟨q, r, rfl, rfl, HG, rfl⟩ := hrel
      by_cases hq : 4294967296 ≤ q
      · have t0 := KG.w3 hC.out HG.out (KG.big hC.out HG.out hq) HG.out
        have t2 := KG.w4 hC.out HG.out
        have HQ := Lib.hid (KG.big hC.out HG.out hq)
        have HM := Lib.hid t0
        by_cases hr : 4294967296 ≤ r + ya
        · have HF := Lib.hid (KG.fin2 hC.out HG.out HQ.out hr)
          go_wp2
          go_meet
          exact ⟨by rw [HF.out], ⟨_, rfl⟩, rfl⟩
        · have HN := Lib.hid (KG.next hC.out HG.out hC.out HQ.out (by omega))
          go_wp2
          go_roundw
          case rel => exact ⟨_, _, rfl, rfl, HN, trivial⟩
          case measure => simp [intOf]; have := HN.out.q0; have := HM.out; omega
      · have t0 := KG.w1 hC.out HG.out (by omega)
        have t2 := KG.w2 hC.out HG.out
        by_cases hm : 4294967296 * r + t1 < q * yb
        · have HQ := Lib.hid (KG.over hC.out HG.out hm)
          have t3 := KG.w3 hC.out HG.out HQ.out HG.out
          have t4 := KG.w4 hC.out HG.out
          have HM := Lib.hid t3
          by_cases hr : 4294967296 ≤ r + ya
          · have HF := Lib.hid (KG.fin2 hC.out HG.out HQ.out hr)
            go_wp2
            go_meet
            exact ⟨by rw [HF.out], ⟨_, rfl⟩, rfl⟩
          · have HN := Lib.hid (KG.next hC.out HG.out hC.out HQ.out (by omega))
            go_wp2
            go_roundw
            case rel => exact ⟨_, _, rfl, rfl, HN, trivial⟩
            case measure => simp [intOf]; have := HN.out.q0; have := HM.out; omega
        · have HF := Lib.hid (KG.fin hC.out HG.out (by omega))
          go_wp2
          go_meet
          exact ⟨by rw [HF.out], ⟨_, rfl⟩, rfl⟩
  case rest =>
    obtain ⟨rfl, ⟨r0, rfl⟩, rfl⟩ := hcut
    have hq0 := c1.q0
    have hq1 := c1.qlt
    have hN := c1
    generalize hQ1 : (hi * 4294967296 + t1) / y = qa at *
    have hC := Hc2.out qa rfl
    have E3 : IntKind.u64.wrap (IntKind.u64.wrap (IntKind.u64.wrap (hi * 4294967296) + t1) - IntKind.u64.wrap (qa * y)) = hi * 4294967296 + t1 - qa * y := by
      have h1 := hC.h0; have h2 := hC.h1
      rw [IntKind.wrap_u64, IntKind.wrap_u64, IntKind.wrap_u64, IntKind.wrap_u64]
      generalize qa * y = m at *
      omega
    have hhu : U64 (hi * 4294967296 + t1 - qa * y) := ⟨hC.h0, by have := hC.h1; have := hy.2; omega⟩
    have hG := hC.start
    have E4 : IntKind.u64.wrap (hi * 4294967296 + t1 - qa * y - IntKind.u64.wrap ((hi * 4294967296 + t1 - qa * y) / ya * ya)) = hi * 4294967296 + t1 - qa * y - (hi * 4294967296 + t1 - qa * y) / ya * ya := by
      rw [wrap_u64 (show U64 ((hi * 4294967296 + t1 - qa * y) / ya * ya) by have := hG.eq; have := hG.r0; have := hG.q0; have := hhu.2; have := hC.a0; refine ⟨Int.mul_nonneg (by omega) (by omega), by omega⟩)]
      exact wrap_u64 (by have := hG.r0; have := hG.r1; unfold U64 B64; omega)
    have E5 := (tdiv_u hhu (show 0 < ya by have := hC.a0; omega)).1
    have ha0 : ¬ ya = 0 := by have := hC.a0; omega
    have c1q : 0 ≤ qa ∧ qa < 4294967296 := ⟨hq0, hq1⟩
    have KK := Lib.hid E3; have K4 := Lib.hid E4; have K5 := Lib.hid E5; have KG2 := Lib.hid hG; have KC2 := Lib.hid hC
    clear E3 E4 E5 hG hC hhu c1 c1s hN hq0 hq1
    go_upto_block 2 with fail
    rw [KK.out, K5.out, K4.out]
    generalize hn2 : hi * 4294967296 + t1 - qa * y = n2 at *
    have hcc := KC2.out
    have hv := hcc.q0
    have hv1 := hcc.qlt
    have hw1 : hi * B64 + lo = (n2 * 4294967296 + t0) + y * (qa * 4294967296) := by rw [← Int.mul_assoc, Int.mul_comm y]; unfold B64; omega
    have hw2 := Int.emod_add_mul_ediv (n2 * 4294967296 + t0) y
    have hw3 := Int.emod_nonneg (n2 * 4294967296 + t0) (show y ≠ 0 by have := hcc.h0; have := hcc.h1; omega)
    have hw4 := Int.emod_lt_of_pos (n2 * 4294967296 + t0) (show 0 < y by have := hcc.h0; have := hcc.h1; omega)
    have hX := (Int.ediv_emod_unique (a := hi * B64 + lo) (b := y) (r := (n2 * 4294967296 + t0) % y) (q := qa * 4294967296 + (n2 * 4294967296 + t0) / y) (by omega)).2 ⟨by rw [hw1, Int.mul_add]; omega, hw3, hw4⟩
    have hqa := c1q.1
    have hqa1 := c1q.2
    have Hres : Hid (IntKind.u64.wrap (IntKind.u64.wrap (qa * 4294967296) + (n2 * 4294967296 + t0) / y) = (hi * B64 + lo) / y ∧ IntKind.u64.wrap (IntKind.u64.wrap (IntKind.u64.wrap (n2 * 4294967296) + t0) - IntKind.u64.wrap ((n2 * 4294967296 + t0) / y * y)) = (hi * B64 + lo) % y) := by
      rw [hX.1, hX.2]
      rw [Int.mul_comm y] at hw2
      have e1 : (n2 * 4294967296 + t0) % y = n2 * 4294967296 + t0 - (n2 * 4294967296 + t0) / y * y := by omega
      refine ⟨?_, ?_⟩
      · rw [wrap_u64 (show U64 (qa * 4294967296) by unfold U64 B64; omega), wrap_u64 (show U64 _ by unfold U64 B64; omega)]
      · have hy2 := hy.2
        unfold B64 at hy2
        rw [e1] at hw3 hw4 ⊢
        generalize (n2 * 4294967296 + t0) / y * y = m at *
        rw [IntKind.wrap_u64, IntKind.wrap_u64, IntKind.wrap_u64, IntKind.wrap_u64]
        omega
    clear hw1 hw2 hw3 hw4 hX hv hv1 hqa hqa1 c1q hcc
    go_cut [18, 16] from 102 (fun s18 s16 wx => s18 = .int .u64 ((n2 * 4294967296 + t0) / y) ∧ (∃ r : Int, s16 = .int .u64 r) ∧ w = wx)
    case first =>
      have hG := KG2
      have hC := KC2
      clear KG2 KC2
      go_wp2_with fail
      go_loopw [18, 16] (fun s18 s16 wr => ∃ q r : Int, s18 = .int .u64 q ∧ s16 = .int .u64 r ∧ Hid (KG y ya yb n2 t0 q r) ∧ w = wr) (fun s18 _ _ => (intOf s18).toNat)
      case atStart => exact ⟨_, _, rfl, rfl, hG, rfl⟩
      case round =>
        obtain ⟨q, r, rfl, rfl, HG, rfl⟩ := hrel
        by_cases hq : 4294967296 ≤ q
        · have tt := KG.w3 hC.out HG.out (KG.big hC.out HG.out hq) HG.out
          have t2 := KG.w4 hC.out HG.out
          have HQ := Lib.hid (KG.big hC.out HG.out hq)
          have HM := Lib.hid tt
          by_cases hr : 4294967296 ≤ r + ya
          · have HF := Lib.hid (KG.fin2 hC.out HG.out HQ.out hr)
            go_wp2
            go_meet
            exact ⟨by rw [HF.out], ⟨_, rfl⟩, rfl⟩
          · have HN := Lib.hid (KG.next hC.out HG.out hC.out HQ.out (by omega))
            go_wp2
            go_roundw
            case rel => exact ⟨_, _, rfl, rfl, HN, trivial⟩
            case measure => simp [intOf]; have := HN.out.q0; have := HM.out; omega
        · have tt := KG.w1 hC.out HG.out (by omega)
          have t2 := KG.w2 hC.out HG.out
          by_cases hm : 4294967296 * r + t0 < q * yb
          · have HQ := Lib.hid (KG.over hC.out HG.out hm)
            have t3 := KG.w3 hC.out HG.out HQ.out HG.out
            have t4 := KG.w4 hC.out HG.out
            have HM := Lib.hid t3
            by_cases hr : 4294967296 ≤ r + ya
            · have HF := Lib.hid (KG.fin2 hC.out HG.out HQ.out hr)
              go_wp2
              go_meet
              exact ⟨by rw [HF.out], ⟨_, rfl⟩, rfl⟩
            · have HN := Lib.hid (KG.next hC.out HG.out hC.out HQ.out (by omega))
              go_wp2
              go_roundw
              case rel => exact ⟨_, _, rfl, rfl, HN, trivial⟩
              case measure => simp [intOf]; have := HN.out.q0; have := HM.out; omega
          · have HF := Lib.hid (KG.fin hC.out HG.out (by omega))
            go_wp2
            go_meet
            exact ⟨by rw [HF.out], ⟨_, rfl⟩, rfl⟩
    case rest =>
      obtain ⟨rfl, ⟨r1, rfl⟩, rfl⟩ := hcut
      go_wp2
      go_ret2
      refine ⟨?_, rfl⟩
      have h1 := Hres.out.1
      have h2 := Hres.out.2
      first | rw [h1, h2] | rw [h2]
      rfl
end Go.Proofs.YtndphemomhcjlaaGreatDoor
