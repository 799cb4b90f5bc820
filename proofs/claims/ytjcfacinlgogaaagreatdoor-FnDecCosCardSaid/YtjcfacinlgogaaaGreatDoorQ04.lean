/- Division of two words by one. Conditions: the divisor's highest bit is set, the higher word is less than it; or the higher word is 0. Division of two words by one through the reciprocal. Conditions: the higher word is less than the divisor. -/
import Derived.Deep.CutBlock
import Derived.Deep.CutRange
import Derived.Test.YtjcfacinlgogaaaGreatDoorQ01
import Derived.Test.YtjcfacinlgogaaaGreatDoorQ02
set_option linter.all false
set_option maxRecDepth 100000
namespace Go.Proofs.YtjcfacinlgogaaaGreatDoor
open Go.RowKit
theorem bitsDiv64_small (lo y : Int) (w : World) (hl : U64 lo) (hy : U64 y) (h0 : y ≠ 0) :
    Calls Tryz.prog 278 #[.int .u64 0, .int .u64 lo, .int .u64 y] w fun e w' => e = .returned (.tuple #[.int .u64 (lo / y), .int .u64 (lo % y)]) ∧ ∃ q, w' = w.drewN q := by
  have h1 : (y == 0) = false := by simp [h0]
  have h2 : ¬ (y ≤ 0) := by have := hy.1; omega
  have l0 := hl.1
  have e1 : IntKind.u64.wrap (lo.tdiv y) = lo / y := by
    rw [Int.tdiv_eq_ediv_of_nonneg l0]
    exact wrap_u64 ⟨Int.ediv_nonneg l0 (by omega), Int.lt_of_le_of_lt (Int.ediv_le_self _ l0) hl.2⟩
  have e2 : lo.tmod y = lo % y := Int.tmod_eq_emod_of_nonneg l0
  go_enter Tryz.func278, Tryz.ntmps278
  go_wp2_with (fail)
  go_quiet (fail)
  go_wp2_with (fail)
  go_ret2
  exact ⟨rfl, _, rfl⟩
theorem bitLen_64 {y : Int} (hy : U64 y) (h : 9223372036854775808 ≤ y) : Lib.bitLen y.toNat = 64 := by
  have h1 := hy.1; have h2 := hy.2
  unfold B64 at h2
  have h3 := bitLen_le64 y.toNat (by omega)
  obtain ⟨g1, g2, g3⟩ := Lib.bitLenAux_bounds 64 y.toNat (by omega) (by omega)
  unfold Lib.bitLen at *
  have : 2 ^ 63 < 2 ^ Lib.bitLenAux 64 y.toNat := Nat.lt_of_le_of_lt (by omega) g3
  have := (Nat.pow_lt_pow_iff_right (by decide : 1 < 2)).1 this
  omega
structure KG (y a b h t q r : Int) : Prop where
  eq : q * a + r = h
  r0 : 0 ≤ r
  r1 : r < 4294967296
  q0 : 0 ≤ q
  q1 : q ≤ 4294967297
  ge : (h * 4294967296 + t) / y ≤ q
structure KC (y a b h t : Int) : Prop where
  ey : a * 4294967296 + b = y
  a0 : 2147483648 ≤ a
  a1 : a < 4294967296
  b0 : 0 ≤ b
  b1 : b < 4294967296
  t0 : 0 ≤ t
  t1 : t < 4294967296
  h0 : 0 ≤ h
  h1 : h < y
theorem KC.qlt {y a b h t : Int} (c : KC y a b h t) : (h * 4294967296 + t) / y < 4294967296 := by
  obtain ⟨ey, a0, a1, b0, b1, t0, t1, h0, h1⟩ := c
  exact Int.ediv_lt_of_lt_mul (by omega) (by omega)
theorem KC.q0 {y a b h t : Int} (c : KC y a b h t) : 0 ≤ (h * 4294967296 + t) / y := by
  obtain ⟨ey, a0, a1, b0, b1, t0, t1, h0, h1⟩ := c
  exact Int.ediv_nonneg (by omega) (by omega)
theorem KC.start {y a b h t : Int} (c : KC y a b h t) : KG y a b h t (h / a) (h - h / a * a) := by
  have c' := c
  obtain ⟨ey, a0, a1, b0, b1, t0, t1, h0, h1⟩ := c
  have e1 := Int.emod_add_mul_ediv h a
  have e2 := Int.emod_nonneg h (show a ≠ 0 by omega)
  have e3 := Int.emod_lt_of_pos h (show 0 < a by omega)
  have e4 : 0 ≤ h / a := Int.ediv_nonneg h0 (by omega)
  have e5 : h / a < 4294967298 := by
    apply Int.ediv_lt_of_lt_mul (by omega)
    omega
  rw [Int.mul_comm a] at e1
  generalize h / a = q at *
  refine ⟨by omega, by omega, by omega, e4, by omega, ?_⟩
  have h3 : h * 4294967296 + t < (q + 1) * y := by
    have h4 : h < (q + 1) * a := by rw [Int.add_mul]; omega
    have h5 : (h + 1) * 4294967296 ≤ (q + 1) * a * 4294967296 := by omega
    have h6 : (q + 1) * y = (q + 1) * a * 4294967296 + (q + 1) * b := by rw [← ey, Int.mul_add, Int.mul_assoc]
    have h7 : 0 ≤ (q + 1) * b := Int.mul_nonneg (by omega) b0
    omega
  have := Int.ediv_lt_of_lt_mul (show 0 < y by omega) h3
  omega
theorem KG.mulb {y a b h t q r : Int} (c : KC y a b h t) (g : KG y a b h t q r) : q * y = h * 4294967296 - r * 4294967296 + q * b := by
  rw [← c.ey, Int.mul_add, ← Int.mul_assoc, show q * a = h - r by have := g.eq; omega]; omega
theorem KG.big {y a b h t q r : Int} (c : KC y a b h t) (_ : KG y a b h t q r) (hq : 4294967296 ≤ q) : (h * 4294967296 + t) / y ≤ q - 1 := by
  have := c.qlt; omega
theorem KG.over {y a b h t q r : Int} (c : KC y a b h t) (g : KG y a b h t q r) (hq : 4294967296 * r + t < q * b) : (h * 4294967296 + t) / y ≤ q - 1 := by
  have h1 := g.mulb c
  have := Int.ediv_lt_of_lt_mul (show 0 < y by have := c.h0; have := c.h1; omega) (show h * 4294967296 + t < q * y by omega)
  omega
theorem KG.fin {y a b h t q r : Int} (c : KC y a b h t) (g : KG y a b h t q r) (hq : q * b ≤ 4294967296 * r + t) : q = (h * 4294967296 + t) / y := by
  have h1 := g.mulb c
  have := (Int.le_ediv_iff_mul_le (show 0 < y by have := c.h0; have := c.h1; omega)).2 (show q * y ≤ h * 4294967296 + t by omega)
  have := g.ge; omega
theorem KG.fin2 {y a b h t q r : Int} (c : KC y a b h t) (g : KG y a b h t q r) (hq : (h * 4294967296 + t) / y ≤ q - 1) (hr : 4294967296 ≤ r + a) : q - 1 = (h * 4294967296 + t) / y := by
  have h1 := g.mulb c
  have h2 : (q - 1) * b ≤ 4294967296 * b := Int.mul_le_mul_of_nonneg_right (by have := g.q1; omega) c.b0
  have h3 : 4294967296 * b ≤ 4294967296 * 4294967296 := by have := c.b1; omega
  have h4 : (q - 1) * y = q * y - y := by rw [Int.sub_mul]; omega
  have h5 : (q - 1) * b = q * b - b := by rw [Int.sub_mul]; omega
  have := (Int.le_ediv_iff_mul_le (show 0 < y by have := c.h0; have := c.h1; omega)).2 (show (q - 1) * y ≤ h * 4294967296 + t by have := c.ey; have := c.t0; omega)
  omega
theorem KG.next {y a b h t q r : Int} (_ : KC y a b h t) (g : KG y a b h t q r) (c : KC y a b h t) (hq : (h * 4294967296 + t) / y ≤ q - 1) (hr : r + a < 4294967296) : KG y a b h t (q - 1) (r + a) := by
  have := c.q0
  refine ⟨?_, by have := g.r0; have := c.a0; omega, hr, by omega, by have := g.q1; omega, hq⟩
  rw [Int.sub_mul]; have := g.eq; omega
theorem KG.w1 {y a b h t q r : Int} (c : KC y a b h t) (g : KG y a b h t q r) (hq : q < 4294967296) : IntKind.u64.wrap (q * b) = q * b := by
  refine wrap_u64 ⟨Int.mul_nonneg g.q0 c.b0, ?_⟩
  have h2 : q * b ≤ 4294967296 * b := Int.mul_le_mul_of_nonneg_right (by omega) c.b0
  have := c.b1; unfold B64; omega
theorem KG.w2 {y a b h t q r : Int} (c : KC y a b h t) (g : KG y a b h t q r) : IntKind.u64.wrap (IntKind.u64.wrap (4294967296 * r) + t) = 4294967296 * r + t := by
  have := g.r0; have := g.r1; have := c.t0; have := c.t1
  rw [wrap_u64 (show U64 (4294967296 * r) by unfold U64 B64; omega), wrap_u64 (show U64 (4294967296 * r + t) by unfold U64 B64; omega)]
theorem KG.w3 {y a b h t q r : Int} (c : KC y a b h t) (_ : KG y a b h t q r) (hq : (h * 4294967296 + t) / y ≤ q - 1) (g : KG y a b h t q r) : IntKind.u64.wrap (q - 1) = q - 1 := by
  have := c.q0; have := g.q1
  exact wrap_u64 (show U64 (q - 1) by unfold U64 B64; omega)
theorem KG.w4 {y a b h t q r : Int} (c : KC y a b h t) (g : KG y a b h t q r) : IntKind.u64.wrap (r + a) = r + a := by
  have := g.r0; have := g.r1; have := c.a0; have := c.a1
  exact wrap_u64 (show U64 (r + a) by unfold U64 B64; omega)
theorem wraps_u64_64 (n : Int) (h₀ : 0 ≤ n) (h₁ : n < 2 ^ 64) : IntKind.u64.wrap n = n := by rw [IntKind.wrap_u64]; omega
theorem and32 (x : Int) (h : U64 x) : bits .and .u64 x 4294967295 = x % 4294967296 := by
  have h1 := h.2; unfold B64 at h1
  exact bits_mask .u64 64 (by decide) wraps_u64_64 32 (by decide) x h.1 (by omega)
theorem or0 (x : Int) (h : U64 x) : bits .or .u64 x 0 = x := by
  obtain ⟨X, rfl⟩ := Int.eq_ofNat_of_zero_le h.1
  have h2 := h.2; unfold B64 at h2
  have := (bits_nat .u64 64 (by decide) wraps_u64_64 X 0 (by omega) (by decide)).2
  simpa using this
theorem tdiv_u {x a : Int} (hx : U64 x) (ha : 0 < a) : IntKind.u64.wrap (x.tdiv a) = x / a ∧ U64 (x / a) := by
  have l0 := hx.1
  have h : U64 (x / a) := ⟨Int.ediv_nonneg l0 (by omega), Int.lt_of_le_of_lt (Int.ediv_le_self _ l0) hx.2⟩
  rw [Int.tdiv_eq_ediv_of_nonneg l0]
  exact ⟨wrap_u64 h, h⟩
theorem bitsDiv64_norm (hi lo y : Int) (w : World) (hh : U64 hi) (hl : U64 lo) (hy : U64 y) (hn : 9223372036854775808 ≤ y) (hlt : hi < y) (h0 : hi ≠ 0) :
    Calls Tryz.prog 278 #[.int .u64 hi, .int .u64 lo, .int .u64 y] w fun e w' => e = .returned (.tuple #[.int .u64 ((hi * B64 + lo) / y), .int .u64 ((hi * B64 + lo) % y)]) ∧ w = w' := by
  have h1 : (y == 0) = false := by simp; omega
  have h2 : ¬ (y ≤ hi) := by omega
  have h3 : (hi == 0) = false := by simp [h0]
  have hlz : Hid (64 - (Lib.bitLen y.toNat : Int) = 0) := Hq0 (by rw [bitLen_64 hy hn]; rfl)
  have hy0 := hy.1
  have hy1 : y ≤ 18446744073709551615 := by have := hy.2; unfold B64 at this; omega
  have hyn : ¬ (y / 4294967296 = 0) := by omega
  have HN := Hq0 hn; have HL := Hq0 hlt
  clear hn h0 hlt
  go_enter Tryz.func278, Tryz.ntmps278
  go_wp2_with (fail)
  refine (Tryz.bits_LeadingZeros64 _ _ hy0 hy1).mono ?_
  rintro e w' ⟨rfl, hw⟩
  obtain rfl := hw.symm
  rw [hlz.out]
  go_upto_block 0 with fail
  have c1 : KC y (y / 4294967296) (y % 4294967296) hi (lo / 4294967296) := by
    have := HN.out; have := HL.out; have := hh.1; have := hl.1; have := hl.2; unfold B64 at *
    exact ⟨by omega, by omega, by omega, by omega, by omega, by omega, by omega, by omega, by omega⟩
  have E1 : lo / 18446744073709551616 = 0 := by have := hl.1; have := hl.2; unfold B64 at *; omega
  rw [wrap_u64 hh, wrap_u64 hl, E1, or0 _ hh, and32 _ hy, and32 _ hl, (tdiv_u hh (by have := c1.a0; omega)).1]
  have c2 : ∀ q, q = (hi * 4294967296 + lo / 4294967296) / y → KC y (y / 4294967296) (y % 4294967296) (hi * 4294967296 + lo / 4294967296 - q * y) (lo % 4294967296) := by
    intro q hq
    have h1 : 0 < y := by have := c1.h0; have := c1.h1; omega
    have h2 := Int.emod_add_mul_ediv (hi * 4294967296 + lo / 4294967296) y
    have h3 := Int.emod_nonneg (hi * 4294967296 + lo / 4294967296) (show y ≠ 0 by omega)
    have h4 := Int.emod_lt_of_pos (hi * 4294967296 + lo / 4294967296) h1
    rw [← hq, Int.mul_comm y] at h2
    obtain ⟨ey, a0, a1, b0, b1, t0, t1, h0, h1⟩ := c1
    exact ⟨ey, a0, a1, b0, b1, by omega, by omega, by omega, by omega⟩
  have E2 : IntKind.u64.wrap (hi - IntKind.u64.wrap (hi / (y / 4294967296) * (y / 4294967296))) = hi - hi / (y / 4294967296) * (y / 4294967296) := by
    have g := c1.start
    rw [wrap_u64 (show U64 (hi / (y / 4294967296) * (y / 4294967296)) by have := g.eq; have := g.r0; have := g.q0; have := hh.2; have := c1.a0; refine ⟨Int.mul_nonneg (by omega) (by omega), by omega⟩)]
    exact wrap_u64 (by have := g.r0; have := g.r1; unfold U64 B64; omega)
  rw [E2]
  have c1s := c1.start
  have hlo0 := hl.1
  generalize hA : y / 4294967296 = ya at *
  generalize hB : y % 4294967296 = yb at *
  generalize hT : lo / 4294967296 = t1 at *
  generalize hT0 : lo % 4294967296 = t0 at *
  have Hc2 := Hq0 c2
  clear c2 hlz hyn HN HL E1 E2
  go_cut [15, 16] from 67 (fun s15 s16 wx => s15 = .int .u64 ((hi * 4294967296 + t1) / y) ∧ (∃ r : Int, s16 = .int .u64 r) ∧ w = wx)
  case first =>
    have hG := Hq0 c1s
    have hC := Hq0 c1
    clear c1s c1
    go_wp2_with fail
    go_loopw [15, 16] (fun s15 s16 wr => ∃ q r : Int, s15 = .int .u64 q ∧ s16 = .int .u64 r ∧ Hid (KG y ya yb hi t1 q r) ∧ w = wr) (fun s15 _ _ => (intOf s15).toNat)
    case atStart => exact ⟨_, _, rfl, rfl, hG, rfl⟩
    case round =>
      obtain ⟨q, r, rfl, rfl, HG, rfl⟩ := hrel
      by_cases hq : 4294967296 ≤ q
      · have t0 := KG.w3 hC.out HG.out (KG.big hC.out HG.out hq) HG.out
        have t2 := KG.w4 hC.out HG.out
        have HQ := Hq0 (KG.big hC.out HG.out hq)
        have HM := Hq0 t0
        by_cases hr : 4294967296 ≤ r + ya
        · have HF := Hq0 (KG.fin2 hC.out HG.out HQ.out hr)
          go_wp2
          go_meet
          exact ⟨by rw [HF.out], ⟨_, rfl⟩, rfl⟩
        · have HN := Hq0 (KG.next hC.out HG.out hC.out HQ.out (by omega))
          go_wp2
          go_roundw
          case rel => exact ⟨_, _, rfl, rfl, HN, trivial⟩
          case measure => simp [intOf]; have := HN.out.q0; have := HM.out; omega
      · have t0 := KG.w1 hC.out HG.out (by omega)
        have t2 := KG.w2 hC.out HG.out
        by_cases hm : 4294967296 * r + t1 < q * yb
        · have HQ := Hq0 (KG.over hC.out HG.out hm)
          have t3 := KG.w3 hC.out HG.out HQ.out HG.out
          have t4 := KG.w4 hC.out HG.out
          have HM := Hq0 t3
          by_cases hr : 4294967296 ≤ r + ya
          · have HF := Hq0 (KG.fin2 hC.out HG.out HQ.out hr)
            go_wp2
            go_meet
            exact ⟨by rw [HF.out], ⟨_, rfl⟩, rfl⟩
          · have HN := Hq0 (KG.next hC.out HG.out hC.out HQ.out (by omega))
            go_wp2
            go_roundw
            case rel => exact ⟨_, _, rfl, rfl, HN, trivial⟩
            case measure => simp [intOf]; have := HN.out.q0; have := HM.out; omega
        · have HF := Hq0 (KG.fin hC.out HG.out (by omega))
          go_wp2
          go_meet
          exact ⟨by rw [HF.out], ⟨_, rfl⟩, rfl⟩
  case rest =>
    obtain ⟨rfl, ⟨r0, rfl⟩, rfl⟩ := hcut
    have hq0 := c1.q0
    have hq1 := c1.qlt
    have hN := c1
    generalize hQ1 : (hi * 4294967296 + t1) / y = qa at *
    have hC := Hc2.out qa rfl
    have E3 : IntKind.u64.wrap (IntKind.u64.wrap (IntKind.u64.wrap (hi * 4294967296) + t1) - IntKind.u64.wrap (qa * y)) = hi * 4294967296 + t1 - qa * y := by
      have h1 := hC.h0; have h2 := hC.h1
      rw [IntKind.wrap_u64, IntKind.wrap_u64, IntKind.wrap_u64, IntKind.wrap_u64]
      generalize qa * y = m at *
      omega
    have hhu : U64 (hi * 4294967296 + t1 - qa * y) := ⟨hC.h0, by have := hC.h1; have := hy.2; omega⟩
    have hG := hC.start
    have E4 : IntKind.u64.wrap (hi * 4294967296 + t1 - qa * y - IntKind.u64.wrap ((hi * 4294967296 + t1 - qa * y) / ya * ya)) = hi * 4294967296 + t1 - qa * y - (hi * 4294967296 + t1 - qa * y) / ya * ya := by
      rw [wrap_u64 (show U64 ((hi * 4294967296 + t1 - qa * y) / ya * ya) by have := hG.eq; have := hG.r0; have := hG.q0; have := hhu.2; have := hC.a0; refine ⟨Int.mul_nonneg (by omega) (by omega), by omega⟩)]
      exact wrap_u64 (by have := hG.r0; have := hG.r1; unfold U64 B64; omega)
    have E5 := (tdiv_u hhu (show 0 < ya by have := hC.a0; omega)).1
    have ha0 : ¬ ya = 0 := by have := hC.a0; omega
    have c1q : 0 ≤ qa ∧ qa < 4294967296 := ⟨hq0, hq1⟩
    have KK := Hq0 E3; have K4 := Hq0 E4; have K5 := Hq0 E5; have KG2 := Hq0 hG; have KC2 := Hq0 hC
    clear E3 E4 E5 hG hC hhu c1 c1s hN hq0 hq1
    go_upto_block 2 with fail
    rw [KK.out, K5.out, K4.out]
    generalize hn2 : hi * 4294967296 + t1 - qa * y = n2 at *
    have hcc := KC2.out
    have hv := hcc.q0
    have hv1 := hcc.qlt
    have hw1 : hi * B64 + lo = (n2 * 4294967296 + t0) + y * (qa * 4294967296) := by rw [← Int.mul_assoc, Int.mul_comm y]; unfold B64; omega
    have hw2 := Int.emod_add_mul_ediv (n2 * 4294967296 + t0) y
    have hw3 := Int.emod_nonneg (n2 * 4294967296 + t0) (show y ≠ 0 by have := hcc.h0; have := hcc.h1; omega)
    have hw4 := Int.emod_lt_of_pos (n2 * 4294967296 + t0) (show 0 < y by have := hcc.h0; have := hcc.h1; omega)
    have hX := (Int.ediv_emod_unique (a := hi * B64 + lo) (b := y) (r := (n2 * 4294967296 + t0) % y) (q := qa * 4294967296 + (n2 * 4294967296 + t0) / y) (by omega)).2 ⟨by rw [hw1, Int.mul_add]; omega, hw3, hw4⟩
    have hqa := c1q.1
    have hqa1 := c1q.2
    have Hres : Hid (IntKind.u64.wrap (IntKind.u64.wrap (qa * 4294967296) + (n2 * 4294967296 + t0) / y) = (hi * B64 + lo) / y ∧ IntKind.u64.wrap (IntKind.u64.wrap (IntKind.u64.wrap (n2 * 4294967296) + t0) - IntKind.u64.wrap ((n2 * 4294967296 + t0) / y * y)) = (hi * B64 + lo) % y) := by
      rw [hX.1, hX.2]
      rw [Int.mul_comm y] at hw2
      have e1 : (n2 * 4294967296 + t0) % y = n2 * 4294967296 + t0 - (n2 * 4294967296 + t0) / y * y := by omega
      refine ⟨?_, ?_⟩
      · rw [wrap_u64 (show U64 (qa * 4294967296) by unfold U64 B64; omega), wrap_u64 (show U64 _ by unfold U64 B64; omega)]
      · have hy2 := hy.2
        unfold B64 at hy2
        rw [e1] at hw3 hw4 ⊢
        generalize (n2 * 4294967296 + t0) / y * y = m at *
        rw [IntKind.wrap_u64, IntKind.wrap_u64, IntKind.wrap_u64, IntKind.wrap_u64]
        omega
    clear hw1 hw2 hw3 hw4 hX hv hv1 hqa hqa1 c1q hcc
    go_cut [18, 16] from 102 (fun s18 s16 wx => s18 = .int .u64 ((n2 * 4294967296 + t0) / y) ∧ (∃ r : Int, s16 = .int .u64 r) ∧ w = wx)
    case first =>
      have hG := KG2
      have hC := KC2
      clear KG2 KC2
      go_wp2_with fail
      go_loopw [18, 16] (fun s18 s16 wr => ∃ q r : Int, s18 = .int .u64 q ∧ s16 = .int .u64 r ∧ Hid (KG y ya yb n2 t0 q r) ∧ w = wr) (fun s18 _ _ => (intOf s18).toNat)
      case atStart => exact ⟨_, _, rfl, rfl, hG, rfl⟩
      case round =>
        obtain ⟨q, r, rfl, rfl, HG, rfl⟩ := hrel
        by_cases hq : 4294967296 ≤ q
        · have tt := KG.w3 hC.out HG.out (KG.big hC.out HG.out hq) HG.out
          have t2 := KG.w4 hC.out HG.out
          have HQ := Hq0 (KG.big hC.out HG.out hq)
          have HM := Hq0 tt
          by_cases hr : 4294967296 ≤ r + ya
          · have HF := Hq0 (KG.fin2 hC.out HG.out HQ.out hr)
            go_wp2
            go_meet
            exact ⟨by rw [HF.out], ⟨_, rfl⟩, rfl⟩
          · have HN := Hq0 (KG.next hC.out HG.out hC.out HQ.out (by omega))
            go_wp2
            go_roundw
            case rel => exact ⟨_, _, rfl, rfl, HN, trivial⟩
            case measure => simp [intOf]; have := HN.out.q0; have := HM.out; omega
        · have tt := KG.w1 hC.out HG.out (by omega)
          have t2 := KG.w2 hC.out HG.out
          by_cases hm : 4294967296 * r + t0 < q * yb
          · have HQ := Hq0 (KG.over hC.out HG.out hm)
            have t3 := KG.w3 hC.out HG.out HQ.out HG.out
            have t4 := KG.w4 hC.out HG.out
            have HM := Hq0 t3
            by_cases hr : 4294967296 ≤ r + ya
            · have HF := Hq0 (KG.fin2 hC.out HG.out HQ.out hr)
              go_wp2
              go_meet
              exact ⟨by rw [HF.out], ⟨_, rfl⟩, rfl⟩
            · have HN := Hq0 (KG.next hC.out HG.out hC.out HQ.out (by omega))
              go_wp2
              go_roundw
              case rel => exact ⟨_, _, rfl, rfl, HN, trivial⟩
              case measure => simp [intOf]; have := HN.out.q0; have := HM.out; omega
          · have HF := Hq0 (KG.fin hC.out HG.out (by omega))
            go_wp2
            go_meet
            exact ⟨by rw [HF.out], ⟨_, rfl⟩, rfl⟩
    case rest =>
      obtain ⟨rfl, ⟨r1, rfl⟩, rfl⟩ := hcut
      go_wp2
      go_ret2
      refine ⟨?_, rfl⟩
      have h1 := Hres.out.1
      have h2 := Hres.out.2
      first | rw [h1, h2] | rw [h2]
      rfl
end Go.Proofs.YtjcfacinlgogaaaGreatDoor
namespace Go.Proofs.YtjcfacinlgogaaaGreatDoor
open Go.RowKit
theorem bitsDiv_small (lo y : Int) (w : World) (hl : U64 lo) (hy : U64 y) (h0 : y ≠ 0) :
    Calls Tryz.prog 241 #[.int .u64 0, .int .u64 lo, .int .u64 y] w fun e w' => e = .returned (.tuple #[.int .u64 (lo / y), .int .u64 (lo % y)]) ∧ ∃ q, w' = w.drewN q := by
  go_enter Tryz.func241, Tryz.ntmps241
  go_wp2_with (fail)
  refine (bitsDiv64_small lo y _ hl hy h0).mono ?_
  rintro e w' ⟨rfl, q, rfl⟩
  go_wp2_with (fail)
  go_ret2
  exact ⟨rfl, _, rfl⟩
theorem bitsDiv_norm (hi lo y : Int) (w : World) (hh : U64 hi) (hl : U64 lo) (hy : U64 y) (hn : 9223372036854775808 ≤ y) (hlt : hi < y) (h0 : hi ≠ 0) :
    Calls Tryz.prog 241 #[.int .u64 hi, .int .u64 lo, .int .u64 y] w fun e w' => e = .returned (.tuple #[.int .u64 ((hi * B64 + lo) / y), .int .u64 ((hi * B64 + lo) % y)]) ∧ w = w' := by
  go_enter Tryz.func241, Tryz.ntmps241
  go_wp2_with (fail)
  refine (bitsDiv64_norm hi lo y _ hh hl hy hn hlt h0).mono ?_
  rintro e w' ⟨rfl, rfl⟩
  go_wp2_with (fail)
  go_ret2
  exact ⟨rfl, rfl⟩
def recip (u : Int) : Int := ((B64 - 1 - u) * B64 + (B64 - 1)) / u
theorem nlz_shift {y : Int} (hy : U64 y) (h0 : y ≠ 0) : ∃ s : Nat, nlzI y = s ∧ s ≤ 63 ∧ 9223372036854775808 ≤ y * 2 ^ s ∧ U64 (y * 2 ^ s) := by
  have h1 := hy.1; have h2 := hy.2
  unfold B64 at h2
  have h3 := bitLen_le64 y.toNat (by omega)
  obtain ⟨g1, g2, g3⟩ := Lib.bitLenAux_bounds 64 y.toNat (by omega) (by omega)
  unfold nlzI
  unfold Lib.bitLen at *
  generalize Lib.bitLenAux 64 y.toNat = b at *
  refine ⟨64 - b, by omega, by omega, ?_, by have : (0 : Int) < 2 ^ (64 - b) := Int.pow_pos (by decide); exact Int.mul_nonneg h1 (by omega), ?_⟩
  · have e : (2 : Nat) ^ (b - 1) * 2 ^ (64 - b) = 9223372036854775808 := by
      rw [← Nat.pow_add, show b - 1 + (64 - b) = 63 by omega]
    have h4 : 2 ^ (b - 1) * 2 ^ (64 - b) ≤ y.toNat * 2 ^ (64 - b) := Nat.mul_le_mul_right _ g2
    rw [e] at h4
    have h5 : y * 2 ^ (64 - b) = ((y.toNat * 2 ^ (64 - b) : Nat) : Int) := by
      rw [Int.natCast_mul, Int.toNat_of_nonneg h1]; simp
    omega
  · have e : (2 : Nat) ^ b * 2 ^ (64 - b) = 18446744073709551616 := by
      rw [← Nat.pow_add, show b + (64 - b) = 64 by omega]
    have h4 : y.toNat * 2 ^ (64 - b) < 2 ^ b * 2 ^ (64 - b) := Nat.mul_lt_mul_of_pos_right g3 (Nat.pow_pos (by decide))
    rw [e] at h4
    have h5 : y * 2 ^ (64 - b) = ((y.toNat * 2 ^ (64 - b) : Nat) : Int) := by
      rw [Int.natCast_mul, Int.toNat_of_nonneg h1]; simp
    unfold B64; omega
theorem xor_ones (a : Nat) (h : a < 18446744073709551616) : 18446744073709551615 ^^^ a = 18446744073709551615 - a := by
  have h1 : (BitVec.allOnes 64 ^^^ BitVec.ofNat 64 a).toNat = 18446744073709551615 ^^^ a := by
    rw [BitVec.toNat_xor, BitVec.toNat_ofNat, Nat.mod_eq_of_lt (by omega)]; rfl
  have h2 : (~~~ (BitVec.ofNat 64 a)).toNat = 18446744073709551615 - a := by
    rw [BitVec.toNat_not, BitVec.toNat_ofNat, Nat.mod_eq_of_lt (by omega)]
  rw [← h1, ← h2, BitVec.allOnes_xor]
theorem xor_u64 {u : Int} (h : U64 u) : bits .xor .u64 IntKind.u64.max u = B64 - 1 - u := by
  have h1 := h.1; have h2 := h.2
  unfold B64 at *
  rw [u64_xor _ _ (by decide) (by decide) h1 h2, show IntKind.u64.max.toNat = 18446744073709551615 from by decide, xor_ones _ (by omega)]
  omega
theorem reciprocalWord (y : Int) (w : World) (hy : U64 y) (h0 : y ≠ 0) (s : Nat) (hs : nlzI y = s) (hs1 : s ≤ 63) (hn : 9223372036854775808 ≤ y * 2 ^ s) (hu : U64 (y * 2 ^ s)) :
    Calls Tryz.prog 242 #[.int .u64 y] w fun e w' => e = .returned (.int .u64 (recip (y * 2 ^ s))) ∧ ∃ q, w' = w.drewN q := by
  have hM : U64 18446744073709551615 := by unfold U64 B64; omega
  have hw := wrap_u64 hu
  have hx := xor_u64 hu
  have e1 : recip (y * 2 ^ s) = ((B64 - 1 - y * 2 ^ s) * B64 + 18446744073709551615) / (y * 2 ^ s) := by unfold recip; rfl
  generalize hU : y * 2 ^ s = u at *
  have hh : U64 (B64 - 1 - u) := by have := hu.1; have := hu.2; unfold U64 B64 at *; omega
  have hlt : B64 - 1 - u < u := by unfold B64; omega
  have HE := Hq0 e1; have HX := Hq0 hx
  clear e1 hx
  go_enter Tryz.func242, Tryz.ntmps242
  go_wp2_with (go_at_call 199; refine (nlz_any _ _ hy).mono ?_; rintro e w' ⟨rfl, rfl⟩; rw [hs])
  rw [HX.out]
  by_cases hz : B64 - 1 - u = 0
  · rw [hz] at HE ⊢
    refine (bitsDiv_small _ _ _ hM hu (by omega)).mono ?_
    rintro e w' ⟨rfl, q, rfl⟩
    go_wp2_with (fail)
    go_ret
    exact ⟨ret_int (by rw [HE.out]; simp), _, rfl⟩
  · refine (bitsDiv_norm _ _ _ _ hh hM hu hn hlt hz).mono ?_
    rintro e w' ⟨rfl, rfl⟩
    go_wp2_with (fail)
    go_ret
    exact ⟨ret_int (by rw [HE.out]), 0, rfl⟩
def dT (d a b m : Int) : Int := alo (mhi m a) a (ahi (mlo m a) b 0)
def dR0 (d a b t : Int) : Int := slo b (mlo d t) 0
def dR1 (d a b t : Int) : Int := slo a (mhi d t) (shi b (mlo d t) 0)
theorem recip_spec {d : Int} (hd : U64 d) (hn : 9223372036854775808 ≤ d) : (recip d + B64) * d ≤ B64 * B64 - 1 ∧ B64 * B64 - d ≤ (recip d + B64) * d ∧ U64 (recip d) := by
  have h1 := hd.2
  have e : recip d + B64 = (B64 * B64 - 1) / d := by
    unfold recip
    rw [← Int.add_mul_ediv_right _ _ (show d ≠ 0 by omega)]
    congr 1; unfold B64; omega
  have h2 := Int.emod_add_mul_ediv (B64 * B64 - 1) d
  have h3 := Int.emod_nonneg (B64 * B64 - 1) (show d ≠ 0 by omega)
  have h4 := Int.emod_lt_of_pos (B64 * B64 - 1) (show 0 < d by omega)
  rw [← e, Int.mul_comm d] at h2
  refine ⟨by omega, by omega, ?_⟩
  unfold recip
  refine ⟨Int.ediv_nonneg (by unfold B64 at *; omega) (by omega), Int.ediv_lt_of_lt_mul (by omega) (by unfold B64 at *; omega)⟩
theorem dT_spec {d a b : Int} (hd : U64 d) (hn : 9223372036854775808 ≤ d) (ha : 0 ≤ a) (had : a < d) (hb : U64 b) :
    U64 (dT d a b (recip d)) ∧ 0 ≤ a * B64 + b - d * dT d a b (recip d) ∧ a * B64 + b - d * dT d a b (recip d) < B64 + d := by
  obtain ⟨m1, m2, m3⟩ := recip_spec hd hn
  have hua : U64 a := ⟨ha, by have := hd.2; omega⟩
  have e1 := mlo_mhi (recip d) a
  have e2 := alo_ahi (mlo (recip d) a) b 0
  have u1 := mlo_u (recip d) a
  have u2 := alo_u (mlo (recip d) a) b 0
  have u3 := mhi_u m3 hua
  have u4 := ahi_b u1 hb bit0
  have e3 := alo_ahi (mhi (recip d) a) a (ahi (mlo (recip d) a) b 0)
  have u5 := ahi_b u3 hua u4
  have u6 := alo_u (mhi (recip d) a) a (ahi (mlo (recip d) a) b 0)
  show U64 (alo (mhi (recip d) a) a (ahi (mlo (recip d) a) b 0)) ∧ 0 ≤ a * B64 + b - d * alo (mhi (recip d) a) a (ahi (mlo (recip d) a) b 0) ∧ a * B64 + b - d * alo (mhi (recip d) a) a (ahi (mlo (recip d) a) b 0) < B64 + d
  have hma : (recip d + B64) * a ≤ B64 * B64 - 1 - B64 := by
    have q1 : (recip d + B64) * a ≤ (recip d + B64) * (d - 1) := Int.mul_le_mul_of_nonneg_left (by omega) (by have := m3.1; unfold B64; omega)
    have q2 : (recip d + B64) * (d - 1) = (recip d + B64) * d - (recip d + B64) := by rw [Int.mul_sub]; omega
    have := m3.1; omega
  have hT : (recip d + B64) * a + b = alo (mlo (recip d) a) b 0 + B64 * (alo (mhi (recip d) a) a (ahi (mlo (recip d) a) b 0) + B64 * ahi (mhi (recip d) a) a (ahi (mlo (recip d) a) b 0)) := by
    rw [e3, Int.add_mul]; simp only [Int.mul_add]; omega
  generalize ahi (mhi (recip d) a) a (ahi (mlo (recip d) a) b 0) = o at *
  generalize alo (mhi (recip d) a) a (ahi (mlo (recip d) a) b 0) = t at *
  generalize alo (mlo (recip d) a) b 0 = l at *
  generalize recip d = m at *
  clear e1 e2 e3 u1 u3 u4
  have ho : o = 0 := by
    have := u5.1; have := u5.2; have := u6.1; have := u2.1; have := hb.2
    have h5 : o = 0 ∨ o = 1 := by omega
    rcases h5 with h5 | h5
    · exact h5
    · subst h5; exfalso
      unfold B64 at *; omega
  subst ho
  refine ⟨u6, ?_, ?_⟩
  · have q1 : d * (B64 * t) ≤ d * ((m + B64) * a + b) := Int.mul_le_mul_of_nonneg_left (by have := u2.1; simp at hT; omega) (by omega)
    have q2 : d * ((m + B64) * a + b) = (m + B64) * d * a + d * b := by grind
    have q3 : (m + B64) * d * a ≤ (B64 * B64 - 1) * a := Int.mul_le_mul_of_nonneg_right m1 ha
    have q4 : d * b ≤ B64 * b := Int.mul_le_mul_of_nonneg_right (by have := hd.2; omega) hb.1
    have q5 : B64 * (a * B64 + b - d * t) = (B64 * B64 - 1) * a + a + B64 * b - d * (B64 * t) := by grind
    have q6 : 0 ≤ B64 * (a * B64 + b - d * t) := by omega
    exact Int.nonneg_of_mul_nonneg_right q6 B64_pos
  · have q1 : d * ((m + B64) * a + b - B64 * t) ≤ d * (B64 - 1) := Int.mul_le_mul_of_nonneg_left (by have := u2.2; simp at hT; omega) (by omega)
    have q2 : d * ((m + B64) * a + b - B64 * t) = (m + B64) * d * a + d * b - d * (B64 * t) := by grind
    have q3 : (B64 * B64 - d) * a ≤ (m + B64) * d * a := Int.mul_le_mul_of_nonneg_right m2 ha
    have q4 : (B64 - d) * b ≤ (B64 - d) * (B64 - 1) := Int.mul_le_mul_of_nonneg_left (by have := hb.2; omega) (by have := hd.2; omega)
    have q5 : d * a ≤ d * d := Int.mul_le_mul_of_nonneg_left (by omega) (by omega)
    have q6 : d * d ≤ d * B64 := Int.mul_le_mul_of_nonneg_left (by have := hd.2; omega) (by omega)
    have q7 : B64 * (a * B64 + b - d * t) < B64 * (B64 + d) := by
      have q8 : B64 * (a * B64 + b - d * t) = (B64 * B64 - d) * a + d * b - d * (B64 * t) + d * a + (B64 - d) * b := by grind
      have q9 : (B64 - d) * (B64 - 1) + d * (B64 - 1) = B64 * (B64 - 1) := by grind
      have q10 : B64 * (B64 + d) = B64 * (B64 - 1) + B64 + d * B64 := by grind
      have := B64_pos
      omega
    exact Int.lt_of_mul_lt_mul_left q7 (Int.le_of_lt B64_pos)
theorem dR_spec {d a b t : Int} (hd : U64 d) (ha : U64 a) (hb : U64 b) (ht : U64 t) (h0 : 0 ≤ a * B64 + b - d * t) (h1 : a * B64 + b - d * t < B64 + d) :
    dR0 d a b t + B64 * dR1 d a b t = a * B64 + b - d * t := by
  have e1 := mlo_mhi d t
  have u1 := mlo_u d t
  have u2 := mhi_u hd ht
  have e2 := slo_shi hb u1 bit0
  have u3 := shi_b b (mlo d t) 0
  have e3 := slo_shi ha u2 u3
  have u4 := slo_u b (mlo d t) 0
  have u5 := slo_u a (mhi d t) (shi b (mlo d t) 0)
  have u6 := shi_b a (mhi d t) (shi b (mlo d t) 0)
  show slo b (mlo d t) 0 + B64 * slo a (mhi d t) (shi b (mlo d t) 0) = _
  generalize shi a (mhi d t) (shi b (mlo d t) 0) = k at *
  generalize slo a (mhi d t) (shi b (mlo d t) 0) = r1 at *
  generalize shi b (mlo d t) 0 = c at *
  generalize slo b (mlo d t) 0 = r0 at *
  generalize mlo d t = p at *
  generalize mhi d t = q at *
  have hk : k = 0 ∨ k = 1 := by have := u6.1; have := u6.2; omega
  have hd2 := hd.2
  unfold U64 Bit B64 at *
  rw [← e1] at h0 h1 ⊢
  rcases hk with rfl | rfl <;> omega
def DivEnd (d n t r0 r1 : Int) : Prop :=
  (r1 = 0 ∧ r0 < d ∧ t = n / d ∧ r0 = n % d) ∨
  (r1 = 0 ∧ d ≤ r0 ∧ IntKind.u64.wrap (t + 1) = n / d ∧ IntKind.u64.wrap (r0 - d) = n % d) ∨
  (r1 ≠ 0 ∧ IntKind.u64.wrap (r0 - d) < d ∧ IntKind.u64.wrap (t + 1) = n / d ∧ IntKind.u64.wrap (r0 - d) = n % d) ∨
  (r1 ≠ 0 ∧ d ≤ IntKind.u64.wrap (r0 - d) ∧ IntKind.u64.wrap (IntKind.u64.wrap (t + 1) + 1) = n / d ∧ IntKind.u64.wrap (IntKind.u64.wrap (r0 - d) - d) = n % d)
theorem divEnd {d a b : Int} (hd : U64 d) (hn : 9223372036854775808 ≤ d) (ha : 0 ≤ a) (had : a < d) (hb : U64 b) {t : Int} (ht : dT d a b (recip d) = t) :
    DivEnd d (a * B64 + b) t (dR0 d a b t) (dR1 d a b t) := by
  obtain ⟨s1, s2, s3⟩ := dT_spec hd hn ha had hb
  rw [ht] at s1 s2 s3
  have hua : U64 a := ⟨ha, by have := hd.2; omega⟩
  have s4 := dR_spec hd hua hb s1 s2 s3
  have u0 : U64 (dR0 d a b t) := slo_u _ _ _
  have u1 : U64 (dR1 d a b t) := slo_u _ _ _
  have hq : (a * B64 + b) / d < B64 := Int.ediv_lt_of_lt_mul (by omega) (by
    have : (a + 1) * B64 ≤ d * B64 := Int.mul_le_mul_of_nonneg_right (by omega) (by unfold B64; omega)
    rw [Int.mul_comm B64 d]
    have := hb.2; rw [Int.add_mul] at *; omega)
  generalize dR0 d a b t = r0 at *
  generalize dR1 d a b t = r1 at *
  generalize a * B64 + b = n at *
  clear ht
  have hp := hd.2
  have key : ∀ q r, r + d * q = n → 0 ≤ r → r < d → q = n / d ∧ r = n % d := by
    intro q r h1 h2 h3
    have := (Int.ediv_emod_unique (a := n) (b := d) (r := r) (q := q) (by omega)).2 ⟨h1, h2, h3⟩
    exact ⟨this.1.symm, this.2.symm⟩
  have hr1 : r1 = 0 ∨ r1 = 1 := by unfold U64 B64 at *; omega
  unfold DivEnd
  rcases hr1 with rfl | rfl
  · by_cases h : r0 < d
    · exact .inl ⟨rfl, h, key t r0 (by omega) u0.1 h⟩
    · obtain ⟨k1, k2⟩ := key (t + 1) (r0 - d) (by rw [Int.mul_add]; omega) (by omega) (by have := u0.2; unfold B64 at *; omega)
      refine .inr (.inl ⟨rfl, by omega, ?_, ?_⟩)
      · rw [wrap_u64 ⟨by have := s1.1; omega, by omega⟩]; exact k1
      · rw [wrap_u64 ⟨by omega, by have := u0.2; omega⟩]; exact k2
  · have e : IntKind.u64.wrap (r0 - d) = n - d * t - d := by rw [IntKind.wrap_u64]; unfold U64 B64 at *; omega
    rw [e]
    by_cases h : n - d * t - d < d
    · obtain ⟨k1, k2⟩ := key (t + 1) (n - d * t - d) (by rw [Int.mul_add]; omega) (by have := u0.1; unfold B64 at *; omega) h
      refine .inr (.inr (.inl ⟨by omega, h, ?_, k2⟩))
      rw [wrap_u64 ⟨by have := s1.1; omega, by omega⟩]; exact k1
    · obtain ⟨k1, k2⟩ := key (t + 2) (n - d * t - d - d) (by rw [Int.mul_add]; omega) (by omega) (by unfold B64 at *; omega)
      refine .inr (.inr (.inr ⟨by omega, by omega, ?_, ?_⟩))
      · rw [wrap_u64 (show U64 (t + 1) from ⟨by have := s1.1; omega, by omega⟩), wrap_u64 (show U64 (t + 1 + 1) from ⟨by have := s1.1; omega, by omega⟩)]; omega
      · rw [wrap_u64 ⟨by omega, by unfold B64 at *; omega⟩]; exact k2
theorem divWW (a b y : Int) (w : World) (ha : 0 ≤ a) (hay : a < y) (hb : U64 b) (hy : U64 y) (h0 : y ≠ 0) (s : Nat) (hs : nlzI y = s) (hs1 : s ≤ 63) (hn : 9223372036854775808 ≤ y * 2 ^ s) (hu : U64 (y * 2 ^ s)) :
    Calls Tryz.prog 243 #[.int .u64 a, .int .u64 b, .int .u64 y, .int .u64 (recip (y * 2 ^ s))] w fun e w' => e = .returned (.tuple #[.int .u64 ((a * B64 + b) / y), .int .u64 ((a * B64 + b) % y)]) ∧ w = w' := by
  have hps : (0 : Int) < 2 ^ s := Int.pow_pos (by decide)
  have hua : U64 a := ⟨ha, by have := hy.2; omega⟩
  obtain ⟨A, Bb, hA, hB, hAB, hA0, hAd, hBu⟩ : ∃ A Bb : Int, (s ≠ 0 → bits .or .u64 (IntKind.u64.wrap (a * 2 ^ s)) (b / 2 ^ (64 - s)) = A ∧ IntKind.u64.wrap (b * 2 ^ s) = Bb) ∧ (s = 0 → A = a ∧ Bb = b) ∧ A * B64 + Bb = (a * B64 + b) * 2 ^ s ∧ 0 ≤ A ∧ A < y * 2 ^ s ∧ U64 Bb := by
    by_cases hs0 : s = 0
    · subst hs0
      exact ⟨a, b, fun h => absurd rfl h, fun _ => ⟨rfl, rfl⟩, by simp, ha, by simpa using hay, hb⟩
    · obtain ⟨o1, o2, o3, o4⟩ := or_shift hua hb (s := s) (by omega) hs1
      have hlt : (a + 1) * 2 ^ s ≤ y * 2 ^ s := Int.mul_le_mul_of_nonneg_right (by omega) (by omega)
      rw [Int.add_mul] at hlt
      have hm : a * 2 ^ s % B64 = a * 2 ^ s := Int.emod_eq_of_lt (Int.mul_nonneg ha (by omega)) (by have := hu.2; omega)
      have hs2 := shl_parts hb (s := s) (by omega)
      rw [hm] at o1 o2
      have hbw : IntKind.u64.wrap (b * 2 ^ s) = b * 2 ^ s % B64 := IntKind.wrap_u64 _
      refine ⟨_, _, fun _ => ⟨o1, hbw⟩, fun h => absurd h hs0, ?_, o2.1, by omega, mlo_u _ _⟩
      generalize b * 2 ^ s % B64 = p at *
      generalize b / 2 ^ (64 - s) = q at *
      grind
  have hE := divEnd hu hn hA0 hAd hBu rfl
  have hq : (A * B64 + Bb) / (y * 2 ^ s) = (a * B64 + b) / y := by rw [hAB]; exact Int.mul_ediv_mul_of_pos_left _ _ hps
  have hr : (A * B64 + Bb) % (y * 2 ^ s) / 2 ^ s = (a * B64 + b) % y := by
    rw [hAB, Int.mul_comm _ (2 ^ s), Int.mul_comm y, Int.mul_emod_mul_of_pos _ _ hps, Int.mul_ediv_cancel_left _ (by omega)]
  have hA' := hA0
  have uA : U64 A := ⟨hA0, by have := hu.2; omega⟩
  obtain ⟨_, _, m3⟩ := recip_spec hu hn
  have hw := wrap_u64 hu
  generalize hd : y * 2 ^ s = d at *
  have HE := Hq0 hE; have Hq := Hq0 hq; have Hr := Hq0 hr; have HAd := Hq0 hAd
  clear hE hq hr hAB hAd hay
  generalize hm : recip d = m at *
  go_enter Tryz.func243, Tryz.ntmps243
  go_upto_if 26 with (go_at_call 199; refine (nlz_any _ _ hy).mono ?_; rintro e w' ⟨rfl, rfl⟩; rw [hs])
  go_cut [0, 1, 2] from 25 (fun s0 s1 s2 wx => s0 = .int .u64 A ∧ s1 = .int .u64 Bb ∧ s2 = .int .u64 d ∧ w = wx)
  case first =>
    by_cases hs0 : s = 0
    · obtain ⟨rfl, rfl⟩ := hB hs0
      subst hs0
      go_wp2
      go_meet
      exact ⟨rfl, rfl, by rw [← hd]; simp, rfl⟩
    · obtain ⟨o1, o2⟩ := hA hs0
      have e2 : IntKind.u64.wrap (64 - (s : Int)) = 64 - (s : Int) := by rw [IntKind.wrap_u64]; omega
      have hs' : ((s : Int) != 0) = true := by simp; omega
      go_wp2
      go_meet
      refine ⟨?_, ?_, ?_, rfl⟩
      · first | rfl | rw [o1]
      · first | rfl | rw [o2]
      · first | rfl | rw [hd] | rw [hd, hw]
  case rest =>
    obtain ⟨rfl, rfl, rfl, rfl⟩ := hcut
    have f1 := mlo_u m A
    have f2 := mhi_u m3 uA
    have f3 := ahi_b f1 hBu bit0
    obtain ⟨t, ht⟩ : ∃ t, dT d A Bb m = t := ⟨_, rfl⟩
    have f4 : U64 t := by rw [← ht]; exact alo_u _ _ _
    have f5 := mlo_u d t
    have f6 := mhi_u hu f4
    have f7 := shi_b Bb (mlo d t) 0
    rw [ht] at HE
    obtain ⟨r0, hr0⟩ : ∃ r, dR0 d A Bb t = r := ⟨_, rfl⟩
    obtain ⟨r1, hr1⟩ : ∃ r, dR1 d A Bb t = r := ⟨_, rfl⟩
    rw [hr0, hr1] at HE
    unfold dT at ht
    unfold dR0 at hr0
    unfold dR1 at hr1
    have M1 := bits_Mul m A
    have M2 := bits_Mul d t
    generalize mlo m A = l1 at *
    generalize mhi m A = h1 at *
    generalize mlo d t = l2 at *
    generalize mhi d t = h2 at *
    have A1 := bits_Add l1 Bb 0
    generalize ahi l1 Bb 0 = c1 at *
    generalize alo l1 Bb 0 = l3 at *
    have A2 := bits_Add h1 A c1
    generalize ahi h1 A c1 = c2 at *
    rw [ht] at A2
    have S1 := bits_Sub Bb l2 0
    generalize shi Bb l2 0 = c3 at *
    rw [hr0] at S1
    have S2 := bits_Sub A h2 c3
    generalize shi A h2 c3 = c4 at *
    rw [hr1] at S2
    clear ht hr0 hr1
    go_wp2_with (fail)
    refine (M1 _ m3 uA).mono ?_
    rintro e w' ⟨rfl, rfl⟩
    go_wp2_with (fail)
    refine (A1 _ f1 hBu bit0).mono ?_
    rintro e w' ⟨rfl, rfl⟩
    go_wp2_with (fail)
    refine (A2 _ f2 uA f3).mono ?_
    rintro e w' ⟨rfl, rfl⟩
    go_wp2_with (fail)
    refine (M2 _ hu f4).mono ?_
    rintro e w' ⟨rfl, rfl⟩
    go_wp2_with (fail)
    refine (S1 _ hBu f5 bit0).mono ?_
    rintro e w' ⟨rfl, rfl⟩
    go_wp2_with (fail)
    refine (S2 _ uA f6 f7).mono ?_
    rintro e w' ⟨rfl, rfl⟩
    rcases HE.out with ⟨g1, g2, g3, g4⟩ | ⟨g1, g2, g3, g4⟩ | ⟨g1, g2, g3, g4⟩ | ⟨g1, g2, g3, g4⟩ <;> (have G3 := Hq0 g3; have G4 := Hq0 g4; clear g3 g4 HE)
    · have b1 : (r1 != 0) = false := by simp [g1]
      go_wp2
      go_ret2
      refine ⟨?_, rfl⟩
      have g3 := G3.out; have g4 := G4.out; have hq := Hq.out; have hr := Hr.out
      rw [← g3] at hq; rw [← g4] at hr
      rw [← hq, ← hr]; rfl
    · have b1 : (r1 != 0) = false := by simp [g1]
      go_wp2
      go_ret2
      refine ⟨?_, rfl⟩
      have g3 := G3.out; have g4 := G4.out; have hq := Hq.out; have hr := Hr.out
      rw [← g3] at hq; rw [← g4] at hr
      rw [← hq, ← hr]; rfl
    · have b1 : (r1 != 0) = true := by simp [g1]
      go_wp2
      go_ret2
      refine ⟨?_, rfl⟩
      have g3 := G3.out; have g4 := G4.out; have hq := Hq.out; have hr := Hr.out
      rw [← g3] at hq; rw [← g4] at hr
      rw [← hq, ← hr]; rfl
    · have b1 : (r1 != 0) = true := by simp [g1]
      go_wp2
      go_ret2
      refine ⟨?_, rfl⟩
      have g3 := G3.out; have g4 := G4.out; have hq := Hq.out; have hr := Hr.out
      rw [← g3] at hq; rw [← g4] at hr
      rw [← hq, ← hr]; rfl
end Go.Proofs.YtjcfacinlgogaaaGreatDoor
