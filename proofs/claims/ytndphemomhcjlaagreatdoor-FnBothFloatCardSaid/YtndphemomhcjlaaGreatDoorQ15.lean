/- Powers of two times a float. Conditions: a normal float. The nearest float of a quotient of two words. Conditions: neither is zero. -/
import Derived.Test.YtndphemomhcjlaaGreatDoorQ11
import Derived.Test.YtndphemomhcjlaaGreatDoorQ14
import Derived.Test.YtndphemomhcjlaaGreatDoorQ12
set_option linter.all false

namespace Go.Proofs.YtndphemomhcjlaaGreatDoor
open Go.RowKit

theorem order_zero (x : Nat) (h0 : 4503599627370496 ≤ x) (h : x < 9218868437227405312) : (FloatKind.f64.format.order x 0 == some Ordering.eq) = false := by
  obtain ⟨m, i, hr, hm, hi, hi0, hmm⟩ := read_fin x h
  have hy : Ieee.double.read 0 = .number false 0 (-1074) := by decide
  show (Ieee.Datum.order (Ieee.double.read x) (Ieee.double.read 0) == some Ordering.eq) = false
  rw [hr, hy]
  simp only [Ieee.Datum.order, Int.min_eq_right hi0, Ieee.signed, Bool.false_eq_true, if_false, Nat.shiftLeft_eq, Nat.zero_mul]
  have h1 : 0 < m * 2 ^ (i - -1074).toNat := Nat.mul_pos (by have := hmm h0; omega) (Nat.pow_pos (by decide))
  generalize m * 2 ^ (i - -1074).toNat = t at *
  have h2 : ¬ ((t : Int) < 0) := by omega
  have h3 : ¬ t = 0 := by omega
  simp [compare, compareOfLessAndEq, h2, h3]

theorem or_field (m Y : Nat) (hm : m < 4503599627370496) : m ||| Y * 4503599627370496 = Y * 4503599627370496 + m := by
  have h := Nat.shiftLeft_add_eq_or_of_lt (i := 52) hm Y
  rw [Nat.shiftLeft_eq] at h
  rw [Nat.or_comm]; exact h.symm
theorem andNot_field (X m : Nat) (h : X = 4841369599423283200 + m) (hm : m < 4503599627370496) : bits .andNot .u64 (X : Int) 9218868437227405312 = m := by
  have h1 := u64_andNot_nat X 9218868437227405312 (by omega) (by decide)
  have e1 : X = X &&& 9223372036854775807 := by
    have := Nat.and_two_pow_sub_one_eq_mod X 63
    rw [show (2 : Nat) ^ 63 - 1 = 9223372036854775807 by decide] at this
    rw [this]; omega
  have h2 : X &&& (18446744073709551615 - 9218868437227405312) = X % 2 ^ 52 := by
    rw [e1, Nat.and_assoc, show 9223372036854775807 &&& (18446744073709551615 - 9218868437227405312) = 2 ^ 52 - 1 by decide, Nat.and_two_pow_sub_one_eq_mod, ← e1]
  rw [h2] at h1
  rw [show X % 2 ^ 52 = m by omega] at h1
  exact h1

set_option maxRecDepth 100000 in
theorem ldexp_any (m Y : Nat) (ex : Int) (w : World) (hm : m < 4503599627370496) (hY : 1 ≤ Y) (hY2 : Y ≤ 2046) (he : ex = (Y : Int) - 1075) :
    Calls Tryz.prog 110 #[.float .f64 (4841369599423283200 + m), .int .i64 ex] w fun e w' => e = .returned (.float .f64 (Y * 4503599627370496 + m)) ∧ w = w' := by
  obtain ⟨X, hX⟩ : ∃ X, 4841369599423283200 + m = X := ⟨_, rfl⟩
  rw [hX]
  have x1 : 4503599627370496 ≤ X := by omega
  have x2 : X < 9218868437227405312 := by omega
  have o1 := order_zero X x1 x2
  have hb := run_f64bits X
  have hf := run_f64from
  have hd : (X : Int) / 4503599627370496 = 1075 := by omega
  have hand : bits .and .i64 1075 2047 = 1075 := by decide
  have hn := andNot_field X m hX.symm hm
  have hor : bits .or .u64 (m : Int) (Y * 4503599627370496) = Y * 4503599627370496 + m := by
    have h1 := u64_or_nat m (Y * 4503599627370496) (by omega) (by omega)
    rw [or_field m Y hm] at h1
    exact h1
  have hmul := mul_one_word false Y m hm hY hY2
  have e1 : Ieee.double.word false (Y * 4503599627370496 + m) = Y * 4503599627370496 + m := rfl
  rw [e1] at hmul
  obtain ⟨x3, hx3⟩ : ∃ x, Y * 4503599627370496 + m = x := ⟨_, rfl⟩
  have hor2 : bits .or .u64 (m : Int) (((Y : Int) - 1075 + 52 + 1023) * 4503599627370496) = (x3 : Int) := by
    rw [show ((Y : Int) - 1075 + 52 + 1023) * 4503599627370496 = (Y : Int) * 4503599627370496 by omega, hor]; omega
  clear hor
  rw [hx3] at hmul ⊢
  have hmul2 : ∀ wx, (binOp .mul 29 (.float .f64 4607182418800017408) (.float .f64 x3)).run Tryz.prog wx = .ok (.float .f64 x3) wx := fun wx => run_float_arith wx .mul 29 .f64 4607182418800017408 x3 x3 hmul
  clear hX e1 hx3 hmul
  go_enter Tryz.func110, Tryz.ntmps110
  go_wp2_with (first
    | (go_at_call 85; refine (IsInf_no X _ x2).mono ?_; rintro e w1 ⟨rfl, rfl⟩)
    | (go_at_call 159; refine (IsNaN_no X _ x2).mono ?_; rintro e w1 ⟨rfl, rfl⟩)
    | (go_at_call 160; refine (normalize_no X _ x1 x2).mono ?_; rintro e w1 ⟨rfl, rfl⟩))
  go_ret
  exact ⟨rfl, rfl⟩
theorem Ldexp_any (m Y : Nat) (ex : Int) (w : World) (hm : m < 4503599627370496) (hY : 1 ≤ Y) (hY2 : Y ≤ 2046) (he : ex = (Y : Int) - 1075) :
    Calls Tryz.prog 84 #[.float .f64 (4841369599423283200 + m), .int .i64 ex] w fun e w' => e = .returned (.float .f64 (Y * 4503599627370496 + m)) ∧ w = w' := by
  have H := Lib.hid (ldexp_any m Y ex w hm hY hY2 he)
  obtain ⟨r, hr⟩ : ∃ r, Y * 4503599627370496 + m = r := ⟨_, rfl⟩
  rw [hr] at H ⊢
  generalize 4841369599423283200 + m = X at *
  clear hr hm he hY hY2
  go_enter Tryz.func84, Tryz.ntmps84
  go_wp2_with (fail)
  refine H.out.mono ?_
  rintro e w1 ⟨rfl, rfl⟩
  go_wp2
  go_ret
  exact ⟨rfl, rfl⟩
end Go.Proofs.YtndphemomhcjlaaGreatDoor

namespace Go.Proofs.YtndphemomhcjlaaGreatDoor
open Go.RowKit

theorem and_one64 (M : Nat) (h : M < 18446744073709551616) : bits .and .u64 (M : Int) 1 = ((M % 2 : Nat) : Int) := by
  have h1 := u64_and_nat M 1 h (by decide)
  rw [Nat.and_one_is_mod] at h1
  exact h1
theorem and_two64 (M : Nat) (h : M < 18446744073709551616) : bits .and .u64 (M : Int) 2 = ((2 * (M / 2 % 2) : Nat) : Int) := by
  have h1 := u64_and_nat M 2 h (by decide)
  have h2 : M &&& 2 = 2 * (M / 2 % 2) := by
    apply Nat.eq_of_testBit_eq
    intro i
    rw [Nat.testBit_and]
    rcases i with _ | _ | i
    · simp
    · rw [Nat.testBit_succ M, Nat.testBit_succ 2, Nat.testBit_succ (2 * (M / 2 % 2)), show 2 * (M / 2 % 2) / 2 = M / 2 % 2 by omega]
      simp
    · rw [Nat.testBit_succ 2, Nat.testBit_succ (2 / 2), Nat.testBit_succ (2 * (M / 2 % 2)), Nat.testBit_succ (2 * (M / 2 % 2) / 2), show 2 * (M / 2 % 2) / 2 / 2 = 0 by omega]
      simp
  rw [h2] at h1
  exact h1

/-- two numbers of a word, shifted against each other -/
theorem shift_word {b bl sb : Nat} (hb2 : b < 2 ^ bl) (h : bl + sb ≤ 64) : b * 2 ^ sb < 18446744073709551616 := by
  have h1 := (Nat.mul_lt_mul_right (show 0 < 2 ^ sb from Nat.pow_pos (by decide))).2 hb2
  rw [← Nat.pow_add] at h1
  have h2 : 2 ^ (bl + sb) ≤ 2 ^ 64 := Nat.pow_le_pow_right (by decide) h
  have : (2 : Nat) ^ 64 = 18446744073709551616 := by decide
  omega

/-- the two operands behind the shift -/
def ShOp (w0 : World) (N D : Nat) (s11 s12 : Value) (wx : World) : Prop :=
  ∃ la, IsNat wx s11 la ∧ wfL la ∧ Nrm la ∧ val la = N ∧ la.length ≤ 100000000000 ∧ IsNat wx s12 [(D : Int)] ∧ s11.ownBlock ≠ none ∧ (∀ k, s11.ownBlock = some k → w0.heap.size ≤ k) ∧ w0.grownBy wx none

/-- the float's word -/
def QuotRes (w : World) (A B : Nat) (e : Ending) (w' : World) : Prop :=
  ∃ (g : Nat) (ex : Bool), e = .returned (.tuple #[.float .f64 g, .bool ex]) ∧ Rung A B g ∧ 4503599627370496 ≤ g ∧ g < 9218868437227405312 ∧ w.grownBy w' none

set_option maxHeartbeats 2000000 in
set_option maxRecDepth 100000 in
theorem quot_any {w : World} {a b : Value} {A B : Nat} (stk : Value) (hx : IsNat w a [(A : Int)]) (hy : IsNat w b [(B : Int)]) (ha0 : 0 < A) (hb0 : 0 < B) (ha1 : A < 18446744073709551616) (hb1 : B < 18446744073709551616) :
    Calls Tryz.prog 59 #[stk, a, b] w fun e w' => QuotRes w A B e w' := by
  have ua : U64 (A : Int) := by unfold U64 B64; omega
  have ub : U64 (B : Int) := by unfold U64 B64; omega
  have na := nrm_one (y := (A : Int)) (by omega)
  have nb := nrm_one (y := (B : Int)) (by omega)
  have HX := Lib.hid hx; have HY := Lib.hid hy
  clear hx hy
  go_enter Tryz.func59, Tryz.ntmps59
  go_wp2_with (fail)
  refine (bitLen_any HX.out (wfL_cons ua wfL_nil) na (by simp)).mono ?_
  rintro e w1 ⟨⟨al, rfl, hal, hal2⟩, q1, rfl⟩
  have eA : val [(A : Int)] = (A : Int) := by simp [val]
  rw [eA] at hal
  obtain ⟨a1, a2, a3⟩ := hal.2 (by omega)
  have HA2 : Hid (2 ^ (al - 1) ≤ A) := by
    have : ((2 ^ (al - 1) : Nat) : Int) ≤ (A : Int) := by simpa using a2
    exact Int.ofNat_le.1 this
  have HA3 : Hid (A < 2 ^ al) := by
    have : (A : Int) < ((2 ^ al : Nat) : Int) := by simpa using a3
    exact Int.ofNat_lt.1 this
  clear hal a2 a3 eA
  have a4 : ((al : Int) == 0) = false := by simp; omega
  have hal3 : al ≤ 64 := by simpa using hal2
  clear hal2
  go_wp2_with (fail)
  refine (bitLen_any (HY.out.draw q1) (wfL_cons ub wfL_nil) nb (by simp)).mono ?_
  rintro e w2 ⟨⟨bl, rfl, hbl, hbl2⟩, q2, rfl⟩
  have eB : val [(B : Int)] = (B : Int) := by simp [val]
  rw [eB] at hbl
  obtain ⟨b1, b2, b3⟩ := hbl.2 (by omega)
  have HB2 : Hid (2 ^ (bl - 1) ≤ B) := by
    have : ((2 ^ (bl - 1) : Nat) : Int) ≤ (B : Int) := by simpa using b2
    exact Int.ofNat_le.1 this
  have HB3 : Hid (B < 2 ^ bl) := by
    have : (B : Int) < ((2 ^ bl : Nat) : Int) := by simpa using b3
    exact Int.ofNat_lt.1 this
  clear hbl b2 b3 eB
  have b4 : ((bl : Int) == 0) = false := by simp; omega
  have hbl3 : bl ≤ 64 := by simpa using hbl2
  clear hbl2
  obtain ⟨w3, hw3⟩ : ∃ w3, w3 = (w.drewN q1).drewN q2 := ⟨_, rfl⟩
  rw [← hw3]
  have HX3 : Hid (IsNat w3 a [(A : Int)]) := by show IsNat _ _ _; rw [hw3]; exact (HX.out.draw q1).draw q2
  have HY3 : Hid (IsNat w3 b [(B : Int)]) := by show IsNat _ _ _; rw [hw3]; exact (HY.out.draw q1).draw q2
  have HG3 : Hid (w.grownBy w3 none) := by rw [hw3]; exact grown_trans (grown_drewN w q1) (grown_drewN _ q2)
  clear hw3 HX HY
  go_wp2_with (fail)
  refine (set_new HX3.out (by simp) (by simp)).mono ?_
  rintro e w4 ⟨rfl, hr4⟩
  have HR4 := Lib.hid hr4
  clear hr4
  go_wp2_with (fail)
  refine (set_new (HY3.out.grown0 HR4.out.grown) (by simp) (by simp)).mono ?_
  rintro e w5 ⟨rfl, hr5⟩
  have HN5 : Hid (IsNat w5 (.slice (some ⟨w3.heap.size, 0, none⟩) 1 (capOf 1)) [(A : Int)]) := HR4.out.nat.grown0 hr5.grown
  have HM5 : Hid (IsNat w5 (.slice (some ⟨w4.heap.size, 0, none⟩) 1 (capOf 1)) [(B : Int)]) := hr5.nat
  have HG5 := Lib.hid (grown_trans HG3.out (grown_trans HR4.out.grown hr5.grown))
  clear hr5 HR4 HX3 HY3
  have ec : capOf 1 = 1 := rfl
  rw [ec] at HN5 HM5
  obtain ⟨sa, sb, hs, hs0⟩ : ∃ sa sb : Nat, sa + al = sb + bl + 54 ∧ (sa = 0 ∨ sb = 0) := by
    by_cases h : bl + 54 ≤ al
    · exact ⟨0, al - bl - 54, by omega, .inl rfl⟩
    · exact ⟨bl + 54 - al, 0, by omega, .inr rfl⟩
  go_upto_if 41 with (fail)
  go_cut [11, 12] from 13 to 54 (fun s11 s12 wx => ShOp w (A * 2 ^ sa) (B * 2 ^ sb) s11 s12 wx)
  case first =>
    rcases Nat.lt_trichotomy sa sb with h | h | h
    · obtain rfl : sa = 0 := by omega
      have e13 : (54 : Int) - ((al : Int) - bl) = -(sb : Int) := by omega
      have e14 : ¬ ((al : Int) - bl < 54) := by omega
      have e15 : IntKind.u64.wrap (sb : Int) = sb := by rw [IntKind.wrap_u64]; omega
      rw [e13]
      go_wp2_with (fail)
      refine (lsh_new (some ⟨w4.heap.size, 0, none⟩) 1 1 sb HM5.out (wfL_cons ub wfL_nil) (by simp) (by simp) (by omega) (by omega) (by simp; omega)).mono ?_
      rintro e w6 ⟨v6, l6, rfl, hr6, wl6, nl6, hv6⟩
      have HN6 := Lib.hid (HN5.out.grown0 hr6.grown)
      have HM6 : Hid (IsNat w6 v6 [((B * 2 ^ sb : Nat) : Int)]) := by
        have hlt := shift_word HB3.out (sb := sb) (by omega)
        have h0 : 0 < B * 2 ^ sb := Nat.mul_pos hb0 (Nat.pow_pos (by decide))
        have e1 : val l6 = ((B * 2 ^ sb : Nat) : Int) := by rw [hv6]; simp [val]
        have e2 := len_one nl6 wl6 e1 (by omega) (by omega)
        show IsNat _ _ _
        rw [← e2]; exact hr6.nat
      have HG6 := Lib.hid (grown_trans HG5.out hr6.grown)
      clear hr6 hv6 wl6 nl6
      go_wp2_with (fail)
      go_meet
      exact ⟨_, HN6.out, wfL_cons ua wfL_nil, na, by simp [val], by simp, HM6.out, by simp [Value.ownBlock], by intro k hk; simp [Value.ownBlock] at hk; have := HG3.out.size; omega, HG6.out⟩
    · obtain rfl : sa = 0 := by omega
      obtain rfl : sb = 0 := by omega
      have e13 : (54 : Int) - ((al : Int) - bl) = 0 := by omega
      have e14 : ¬ ((al : Int) - bl < 54) := by omega
      rw [e13]
      go_wp2_with (fail)
      go_meet
      refine ⟨_, HN5.out, wfL_cons ua wfL_nil, na, by simp [val], by simp, by rw [Nat.pow_zero, Nat.mul_one]; exact HM5.out, by simp [Value.ownBlock], by intro k hk; simp [Value.ownBlock] at hk; have := HG3.out.size; omega, HG5.out⟩
    · obtain rfl : sb = 0 := by omega
      have e13 : (54 : Int) - ((al : Int) - bl) = (sa : Int) := by omega
      have e14 : (al : Int) - bl < 54 := by omega
      rw [e13]
      go_wp2_with (fail)
      refine (lsh_new (some ⟨w3.heap.size, 0, none⟩) 1 1 sa HN5.out (wfL_cons ua wfL_nil) (by simp) (by simp) (by omega) (by omega) (by simp; omega)).mono ?_
      rintro e w6 ⟨v6, l6, rfl, hr6, wl6, nl6, hv6⟩
      have HF : Hid (ShOp w (A * 2 ^ sa) (B * 2 ^ 0) v6 (.slice (some ⟨w4.heap.size, 0, none⟩) 1 1) w6) := by
        have e1 : val l6 = ((A * 2 ^ sa : Nat) : Int) := by rw [hv6]; simp [val]
        have h0 : 0 < A * 2 ^ sa := Nat.mul_pos ha0 (Nat.pow_pos (by decide))
        have hl6 : l6.length ≤ 100000000000 := by
          have h1 : A * 2 ^ sa < 18446744073709551616 ^ 4 := by
            have h2 : 2 ^ sa ≤ 2 ^ 120 := Nat.pow_le_pow_right (by decide) (by omega)
            have h3 : A * 2 ^ sa ≤ 18446744073709551616 * 2 ^ 120 := Nat.mul_le_mul (by omega) h2
            have : 18446744073709551616 * 2 ^ 120 < 18446744073709551616 ^ 4 := by decide
            exact Nat.lt_of_le_of_lt h3 this
          have h2 : val l6 < B64 ^ 4 := by
            rw [e1]; unfold B64
            have : ((A * 2 ^ sa : Nat) : Int) < ((18446744073709551616 ^ 4 : Nat) : Int) := Int.ofNat_lt.2 h1
            simpa using this
          have := len_lt nl6 wl6 h2
          omega
        have hne : v6.ownBlock ≠ none := by
          intro e
          rcases hr6.nat with ⟨_, h⟩ | ⟨k, cap, M, rfl, _⟩
          · rw [h] at e1; simp only [val] at e1; omega
          · simp [Value.ownBlock] at e
        exact ⟨_, hr6.nat, wl6, nl6, e1, hl6, by rw [Nat.pow_zero, Nat.mul_one]; exact HM5.out.grown0 hr6.grown, hne, fun k hk => by have h1 := hr6.own k hk; have h2 := HG5.out.size; exact h1.elim (fun h => by cases h) (fun h => by omega), grown_trans HG5.out hr6.grown⟩
      clear hr6 hv6 wl6 nl6
      go_wp2_with (fail)
      go_meet
      exact HF.out
  case rest =>
    obtain ⟨la, hn, wla, nla, hv, hll, hm, hne, hown, hg⟩ := hcut
    have HOWN := Lib.hid hown
    clear hown
    have hD1 : B * 2 ^ sb < 18446744073709551616 := shift_word HB3.out (by omega)
    have hD0 : 0 < B * 2 ^ sb := Nat.mul_pos hb0 (Nat.pow_pos (by decide))
    obtain ⟨q1', q2', g, hR, gl, gu, hcase⟩ := quot_law (sa := sa) (sb := sb) HA2.out HA3.out HB2.out HB3.out a1 b1 hal3 hbl3 hs
    have HN := Lib.hid hn; have HM := Lib.hid hm; have HV := Lib.hid hv; have HG := Lib.hid hg; have HR := Lib.hid hR; have HC := Lib.hid hcase
    clear hn hm hv hg hR hcase HN5 HM5 HG5 HG3
    obtain ⟨N, hN⟩ : ∃ N, A * 2 ^ sa = N := ⟨_, rfl⟩
    obtain ⟨D, hD⟩ : ∃ D, B * 2 ^ sb = D := ⟨_, rfl⟩
    rw [hN, hD] at HC q1' q2'
    rw [hN] at HV
    rw [hD] at HM hD1 hD0
    clear hN hD
    obtain ⟨xa, xc, rfl⟩ := HN.out.slice
    obtain ⟨ya, yc, rfl⟩ := HM.out.slice
    go_wp2_with (fail)
    refine (div_one stk (D : Int) (IsNat.nil _) HN.out HN.out HM.out wla nla hll (by unfold U64 B64; omega) (by omega) (.inr hne)).mono ?_
    rintro e w7 ⟨q7, r7, w7', l7, rfl, hr7, wl7, nl7, hv7, hr7', hn7⟩
    have eq7 : l7 = [((N / D : Nat) : Int)] := len_one nl7 wl7 (by rw [hv7, HV.out]; simp) (by omega) (by omega)
    subst eq7
    obtain ⟨r7a, r7c, rfl⟩ := hr7'.nat.slice
    obtain ⟨q7a, q7c, rfl⟩ := hn7.slice
    have HQ := Lib.hid hn7
    have HW7 : Hid (w.grownBy w7 none) := by
      have g1 : wc.grownBy w7 (Value.slice xa la.length xc).ownBlock := grown_trans (grown_weak hr7.grown) hr7'.grown
      cases e : (Value.slice xa la.length xc).ownBlock with
      | none => exact absurd e hne
      | some k => rw [e] at g1; exact grown_own HG.out g1 (.inr (HOWN.out k e))
    clear hr7 hr7' hv7 wl7 nl7 hn7 HG HOWN
    go_wp2_with (fail)
    refine (low64_any HQ.out (by simp)).mono ?_
    rintro e w8 ⟨rfl, q8, rfl⟩
    go_upto_if 71 with (fail)
    obtain ⟨q0, hq0⟩ : ∃ q0, N / D = q0 := ⟨_, rfl⟩
    obtain ⟨r0, hr0⟩ : ∃ r0, rmk N D = r0 := ⟨_, rfl⟩
    have e16 : (N : Int) / (D : Int) = (q0 : Int) := by rw [← hq0]; simp
    obtain ⟨hb, ehb⟩ : ∃ hb, decide (0 < (nrm [val la % (D : Int)]).length) = hb := ⟨_, rfl⟩
    have hrb : r0 = if hb then 1 else 0 := by
      rw [← ehb, ← hr0, HV.out]
      unfold rmk
      by_cases h : N % D = 0
      · have h2 : (N : Int) % (D : Int) = 0 := by omega
        rw [if_pos h, h2]; simp [nrm]
      · have h2 : (N : Int) % (D : Int) ≠ 0 := by omega
        rw [if_neg h]; simp [nrm, h2]
    rw [e16, ehb]
    rw [hq0] at HC q1' q2'
    rw [hr0, hrb] at HC
    clear hq0 hr0 hrb ehb e16 HQ HN HM HV
    have sh54 : ∀ x : Int, 0 ≤ x → x < 18014398509481984 → x / 18014398509481984 = 0 := fun x h1 h2 => by omega
    have hq64 : q0 < 18446744073709551616 := by omega
    have a1' := and_one64 q0 hq64
    go_cut [10, 16, 17] from 13 to 132 (fun s10 s16 s17 wx => ∃ (M j : Nat) (hb' : Bool), s10 = .int .i64 ((al : Int) - bl + j) ∧ s16 = .int .u64 M ∧ s17 = .bool hb' ∧ j ≤ 1 ∧ 9007199254740992 ≤ M ∧ M < 18014398509481984 ∧ (g : Int) = ((al : Int) - bl + j + 1021) * 4503599627370496 + (qm M (if hb' then 1 else 0) / 2 : Nat) ∧ wx = w7.drewN q8)
    case first =>
      rcases HC.out with ⟨hlt, hgg⟩ | ⟨hge, hgg⟩
      · have e71 : (((q0 : Int) / 18014398509481984) == 1) = false := by simp; omega
        have HGG := Lib.hid hgg
        clear hgg HC
        go_wp2_with (fail)
        go_meet
        refine ⟨q0, 0, hb, by simp, rfl, rfl, by omega, q1', hlt, ?_, rfl⟩
        have h1 := HGG.out
        have h2 := qm_le (M := q0) (r := if hb then 1 else 0)
        generalize qm q0 (if hb then 1 else 0) = t at *
        clear HGG sh54 a1' e71
        omega
      · have e71 : (((q0 : Int) / 18014398509481984) == 1) = true := by simp; omega
        have HGG := Lib.hid hgg
        clear hgg HC sh54
        rcases Nat.mod_two_eq_zero_or_one q0 with h2 | h2
        · rw [h2] at a1'
          have a1' : bits .and .u64 (q0 : Int) 1 = 0 := a1'
          go_wp2_with (fail)
          go_meet
          refine ⟨q0 / 2, 1, hb, rfl, by go_num, rfl, by omega, by omega, by omega, ?_, rfl⟩
          have h1 := HGG.out
          have e : (if (if hb then 1 else 0) = 0 ∧ q0 % 2 = 0 then 0 else 1) = (if hb then 1 else 0) := by cases hb <;> simp [h2]
          rw [e] at h1
          have h2 := qm_le (M := q0 / 2) (r := if hb then 1 else 0)
          generalize qm (q0 / 2) (if hb then 1 else 0) = t at *
          clear HGG a1' e71 e
          omega
        · rw [h2] at a1'
          have a1' : bits .and .u64 (q0 : Int) 1 = 1 := a1'
          go_wp2_with (fail)
          go_meet
          refine ⟨q0 / 2, 1, true, rfl, by go_num, rfl, by omega, by omega, by omega, ?_, rfl⟩
          have h1 := HGG.out
          have e : (if (if hb then 1 else 0) = 0 ∧ q0 % 2 = 0 then 0 else 1) = (if true then 1 else 0) := by cases hb <;> simp [h2]
          rw [e] at h1
          have h2 := qm_le (M := q0 / 2) (r := if true then 1 else 0)
          generalize qm (q0 / 2) (if true then 1 else 0) = t at *
          clear HGG a1' e71 e
          omega
    case rest =>
      obtain ⟨M, j, hb', rfl, rfl, rfl, hj, m1, m2, hg, rfl⟩ := hcut
      have HG := Lib.hid hg
      clear hg HC sh54 a1' q1' q2'
      have e81 : ((M : Int) / 9007199254740992 != 1) = false := by simp; omega
      have c1 : -1074 ≤ (al : Int) - bl + j := by omega
      have c2 : ¬ ((al : Int) - bl + j ≤ -1022) := by omega
      have hM64 : M < 18446744073709551616 := by omega
      have x1 := and_one64 M hM64
      have x2 := and_two64 M hM64
      go_upto_if 110 with (fail)
      obtain ⟨Y, hY⟩ : ∃ Y : Nat, (al : Int) - bl + j = (Y : Int) - 1022 := ⟨al + j + 1022 - bl, by omega⟩
      rw [hY]
      rw [hY] at HG
      have y1 : 900 ≤ Y := by omega
      have y2 : Y ≤ 1100 := by omega
      clear e81 c1 c2 hY
      go_cut [7, 10, 16] from 18 to 132 (fun s7 s10 s16 wx => ∃ (M2 Y2 : Nat) (b7 : Bool), s7 = .bool b7 ∧ s10 = .int .i64 ((Y2 : Int) - 1022) ∧ s16 = .int .u64 M2 ∧ 9007199254740992 ≤ M2 ∧ M2 < 18014398509481984 ∧ g = Y2 * 4503599627370496 + (M2 / 2 - 4503599627370496) ∧ 900 ≤ Y2 ∧ Y2 ≤ 1101 ∧ wx = w7.drewN q8)
      case first =>
        rcases Nat.mod_two_eq_zero_or_one M with h2 | h2
        · rw [h2] at x1
          have x1 : bits .and .u64 (M : Int) 1 = 0 := x1
          have hq : qm M (if hb' then 1 else 0) = M := by unfold qm; rw [if_neg (by omega)]; rfl
          have hg : (g : Int) = ((Y : Int) - 1022 + 1021) * 4503599627370496 + (M / 2 : Nat) := by have := HG.out; rw [hq] at this; exact this
          have HGG := Lib.hid hg
          clear hq hg HG x2
          go_wp2_with (fail)
          go_meet
          refine ⟨M, Y, _, rfl, rfl, rfl, m1, m2, ?_, y1, by omega, rfl⟩
          have := HGG.out
          clear HGG x1
          omega
        · rw [h2] at x1
          have x1 : bits .and .u64 (M : Int) 1 = 1 := x1
          by_cases hup : hb' = true ∨ M / 2 % 2 = 1
          · have hq : qm M (if hb' then 1 else 0) = M + 1 := by
              unfold qm; rw [if_pos ⟨h2, hup.elim (fun h => .inl (by simp [h])) .inr⟩]
            have hg : (g : Int) = ((Y : Int) - 1022 + 1021) * 4503599627370496 + ((M + 1) / 2 : Nat) := by have := HG.out; rw [hq] at this; exact this
            have HGG := Lib.hid hg
            have HU := Lib.hid hup
            clear hq hg HG hup
            by_cases hov : M = 18014398509481983
            · subst hov
              clear x2 x1 HU
              cases hb' <;> (go_wp2_with (fail); go_meet; refine ⟨9007199254740992, Y + 1, false, rfl, by go_num, rfl, by omega, by omega, ?_, by omega, by omega, rfl⟩; have := HGG.out; clear HGG; omega)
            · have h64 : ¬ ((18014398509481984 : Int) ≤ (M : Int) + 1) := by omega
              cases hb' with
              | true =>
                clear x2 HU
                go_wp2_with (fail)
                go_meet
                refine ⟨M + 1, Y, false, rfl, rfl, by go_num, by omega, by omega, ?_, by omega, by omega, rfl⟩
                have := HGG.out
                clear HGG x1
                omega
              | false =>
                have h3 : M / 2 % 2 = 1 := by rcases HU.out with h | h; exact absurd h (by simp); exact h
                rw [h3] at x2
                have x2 : bits .and .u64 (M : Int) 2 = 2 := x2
                clear HU
                go_wp2_with (fail)
                go_meet
                refine ⟨M + 1, Y, false, rfl, rfl, by go_num, by omega, by omega, ?_, by omega, by omega, rfl⟩
                have := HGG.out
                clear HGG x1 x2
                omega
          · have h3 : hb' = false := Bool.eq_false_iff.2 (fun h => hup (.inl h))
            have h4 : M / 2 % 2 = 0 := by
              rcases Nat.mod_two_eq_zero_or_one (M / 2) with h | h
              · exact h
              · exact absurd (.inr h) hup
            subst h3
            have hq : qm M (if false then 1 else 0) = M := by
              show qm M 0 = M
              unfold qm; rw [if_neg (fun h => h.2.elim (fun h5 => h5 rfl) (fun h5 => by omega))]; rfl
            have hg : (g : Int) = ((Y : Int) - 1022 + 1021) * 4503599627370496 + (M / 2 : Nat) := by have := HG.out; rw [hq] at this; exact this
            have HGG := Lib.hid hg
            rw [h4] at x2
            have x2 : bits .and .u64 (M : Int) 2 = 0 := x2
            clear hq hg HG hup
            go_wp2_with (fail)
            go_meet
            refine ⟨M, Y, _, rfl, rfl, rfl, m1, m2, ?_, y1, by omega, rfl⟩
            have := HGG.out
            clear HGG x1 x2
            omega
      case rest =>
        obtain ⟨M2, Y2, b7, rfl, rfl, rfl, m3, m4, hg, y3, y4, rfl⟩ := hcut
        have HG2 := Lib.hid hg
        clear hg HG x1 x2 m1 m2
        obtain ⟨m, hm⟩ : ∃ m, M2 / 2 = 4503599627370496 + m := ⟨M2 / 2 - 4503599627370496, by omega⟩
        have hml : m < 4503599627370496 := by omega
        have hf : floatOfInt .f64 ((M2 : Int) / 2) = 4841369599423283200 + m := by
          have e : (M2 : Int) / 2 = ((4503599627370496 + m : Nat) : Int) := by omega
          rw [e]
          have h1 := nearest_exact false 1075 m 0 hml (by decide) (by decide)
          simp only [Nat.pow_zero, Nat.mul_one] at h1
          rw [show ((1075 : Nat) : Int) - 1075 - ((0 : Nat) : Int) = 0 from rfl] at h1
          have e3 : Ieee.double.word false (1075 * 4503599627370496 + m) = 4841369599423283200 + m := by
            show 1075 * 4503599627370496 + m = _
            omega
          rw [e3] at h1
          have e2 : decide (((4503599627370496 + m : Nat) : Int) < 0) = false := by simp; omega
          show Ieee.double.nearest (decide (((4503599627370496 + m : Nat) : Int) < 0)) (((4503599627370496 + m : Nat) : Int).natAbs) 0 = _
          rw [e2, Int.natAbs_natCast]
          exact h1
        have HF := Lib.hid hf
        have hgm : Y2 * 4503599627370496 + m = g := by rw [HG2.out]; omega
        have HGM := Lib.hid hgm
        clear hf hgm hm m3 m4 HG2
        go_wp2_with (fail)
        rw [HF.out]
        refine (Ldexp_any m Y2 ((Y2 : Int) - 1022 - 53) _ hml (by omega) (by omega) (by omega)).mono ?_
        rintro e w9 ⟨rfl, rfl⟩
        rw [HGM.out]
        go_wp2_with (fail)
        refine (IsInf_no g _ gu).mono ?_
        rintro e w9 ⟨rfl, rfl⟩
        clear HF HGM
        go_wp2
        go_ret2
        exact ⟨g, _, rfl, HR.out, gl, gu, grown_trans HW7.out (grown_drewN _ _)⟩
end Go.Proofs.YtndphemomhcjlaaGreatDoor
