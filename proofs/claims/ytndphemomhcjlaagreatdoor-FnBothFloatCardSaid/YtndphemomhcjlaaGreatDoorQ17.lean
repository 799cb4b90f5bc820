/- The parts of the fast parsing of a decimal: packing, powers of ten, scaling. The fast parsing of a decimal: scaling. The fast parsing of a decimal gives the nearest float. Conditions: at least 53 digits of two, at most nineteen places. A short decimal's float by one division. Conditions: at most 52 digits of two, at most nineteen places. The text of a decimal. No condition. -/
import Derived.Test.YtndphemomhcjlaaGreatDoorQ16
set_option linter.all false

namespace Go.Proofs.YtndphemomhcjlaaGreatDoor
open Go.RowKit

/-- the weight of a sign -/
def sgw (s : Bool) : Nat := if s then 9223372036854775808 else 0
theorem word_sgw (s : Bool) (g : Nat) : Ieee.double.word s g = sgw s + g := by cases s <;> simp [Ieee.Format.word, sgw, k5]
theorem testBit_52 (m : Nat) (h : m < 4503599627370496) (a : Nat) : (a * 4503599627370496 + m).testBit 52 = decide (a % 2 = 1) := by
  rw [Nat.testBit_eq_decide_div_mod_eq, show (2 : Nat) ^ 52 = 4503599627370496 by decide, show (a * 4503599627370496 + m) / 4503599627370496 = a by omega]
theorem and_bit52 (m a : Nat) (h : m < 4503599627370496) : (a * 4503599627370496 + m) &&& 4503599627370496 = (a % 2) * 4503599627370496 := by
  apply Nat.eq_of_testBit_eq
  intro i
  rw [Nat.testBit_and, show (4503599627370496 : Nat) = 2 ^ 52 by decide, Nat.testBit_two_pow]
  by_cases e : 52 = i
  · subst e
    rw [show (2 : Nat) ^ 52 = 4503599627370496 by decide, testBit_52 m h a]
    rcases Nat.mod_two_eq_zero_or_one a with h2 | h2 <;> rw [h2] <;> decide
  · rcases Nat.mod_two_eq_zero_or_one a with h2 | h2
    · simp [e, h2]
    · rw [h2, Nat.one_mul, Nat.testBit_two_pow]; simp [e]

theorem pack_and (s : Bool) (m : Nat) (h : m < 4503599627370496) : bits .and .u64 ((sgw s + 4503599627370496 + m : Nat) : Int) 4503599627370496 = 4503599627370496 := by
  have h1 := u64_and_nat (sgw s + 4503599627370496 + m) 4503599627370496 (by unfold sgw; split <;> omega) (by decide)
  have h2 := and_bit52 m ((if s then 2048 else 0) + 1) h
  rw [show ((if s then 2048 else 0) + 1) * 4503599627370496 + m = sgw s + 4503599627370496 + m by unfold sgw; cases s <;> simp <;> omega] at h2
  rw [h2] at h1
  rw [show ((if s then 2048 else 0) + 1) % 2 * 4503599627370496 = 4503599627370496 by cases s <;> rfl] at h1
  exact h1
theorem pack_andNot (s : Bool) (m : Nat) (h : m < 4503599627370496) : bits .andNot .u64 ((sgw s + 4503599627370496 + m : Nat) : Int) 4503599627370496 = ((sgw s + m : Nat) : Int) := by
  have hlt : sgw s + 4503599627370496 + m < 18446744073709551616 := by unfold sgw; split <;> omega
  have h1 := u64_andNot_nat (sgw s + 4503599627370496 + m) 4503599627370496 hlt (by decide)
  have h2 : (sgw s + 4503599627370496 + m) &&& (18446744073709551615 - 4503599627370496) = sgw s + m := by
    have e1 : sgw s + m = sgw s ||| m := by
      cases s
      · simp [sgw]
      · have h3 := Nat.shiftLeft_add_eq_or_of_lt (i := 63) (b := m) (by omega) 1
        rw [Nat.shiftLeft_eq, Nat.one_mul] at h3
        exact h3
    have e2 : sgw s + 4503599627370496 + m = (sgw s ||| m) ||| 4503599627370496 := by
      have h3 : 4503599627370496 ||| m = 4503599627370496 + m := by
        have h4 := Nat.shiftLeft_add_eq_or_of_lt (i := 52) (b := m) (by omega) 1
        rw [Nat.shiftLeft_eq, Nat.one_mul] at h4
        exact h4.symm
      rw [Nat.or_assoc, Nat.or_comm m, h3]
      cases s
      · simp [sgw]
      · have h4 := Nat.shiftLeft_add_eq_or_of_lt (i := 63) (b := 4503599627370496 + m) (by omega) 1
        rw [Nat.shiftLeft_eq, Nat.one_mul] at h4
        rw [Nat.add_assoc]; exact h4
    rw [e1, e2]
    apply Nat.eq_of_testBit_eq
    intro i
    have hm52 : m.testBit 52 = false := Nat.testBit_lt_two_pow (by omega)
    have hc : (18446744073709551615 - 4503599627370496 : Nat) = 18442240474082181119 := by decide
    rw [hc]
    by_cases hi : i < 64
    · rw [Nat.testBit_and, Nat.testBit_or, Nat.testBit_or]
      by_cases e : i = 52
      · subst e
        have b1 : (18442240474082181119 : Nat).testBit 52 = false := by decide
        have b2 : (sgw s).testBit 52 = false := by cases s <;> decide
        rw [b1, b2, hm52]; rfl
      · have b1 : ∀ j, j < 64 → j ≠ 52 → (18442240474082181119 : Nat).testBit j = true := by decide
        have b2 : (4503599627370496 : Nat).testBit i = false := by
          rw [show (4503599627370496 : Nat) = 2 ^ 52 by decide, Nat.testBit_two_pow]; simp; omega
        rw [b1 i hi e, b2]; simp
    · have hp : 2 ^ 64 ≤ 2 ^ i := Nat.pow_le_pow_right (by decide) (by omega)
      have b0 : ((sgw s ||| m) ||| 4503599627370496).testBit i = false := by
        rw [← e2]; exact Nat.testBit_lt_two_pow (by omega)
      have b3 : (sgw s ||| m).testBit i = false := by
        rw [← e1]; exact Nat.testBit_lt_two_pow (by omega)
      rw [Nat.testBit_and, b0, b3]; rfl
  rw [h2] at h1
  exact h1
theorem pack_or (s : Bool) (m X : Nat) (h : m < 4503599627370496) (hX : X < 2048) : bits .or .u64 ((sgw s + m : Nat) : Int) ((X * 4503599627370496 : Nat) : Int) = ((sgw s + (X * 4503599627370496 + m) : Nat) : Int) := by
  have h1 := u64_or_nat (sgw s + m) (X * 4503599627370496) (by unfold sgw; split <;> omega) (by omega)
  have e1 : sgw s + m = sgw s ||| m := by
    cases s
    · simp [sgw]
    · have h3 := Nat.shiftLeft_add_eq_or_of_lt (i := 63) (b := m) (by omega) 1
      rw [Nat.shiftLeft_eq, Nat.one_mul] at h3
      exact h3
  have h2 : (sgw s + m) ||| X * 4503599627370496 = sgw s + (X * 4503599627370496 + m) := by
    rw [e1, Nat.or_assoc, or_field m X h]
    cases s
    · simp [sgw]
    · have h3 := Nat.shiftLeft_add_eq_or_of_lt (i := 63) (b := X * 4503599627370496 + m) (by omega) 1
      rw [Nat.shiftLeft_eq, Nat.one_mul] at h3
      exact h3.symm
  rw [h2] at h1
  exact h1

theorem pack64_any (s : Bool) (m X : Nat) (ex : Int) (w : World) (h : m < 4503599627370496) (hX : 1 ≤ X) (hX2 : X ≤ 2046) (he : ex = (X : Int) - 1075) :
    Calls Tryz.prog 175 #[.int .u64 ((sgw s + 4503599627370496 + m : Nat) : Int), .int .i64 ex] w fun e w' => e = .returned (.tuple #[.float .f64 (Ieee.double.word s (X * 4503599627370496 + m)), .nilIface]) ∧ w = w' := by
  have a1 := pack_and s m h
  have a2 := pack_andNot s m h
  have a3 := pack_or s m X h (by omega)
  have ew := word_sgw s (X * 4503599627370496 + m)
  obtain ⟨x1, hx1⟩ : ∃ x, ((sgw s + 4503599627370496 + m : Nat) : Int) = x := ⟨_, rfl⟩
  obtain ⟨x2, hx2⟩ : ∃ x, ((sgw s + m : Nat) : Int) = x := ⟨_, rfl⟩
  obtain ⟨x3, hx3⟩ : ∃ x, sgw s + (X * 4503599627370496 + m) = x := ⟨_, rfl⟩
  rw [hx1] at a1 a2 ⊢
  rw [hx2] at a2 a3
  rw [hx3] at a3 ew
  have a3' : bits .or .u64 x2 ((1075 + ((X : Int) - 1075)) * 4503599627370496) = (x3 : Int) := by
    rw [show (1075 + ((X : Int) - 1075)) * 4503599627370496 = ((X * 4503599627370496 : Nat) : Int) by omega]; exact a3
  have hf := run_sfrom
  rw [ew]
  have e4 : (x3 : Int).toNat = x3 := by omega
  clear hx1 hx2 hx3 ew h a3
  subst he
  go_enter Tryz.func175, Tryz.ntmps175
  go_wp2
  go_ret2
  exact ⟨by first | rfl | simp, rfl⟩
end Go.Proofs.YtndphemomhcjlaaGreatDoor

namespace Go.Proofs.YtndphemomhcjlaaGreatDoor
open Go.RowKit

/-- the table of the powers of ten, from 10^-19 to 1 -/
def TabP (w : World) : Prop := ∀ k : Nat, k ≤ 19 → w.cell? ⟨16, (348 - k) * 2, none⟩ = some (.int .u64 (hik k : Nat)) ∧ w.cell? ⟨16, (348 - k) * 2 + 1, none⟩ = some (.int .u64 (lok k : Nat))
theorem TabP.same {w w' : World} (h : TabP w) (g : w.grownBy w' none) : TabP w' := fun k hk => ⟨keepc g (h k hk).1, keepc g (h k hk).2⟩
def scb (hi lo : Nat) (s : Int) : Obj := .cells #[.int .u64 hi, .int .u64 lo, .int .i64 s] 209
theorem cell_scb {w : World} {b hi lo : Nat} {s : Int} (h : w.heap[b]? = some (scb hi lo s)) : w.cell? ⟨b, 0, none⟩ = some (.int .u64 hi) ∧ w.cell? ⟨b, 1, none⟩ = some (.int .u64 lo) ∧ w.cell? ⟨b, 2, none⟩ = some (.int .i64 s) ∧ ∀ i, w.frozen? ⟨b, i, none⟩ = false := by
  refine ⟨?_, ?_, ?_, ?_⟩ <;> simp [World.cell?, World.frozen?, h, scb]
theorem set_scb {w : World} {b hi lo : Nat} {s : Int} (h : w.heap[b]? = some (scb hi lo s)) (hi2 lo2 : Nat) (s2 : Int) :
    (((w.setCell ⟨b, 0, none⟩ (.int .u64 hi2)).setCell ⟨b, 1, none⟩ (.int .u64 lo2)).setCell ⟨b, 2, none⟩ (.int .i64 s2)).heap[b]? = some (scb hi2 lo2 s2) := by
  simp [World.setCell, Array.getElem?_modify, h, scb]

theorem prescale_any {w : World} {b k : Nat} (e l : Int) (hT : TabP w) (hk : k ≤ 19) (hb : w.heap[b]? = some (scb 0 0 0)) (hne : b ≠ 16) (h8 : e + l + 3 = -8) (he : -1000 ≤ e) (he2 : e ≤ 1000) :
    Calls Tryz.prog 167 #[.pointer (some ⟨b, 0, none⟩), .int .i64 e, .int .i64 (-(k : Int)), .int .i64 l] w fun r w' => r = .returned (.tuple #[]) ∧ w'.heap[b]? = some (scb (hik k) (lok k) 8) ∧ w.grownBy w' (some b) := by
  obtain ⟨c0, c1, c2, f⟩ := cell_scb hb
  have f0 := f 0; have f1 := f 1; have f2 := f 2
  obtain ⟨t1, t2⟩ := hT k hk
  have hh := set_scb hb (hik k) (lok k) 8
  have HH := Lib.hid hh
  have HG : Hid (w.grownBy (((w.setCell ⟨b, 0, none⟩ (.int .u64 (hik k : Nat))).setCell ⟨b, 1, none⟩ (.int .u64 (lok k : Nat))).setCell ⟨b, 2, none⟩ (.int .i64 8)) (some b)) := (((grown_set2 (grown_refl w none) 0 _).set 1 _).set 2 _).one
  have t2' : (w.setCell ⟨b, 0, none⟩ (.int .u64 (hik k : Nat))).cell? ⟨16, (348 - k) * 2 + 1, none⟩ = some (.int .u64 (lok k : Nat)) := by
    rw [World.cell?_of_block (a := ⟨16, (348 - k) * 2 + 1, none⟩) (Below.heap_setCell _ _ _ _ (Ne.symm hne))]; exact t2
  have ek : (-(k : Int) + 348).toNat = 348 - k := by omega
  have es : -(e + l + 3) = 8 := by omega
  clear f hh hb hT
  generalize hik k = hi at *
  generalize lok k = lo at *
  go_enter Tryz.func167, Tryz.ntmps167
  go_wp2
  refine bodyPost_end (results_none rfl _ _ _) rfl ?_
  exact ⟨rfl, HH.out, HG.out⟩

theorem mul64_any (x y : Nat) (w : World) (hx : x < 18446744073709551616) (hy : y < 18446744073709551616) (a b : Nat) (ha : x * y / 18446744073709551616 = a) (hb : x * y % 18446744073709551616 = b) :
    Calls Tryz.prog 206 #[.int .u64 x, .int .u64 y] w fun e w' => e = .returned (.tuple #[.int .u64 a, .int .u64 b]) ∧ w = w' := by
  subst ha; subst hb
  exact (Tryz.bits_Mul64 x y hx hy w).mono fun e w' ⟨h1, h2⟩ => ⟨h1, h2.symm⟩

theorem bool264_t (w : World) : Calls Tryz.prog 121 #[.bool true] w fun e w' => e = .returned (.int .u64 1) ∧ w = w' := bool264_any true w
theorem bool264_f (w : World) : Calls Tryz.prog 121 #[.bool false] w fun e w' => e = .returned (.int .u64 0) ∧ w = w' := bool264_any false w
theorem or64 (q s : Nat) (hq : q < 18446744073709551616) (hs : s ≤ 1) : bits .or .u64 (q : Int) (s : Int) = (stk q s : Nat) := by
  rw [u64_or_nat q s hq (by omega), stk_or q s hs]
set_option maxRecDepth 100000 in
theorem uscale_any {w : World} {b hi lo x : Nat} (hb : w.heap[b]? = some (scb hi lo 8)) (hx : x < 18446744073709551616) (hh : hi < 18446744073709551616) (hl : lo < 18446744073709551616) (hx2 : 9223372036854775808 ≤ x) (hh2 : 9223372036854775808 ≤ hi) :
    Calls Tryz.prog 168 #[.int .u64 x, .pointer (some ⟨b, 0, none⟩)] w fun e w' => e = .returned (.int .u64 (usc x hi lo)) ∧ ∃ q, w' = w.drewN q := by
  obtain ⟨c0, c1, c2, f⟩ := cell_scb hb
  obtain ⟨H, hH⟩ : ∃ H, x * hi / 18446744073709551616 = H := ⟨_, rfl⟩
  obtain ⟨M, hM⟩ : ∃ M, x * hi % 18446744073709551616 = M := ⟨_, rfl⟩
  obtain ⟨M2, hM2⟩ : ∃ M2, x * lo / 18446744073709551616 = M2 := ⟨_, rfl⟩
  obtain ⟨L2, hL2⟩ : ∃ L2, x * lo % 18446744073709551616 = L2 := ⟨_, rfl⟩
  have m1 : M < 18446744073709551616 := by rw [← hM]; exact Nat.mod_lt _ (by decide)
  have m2 : M2 < 18446744073709551615 := by
    rw [← hM2]
    have := Nat.mul_le_mul (show x ≤ 18446744073709551615 by omega) (show lo ≤ 18446744073709551615 by omega)
    omega
  have h1 : H < 18446744073709551616 := by
    rw [← hH]
    have := Nat.mul_le_mul (show x ≤ 18446744073709551615 by omega) (show hi ≤ 18446744073709551615 by omega)
    omega
  have h2 : 256 ≤ H := by
    rw [← hH]
    have := Nat.mul_le_mul hx2 hh2
    omega
  have HU : Hid (usc x hi lo = if H % 256 ≠ 0 then stk (H / 256) 1 else if M < M2 then stk ((H - 1) / 256) 1 else stk (H / 256) (if 1 < M - M2 then 1 else 0)) := by
    show _ = _
    unfold usc
    simp only [hH, hM, hM2]
  have C1 := Lib.hid (fun w => mul64_any x hi w hx hh H M hH hM)
  have C2 := Lib.hid (fun w => mul64_any x lo w hx hl M2 L2 hM2 hL2)
  clear hH hM hM2 hL2 f hb hx2 hh2
  go_enter Tryz.func168, Tryz.ntmps168
  go_wp2_with (fail)
  refine (C1.out _).mono ?_
  rintro e w1 ⟨rfl, rfl⟩
  have e63 : bits .and .i64 8 63 = 8 := by decide
  by_cases hm : H % 256 = 0
  · have e1 : ((H : Int) / 256 * 256 != (H : Int)) = false := by simp; omega
    go_wp2_with (fail)
    refine (C2.out _).mono ?_
    rintro e w2 ⟨rfl, rfl⟩
    go_wp2_with (fail)
    by_cases hlt : M < M2
    · have e2 : decide (M < M2) = true := by simp; omega
      have e3 : IntKind.u64.wrap ((M : Int) - M2) = (M : Int) - M2 + 18446744073709551616 := by rw [IntKind.wrap_u64]; omega
      have e4 : decide (1 < (M : Int) - M2 + 18446744073709551616) = true := by simp; omega
      have HO := or64 ((H - 1) / 256) 1 (by omega) (by omega)
      rw [show (((H - 1) / 256 : Nat) : Int) = ((H : Int) - 1) / 256 by omega] at HO
      have HO2 : bits .or .u64 (((H : Int) - 1) / 256) 1 = (stk ((H - 1) / 256) 1 : Nat) := HO
      have HU2 : Hid (usc x hi lo = stk ((H - 1) / 256) 1) := by show _ = _; rw [HU.out, if_neg (by omega), if_pos hlt]
      clear HU hlt hm HO
      rw [e2]
      refine (bool264_t _).mono ?_
      rintro e w2 ⟨rfl, rfl⟩
      go_wp2_with (fail)
      go_quiet ((go_at_call 121; exact Calls.quiet_of_same ((bool264_t _).mono fun e w' h => ⟨h.1, h.2.symm⟩)))
      go_wp2
      go_ret
      exact ⟨ret_int (by rw [HU2.out]), _, rfl⟩
    · have e2 : decide (M < M2) = false := by simp; omega
      have e3 : IntKind.u64.wrap ((M : Int) - M2) = (M : Int) - M2 := by rw [IntKind.wrap_u64]; omega
      by_cases ht : 1 < M - M2
      · have e4 : decide (1 < (M : Int) - M2) = true := by simp; omega
        have HO := or64 (H / 256) 1 (by omega) (by omega)
        have HO2 : bits .or .u64 ((H : Int) / 256) 1 = (stk (H / 256) 1 : Nat) := HO
        have HU2 : Hid (usc x hi lo = stk (H / 256) 1) := by show _ = _; rw [HU.out, if_neg (by omega), if_neg hlt, if_pos ht]
        clear HU hlt hm ht HO
        rw [e2]
        refine (bool264_f _).mono ?_
        rintro e w2 ⟨rfl, rfl⟩
        go_wp2_with (fail)
        go_quiet ((go_at_call 121; exact Calls.quiet_of_same ((bool264_t _).mono fun e w' h => ⟨h.1, h.2.symm⟩)))
        go_wp2
        go_ret
        exact ⟨ret_int (by rw [HU2.out]), _, rfl⟩
      · have e4 : decide (1 < (M : Int) - M2) = false := by simp; omega
        have HO := or64 (H / 256) 0 (by omega) (by omega)
        have HO2 : bits .or .u64 ((H : Int) / 256) 0 = (stk (H / 256) 0 : Nat) := HO
        have HU2 : Hid (usc x hi lo = stk (H / 256) 0) := by show _ = _; rw [HU.out, if_neg (by omega), if_neg hlt, if_neg ht]
        clear HU hlt hm ht HO
        rw [e2]
        refine (bool264_f _).mono ?_
        rintro e w2 ⟨rfl, rfl⟩
        go_wp2_with (fail)
        go_quiet ((go_at_call 121; exact Calls.quiet_of_same ((bool264_f _).mono fun e w' h => ⟨h.1, h.2.symm⟩)))
        go_wp2
        go_ret
        exact ⟨ret_int (by rw [HU2.out]), _, rfl⟩
  · have e1 : ((H : Int) / 256 * 256 != (H : Int)) = true := by simp; omega
    have HO := or64 (H / 256) 1 (by omega) (by omega)
    have HO : bits .or .u64 ((H : Int) / 256) 1 = (stk (H / 256) 1 : Nat) := HO
    have HU2 : Hid (usc x hi lo = stk (H / 256) 1) := by show _ = _; rw [HU.out, if_pos hm]
    clear HU hm
    go_wp2
    go_ret
    exact ⟨ret_int (by rw [HU2.out, ← HO]), 0, rfl⟩
end Go.Proofs.YtndphemomhcjlaaGreatDoor

namespace Go.Proofs.YtndphemomhcjlaaGreatDoor
open Go.RowKit

/-- a float's word, no error -/
def PfRes (w : World) (s : Bool) (c k : Nat) (e : Ending) (w' : World) : Prop :=
  ∃ g : Nat, e = .returned (.tuple #[.float .f64 (Ieee.double.word s g), .nilIface]) ∧ Rung c (10 ^ k) g ∧ 4503599627370496 ≤ g ∧ g < 9218868437227405312 ∧ w.grownBy w' none

theorem bool2i_t (w : World) : Calls Tryz.prog 169 #[.bool true] w fun e w' => e = .returned (.int .i64 1) ∧ w = w' := bool2i_any true w
theorem bool2i_f (w : World) : Calls Tryz.prog 169 #[.bool false] w fun e w' => e = .returned (.int .i64 0) ∧ w = w' := bool2i_any false w
theorem sgn_or (s : Bool) (M : Nat) (h : M < 9223372036854775808) : bits .or .u64 ((sgw s : Nat) : Int) ((M : Nat) : Int) = ((sgw s + M : Nat) : Int) := by
  rw [u64_or_nat _ _ (by unfold sgw; split <;> omega) (by omega)]
  cases s
  · simp [sgw]
  · have h3 := Nat.shiftLeft_add_eq_or_of_lt (i := 63) (b := M) (by omega) 1
    rw [Nat.shiftLeft_eq, Nat.one_mul] at h3
    have h4 : sgw true ||| M = sgw true + M := h3.symm
    rw [h4]
set_option maxHeartbeats 1000000 in
set_option maxRecDepth 100000 in
theorem parseFloat64_any {w : World} {c k : Nat} (s : Bool) (hT : TabP w) (hTb : 16 < w.heap.size) (hk : k ≤ 19) (h1 : 4503599627370496 ≤ c) (h2 : c < 18446744073709551616) :
    Calls Tryz.prog 124 #[.int .u64 c, .int .i64 (-(k : Int)), .int .u64 (sgw s : Nat)] w fun e w' => PfRes w s c k e w' := by
  have HL := Lib.hid ((Tryz.bits_Len64 (c : Int) w (by omega) (by omega)).mono fun e w' h => (show e = .returned (.int .i64 (Lib.bitLen ((c : Int)).toNat : Nat)) ∧ w = w' from ⟨h.1, h.2.symm⟩))
  have hB := isLen_word (x := (c : Int)) (by unfold U64 B64; omega)
  rw [show ((c : Int)).toNat = c by omega] at hB HL
  obtain ⟨b, hb⟩ : ∃ b, Lib.bitLen c = b := ⟨_, rfl⟩
  rw [hb] at hB HL
  obtain ⟨b1, b2, b3⟩ := hB.2 (by omega)
  have b2 : 2 ^ (b - 1) ≤ c := by
    have : ((2 ^ (b - 1) : Nat) : Int) ≤ (c : Int) := by simpa using b2
    exact Int.ofNat_le.1 this
  have b3 : c < 2 ^ b := by
    have : (c : Int) < ((2 ^ b : Nat) : Int) := by simpa using b3
    exact Int.ofNat_lt.1 this
  have b4 : 53 ≤ b := by
    have : 2 ^ 52 < 2 ^ b := by have : (2 : Nat) ^ 52 = 4503599627370496 := by decide
                                omega
    have := (Nat.pow_lt_pow_iff_right (by decide : 1 < 2)).1 this
    omega
  have b5 : b ≤ 64 := by
    have : 2 ^ (b - 1) < 2 ^ 64 := by have : (2 : Nat) ^ 64 = 18446744073709551616 := by decide
                                      omega
    have := (Nat.pow_lt_pow_iff_right (by decide : 1 < 2)).1 this
    omega
  obtain ⟨hx, u, g, hu, hu2, hR, gl, gu, hcase⟩ := parse_law (c := c) (k := k) (b := b) (by omega) b4 b5 b2 b3
  have ht := tab_ok k (by omega)
  have hll := ht.l
  have HLP := Lib.hid (fun w => log2Pow10_any k w hk)
  have HC := Lib.hid hcase; have HR := Lib.hid hR; have HU := Lib.hid hu; have HT := Lib.hid hT; have HX := Lib.hid hx
  have HT1 := Lib.hid ht.hi; have HT2 := Lib.hid ht.lo; have HT3 := Lib.hid ht.hi2
  have HX2 : Hid (9223372036854775808 ≤ c * 2 ^ (64 - b)) := by
    have := Nat.mul_le_mul_right (2 ^ (64 - b)) b2
    rw [← Nat.pow_add, show b - 1 + (64 - b) = 63 by omega] at this
    exact this
  obtain ⟨l, hl⟩ : ∃ l, lk k = l := ⟨_, rfl⟩
  rw [hl] at hll HLP HC
  have G := Lib.hid (fun o => grown_new w o)
  have HN := Lib.hid (heap_new w (scb 0 0 0))
  clear hcase hR hu hT hx ht hB hb b2 b3 h1 hl b1
  go_enter Tryz.func124, Tryz.ntmps124
  go_wp2_with (fail)
  refine HL.out.mono ?_
  rintro e w1 ⟨rfl, rfl⟩
  go_wp2_with (fail)
  refine (HLP.out _).mono ?_
  rintro e w1 ⟨rfl, rfl⟩
  have em : min (1074 : Int) (53 - (b : Int) + l) = 53 - b + l := by omega
  go_wp2_with (fail)
  have es : (64 : Int) - b = ((64 - b : Nat) : Int) := by omega
  refine (prescale_any (b := w.heap.size) _ _ (HT.out.same (G.out _)) hk HN.out (by omega) (by omega) (by omega) (by omega)).mono ?_
  rintro e w2 ⟨rfl, hs2, hg2⟩
  have HS2 := Lib.hid hs2
  have HG2 : Hid (w.grownBy w2 none) := grown_own (G.out _) hg2 (.inr (Nat.le_refl _))
  obtain ⟨_, _, c2, _⟩ := cell_scb hs2
  clear hs2 hg2 HN G
  go_wp2_with (fail)
  have exs : IntKind.u64.wrap ((c : Int) * 2 ^ (64 - b)) = ((c * 2 ^ (64 - b) : Nat) : Int) := by
    have h := HX.out
    rw [show (c : Int) * 2 ^ (64 - b) = ((c * 2 ^ (64 - b) : Nat) : Int) by simp]
    exact wrap_u64 (by unfold U64 B64; omega)
  rw [exs]
  refine (uscale_any HS2.out HX.out HT1.out HT2.out HX2.out HT3.out).mono ?_
  rintro e w3 ⟨rfl, q3, hw3⟩
  rw [HU.out]
  have HG3 : Hid (w.grownBy w3 none) := by show _; rw [hw3]; exact grown_trans HG2.out (grown_drewN _ _)
  clear hw3 c2 exs HS2 HG2
  go_wp2_with (fail)
  refine (unmin_any _).mono ?_
  rintro e w4 ⟨rfl, rfl⟩
  go_wp2_with (fail)
  rcases HC.out with hcase | hcase
  · obtain ⟨hlt, m1, m2, hg⟩ := hcase
    obtain ⟨y, hy⟩ : ∃ y : Nat, u = y := ⟨_, rfl⟩
    have hy2 : y < 1152921504606846976 := by rw [← hy]; omega
    rw [hy] at m1 m2 hg
    obtain ⟨m, hm⟩ : ∃ m, mant y = 4503599627370496 + m := ⟨mant y - 4503599627370496, by omega⟩
    have hml : m < 4503599627370496 := by omega
    obtain ⟨X, hX⟩ : ∃ X : Nat, 1022 + b - l = X := ⟨_, rfl⟩
    have X1 : 1 ≤ X := by omega
    have X2 : X ≤ 2046 := by omega
    have hgX : g = X * 4503599627370496 + m := by rw [hg, hX, hm]; omega
    have hS := sgn_or s (4503599627370496 + m) (by omega)
    have hS2 : bits .or .u64 ((sgw s : Nat) : Int) (4503599627370496 + (m : Int)) = ((sgw s + 4503599627370496 + m : Nat) : Int) := by
      rw [show (4503599627370496 + (m : Int)) = ((4503599627370496 + m : Nat) : Int) by omega, hS]; congr 1; omega
    have HSS := Lib.hid hS2
    clear hS hS2
    have HM := Lib.hid hm; have HGX := Lib.hid hgX
    have t2 : decide ((36028797018963966 : Int) ≤ u) = false := by simp; omega
    have a1 := and_one64 u (by omega)
    have o1 := or64 (u) (u % 2) (by omega) (by omega)
    rw [show stk u (u % 2) = y by rw [← hy]; unfold stk; split <;> (try split) <;> omega] at o1
    have eX : -(53 - (b : Int) + l) = (X : Int) - 1075 := by omega
    have HX3 := Lib.hid eX
    obtain ⟨v, hv⟩ : ∃ v : Nat, u % 2 = v := ⟨_, rfl⟩
    rw [hv] at a1 o1
    have o2 : bits .or .u64 (u : Int) (v : Nat) = (y : Nat) := o1
    clear m1 m2 hg hm hgX hX hy hv eX o1 HC
    rw [t2]
    refine (bool2i_f _).mono ?_
    rintro e w4 ⟨rfl, rfl⟩
    go_wp2_with (fail)
    refine (round_any y _ hy2).mono ?_
    rintro e w4 ⟨rfl, rfl⟩
    rw [HM.out]
    go_wp2_with (fail)
    rw [HSS.out]
    refine (pack64_any s m X _ _ hml X1 X2 HX3.out).mono ?_
    rintro e w5 ⟨rfl, rfl⟩
    rw [← HGX.out]
    clear HSS HX3 HM o2 a1
    go_wp2
    go_ret2
    exact ⟨g, rfl, HR.out, gl, gu, HG3.out⟩
  · obtain ⟨hlt, m1, m2, hg⟩ := hcase
    obtain ⟨y, hy⟩ : ∃ y : Nat, stk (u / 2) (u % 2) = y := ⟨_, rfl⟩
    have hy2 : y < 1152921504606846976 := by rw [← hy]; unfold stk; split <;> (try split) <;> omega
    rw [hy] at m1 m2 hg
    obtain ⟨m, hm⟩ : ∃ m, mant y = 4503599627370496 + m := ⟨mant y - 4503599627370496, by omega⟩
    have hml : m < 4503599627370496 := by omega
    obtain ⟨X, hX⟩ : ∃ X : Nat, 1023 + b - l = X := ⟨_, rfl⟩
    have X1 : 1 ≤ X := by omega
    have X2 : X ≤ 2046 := by omega
    have hgX : g = X * 4503599627370496 + m := by rw [hg, hX, hm]; omega
    have hS := sgn_or s (4503599627370496 + m) (by omega)
    have hS2 : bits .or .u64 ((sgw s : Nat) : Int) (4503599627370496 + (m : Int)) = ((sgw s + 4503599627370496 + m : Nat) : Int) := by
      rw [show (4503599627370496 + (m : Int)) = ((4503599627370496 + m : Nat) : Int) by omega, hS]; congr 1; omega
    have HSS := Lib.hid hS2
    clear hS hS2
    have HM := Lib.hid hm; have HGX := Lib.hid hgX
    have t2 : decide ((36028797018963966 : Int) ≤ u) = true := by simp; omega
    have a1 := and_one64 u (by omega)
    have o1 := or64 (u / 2) (u % 2) (by omega) (by omega)
    rw [hy] at o1
    have eX : -(53 - (b : Int) + l - 1) = (X : Int) - 1075 := by omega
    have HX3 := Lib.hid eX
    obtain ⟨v, hv⟩ : ∃ v : Nat, u % 2 = v := ⟨_, rfl⟩
    rw [hv] at a1 o1
    have o2 : bits .or .u64 ((u : Int) / 2) (v : Nat) = (y : Nat) := o1
    clear m1 m2 hg hm hgX hX hy hv eX o1 HC
    rw [t2]
    refine (bool2i_t _).mono ?_
    rintro e w4 ⟨rfl, rfl⟩
    go_wp2_with (fail)
    refine (round_any y _ hy2).mono ?_
    rintro e w4 ⟨rfl, rfl⟩
    rw [HM.out]
    go_wp2_with (fail)
    rw [HSS.out]
    refine (pack64_any s m X _ _ hml X1 X2 HX3.out).mono ?_
    rintro e w5 ⟨rfl, rfl⟩
    rw [← HGX.out]
    clear HSS HX3 HM o2 a1
    go_wp2
    go_ret2
    exact ⟨g, rfl, HR.out, gl, gu, HG3.out⟩
end Go.Proofs.YtndphemomhcjlaaGreatDoor

namespace Go.Proofs.YtndphemomhcjlaaGreatDoor
open Go.RowKit

/-- the variables that the parsing reads -/
structure TabS (w : World) : Prop where
  info : w.cell? ⟨8, 0, none⟩ = some (.int .u64 52)
  opt : w.cell? ⟨7, 0, none⟩ = some (.bool true)
  pow : ∃ b o : Nat, w.cell? ⟨15, 0, none⟩ = some (.slice (some ⟨b, o, none⟩) 23 23) ∧ ∀ i : Nat, i < 23 → w.cell? ⟨b, o + i, none⟩ = some (.float .f64 (f10 i))
theorem TabS.same {w w' : World} (h : TabS w) (g : w.grownBy w' none) : TabS w' :=
  ⟨keepc g h.info, keepc g h.opt, by obtain ⟨b, o, h1, h2⟩ := h.pow; exact ⟨b, o, keepc g h1, fun i hi => keepc g (h2 i hi)⟩⟩

theorem exact_parts {c k : Nat} (s : Bool) (h0 : 0 < c) (h1 : c < 4503599627370496) (hk : k ≤ 19) :
    ∃ r g : Nat, floatOfInt .f64 (c : Int) = r ∧ Rung c 1 r ∧ 4503599627370496 ≤ r ∧ r < 9218868437227405312 ∧ Rung c (10 ^ k) g ∧ 4503599627370496 ≤ g ∧ g < 9218868437227405312 ∧ Ieee.double.div (Ieee.double.word s r) (f10 k) = some (Ieee.double.word s g) := by
  obtain ⟨x, m, hm, hx, hx2, hw, hR, hc⟩ := int_rung false c h0 (by omega)
  obtain ⟨y1, y2, hd⟩ := f10_ok k (by omega)
  have hX : Ieee.double.read (Ieee.double.word s (x * 4503599627370496 + m)) = .number s (4503599627370496 + m) ((x : Int) - 1075) := read_word s x m hm (by omega) (by omega)
  obtain ⟨g, r1, r2, r3, r4⟩ := div_rung hX (f10_read k (by omega)) hm (Nat.mod_lt _ (by decide)) hx (by omega) y1 y2 (Nat.pow_pos (by decide)) hc hd
  refine ⟨x * 4503599627370496 + m, g, ?_, hR, by omega, by omega, r1, r2, r3, r4⟩
  have e : decide ((c : Int) < 0) = false := by simp
  show Ieee.double.nearest (decide ((c : Int) < 0)) ((c : Int).natAbs) 0 = _
  rw [e, Int.natAbs_natCast]
  exact hw

theorem exact_no {w : World} {c : Nat} (p : Int) (s : Bool) (hT : TabS w) (h1 : 4503599627370496 ≤ c) (h2 : c < 18446744073709551616) :
    Calls Tryz.prog 123 #[.int .u64 c, .int .i64 p, .bool s] w fun e w' => e = .returned (.tuple #[.float .f64 0, .bool false]) ∧ w = w' := by
  have h := hT.info
  have e : ((c : Int) / 4503599627370496 != 0) = true := by simp; omega
  clear hT
  go_enter Tryz.func123, Tryz.ntmps123
  go_wp2
  go_ret2
  exact ⟨rfl, rfl⟩

/-- a float's word and true -/
def ExRes (w : World) (s : Bool) (c k : Nat) (e : Ending) (w' : World) : Prop :=
  ∃ g : Nat, e = .returned (.tuple #[.float .f64 (Ieee.double.word s g), .bool true]) ∧ Rung c (10 ^ k) g ∧ 4503599627370496 ≤ g ∧ g < 9218868437227405312 ∧ w = w'

set_option maxRecDepth 100000 in
theorem exact_yes {w : World} {c k : Nat} (s : Bool) (hT : TabS w) (h0 : 0 < c) (h1 : c < 4503599627370496) (hk : k ≤ 19) :
    Calls Tryz.prog 123 #[.int .u64 c, .int .i64 (-(k : Int)), .bool s] w fun e w' => ExRes w s c k e w' := by
  have h := hT.info
  obtain ⟨b, o, p1, p2⟩ := hT.pow
  have p3 := p2 k (by omega)
  have e : ((c : Int) / 4503599627370496 != 0) = false := by simp; omega
  obtain ⟨r, g, hf, r1, r2, r3, g1, g2, g3, hdv⟩ := exact_parts s h0 h1 hk
  have hq : ∀ wx, (binOp .quo 29 (.float .f64 (Ieee.double.word s r)) (.float .f64 (f10 k))).run Tryz.prog wx = .ok (.float .f64 (Ieee.double.word s g)) wx := fun wx => run_float_arith wx .quo 29 .f64 _ _ _ hdv
  have rn := fun w => run_neg r (by omega) w
  have HR := Lib.hid (show _ ∧ _ ∧ _ from ⟨g1, g2, g3⟩)
  have HR1 := Lib.hid (show _ ∧ _ ∧ _ from ⟨r1, r2, r3⟩)
  have hs0 : Ieee.double.word false r = r := rfl
  clear hT p2 hdv g1 g2 g3 r1 r2 r3 h0 h1
  by_cases hk0 : k = 0
  · subst hk0
    clear hq p1 p3
    cases s with
    | false =>
      go_enter Tryz.func123, Tryz.ntmps123
      go_wp2
      go_ret2
      exact ⟨r, rfl, by rw [Nat.pow_zero]; exact HR1.out.1, HR1.out.2.1, HR1.out.2.2, rfl⟩
    | true =>
      go_enter Tryz.func123, Tryz.ntmps123
      go_wp2
      go_ret2
      exact ⟨r, rfl, by rw [Nat.pow_zero]; exact HR1.out.1, HR1.out.2.1, HR1.out.2.2, rfl⟩
  · have k0 : (-(k : Int) == 0) = false := by simp; omega
    have k1 : ¬ (0 < -(k : Int)) := by omega
    have k2 : -(k : Int) < 0 := by omega
    have k3 : -22 ≤ -(k : Int) := by omega
    have k4 : (k : Int) < 23 := by omega
    cases s with
    | false =>
      rw [hs0] at hq
      go_enter Tryz.func123, Tryz.ntmps123
      go_wp2
      go_ret2
      exact ⟨g, rfl, HR.out.1, HR.out.2.1, HR.out.2.2, rfl⟩
    | true =>
      go_enter Tryz.func123, Tryz.ntmps123
      go_wp2
      go_ret2
      exact ⟨g, rfl, HR.out.1, HR.out.2.1, HR.out.2.2, rfl⟩
end Go.Proofs.YtndphemomhcjlaaGreatDoor

namespace Go.Proofs.YtndphemomhcjlaaGreatDoor
open Go.RowKit

/-- how many bytes a sign takes; a point -/
def sgn (neg : Bool) : Nat := if neg then 1 else 0
def pnt (k : Nat) : Nat := if k = 0 then 0 else 1
/-- how many digits lie ahead of byte j -/
def dgs (m k j : Nat) : Nat := if k ≠ 0 ∧ m - k < j then j - 1 else j
/-- byte j behind the sign -/
def tb (c m k j : Nat) : Nat := if k ≠ 0 ∧ j = m - k then 46 else 48 + c / 10 ^ (m - 1 - dgs m k j) % 10
structure IsTxt (s : ByteArray) (neg : Bool) (c k m : Nat) : Prop where
  size : s.size = sgn neg + m + pnt k
  sign : ∀ h : 0 < s.size, neg = true → (s[0]'h).toNat = 45
  byte : ∀ i (h : i < s.size), sgn neg ≤ i → (s[i]'h).toNat = tb c m k (i - sgn neg)
  km : k < m
  m20 : m ≤ 20
  cm : c < 10 ^ m

theorem V_step (c : Nat) {m d : Nat} (h : d < m) : c / 10 ^ (m - (d + 1)) = 10 * (c / 10 ^ (m - d)) + c / 10 ^ (m - 1 - d) % 10 := by
  obtain ⟨e, he⟩ : ∃ e, m - 1 - d = e := ⟨_, rfl⟩
  rw [show m - (d + 1) = e by omega, show m - d = e + 1 by omega, he, Nat.pow_succ, ← Nat.div_div_eq_div_mul]
  omega
/-- n digits without a zero ahead -/
def ND (V n : Nat) : Prop := V < 10 ^ n ∧ (n = 0 ∨ 10 ^ (n - 1) ≤ V)
theorem ND.zero : ND 0 0 := ⟨by decide, .inl rfl⟩
theorem ND.zero_iff {V n : Nat} (h : ND V n) : n = 0 ↔ V = 0 := by
  constructor
  · intro e; subst e; have := h.1; simp at this; exact this
  · intro e; subst e
    rcases h.2 with h | h
    · exact h
    · have : 0 < 10 ^ (n - 1) := Nat.pow_pos (by decide)
      omega
theorem ND.step {V n d : Nat} (h : ND V n) (hd : d < 10) (h0 : ¬ (d = 0 ∧ n = 0)) : ND (10 * V + d) (n + 1) := by
  refine ⟨?_, .inr ?_⟩
  · have := h.1; rw [Nat.pow_succ]; omega
  · rw [Nat.add_sub_cancel]
    rcases h.2 with e | e
    · subst e
      have := h.1
      simp at this ⊢; omega
    · by_cases hn : n = 0
      · subst hn; simp; have := h.1; simp at this; omega
      · rw [show n = (n - 1) + 1 by omega, Nat.pow_succ]; omega
theorem ND.lt {V n c : Nat} (h : ND V n) (h1 : V ≤ c) (h2 : c < 10000000000000000000) : n ≤ 19 := by
  rcases h.2 with e | e
  · omega
  · have h3 : 10 ^ (n - 1) < 10 ^ 19 := by
      have : (10 : Nat) ^ 19 = 10000000000000000000 := by decide
      omega
    have := (Nat.pow_lt_pow_iff_right (by decide : 1 < 10)).1 h3
    omega
theorem V_le (c : Nat) (m d : Nat) : c / 10 ^ (m - d) ≤ c := Nat.div_le_self _ _
theorem tb_point {c m k : Nat} (hk : k ≠ 0) : tb c m k (m - k) = 46 := by unfold tb; rw [if_pos ⟨hk, rfl⟩]
theorem tb_digit {c m k j : Nat} (h : ¬ (k ≠ 0 ∧ j = m - k)) : tb c m k j = 48 + c / 10 ^ (m - 1 - dgs m k j) % 10 := by unfold tb; rw [if_neg h]
theorem tb_range {c m k j : Nat} : tb c m k j = 46 ∨ (48 ≤ tb c m k j ∧ tb c m k j ≤ 57) := by
  unfold tb; split
  · exact .inl rfl
  · right; omega
theorem lower_same : ∀ x, x < 58 → 45 ≤ x → bits .or .u8 (x : Nat) 32 = (x : Nat) := by decide

/-- the state of the reading behind j bytes -/
structure RdAt (c k m j nd : Nat) (dp : Int) : Prop where
  isnd : ND (c / 10 ^ (m - dgs m k j)) nd
  isdp : if k ≠ 0 ∧ m - k < j then dp - nd = -((dgs m k j - (m - k) : Nat) : Int) else dp = (nd : Int) - (j : Int)
theorem RdAt.start {c k m : Nat} (h : c < 10 ^ m) : RdAt c k m 0 0 0 := by
  have e : dgs m k 0 = 0 := by unfold dgs; split <;> rfl
  refine ⟨?_, ?_⟩
  · rw [e, Nat.sub_zero, Nat.div_eq_of_lt h]; exact ND.zero
  · rw [if_neg (by omega)]; rfl
theorem RdAt.point {c k m nd : Nat} {dp : Int} (h : RdAt c k m (m - k) nd dp) (hk : k ≠ 0) : RdAt c k m (m - k + 1) nd nd := by
  have e : dgs m k (m - k + 1) = m - k := by unfold dgs; rw [if_pos ⟨hk, by omega⟩]; rfl
  have e2 : dgs m k (m - k) = m - k := by unfold dgs; rw [if_neg (by omega)]
  refine ⟨?_, ?_⟩
  · rw [e]; have := h.isnd; rw [e2] at this; exact this
  · rw [if_pos ⟨hk, by omega⟩, e]; simp
theorem dgs_succ {m k j : Nat} (h : ¬ (k ≠ 0 ∧ j = m - k)) : dgs m k (j + 1) = dgs m k j + 1 := by
  unfold dgs; split <;> split <;> omega
theorem dgs_lt {m k j : Nat} (hj : j < m + pnt k) (h : ¬ (k ≠ 0 ∧ j = m - k)) (hkm : k < m) : dgs m k j < m := by
  unfold dgs pnt at *; split <;> (try split at hj) <;> omega
theorem RdAt.digit {c k m j nd : Nat} {dp : Int} (h : RdAt c k m j nd dp) (hj : j < m + pnt k) (hp : ¬ (k ≠ 0 ∧ j = m - k)) (hkm : k < m) :
    c / 10 ^ (m - dgs m k (j + 1)) = 10 * (c / 10 ^ (m - dgs m k j)) + c / 10 ^ (m - 1 - dgs m k j) % 10 ∧
    (c / 10 ^ (m - 1 - dgs m k j) % 10 = 0 → nd = 0 → RdAt c k m (j + 1) nd (dp - 1)) ∧
    (¬ (c / 10 ^ (m - 1 - dgs m k j) % 10 = 0 ∧ nd = 0) → RdAt c k m (j + 1) (nd + 1) dp) := by
  have e := dgs_succ hp
  have hl := dgs_lt hj hp hkm
  have hv := V_step c hl
  rw [← e] at hv
  have hdp := h.isdp
  have hcond : (k ≠ 0 ∧ m - k < j + 1) ↔ (k ≠ 0 ∧ m - k < j) := by omega
  refine ⟨hv, fun h1 h2 => ⟨?_, ?_⟩, fun h1 => ⟨?_, ?_⟩⟩
  · rw [hv, h1]
    have h3 := h.isnd
    rw [h2] at h3 ⊢
    rw [(h3.zero_iff).1 rfl]; exact ND.zero
  · rw [e]
    by_cases hc : k ≠ 0 ∧ m - k < j
    · rw [if_pos hc] at hdp
      rw [if_pos (hcond.2 hc)]
      have : m - k ≤ dgs m k j := by unfold dgs; rw [if_pos hc]; omega
      omega
    · rw [if_neg hc] at hdp
      rw [if_neg (fun x => hc (hcond.1 x))]
      omega
  · rw [hv]; exact h.isnd.step (Nat.mod_lt _ (by decide)) h1
  · rw [e]
    by_cases hc : k ≠ 0 ∧ m - k < j
    · rw [if_pos hc] at hdp
      rw [if_pos (hcond.2 hc)]
      have : m - k ≤ dgs m k j := by unfold dgs; rw [if_pos hc]; omega
      omega
    · rw [if_neg hc] at hdp
      rw [if_neg (fun x => hc (hcond.1 x))]
      omega
theorem RdAt.done {c k m nd : Nat} {dp : Int} (h : RdAt c k m (m + pnt k) nd dp) (hkm : k < m) : c / 10 ^ (m - dgs m k (m + pnt k)) = c ∧ ND c nd ∧ (k ≠ 0 → dp - nd = -(k : Int)) := by
  have e : dgs m k (m + pnt k) = m := by unfold dgs pnt; split <;> split <;> omega
  have h1 := h.isnd
  have h2 := h.isdp
  rw [e, Nat.sub_self, Nat.pow_zero, Nat.div_one] at h1
  refine ⟨by rw [e, Nat.sub_self, Nat.pow_zero, Nat.div_one], h1, fun hk => ?_⟩
  rw [if_pos ⟨hk, by unfold pnt; rw [if_neg hk]; omega⟩, e] at h2
  rw [h2]; omega
end Go.Proofs.YtndphemomhcjlaaGreatDoor
