/- Nearest floats of fractions: plain numbers. No condition. The fast scaling of a decimal to a float: plain numbers. No condition. Nearest floats: quotients of whole numbers, exact numbers, divisions of floats. Plain numbers. No condition. -/
import Derived.Deep.RegionWith
import Derived.Deep.RegionHeld3
import Derived.Lib.AppendZeros
import Derived.WalkMore
import Ieee.Arith
import Derived.Test.YtjcfacinlgogaaaGreatDoorQ05
set_option linter.all false
set_option exponentiation.threshold 500
namespace Go.Proofs.YtjcfacinlgogaaaGreatDoor
def rne (N D : Nat) : Nat := N / D + (if D < 2 * (N % D) ∨ (2 * (N % D) = D ∧ N / D % 2 = 1) then 1 else 0)
def T2 : Nat := 2 ^ 200
def Rung (n d g : Nat) : Prop := ∃ E : Nat, 4503599627370496 * (d * 2 ^ E) ≤ n * T2 ∧ n * T2 < 9007199254740992 * (d * 2 ^ E) ∧ g = (E + 874) * 4503599627370496 + rne (n * T2) (d * 2 ^ E)
theorem rne_scale (N D g : Nat) (hg : 0 < g) : rne (N * g) (D * g) = rne N D := by
  unfold rne
  rw [Nat.mul_div_mul_right _ _ hg, Nat.mul_mod_mul_right]
  have h1 : D * g < 2 * (N % D * g) ↔ D < 2 * (N % D) := by
    rw [← Nat.mul_assoc]; exact Nat.mul_lt_mul_right hg
  have h2 : 2 * (N % D * g) = D * g ↔ 2 * (N % D) = D := by
    rw [← Nat.mul_assoc]; exact Nat.mul_left_inj (by omega)
  simp only [h1, h2]
open Ieee
theorem cut_even (neg : Bool) (n t : Nat) (h : t ≤ n.log2 + 2) : Toward.even.cut neg n t = n / 2 ^ t + (if 2 ^ t < 2 * (n % 2 ^ t) ∨ (2 ^ t = 2 * (n % 2 ^ t) ∧ n / 2 ^ t % 2 = 1) then 1 else 0) := by
  unfold Toward.cut
  simp only [Nat.min_eq_left h, Nat.one_shiftLeft]
  congr 1
  by_cases a : 2 ^ t < 2 * (n % 2 ^ t)
  · simp [a]
  · by_cases b : 2 ^ t = 2 * (n % 2 ^ t)
    · by_cases c : n / 2 ^ t % 2 = 1
      · rw [if_pos (.inr ⟨b, c⟩)]; rw [← b]; simp [c]
      · rw [if_neg (by intro h; rcases h with h | h; exact a h; exact c h.2)]; simp [a, c]
    · rw [if_neg (by intro h; rcases h with h | h; exact a h; exact b h.1)]; simp [a, b]
end Go.Proofs.YtjcfacinlgogaaaGreatDoor
namespace Go.Proofs.YtjcfacinlgogaaaGreatDoor
theorem or_one (q : Nat) : q ||| 1 = if q % 2 = 0 then q + 1 else q := by
  have h : q ||| 1 = 2 * (q / 2) + 1 := by
    apply Nat.eq_of_testBit_eq
    intro i
    cases i with
    | zero => simp
    | succ i =>
      rw [Nat.testBit_or, Nat.testBit_succ q, Nat.testBit_succ 1, Nat.testBit_succ (2 * (q / 2) + 1), show (2 * (q / 2) + 1) / 2 = q / 2 by omega]
      simp
  rw [h]; split <;> omega
def stk (q s : Nat) : Nat := if s = 0 then q else if q % 2 = 0 then q + 1 else q
theorem stk_or (q s : Nat) (hs : s ≤ 1) : q ||| s = stk q s := by
  unfold stk
  rcases (show s = 0 ∨ s = 1 by omega) with rfl | rfl
  · simp
  · rw [or_one]; rfl
end Go.Proofs.YtjcfacinlgogaaaGreatDoor
namespace Go.Proofs.YtjcfacinlgogaaaGreatDoor
open Ieee
theorem k1 : Ieee.double.leastPlace = -1074 := by decide
theorem k2 : Ieee.double.binade = 4503599627370496 := by decide
theorem k3 : Ieee.double.infRung = 9218868437227405312 := by decide
theorem k4 : Ieee.double.fractionBits = 52 := rfl
theorem k5 : Ieee.double.signWeight = 9223372036854775808 := by decide
theorem log2_eq {n L : Nat} (h1 : 2 ^ L ≤ n) (h2 : n < 2 ^ (L + 1)) : n.log2 = L := by
  have h0 : n ≠ 0 := by have : 0 < 2 ^ L := Nat.pow_pos (by decide); omega
  have a := Nat.log2_self_le h0
  have b := Nat.lt_log2_self (n := n)
  have c := (Nat.pow_lt_pow_iff_right (by decide : 1 < 2)).1 (Nat.lt_of_le_of_lt h1 b)
  have d := (Nat.pow_lt_pow_iff_right (by decide : 1 < 2)).1 (Nat.lt_of_le_of_lt a h2)
  omega
theorem read_word (neg : Bool) (x m : Nat) (hm : m < 4503599627370496) (hx : 1 ≤ x) (hx2 : x ≤ 2046) :
    Ieee.double.read (Ieee.double.word neg (x * 4503599627370496 + m)) = .number neg (4503599627370496 + m) ((x : Int) - 1075) := by
  unfold Ieee.Format.read Ieee.Format.word
  rw [k1, k2, k3, k5]
  have e1 : (x * 4503599627370496 + m) % 4503599627370496 = m := by omega
  have e2 : (x * 4503599627370496 + m) / 4503599627370496 = x := by omega
  have e3 : ¬ (x * 4503599627370496 + m < 4503599627370496) := by omega
  have e4 : x * 4503599627370496 + m < 9218868437227405312 := by omega
  have e5 : x * 4503599627370496 + m < 9223372036854775808 := by omega
  have e6 : (-1074 : Int) + ((x - 1 : Nat) : Int) = (x : Int) - 1075 := by omega
  generalize hy : x * 4503599627370496 + m = y at *
  cases neg
  · simp only [Bool.false_eq_true, if_false]
    rw [Nat.div_eq_of_lt e5, Nat.mod_eq_of_lt e5, if_neg e3, if_pos e4, e1, e2, e6]
    simp
  · simp only [if_true]
    have f1 : (9223372036854775808 + y) / 9223372036854775808 = 1 := by omega
    have f2 : (9223372036854775808 + y) % 9223372036854775808 = y := by omega
    rw [f1, f2, if_neg e3, if_pos e4, e1, e2, e6]
    simp
theorem int_rung (neg : Bool) (c : Nat) (h0 : 0 < c) (h : c ≤ 9007199254740992) :
    ∃ x m, m < 4503599627370496 ∧ 1023 ≤ x ∧ x ≤ 1076 ∧ Ieee.double.nearest neg c 0 = Ieee.double.word neg (x * 4503599627370496 + m) ∧ Rung c 1 (x * 4503599627370496 + m) ∧ (4503599627370496 + m) * 2 ^ (x - 1023) = c * 4503599627370496 := by
  by_cases hc : c = 9007199254740992
  · subst hc
    refine ⟨1076, 0, by decide, by decide, by decide, by cases neg <;> decide, ⟨201, ?_, ?_, ?_⟩, by decide⟩
    · unfold T2; decide
    · unfold T2; decide
    · unfold T2; decide
  · have hlt : c < 9007199254740992 := by omega
    obtain ⟨L, hL⟩ : ∃ L, c.log2 = L := ⟨_, rfl⟩
    have a1 : 2 ^ L ≤ c := by rw [← hL]; exact Nat.log2_self_le (by omega)
    have a2 : c < 2 ^ (L + 1) := by rw [← hL]; exact Nat.lt_log2_self
    have hL2 : L ≤ 52 := by
      have : 2 ^ L < 2 ^ 53 := by omega
      have := (Nat.pow_lt_pow_iff_right (by decide : 1 < 2)).1 this
      omega
    have e53 : 2 ^ L * 2 ^ (52 - L) = 4503599627370496 := by rw [← Nat.pow_add, show L + (52 - L) = 52 by omega]
    have b1 : 4503599627370496 ≤ c * 2 ^ (52 - L) := by rw [← e53]; exact Nat.mul_le_mul_right _ a1
    have b2 : c * 2 ^ (52 - L) < 9007199254740992 := by
      have := (Nat.mul_lt_mul_right (show 0 < 2 ^ (52 - L) from Nat.pow_pos (by decide))).2 a2
      rw [Nat.pow_succ, show 2 ^ L * 2 * 2 ^ (52 - L) = 2 ^ L * 2 ^ (52 - L) * 2 by ac_rfl, e53] at this
      omega
    obtain ⟨m, hm⟩ : ∃ m, c * 2 ^ (52 - L) = 4503599627370496 + m := ⟨c * 2 ^ (52 - L) - 4503599627370496, by omega⟩
    have hml : m < 4503599627370496 := by omega
    refine ⟨L + 1023, m, hml, by omega, by omega, ?_, ?_, ?_⟩
    · unfold Ieee.Format.nearest
      rw [if_neg (by omega), k1, k2, k3, k4, hL]
      have m1 : max ((0 : Int) + (L : Int) - (52 : Nat)) (-1074) = (L : Int) - 52 := by omega
      simp only [m1]
      rw [show ((0 : Int) - (L - 52)).toNat = 52 - L by omega, show ((L : Int) - 52 - 0).toNat = 0 by omega, Nat.shiftLeft_eq, hm, cut_even _ _ _ (by omega), Nat.pow_zero, Nat.div_one, Nat.mod_one, if_neg (by omega), Nat.add_zero]
      rw [show ((L : Int) - 52 - -1074).toNat = L + 1022 by omega]
      have e : (L + 1022) * 4503599627370496 + (4503599627370496 + m) = (L + 1023) * 4503599627370496 + m := by omega
      rw [e]
      have hle : (L + 1023) * 4503599627370496 + m ≤ 9218868437227405312 := by omega
      exact congrArg _ (Nat.min_eq_left hle)
    · have e2 : c * 2 ^ (52 - L) * 2 ^ (148 + L) = c * T2 := by
        unfold T2; rw [Nat.mul_assoc, ← Nat.pow_add, show 52 - L + (148 + L) = 200 by omega]
      have hp : 0 < 2 ^ (148 + L) := Nat.pow_pos (by decide)
      have hr : rne (c * T2) (1 * 2 ^ (148 + L)) = 4503599627370496 + m := by
        rw [← e2, hm, rne_scale _ _ _ hp]
        unfold rne
        rw [Nat.div_one, Nat.mod_one, if_neg (by omega)]; rfl
      refine ⟨148 + L, ?_, ?_, ?_⟩
      · rw [← e2, Nat.one_mul]; exact Nat.mul_le_mul_right _ b1
      · rw [← e2, Nat.one_mul]; exact (Nat.mul_lt_mul_right hp).2 b2
      · rw [hr]; omega
    · rw [show L + 1023 - 1023 = L by omega, ← hm, Nat.mul_assoc, Nat.mul_comm (2 ^ (52 - L)), e53]
end Go.Proofs.YtjcfacinlgogaaaGreatDoor
