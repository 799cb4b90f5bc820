/- Numbers in limbs of 32 bits, digit by digit. Plain numbers. -/
import Derived.Test.YtndphemomhcjlaaGreatDoorQ17
set_option linter.all false

namespace Go.Proofs.YtndphemomhcjlaaGreatDoor
open Go.RowKit

def vl : List Nat → Nat
  | [] => 0
  | x :: l => x + 4294967296 * vl l
theorem vl_snoc (A : List Nat) (z : Nat) : vl (A ++ [z]) = vl A + z * 4294967296 ^ A.length := by
  induction A with
  | nil => simp [vl]
  | cons a A ih => simp only [List.cons_append, vl, ih, List.length_cons, Nat.pow_succ, Nat.mul_add]; rw [Nat.add_assoc, Nat.mul_left_comm, Nat.mul_comm (4294967296 ^ A.length)]
/-- limbs without a zero at the top -/
structure Lm (L : List Nat) (v : Nat) : Prop where
  lt : ∀ x ∈ L, x < 4294967296
  top : L = [] ∨ 4294967296 ^ (L.length - 1) ≤ v
  eq : vl L = v
theorem Lm.nil : Lm [] 0 := ⟨by simp, .inl rfl, rfl⟩
theorem Lm.short {L : List Nat} {v : Nat} (h : Lm L v) (hv : v < 18446744073709551616) : L.length ≤ 2 := by
  rcases h.top with e | e
  · subst e; simp
  · have h2 : 4294967296 ^ (L.length - 1) < 4294967296 ^ 2 := by
      have : (4294967296 : Nat) ^ 2 = 18446744073709551616 := by decide
      omega
    have := (Nat.pow_lt_pow_iff_right (by decide : 1 < 4294967296)).1 h2
    omega
/-- multiplied in part: the first limbs are new -/
structure Lp (L A : List Nat) (sc n0 n k : Nat) : Prop where
  len : A.length = k
  kl : k ≤ L.length
  lt : ∀ x ∈ A, x < 4294967296
  small : n < 4294967296
  eq : vl A + n * 4294967296 ^ k = vl (L.take k) * sc + n0
theorem Lp.start (L : List Nat) {sc n0 : Nat} (h : n0 < 4294967296) : Lp L [] sc n0 n0 0 := ⟨rfl, Nat.zero_le _, by simp, h, by simp [vl]⟩
theorem Lp.bound {L A : List Nat} {sc n0 n k : Nat} (h : Lp L A sc n0 n k) (hL : ∀ x ∈ L, x < 4294967296) (hs : sc ≤ 1000000000) (hk : k < L.length) : L[k] < 4294967296 ∧ L[k] * sc ≤ 4294967295000000000 := by
  have hx : L[k] < 4294967296 := hL _ (List.getElem_mem hk)
  refine ⟨hx, ?_⟩
  calc L[k] * sc ≤ 4294967295 * 1000000000 := Nat.mul_le_mul (by omega) hs
    _ ≤ _ := by decide
theorem Lp.step {L A : List Nat} {sc n0 n k : Nat} (h : Lp L A sc n0 n k) (hL : ∀ x ∈ L, x < 4294967296) (hs : sc ≤ 1000000000) (hk : k < L.length) :
    Lp L (A ++ [(n + L[k] * sc) % 4294967296]) sc n0 ((n + L[k] * sc) / 4294967296) (k + 1) := by
  obtain ⟨hx, hb⟩ := h.bound hL hs hk
  refine ⟨by simp [h.len], hk, ?_, ?_, ?_⟩
  · intro x hx
    rcases List.mem_append.1 hx with e | e
    · exact h.lt x e
    · simp at e; subst e; exact Nat.mod_lt _ (by decide)
  · have := h.small; omega
  · rw [vl_snoc, h.len, Nat.pow_succ, List.take_succ_eq_append_getElem hk, vl_snoc, List.length_take, Nat.min_eq_left (by omega)]
    have h1 := h.eq
    have h2 := Nat.mod_add_div (n + L[k] * sc) 4294967296
    obtain ⟨y, hy⟩ : ∃ y, n + L[k] * sc = y := ⟨_, rfl⟩
    rw [hy] at h2 ⊢
    obtain ⟨P, hP⟩ : ∃ P, 4294967296 ^ k = P := ⟨_, rfl⟩
    rw [hP] at h1 ⊢
    have e1 : y / 4294967296 * (P * 4294967296) = 4294967296 * (y / 4294967296) * P := by rw [Nat.mul_comm P, ← Nat.mul_assoc, Nat.mul_comm (y / 4294967296)]
    rw [e1, Nat.add_assoc, ← Nat.add_mul, h2, ← hy, Nat.add_mul, Nat.add_mul, ← Nat.add_assoc, h1, Nat.mul_right_comm]
    omega
theorem Lp.done {L A : List Nat} {sc n0 n v v2 : Nat} (h : Lp L A sc n0 n L.length) (hl : Lm L v) (hs : 1 ≤ sc) (hv : v2 = v * sc + n0) : (n = 0 → Lm A v2) ∧ (n ≠ 0 → Lm (A ++ [n]) v2) := by
  have h1 := h.eq
  rw [List.take_length, hl.eq, ← hv] at h1
  have hle : v ≤ v2 := by rw [hv]; have := Nat.mul_le_mul_left v hs; omega
  refine ⟨fun e => ⟨h.lt, ?_, ?_⟩, fun e => ⟨?_, .inr ?_, ?_⟩⟩
  · rcases hl.top with e2 | e2
    · subst e2; left; exact List.eq_nil_of_length_eq_zero (by rw [h.len]; rfl)
    · right; rw [h.len]; omega
  · rw [e] at h1; omega
  · intro x hx
    rcases List.mem_append.1 hx with e2 | e2
    · exact h.lt x e2
    · simp at e2; subst e2; exact h.small
  · rw [List.length_append, List.length_singleton, Nat.add_sub_cancel, h.len]
    have := Nat.le_mul_of_pos_left (4294967296 ^ L.length) (show 0 < n by omega)
    omega
  · rw [vl_snoc, h.len]; exact h1
/-- digits of c: the first i of m -/
def pre (c m i : Nat) : Nat := c / 10 ^ (m - i)
theorem pre_step (c : Nat) {m i : Nat} (h : i < m) : pre c m (i + 1) = pre c m i * 10 + c / 10 ^ (m - 1 - i) % 10 := by
  unfold pre; rw [V_step c h]; omega
theorem pre_le (c m i : Nat) : pre c m i ≤ c := Nat.div_le_self _ _
theorem pre_zero {c m : Nat} (h : c < 10 ^ m) : pre c m 0 = 0 := by unfold pre; rw [Nat.sub_zero]; exact Nat.div_eq_of_lt h
theorem pre_all (c m : Nat) : pre c m m = c := by unfold pre; simp
/-- a chunk: digits i0 .. i -/
structure Ck (c m i0 i n sc : Nat) : Prop where
  i0i : i0 ≤ i
  im : i ≤ m
  le9 : i ≤ i0 + 9
  ten : sc = 10 ^ (i - i0)
  lt : n < sc
  eq : pre c m i = pre c m i0 * sc + n
theorem Ck.start (c : Nat) {m i0 : Nat} (h : i0 ≤ m) : Ck c m i0 i0 0 1 := ⟨Nat.le_refl _, h, by omega, by simp, by decide, by simp⟩
theorem Ck.sc_le {c m i0 i n sc : Nat} (h : Ck c m i0 i n sc) : sc ≤ 1000000000 ∧ 1 ≤ sc ∧ (sc < 1000000000 ↔ i < i0 + 9) := by
  have h9 := h.le9
  have hi := h.i0i
  obtain ⟨d, hd⟩ : ∃ d, i - i0 = d := ⟨_, rfl⟩
  have hs := h.ten
  rw [hd] at hs
  have hd9 : d ≤ 9 := by omega
  subst hs
  have : i < i0 + 9 ↔ d < 9 := by omega
  rw [this]
  have : ∀ d, d ≤ 9 → 10 ^ d ≤ 1000000000 ∧ 1 ≤ 10 ^ d ∧ (10 ^ d < 1000000000 ↔ d < 9) := by decide
  exact this d hd9
theorem Ck.step {c m i0 i n sc : Nat} (h : Ck c m i0 i n sc) (hi : i < m) (h9 : i < i0 + 9) : Ck c m i0 (i + 1) (n * 10 + c / 10 ^ (m - 1 - i) % 10) (sc * 10) := by
  have h0 := h.i0i
  refine ⟨by omega, hi, by omega, ?_, ?_, ?_⟩
  · rw [h.ten, show i + 1 - i0 = (i - i0) + 1 by omega, Nat.pow_succ]
  · have := h.lt; have := Nat.mod_lt (c / 10 ^ (m - 1 - i)) (show 0 < 10 by decide); omega
  · rw [pre_step c hi, h.eq, Nat.add_mul, Nat.mul_assoc]; omega
end Go.Proofs.YtndphemomhcjlaaGreatDoor
