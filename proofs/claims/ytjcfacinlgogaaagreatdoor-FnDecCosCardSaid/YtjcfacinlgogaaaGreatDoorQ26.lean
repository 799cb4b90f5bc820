/- Small laws on worlds that grow. The text of a decimal. No condition. Numbers in limbs of 32 bits, digit by digit. Plain numbers. A whole number out of its text. Conditions: at most nineteen digits of worth. -/
import Ieee.Arith
import Derived.OwnWalk
import Derived.Lib.SlBytesRow
import Derived.Laws.AppendOwn
import Derived.Test.YtjcfacinlgogaaaGreatDoorQ08
import Derived.Test.YtjcfacinlgogaaaGreatDoorQ10
import Derived.Test.YtjcfacinlgogaaaGreatDoorQ11
import Derived.Test.YtjcfacinlgogaaaGreatDoorQ15
set_option linter.all false
namespace Go.Proofs.YtjcfacinlgogaaaGreatDoor
open Go.RowKit
theorem grown_new (w : World) (o : Obj) : w.grownBy (w.alloc o) none := World.grownBy_alloc w o none
theorem grown_drew (w : World) : w.grownBy w.drew none := ⟨rfl, rfl, rfl, Nat.le_refl _, fun _ _ _ => rfl⟩
theorem keepb {w w' : World} {b : Nat} {o : Obj} (g : w.grownBy w' none) (h : w.heap[b]? = some o) : w'.heap[b]? = some o := kpb g h
theorem keepc {w w' : World} {a : Addr} {v : Value} (g : w.grownBy w' none) (h : w.cell? a = some v) : w'.cell? a = some v := kpc g h
theorem gset {w w2 : World} {b : Nat} (hb : w.heap.size ≤ b) (o : Nat) (v : Value) (h : w.grownBy w2 none) : w.grownBy (w2.setCell ⟨b, o, none⟩ v) none := Grown2.new h (grown_set2 (grown_refl w2 none) o v) hb
theorem add_none (b o j : Nat) : (⟨b, o, none⟩ : Addr).add j = ⟨b, o + j, none⟩ := by unfold Addr.add; split <;> simp_all
theorem cell_new1 (w : World) (v : Value) (T : TypeId) : (w.alloc (.cells #[v] T)).cell? ⟨w.heap.size, 0, none⟩ = some v := by
  unfold World.cell?; rw [heap_new]; rfl
end Go.Proofs.YtjcfacinlgogaaaGreatDoor
namespace Go.Proofs.YtjcfacinlgogaaaGreatDoor
open Go.RowKit
def sgn (neg : Bool) : Nat := if neg then 1 else 0
def pnt (k : Nat) : Nat := if k = 0 then 0 else 1
def dgs (m k j : Nat) : Nat := if k ≠ 0 ∧ m - k < j then j - 1 else j
def tb (c m k j : Nat) : Nat := if k ≠ 0 ∧ j = m - k then 46 else 48 + c / 10 ^ (m - 1 - dgs m k j) % 10
structure IsTxt (s : ByteArray) (neg : Bool) (c k m : Nat) : Prop where
  size : s.size = sgn neg + m + pnt k
  sign : ∀ h : 0 < s.size, neg = true → (s[0]'h).toNat = 45
  byte : ∀ i (h : i < s.size), sgn neg ≤ i → (s[i]'h).toNat = tb c m k (i - sgn neg)
  km : k < m
  m20 : m ≤ 20
  cm : c < 10 ^ m
theorem V_step (c : Nat) {m d : Nat} (h : d < m) : c / 10 ^ (m - (d + 1)) = 10 * (c / 10 ^ (m - d)) + c / 10 ^ (m - 1 - d) % 10 := by
  obtain ⟨e, he⟩ : ∃ e, m - 1 - d = e := ⟨_, rfl⟩
  rw [show m - (d + 1) = e by omega, show m - d = e + 1 by omega, he, Nat.pow_succ, ← Nat.div_div_eq_div_mul]
  omega
def ND (V n : Nat) : Prop := V < 10 ^ n ∧ (n = 0 ∨ 10 ^ (n - 1) ≤ V)
theorem ND.zero : ND 0 0 := ⟨by decide, .inl rfl⟩
theorem ND.zero_iff {V n : Nat} (h : ND V n) : n = 0 ↔ V = 0 := by
  constructor
  · intro e; subst e; have := h.1; simp at this; exact this
  · intro e; subst e
    rcases h.2 with h | h
    · exact h
    · have : 0 < 10 ^ (n - 1) := Nat.pow_pos (by decide)
      omega
theorem ND.step {V n d : Nat} (h : ND V n) (hd : d < 10) (h0 : ¬ (d = 0 ∧ n = 0)) : ND (10 * V + d) (n + 1) := by
  refine ⟨?_, .inr ?_⟩
  · have := h.1; rw [Nat.pow_succ]; omega
  · rw [Nat.add_sub_cancel]
    rcases h.2 with e | e
    · subst e
      have := h.1
      simp at this ⊢; omega
    · by_cases hn : n = 0
      · subst hn; simp; have := h.1; simp at this; omega
      · rw [show n = (n - 1) + 1 by omega, Nat.pow_succ]; omega
theorem ND.lt {V n c : Nat} (h : ND V n) (h1 : V ≤ c) (h2 : c < 10000000000000000000) : n ≤ 19 := by
  rcases h.2 with e | e
  · omega
  · have h3 : 10 ^ (n - 1) < 10 ^ 19 := by
      have : (10 : Nat) ^ 19 = 10000000000000000000 := by decide
      omega
    have := (Nat.pow_lt_pow_iff_right (by decide : 1 < 10)).1 h3
    omega
structure RdAt (c k m j nd : Nat) (dp : Int) : Prop where
  isnd : ND (c / 10 ^ (m - dgs m k j)) nd
  isdp : if k ≠ 0 ∧ m - k < j then dp - nd = -((dgs m k j - (m - k) : Nat) : Int) else dp = (nd : Int) - (j : Int)
theorem RdAt.start {c k m : Nat} (h : c < 10 ^ m) : RdAt c k m 0 0 0 := by
  have e : dgs m k 0 = 0 := by unfold dgs; split <;> rfl
  refine ⟨?_, ?_⟩
  · rw [e, Nat.sub_zero, Nat.div_eq_of_lt h]; exact ND.zero
  · rw [if_neg (by omega)]; rfl
theorem RdAt.point {c k m nd : Nat} {dp : Int} (h : RdAt c k m (m - k) nd dp) (hk : k ≠ 0) : RdAt c k m (m - k + 1) nd nd := by
  have e : dgs m k (m - k + 1) = m - k := by unfold dgs; rw [if_pos ⟨hk, by omega⟩]; rfl
  have e2 : dgs m k (m - k) = m - k := by unfold dgs; rw [if_neg (by omega)]
  refine ⟨?_, ?_⟩
  · rw [e]; have := h.isnd; rw [e2] at this; exact this
  · rw [if_pos ⟨hk, by omega⟩, e]; simp
theorem dgs_succ {m k j : Nat} (h : ¬ (k ≠ 0 ∧ j = m - k)) : dgs m k (j + 1) = dgs m k j + 1 := by
  unfold dgs; split <;> split <;> omega
theorem dgs_lt {m k j : Nat} (hj : j < m + pnt k) (h : ¬ (k ≠ 0 ∧ j = m - k)) (hkm : k < m) : dgs m k j < m := by
  unfold dgs pnt at *; split <;> (try split at hj) <;> omega
theorem RdAt.digit {c k m j nd : Nat} {dp : Int} (h : RdAt c k m j nd dp) (hj : j < m + pnt k) (hp : ¬ (k ≠ 0 ∧ j = m - k)) (hkm : k < m) :
    c / 10 ^ (m - dgs m k (j + 1)) = 10 * (c / 10 ^ (m - dgs m k j)) + c / 10 ^ (m - 1 - dgs m k j) % 10 ∧
    (c / 10 ^ (m - 1 - dgs m k j) % 10 = 0 → nd = 0 → RdAt c k m (j + 1) nd (dp - 1)) ∧
    (¬ (c / 10 ^ (m - 1 - dgs m k j) % 10 = 0 ∧ nd = 0) → RdAt c k m (j + 1) (nd + 1) dp) := by
  have e := dgs_succ hp
  have hl := dgs_lt hj hp hkm
  have hv := V_step c hl
  rw [← e] at hv
  have hdp := h.isdp
  have hcond : (k ≠ 0 ∧ m - k < j + 1) ↔ (k ≠ 0 ∧ m - k < j) := by omega
  refine ⟨hv, fun h1 h2 => ⟨?_, ?_⟩, fun h1 => ⟨?_, ?_⟩⟩
  · rw [hv, h1]
    have h3 := h.isnd
    rw [h2] at h3 ⊢
    rw [(h3.zero_iff).1 rfl]; exact ND.zero
  · rw [e]
    by_cases hc : k ≠ 0 ∧ m - k < j
    · rw [if_pos hc] at hdp
      rw [if_pos (hcond.2 hc)]
      have : m - k ≤ dgs m k j := by unfold dgs; rw [if_pos hc]; omega
      omega
    · rw [if_neg hc] at hdp
      rw [if_neg (fun x => hc (hcond.1 x))]
      omega
  · rw [hv]; exact h.isnd.step (Nat.mod_lt _ (by decide)) h1
  · rw [e]
    by_cases hc : k ≠ 0 ∧ m - k < j
    · rw [if_pos hc] at hdp
      rw [if_pos (hcond.2 hc)]
      have : m - k ≤ dgs m k j := by unfold dgs; rw [if_pos hc]; omega
      omega
    · rw [if_neg hc] at hdp
      rw [if_neg (fun x => hc (hcond.1 x))]
      omega
theorem RdAt.done {c k m nd : Nat} {dp : Int} (h : RdAt c k m (m + pnt k) nd dp) (hkm : k < m) : c / 10 ^ (m - dgs m k (m + pnt k)) = c ∧ ND c nd ∧ (k ≠ 0 → dp - nd = -(k : Int)) := by
  have e : dgs m k (m + pnt k) = m := by unfold dgs pnt; split <;> split <;> omega
  have h1 := h.isnd
  have h2 := h.isdp
  rw [e, Nat.sub_self, Nat.pow_zero, Nat.div_one] at h1
  refine ⟨by rw [e, Nat.sub_self, Nat.pow_zero, Nat.div_one], h1, fun hk => ?_⟩
  rw [if_pos ⟨hk, by unfold pnt; rw [if_neg hk]; omega⟩, e] at h2
  rw [h2]; omega
end Go.Proofs.YtjcfacinlgogaaaGreatDoor
namespace Go.Proofs.YtjcfacinlgogaaaGreatDoor
open Go.RowKit
def vl : List Nat → Nat
  | [] => 0
  | x :: l => x + 4294967296 * vl l
theorem vl_snoc (A : List Nat) (z : Nat) : vl (A ++ [z]) = vl A + z * 4294967296 ^ A.length := by
  induction A with
  | nil => simp [vl]
  | cons a A ih => simp only [List.cons_append, vl, ih, List.length_cons, Nat.pow_succ, Nat.mul_add]; rw [Nat.add_assoc, Nat.mul_left_comm, Nat.mul_comm (4294967296 ^ A.length)]
structure Lm (L : List Nat) (v : Nat) : Prop where
  lt : ∀ x ∈ L, x < 4294967296
  top : L = [] ∨ 4294967296 ^ (L.length - 1) ≤ v
  eq : vl L = v
theorem Lm.nil : Lm [] 0 := ⟨by simp, .inl rfl, rfl⟩
theorem Lm.short {L : List Nat} {v : Nat} (h : Lm L v) (hv : v < 18446744073709551616) : L.length ≤ 2 := by
  rcases h.top with e | e
  · subst e; simp
  · have h2 : 4294967296 ^ (L.length - 1) < 4294967296 ^ 2 := by
      have : (4294967296 : Nat) ^ 2 = 18446744073709551616 := by decide
      omega
    have := (Nat.pow_lt_pow_iff_right (by decide : 1 < 4294967296)).1 h2
    omega
structure Lp (L A : List Nat) (sc n0 n k : Nat) : Prop where
  len : A.length = k
  kl : k ≤ L.length
  lt : ∀ x ∈ A, x < 4294967296
  small : n < 4294967296
  eq : vl A + n * 4294967296 ^ k = vl (L.take k) * sc + n0
theorem Lp.start (L : List Nat) {sc n0 : Nat} (h : n0 < 4294967296) : Lp L [] sc n0 n0 0 := ⟨rfl, Nat.zero_le _, by simp, h, by simp [vl]⟩
theorem Lp.bound {L A : List Nat} {sc n0 n k : Nat} (h : Lp L A sc n0 n k) (hL : ∀ x ∈ L, x < 4294967296) (hs : sc ≤ 1000000000) (hk : k < L.length) : L[k] < 4294967296 ∧ L[k] * sc ≤ 4294967295000000000 := by
  have hx : L[k] < 4294967296 := hL _ (List.getElem_mem hk)
  refine ⟨hx, ?_⟩
  calc L[k] * sc ≤ 4294967295 * 1000000000 := Nat.mul_le_mul (by omega) hs
    _ ≤ _ := by decide
theorem Lp.step {L A : List Nat} {sc n0 n k : Nat} (h : Lp L A sc n0 n k) (hL : ∀ x ∈ L, x < 4294967296) (hs : sc ≤ 1000000000) (hk : k < L.length) :
    Lp L (A ++ [(n + L[k] * sc) % 4294967296]) sc n0 ((n + L[k] * sc) / 4294967296) (k + 1) := by
  obtain ⟨hx, hb⟩ := h.bound hL hs hk
  refine ⟨by simp [h.len], hk, ?_, ?_, ?_⟩
  · intro x hx
    rcases List.mem_append.1 hx with e | e
    · exact h.lt x e
    · simp at e; subst e; exact Nat.mod_lt _ (by decide)
  · have := h.small; omega
  · rw [vl_snoc, h.len, Nat.pow_succ, List.take_succ_eq_append_getElem hk, vl_snoc, List.length_take, Nat.min_eq_left (by omega)]
    have h1 := h.eq
    have h2 := Nat.mod_add_div (n + L[k] * sc) 4294967296
    obtain ⟨y, hy⟩ : ∃ y, n + L[k] * sc = y := ⟨_, rfl⟩
    rw [hy] at h2 ⊢
    obtain ⟨P, hP⟩ : ∃ P, 4294967296 ^ k = P := ⟨_, rfl⟩
    rw [hP] at h1 ⊢
    have e1 : y / 4294967296 * (P * 4294967296) = 4294967296 * (y / 4294967296) * P := by rw [Nat.mul_comm P, ← Nat.mul_assoc, Nat.mul_comm (y / 4294967296)]
    rw [e1, Nat.add_assoc, ← Nat.add_mul, h2, ← hy, Nat.add_mul, Nat.add_mul, ← Nat.add_assoc, h1, Nat.mul_right_comm]
    omega
theorem Lp.done {L A : List Nat} {sc n0 n v v2 : Nat} (h : Lp L A sc n0 n L.length) (hl : Lm L v) (hs : 1 ≤ sc) (hv : v2 = v * sc + n0) : (n = 0 → Lm A v2) ∧ (n ≠ 0 → Lm (A ++ [n]) v2) := by
  have h1 := h.eq
  rw [List.take_length, hl.eq, ← hv] at h1
  have hle : v ≤ v2 := by rw [hv]; have := Nat.mul_le_mul_left v hs; omega
  refine ⟨fun e => ⟨h.lt, ?_, ?_⟩, fun e => ⟨?_, .inr ?_, ?_⟩⟩
  · rcases hl.top with e2 | e2
    · subst e2; left; exact List.eq_nil_of_length_eq_zero (by rw [h.len]; rfl)
    · right; rw [h.len]; omega
  · rw [e] at h1; omega
  · intro x hx
    rcases List.mem_append.1 hx with e2 | e2
    · exact h.lt x e2
    · simp at e2; subst e2; exact h.small
  · rw [List.length_append, List.length_singleton, Nat.add_sub_cancel, h.len]
    have := Nat.le_mul_of_pos_left (4294967296 ^ L.length) (show 0 < n by omega)
    omega
  · rw [vl_snoc, h.len]; exact h1
def pre (c m i : Nat) : Nat := c / 10 ^ (m - i)
theorem pre_step (c : Nat) {m i : Nat} (h : i < m) : pre c m (i + 1) = pre c m i * 10 + c / 10 ^ (m - 1 - i) % 10 := by
  unfold pre; rw [V_step c h]; omega
theorem pre_le (c m i : Nat) : pre c m i ≤ c := Nat.div_le_self _ _
theorem pre_zero {c m : Nat} (h : c < 10 ^ m) : pre c m 0 = 0 := by unfold pre; rw [Nat.sub_zero]; exact Nat.div_eq_of_lt h
theorem pre_all (c m : Nat) : pre c m m = c := by unfold pre; simp
structure Ck (c m i0 i n sc : Nat) : Prop where
  i0i : i0 ≤ i
  im : i ≤ m
  le9 : i ≤ i0 + 9
  ten : sc = 10 ^ (i - i0)
  lt : n < sc
  eq : pre c m i = pre c m i0 * sc + n
theorem Ck.start (c : Nat) {m i0 : Nat} (h : i0 ≤ m) : Ck c m i0 i0 0 1 := ⟨Nat.le_refl _, h, by omega, by simp, by decide, by simp⟩
theorem Ck.sc_le {c m i0 i n sc : Nat} (h : Ck c m i0 i n sc) : sc ≤ 1000000000 ∧ 1 ≤ sc ∧ (sc < 1000000000 ↔ i < i0 + 9) := by
  have h9 := h.le9
  have hi := h.i0i
  obtain ⟨d, hd⟩ : ∃ d, i - i0 = d := ⟨_, rfl⟩
  have hs := h.ten
  rw [hd] at hs
  have hd9 : d ≤ 9 := by omega
  subst hs
  have : i < i0 + 9 ↔ d < 9 := by omega
  rw [this]
  have : ∀ d, d ≤ 9 → 10 ^ d ≤ 1000000000 ∧ 1 ≤ 10 ^ d ∧ (10 ^ d < 1000000000 ↔ d < 9) := by decide
  exact this d hd9
theorem Ck.step {c m i0 i n sc : Nat} (h : Ck c m i0 i n sc) (hi : i < m) (h9 : i < i0 + 9) : Ck c m i0 (i + 1) (n * 10 + c / 10 ^ (m - 1 - i) % 10) (sc * 10) := by
  have h0 := h.i0i
  refine ⟨by omega, hi, by omega, ?_, ?_, ?_⟩
  · rw [h.ten, show i + 1 - i0 = (i - i0) + 1 by omega, Nat.pow_succ]
  · have := h.lt; have := Nat.mod_lt (c / 10 ^ (m - 1 - i)) (show 0 < 10 by decide); omega
  · rw [pre_step c hi, h.eq, Nat.add_mul, Nat.mul_assoc]; omega
end Go.Proofs.YtjcfacinlgogaaaGreatDoor
namespace Go.Proofs.YtjcfacinlgogaaaGreatDoor
open Go.RowKit
structure IsDig (s : ByteArray) (c m : Nat) : Prop where
  size : s.size = m
  byte : ∀ i (h : i < s.size), (s[i]'h).toNat = 48 + c / 10 ^ (m - 1 - i) % 10
  m0 : 0 < m
  m20 : m ≤ 20
  cm : c < 10 ^ m
  nd : (c = 0 ∧ m = 1) ∨ 10 ^ (m - 1) ≤ c
theorem IsDig.first {s : ByteArray} {c m : Nat} (h : IsDig s c m) (hc : c ≠ 0) : ∀ h0 : 0 < s.size, ((s[0]'h0).toNat : Int) ≠ 48 := by
  intro h0
  rw [h.byte 0 h0, Nat.sub_zero]
  have h1 := h.nd.resolve_left (fun e => hc e.1)
  have h2 : 0 < c / 10 ^ (m - 1) := Nat.div_pos h1 (Nat.pow_pos (by decide))
  have h3 : c / 10 ^ (m - 1) < 10 := by
    rw [Nat.div_lt_iff_lt_mul (Nat.pow_pos (by decide)), ← Nat.pow_succ', show (m - 1).succ = m by have := h.m0; omega]; exact h.cm
  omega
theorem dig_pos {s : ByteArray} {c m : Nat} (h : IsTxt s false c 0 m) (hn : (c = 0 ∧ m = 1) ∨ 10 ^ (m - 1) ≤ c) : IsDig s c m := by
  have hz : s.size = m := by have := h.size; simp [sgn, pnt] at this; exact this
  refine ⟨hz, fun i hi => ?_, h.km, h.m20, h.cm, hn⟩
  rw [h.byte i hi (Nat.zero_le _)]
  show tb c m 0 i = _
  unfold tb dgs
  rw [if_neg (by omega), if_neg (by omega)]
theorem dig_neg {s : ByteArray} {c m : Nat} (h : IsTxt s true c 0 m) (hn : (c = 0 ∧ m = 1) ∨ 10 ^ (m - 1) ≤ c) : IsDig (s.extract 1 s.size) c m := by
  have hz : s.size = 1 + m := by have := h.size; simp [sgn, pnt] at this; omega
  have hz2 : (s.extract 1 s.size).size = m := by rw [ByteArray.size_extract]; omega
  refine ⟨hz2, fun i hi => ?_, h.km, h.m20, h.cm, hn⟩
  rw [ByteArray.getElem_extract, h.byte (1 + i) (by omega) (by show 1 ≤ _; omega)]
  show tb c m 0 (1 + i - 1) = _
  rw [Nat.add_sub_cancel_left]
  unfold tb dgs
  rw [if_neg (by omega), if_neg (by omega)]
theorem first_neg {s : ByteArray} {neg : Bool} {c m : Nat} (h : IsTxt s neg c 0 m) (h0 : 0 < s.size) : (((s[0]'h0).toNat : Int) == 45) = neg := by
  cases neg with
  | true => rw [h.sign h0 rfl]; rfl
  | false =>
    have e := h.byte 0 h0 (Nat.zero_le _)
    have h1 : (s[0]'h0).toNat = tb c m 0 0 := e
    unfold tb at h1
    rw [if_neg (by omega)] at h1
    simp; omega
def limV (L : List Nat) : List Value := L.map fun (x : Nat) => Value.int .u64 (x : Int)
theorem und84 : Tryz.prog.underlying 101 = some (.slice 70) := by kernel_rfl
theorem inf22 : (Tryz.prog.info? 70).map (fun i => (i.zero, i.size, i.bytes)) = some (some (.int .u64 0), 1, 8) := by kernel_rfl
theorem _root_.Go.World.ownsRow.slice {w : World} {base size n : Nat} {e : TypeId} {v : Value} {xs : List Value} (h : w.ownsRow base e size v n xs) : ∃ a cap, v = .slice a n cap ∧ ((a = none ∧ n = 0) ∨ ∃ g, a = some ⟨g, 0, none⟩ ∧ base ≤ g) := by
  rcases h.2 with ⟨rfl, rfl⟩ | ⟨g, cap, cur, rfl, hb, _⟩
  · exact ⟨none, 0, rfl, .inl ⟨rfl, rfl⟩⟩
  · exact ⟨_, cap, rfl, .inr ⟨g, rfl, hb⟩⟩
theorem limV_mid {L A : List Nat} {k : Nat} (hA : A.length = k) (hk : k < L.length) : (limV (A ++ L.drop k))[k]? = some (.int .u64 (L[k] : Int)) := by
  unfold limV
  rw [List.getElem?_map, List.getElem?_append_right (by omega), hA, Nat.sub_self, List.getElem?_drop, Nat.add_zero, List.getElem?_eq_getElem hk]; rfl
theorem limV_set {L A : List Nat} {k z : Nat} (hA : A.length = k) (hk : k < L.length) : (limV (A ++ L.drop k)).set k (.int .u64 (z : Int)) = limV (A ++ [z] ++ L.drop (k + 1)) := by
  unfold limV
  rw [List.drop_eq_getElem_cons hk]
  subst hA
  simp only [List.map_append, List.map_cons, List.map_nil, List.append_assoc, List.cons_append, List.nil_append]
  rw [List.set_append_right _ _ (by simp)]
  simp only [List.length_map, Nat.sub_self, List.set_cons_zero]
theorem limV_app (A : List Nat) (n : Nat) : limV (A ++ [n]) = limV A ++ [.int .u64 (n : Int)] := by unfold limV; rw [List.map_append]; rfl
theorem grown_ownb {w w1 w2 : World} {o : Option Nat} (h : w.grownBy w1 none) (k : w1.grownBy w2 o) (hv : ∀ b, o = some b → w.heap.size ≤ b) : w.grownBy w2 none := by
  cases o with
  | none => exact grown_trans h k
  | some b => exact grown_own h k (.inr (hv b rfl))
theorem isNat_any (v : Value) : v.ownBlock = none ∨ v.ownBlock ≠ none := by cases v.ownBlock <;> simp
theorem box_flip {w : World} {b : Nat} {v : Value} {n m : Int} {x : Bool} (h : IntBox w b v n) (q : Nat) (hm : m.natAbs = n.natAbs) (hx : x = decide (m < 0)) : IntC ((w.drewN q).setCell ⟨b, 0, none⟩ (.bool x)) b 0 v m := by
  refine IntBox.c ⟨?_, ?_⟩
  · rw [← hx]; exact set_ibox0 (w := w.drewN q) h.here x
  · obtain ⟨l, h1, h2, h3, h4, h5⟩ := h.nat
    exact ⟨l, (h1.draw q).set (isNat_ibox h.here h1) 0 _, h2, h3, by rw [hm]; exact h4, h5⟩
def WhRes (w : World) (n : Int) (e : Ending) (w' : World) : Prop :=
  ∃ bz v, e = .returned (.tuple #[.pointer (some ⟨bz, 0, none⟩), .bool true]) ∧ IntC w' bz 0 v n ∧ w.grownBy w' none
theorem info87 : (Tryz.prog.info? 104).map (fun i => (i.zero, i.size, i.bytes)) = some (some (.int .u64 0), 1, 8) := by kernel_rfl
theorem words_new (w : World) (n c : Nat) : Obj.cells ([Value.int .u64 (n : Int)].toArray ++ Builtin.zeroCells (Value.int .u64 0).cells c) 104 = blk ((n : Int) :: zeros c) := by
  unfold blk
  congr 1
  apply Array.ext'
  simp only [Builtin.zeroCells, zeros, Value.cells]
  apply List.ext_getElem?
  intro j
  cases j with
  | zero => simp
  | succ j =>
    by_cases h : j < c
    · simp [h, Nat.mod_one]
    · simp [h]
theorem wpList_append_nil1 {ops : Array Oper} {rest : List Oper} {o : Oper} {a : Act} {Q : Exit → Act → World → Prop} {w : World} (hgd : o.guard = none) (s x : Operand)
    (ho : o.op = .call { callee := .builtin .append, args := #[s, x], argTypes := #[103, 103] }) (hs : a.eval s = .slice none 0 0) (b : Nat) (n : Nat) (hx : a.eval x = .slice (some ⟨b, 0, none⟩) 1 1) (hc : w.cell? ⟨b, 0, none⟩ = some (.int .u64 (n : Int)))
    (h : ∀ (M : List Int) w', w'.heap[w.heap.size]? = some (blk ((n : Int) :: M)) → 1 + M.length ≤ 9223372036854775807 → w.grownBy w' none → wpList Tryz.prog ops Q rest (a.put o.dst (.slice (some ⟨w.heap.size, 0, none⟩) 1 (1 + M.length))) w') : wpList Tryz.prog ops Q (o :: rest) a w := by
  obtain ⟨i, hi, hz0, hz1, hz2⟩ := info_parts info87
  have hcc : ∀ j u, [Value.int .u64 (n : Int)][j]? = some u → w.cell? ((⟨b, 0, none⟩ : Addr).add j) = some u := by
    intro j u hu
    cases j with
    | zero => simp at hu; subst hu; rw [add_none]; exact hc
    | succ j => simp at hu
  have hr := run_append_nil (P := Tryz.prog) w 103 o.type 104 i (.int .u64 0) und86 hi hz0 ⟨b, 0, none⟩ 1 1 [.int .u64 (n : Int)] (by simp [hz1]) hcc (by omega) (by omega) (by omega)
  obtain ⟨cap, hcap⟩ : ∃ cap, grownCap w 1 0 104 = cap := ⟨_, rfl⟩
  have h1 : 1 ≤ cap := by rw [← hcap]; exact grownCap_ge _ _ _ _
  have h2 : cap ≤ 9223372036854775807 := by rw [← hcap]; exact grownCap_le_maxLen _ _ _ _ (by simp [maxLen])
  rw [hcap] at hr
  have hk := h (zeros (cap - 1)) (w.drew.alloc (.cells ([Value.int .u64 (n : Int)].toArray ++ Builtin.zeroCells (Value.int .u64 0).cells (cap - 1)) 104)) (by rw [← words_new w n (cap - 1)]; exact heap_alloc_new w.drew _) (by rw [zeros_length]; omega) ⟨rfl, rfl, rfl, by simp, fun k hk _ => heap_alloc_old w.drew _ hk⟩
  rw [zeros_length, show 1 + (cap - 1) = cap by omega] at hk
  refine wpList_plain hgd fun K hK => ?_
  unfold Oper.wp execOp
  simp only [ho, resolve, invoke, builtin, Sem.run_bind, Sem.run_pure, Result.andThen_ok, List.map_toArray, List.map_cons, List.map_nil, hs, hx, hr]
  exact hK _ _ hk
theorem frozen_blk' {w : World} {b : Nat} {L : List Int} (h : w.heap[b]? = some (blk L)) (i : Nat) : w.frozen? ⟨b, i, none⟩ = false := by
  unfold World.frozen?; rw [h]; simp [blk]
theorem own_any (v : Value) : v.ownBlock = none ∨ v.ownBlock ≠ none := by cases v.ownBlock <;> simp
def wd (L : List Nat) (j : Nat) : Int := if j = 1 then (L[0]?.getD 0 : Nat) else ((L[0]?.getD 0 + 4294967296 * L[1]?.getD 0 : Nat) : Int)
def WdAt (w wx : World) (L : List Nat) (j : Nat) (s10 : Value) : Prop :=
  (j = 0 ∧ s10 = .slice none 0 0) ∨ (j ≠ 0 ∧ ∃ b cap M, w.heap.size ≤ b ∧ s10 = .slice (some ⟨b, 0, none⟩) 1 cap ∧ wx.heap[b]? = some (blk (wd L j :: M)) ∧ cap = 1 + M.length ∧ cap ≤ 9223372036854775807)
def WhL (w : World) (c m : Nat) (s5 s6 : Value) (wr : World) : Prop :=
  ∃ (L : List Nat) (i : Nat), s6 = .int .i64 i ∧ i ≤ m ∧ Lm L (pre c m i) ∧ wr.ownsRow w.heap.size 70 1 s5 L.length (limV L) ∧ w.grownBy wr none
theorem blk_set0 {w : World} {b : Nat} {x : Int} {M : List Int} (h : w.heap[b]? = some (blk (x :: M))) (z : Int) : (w.setCell ⟨b, 0, none⟩ (.int .u64 z)).drew.heap[b]? = some (blk (z :: M)) := by
  show (w.setCell ⟨b, 0, none⟩ (.int .u64 z)).heap[b]? = _
  simp [World.setCell, Array.getElem?_modify, h, blk]
theorem or_hi {x y : Nat} (hx : x < 4294967296) (hy : y < 4294967296) : bits .or .u64 (x : Int) ((y : Int) * 4294967296) = (x : Int) + 4294967296 * (y : Int) := by
  have e : ((y : Int) * 4294967296) = ((y * 4294967296 : Nat) : Int) := by simp
  rw [e, bits_or_u64_nat x (y * 4294967296) (by omega) (by omega)]
  have h := Nat.two_pow_add_eq_or_of_lt (i := 32) (b := x) (by simpa using hx) y
  have h2 : x ||| (y * 4294967296) = 4294967296 * y + x := by
    rw [Nat.or_comm, Nat.mul_comm]; exact h.symm
  rw [h2]; simp; omega
theorem wd_done {w wx : World} {L : List Nat} {c : Nat} {v : Value} (hL : Lm L c) (h : WdAt w wx L L.length v) (h2 : L.length ≤ 2) (hg : w.grownBy wx none) : ∃ l : List Int, IsNat wx v l ∧ wfL l ∧ l.length ≤ 2 ∧ val l = c ∧ w.grownBy wx none := by
  rcases h with ⟨h0, rfl⟩ | ⟨h0, b, cap, M, hb, rfl, hbk, h3, h4⟩
  · have := List.eq_nil_of_length_eq_zero h0
    subst this
    exact ⟨[], .inl ⟨rfl, rfl⟩, wfL_nil, by simp, by rw [← hL.eq]; rfl, hg⟩
  · refine ⟨[wd L L.length], .inr ⟨b, cap, M, rfl, hbk, h3, h4⟩, ?_, by simp, ?_, hg⟩
    · intro z hz
      simp at hz; subst hz
      match L, hL, h2, h0 with
      | [x], hL, _, _ => have := hL.lt x (by simp); unfold wd; simp; constructor <;> (try unfold B64) <;> omega
      | [x, y], hL, _, _ =>
        have := hL.lt x (by simp)
        have := hL.lt y (by simp)
        unfold wd; simp; constructor <;> (try unfold B64) <;> omega
    · rw [← hL.eq]
      match L, h2, h0 with
      | [x], _, _ => simp [wd, val, vl]
      | [x, y], _, _ => simp [wd, val, vl]
end Go.Proofs.YtjcfacinlgogaaaGreatDoor
