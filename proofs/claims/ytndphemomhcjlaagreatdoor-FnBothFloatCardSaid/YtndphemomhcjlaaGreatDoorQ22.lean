/- A whole number out of its text. Conditions: at most nineteen digits of worth. -/
import Derived.Test.YtndphemomhcjlaaGreatDoorQ21
import Derived.Test.YtndphemomhcjlaaGreatDoorQ20
import Derived.Test.YtndphemomhcjlaaGreatDoorQ11
import Derived.Laws.AppendOwn
import Derived.Deep.CutBlock
import Derived.Deep.CutRange
set_option linter.all false

namespace Go.Proofs.YtndphemomhcjlaaGreatDoor
open Go.RowKit

/-- the digits of c -/
structure IsDig (s : ByteArray) (c m : Nat) : Prop where
  size : s.size = m
  byte : ∀ i (h : i < s.size), (s[i]'h).toNat = 48 + c / 10 ^ (m - 1 - i) % 10
  m0 : 0 < m
  m20 : m ≤ 20
  cm : c < 10 ^ m
  nd : (c = 0 ∧ m = 1) ∨ 10 ^ (m - 1) ≤ c
theorem IsDig.first {s : ByteArray} {c m : Nat} (h : IsDig s c m) (hc : c ≠ 0) : ∀ h0 : 0 < s.size, ((s[0]'h0).toNat : Int) ≠ 48 := by
  intro h0
  rw [h.byte 0 h0, Nat.sub_zero]
  have h1 := h.nd.resolve_left (fun e => hc e.1)
  have h2 : 0 < c / 10 ^ (m - 1) := Nat.div_pos h1 (Nat.pow_pos (by decide))
  have h3 : c / 10 ^ (m - 1) < 10 := by
    rw [Nat.div_lt_iff_lt_mul (Nat.pow_pos (by decide)), ← Nat.pow_succ', show (m - 1).succ = m by have := h.m0; omega]; exact h.cm
  omega
theorem dig_pos {s : ByteArray} {c m : Nat} (h : IsTxt s false c 0 m) (hn : (c = 0 ∧ m = 1) ∨ 10 ^ (m - 1) ≤ c) : IsDig s c m := by
  have hz : s.size = m := by have := h.size; simp [sgn, pnt] at this; exact this
  refine ⟨hz, fun i hi => ?_, h.km, h.m20, h.cm, hn⟩
  rw [h.byte i hi (Nat.zero_le _)]
  show tb c m 0 i = _
  unfold tb dgs
  rw [if_neg (by omega), if_neg (by omega)]
theorem dig_neg {s : ByteArray} {c m : Nat} (h : IsTxt s true c 0 m) (hn : (c = 0 ∧ m = 1) ∨ 10 ^ (m - 1) ≤ c) : IsDig (s.extract 1 s.size) c m := by
  have hz : s.size = 1 + m := by have := h.size; simp [sgn, pnt] at this; omega
  have hz2 : (s.extract 1 s.size).size = m := by rw [ByteArray.size_extract]; omega
  refine ⟨hz2, fun i hi => ?_, h.km, h.m20, h.cm, hn⟩
  rw [ByteArray.getElem_extract, h.byte (1 + i) (by omega) (by show 1 ≤ _; omega)]
  show tb c m 0 (1 + i - 1) = _
  rw [Nat.add_sub_cancel_left]
  unfold tb dgs
  rw [if_neg (by omega), if_neg (by omega)]
theorem first_neg {s : ByteArray} {neg : Bool} {c m : Nat} (h : IsTxt s neg c 0 m) (h0 : 0 < s.size) : (((s[0]'h0).toNat : Int) == 45) = neg := by
  cases neg with
  | true => rw [h.sign h0 rfl]; rfl
  | false =>
    have e := h.byte 0 h0 (Nat.zero_le _)
    have h1 : (s[0]'h0).toNat = tb c m 0 0 := e
    unfold tb at h1
    rw [if_neg (by omega)] at h1
    simp; omega
def limV (L : List Nat) : List Value := L.map fun (x : Nat) => Value.int .u64 (x : Int)
theorem und84 : Tryz.prog.underlying 84 = some (.slice 22) := by kernel_rfl
theorem inf22 : (Tryz.prog.info? 22).map (fun i => (i.zero, i.size, i.bytes)) = some (some (.int .u64 0), 1, 8) := by kernel_rfl

theorem _root_.Go.World.ownsRow.slice {w : World} {base size n : Nat} {e : TypeId} {v : Value} {xs : List Value} (h : w.ownsRow base e size v n xs) : ∃ a cap, v = .slice a n cap ∧ ((a = none ∧ n = 0) ∨ ∃ g, a = some ⟨g, 0, none⟩ ∧ base ≤ g) := by
  rcases h.2 with ⟨rfl, rfl⟩ | ⟨g, cap, cur, rfl, hb, _⟩
  · exact ⟨none, 0, rfl, .inl ⟨rfl, rfl⟩⟩
  · exact ⟨_, cap, rfl, .inr ⟨g, rfl, hb⟩⟩
theorem limV_mid {L A : List Nat} {k : Nat} (hA : A.length = k) (hk : k < L.length) : (limV (A ++ L.drop k))[k]? = some (.int .u64 (L[k] : Int)) := by
  unfold limV
  rw [List.getElem?_map, List.getElem?_append_right (by omega), hA, Nat.sub_self, List.getElem?_drop, Nat.add_zero, List.getElem?_eq_getElem hk]; rfl

theorem limV_set {L A : List Nat} {k z : Nat} (hA : A.length = k) (hk : k < L.length) : (limV (A ++ L.drop k)).set k (.int .u64 (z : Int)) = limV (A ++ [z] ++ L.drop (k + 1)) := by
  unfold limV
  rw [List.drop_eq_getElem_cons hk]
  subst hA
  simp only [List.map_append, List.map_cons, List.map_nil, List.append_assoc, List.cons_append, List.nil_append]
  rw [List.set_append_right _ _ (by simp)]
  simp only [List.length_map, Nat.sub_self, List.set_cons_zero]

theorem limV_app (A : List Nat) (n : Nat) : limV (A ++ [n]) = limV A ++ [.int .u64 (n : Int)] := by unfold limV; rw [List.map_append]; rfl
theorem grown_ownb {w w1 w2 : World} {o : Option Nat} (h : w.grownBy w1 none) (k : w1.grownBy w2 o) (hv : ∀ b, o = some b → w.heap.size ≤ b) : w.grownBy w2 none := by
  cases o with
  | none => exact grown_trans h k
  | some b => exact grown_own h k (.inr (hv b rfl))

theorem isNat_any (v : Value) : v.ownBlock = none ∨ v.ownBlock ≠ none := by cases v.ownBlock <;> simp

theorem box_flip {w : World} {b : Nat} {v : Value} {n m : Int} {x : Bool} (h : IntBox w b v n) (q : Nat) (hm : m.natAbs = n.natAbs) (hx : x = decide (m < 0)) : IntC ((w.drewN q).setCell ⟨b, 0, none⟩ (.bool x)) b 0 v m := by
  refine IntBox.c ⟨?_, ?_⟩
  · rw [← hx]; exact set_ibox0 (w := w.drewN q) h.here x
  · obtain ⟨l, h1, h2, h3, h4, h5⟩ := h.nat
    exact ⟨l, (h1.draw q).set (isNat_ibox h.here h1) 0 _, h2, h3, by rw [hm]; exact h4, h5⟩
def WhRes (w : World) (n : Int) (e : Ending) (w' : World) : Prop :=
  ∃ bz v, e = .returned (.tuple #[.pointer (some ⟨bz, 0, none⟩), .bool true]) ∧ IntC w' bz 0 v n ∧ w.grownBy w' none

theorem info87 : (Tryz.prog.info? 87).map (fun i => (i.zero, i.size, i.bytes)) = some (some (.int .u64 0), 1, 8) := by kernel_rfl
theorem words_new (w : World) (n c : Nat) : Obj.cells ([Value.int .u64 (n : Int)].toArray ++ Builtin.zeroCells (Value.int .u64 0).cells c) 87 = blk ((n : Int) :: zeros c) := by
  unfold blk
  congr 1
  apply Array.ext'
  simp only [Builtin.zeroCells, zeros, Value.cells]
  apply List.ext_getElem?
  intro j
  cases j with
  | zero => simp
  | succ j =>
    by_cases h : j < c
    · simp [h, Nat.mod_one]
    · simp [h]
theorem wpList_append_nil1 {ops : Array Oper} {rest : List Oper} {o : Oper} {a : Act} {Q : Exit → Act → World → Prop} {w : World} (hgd : o.guard = none) (s x : Operand)
    (ho : o.op = .call { callee := .builtin .append, args := #[s, x], argTypes := #[86, 86] }) (hs : a.eval s = .slice none 0 0) (b : Nat) (n : Nat) (hx : a.eval x = .slice (some ⟨b, 0, none⟩) 1 1) (hc : w.cell? ⟨b, 0, none⟩ = some (.int .u64 (n : Int)))
    (h : ∀ (M : List Int) w', w'.heap[w.heap.size]? = some (blk ((n : Int) :: M)) → 1 + M.length ≤ 9223372036854775807 → w.grownBy w' none → wpList Tryz.prog ops Q rest (a.put o.dst (.slice (some ⟨w.heap.size, 0, none⟩) 1 (1 + M.length))) w') : wpList Tryz.prog ops Q (o :: rest) a w := by
  obtain ⟨i, hi, hz0, hz1, hz2⟩ := info_parts info87
  have hcc : ∀ j u, [Value.int .u64 (n : Int)][j]? = some u → w.cell? ((⟨b, 0, none⟩ : Addr).add j) = some u := by
    intro j u hu
    cases j with
    | zero => simp at hu; subst hu; rw [add_none]; exact hc
    | succ j => simp at hu
  have hr := run_append_nil (P := Tryz.prog) w 86 o.type 87 i (.int .u64 0) und86 hi hz0 ⟨b, 0, none⟩ 1 1 [.int .u64 (n : Int)] (by simp [hz1]) hcc (by omega) (by omega) (by omega)
  obtain ⟨cap, hcap⟩ : ∃ cap, grownCap w 1 0 87 = cap := ⟨_, rfl⟩
  have h1 : 1 ≤ cap := by rw [← hcap]; exact grownCap_ge _ _ _ _
  have h2 : cap ≤ 9223372036854775807 := by rw [← hcap]; exact grownCap_le_maxLen _ _ _ _ (by simp [maxLen])
  rw [hcap] at hr
  have hk := h (zeros (cap - 1)) (w.drew.alloc (.cells ([Value.int .u64 (n : Int)].toArray ++ Builtin.zeroCells (Value.int .u64 0).cells (cap - 1)) 87)) (by rw [← words_new w n (cap - 1)]; exact heap_alloc_new w.drew _) (by rw [zeros_length]; omega) ⟨rfl, rfl, rfl, by simp, fun k hk _ => heap_alloc_old w.drew _ hk⟩
  rw [zeros_length, show 1 + (cap - 1) = cap by omega] at hk
  refine wpList_plain hgd fun K hK => ?_
  unfold Oper.wp execOp
  simp only [ho, resolve, invoke, builtin, Sem.run_bind, Sem.run_pure, Result.andThen_ok, List.map_toArray, List.map_cons, List.map_nil, hs, hx, hr]
  exact hK _ _ hk

theorem frozen_blk' {w : World} {b : Nat} {L : List Int} (h : w.heap[b]? = some (blk L)) (i : Nat) : w.frozen? ⟨b, i, none⟩ = false := by
  unfold World.frozen?; rw [h]; simp [blk]
theorem own_any (v : Value) : v.ownBlock = none ∨ v.ownBlock ≠ none := by cases v.ownBlock <;> simp
/-- the words of limbs -/
def wd (L : List Nat) (j : Nat) : Int := if j = 1 then (L[0]?.getD 0 : Nat) else ((L[0]?.getD 0 + 4294967296 * L[1]?.getD 0 : Nat) : Int)
def WdAt (w wx : World) (L : List Nat) (j : Nat) (s10 : Value) : Prop :=
  (j = 0 ∧ s10 = .slice none 0 0) ∨ (j ≠ 0 ∧ ∃ b cap M, w.heap.size ≤ b ∧ s10 = .slice (some ⟨b, 0, none⟩) 1 cap ∧ wx.heap[b]? = some (blk (wd L j :: M)) ∧ cap = 1 + M.length ∧ cap ≤ 9223372036854775807)

/-- the limbs, in the outer loop's slots -/
def WhL (w : World) (c m : Nat) (s5 s6 : Value) (wr : World) : Prop :=
  ∃ (L : List Nat) (i : Nat), s6 = .int .i64 i ∧ i ≤ m ∧ Lm L (pre c m i) ∧ wr.ownsRow w.heap.size 22 1 s5 L.length (limV L) ∧ w.grownBy wr none

theorem blk_set0 {w : World} {b : Nat} {x : Int} {M : List Int} (h : w.heap[b]? = some (blk (x :: M))) (z : Int) : (w.setCell ⟨b, 0, none⟩ (.int .u64 z)).drew.heap[b]? = some (blk (z :: M)) := by
  show (w.setCell ⟨b, 0, none⟩ (.int .u64 z)).heap[b]? = _
  simp [World.setCell, Array.getElem?_modify, h, blk]
theorem or_hi {x y : Nat} (hx : x < 4294967296) (hy : y < 4294967296) : bits .or .u64 (x : Int) ((y : Int) * 4294967296) = (x : Int) + 4294967296 * (y : Int) := by
  have e : ((y : Int) * 4294967296) = ((y * 4294967296 : Nat) : Int) := by simp
  rw [e, bits_or_u64_nat x (y * 4294967296) (by omega) (by omega)]
  have h := Nat.two_pow_add_eq_or_of_lt (i := 32) (b := x) (by simpa using hx) y
  have h2 : x ||| (y * 4294967296) = 4294967296 * y + x := by
    rw [Nat.or_comm, Nat.mul_comm]; exact h.symm
  rw [h2]; simp; omega
theorem wd_done {w wx : World} {L : List Nat} {c : Nat} {v : Value} (hL : Lm L c) (h : WdAt w wx L L.length v) (h2 : L.length ≤ 2) (hg : w.grownBy wx none) : ∃ l : List Int, IsNat wx v l ∧ wfL l ∧ l.length ≤ 2 ∧ val l = c ∧ w.grownBy wx none := by
  rcases h with ⟨h0, rfl⟩ | ⟨h0, b, cap, M, hb, rfl, hbk, h3, h4⟩
  · have := List.eq_nil_of_length_eq_zero h0
    subst this
    exact ⟨[], .inl ⟨rfl, rfl⟩, wfL_nil, by simp, by rw [← hL.eq]; rfl, hg⟩
  · refine ⟨[wd L L.length], .inr ⟨b, cap, M, rfl, hbk, h3, h4⟩, ?_, by simp, ?_, hg⟩
    · intro z hz
      simp at hz; subst hz
      match L, hL, h2, h0 with
      | [x], hL, _, _ => have := hL.lt x (by simp); unfold wd; simp; constructor <;> (try unfold B64) <;> omega
      | [x, y], hL, _, _ =>
        have := hL.lt x (by simp)
        have := hL.lt y (by simp)
        unfold wd; simp; constructor <;> (try unfold B64) <;> omega
    · rw [← hL.eq]
      match L, h2, h0 with
      | [x], _, _ => simp [wd, val, vl]
      | [x, y], _, _ => simp [wd, val, vl]
end Go.Proofs.YtndphemomhcjlaaGreatDoor
