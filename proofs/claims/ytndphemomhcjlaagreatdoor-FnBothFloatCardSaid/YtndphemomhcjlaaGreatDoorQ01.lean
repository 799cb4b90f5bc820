/- Words, lists of words and their worth; a block of words in memory; a world in which one block of words is written. No condition. -/
import Derived.Test.YtndphemomhcjlaaGreatDoorProg
import Derived.WalkKit
import Derived.WalkLawsBesides
import Derived.WalkSpells
import Derived.Lib.Hide
import Derived.Outline
import Derived.LoopTactic
import Derived.Laws.Externs
import Derived.Shelf.Spec.BitsCarry
import Derived.Deep.QuietTactic
import Derived.BigQuiet
import Derived.Deep.LoopGhost
set_option linter.all false

namespace Go.Proofs.YtndphemomhcjlaaGreatDoor
open Go.RowKit

def B64 : Int := 18446744073709551616
def U64 (x : Int) : Prop := 0 ≤ x ∧ x < B64
def Bit (x : Int) : Prop := 0 ≤ x ∧ x ≤ 1
/-- the sum's low word, its carry; the difference's word, its borrow; the product's words -/
def alo (x y c : Int) : Int := (x + y + c) % B64
def ahi (x y c : Int) : Int := (x + y + c) / B64
def slo (x y c : Int) : Int := (x - y - c) % B64
def shi (x y c : Int) : Int := if x < y + c then 1 else 0
def mlo (x y : Int) : Int := x * y % B64
def mhi (x y : Int) : Int := x * y / B64
theorem B64_pos : (0 : Int) < B64 := by unfold B64; omega
theorem alo_u (x y c : Int) : U64 (alo x y c) := by unfold U64 alo B64; omega
theorem slo_u (x y c : Int) : U64 (slo x y c) := by unfold U64 slo B64; omega
theorem mlo_u (x y : Int) : U64 (mlo x y) := ⟨Int.emod_nonneg _ (by decide), Int.emod_lt_of_pos _ (by decide)⟩
theorem ahi_b {x y c : Int} (hx : U64 x) (hy : U64 y) (hc : Bit c) : Bit (ahi x y c) := by unfold U64 Bit ahi B64 at *; omega
theorem shi_b (x y c : Int) : Bit (shi x y c) := by unfold Bit shi; split <;> omega
theorem bit_u {c : Int} (h : Bit c) : U64 c := by unfold Bit U64 B64 at *; omega
theorem bit0 : Bit 0 := by unfold Bit; omega
theorem bit1 : Bit 1 := by unfold Bit; omega
theorem u0 : U64 0 := bit_u bit0
theorem alo_ahi (x y c : Int) : alo x y c + B64 * ahi x y c = x + y + c := by unfold alo ahi B64; omega
theorem slo_shi {x y c : Int} (hx : U64 x) (hy : U64 y) (hc : Bit c) : slo x y c - B64 * shi x y c = x - y - c := by
  unfold slo shi U64 Bit B64 at *; split <;> omega
theorem mlo_mhi (x y : Int) : mlo x y + B64 * mhi x y = x * y := by unfold mlo mhi; exact Int.emod_add_mul_ediv _ _
theorem mul_le_sq {x y : Int} (hx : U64 x) (hy : U64 y) : x * y ≤ (B64 - 1) * (B64 - 1) := by
  have a : x * y ≤ (B64 - 1) * y := Int.mul_le_mul_of_nonneg_right (by have := hx.2; omega) hy.1
  have b : (B64 - 1) * y ≤ (B64 - 1) * (B64 - 1) := Int.mul_le_mul_of_nonneg_left (by have := hy.2; omega) (by unfold B64; omega)
  omega
theorem mhi_u {x y : Int} (hx : U64 x) (hy : U64 y) : U64 (mhi x y) := by
  have h := mlo_mhi x y
  have h2 := mul_le_sq hx hy
  have h3 := Int.mul_nonneg hx.1 hy.1
  have h4 := mlo_u x y
  unfold U64 B64 at *; omega

/-- the worth of words, the lowest first -/
def val : List Int → Int
  | [] => 0
  | a :: l => a + B64 * val l
def wfL (l : List Int) : Prop := ∀ a ∈ l, U64 a
theorem wfL_nil : wfL [] := by intro a h; simp at h
theorem wfL_cons {a : Int} {l : List Int} (ha : U64 a) (hl : wfL l) : wfL (a :: l) := by
  intro b hb; simp at hb; rcases hb with rfl | hb
  · exact ha
  · exact hl _ hb
theorem wfL_tail {a : Int} {l : List Int} (h : wfL (a :: l)) : U64 a ∧ wfL l := ⟨h _ (by simp), fun b hb => h _ (by simp [hb])⟩
theorem wfL_append {l m : List Int} (h : wfL l) (k : wfL m) : wfL (l ++ m) := by
  intro a ha; rcases List.mem_append.1 ha with ha | ha
  · exact h _ ha
  · exact k _ ha
theorem wfL_take {l : List Int} (h : wfL l) (n : Nat) : wfL (l.take n) := fun a ha => h a (List.mem_of_mem_take ha)
theorem wfL_drop {l : List Int} (h : wfL l) (n : Nat) : wfL (l.drop n) := fun a ha => h a (List.mem_of_mem_drop ha)
theorem wfL_snoc {X : List Int} {a : Int} (h : wfL X) (ha : U64 a) : wfL (X ++ [a]) := wfL_append h (wfL_cons ha wfL_nil)
theorem getD_u64 {X : List Int} (h : wfL X) (i : Nat) (hi : i < X.length) : U64 (X[i]?.getD 0) := by
  simp only [hi, List.getElem?_eq_getElem, Option.getD_some]; exact h _ (List.getElem_mem hi)
theorem val_append (l m : List Int) : val (l ++ m) = val l + B64 ^ l.length * val m := by
  induction l with
  | nil => simp [val]
  | cons b l ih => simp only [List.cons_append, val, ih, List.length_cons, Int.pow_succ]; grind
theorem val_snoc (l : List Int) (a : Int) : val (l ++ [a]) = val l + B64 ^ l.length * a := by
  rw [val_append]; simp [val]
theorem B64_pow_pos (n : Nat) : 0 < B64 ^ n := Int.pow_pos B64_pos
theorem val_nonneg {l : List Int} (h : wfL l) : 0 ≤ val l := by
  induction l with
  | nil => simp [val]
  | cons a l ih =>
    have := (wfL_tail h).1.1
    have := ih (wfL_tail h).2
    unfold val; have := Int.mul_nonneg (Int.le_of_lt B64_pos) this; omega
theorem val_lt {l : List Int} (h : wfL l) : val l < B64 ^ l.length := by
  induction l with
  | nil => simp [val]
  | cons a l ih =>
    have h1 := (wfL_tail h).1.2
    have h2 := ih (wfL_tail h).2
    simp only [val, List.length_cons, Int.pow_succ]
    have : B64 * (val l + 1) ≤ B64 * B64 ^ l.length := Int.mul_le_mul_of_nonneg_left (by omega) (Int.le_of_lt B64_pos)
    rw [Int.mul_add] at this
    rw [Int.mul_comm (B64 ^ l.length)]; omega
theorem take_snoc (X : List Int) (k : Nat) (h : k < X.length) : X.take (k + 1) = X.take k ++ [X[k]?.getD 0] := by
  rw [List.take_succ_eq_append_getElem h]; simp [h]
theorem val_take_succ (X : List Int) (k : Nat) (h : k < X.length) : val (X.take (k + 1)) = val (X.take k) + B64 ^ k * (X[k]?.getD 0) := by
  rw [take_snoc X k h, val_snoc, List.length_take, show min k X.length = k by omega]

/-- a number's worth tells its words -/
theorem val_inj {l m : List Int} (hl : wfL l) (hm : wfL m) (hn : l.length = m.length) (h : val l = val m) : l = m := by
  induction l generalizing m with
  | nil => cases m <;> simp_all
  | cons a l ih =>
    cases m with
    | nil => simp at hn
    | cons b m =>
      have a1 := (wfL_tail hl).1; have b1 := (wfL_tail hm).1
      simp only [val] at h
      have e : a = b ∧ val l = val m := by unfold U64 B64 at *; omega
      rw [e.1, ih (wfL_tail hl).2 (wfL_tail hm).2 (by simpa using hn) e.2]

/-- without zeros at the end -/
def nrm : List Int → List Int
  | [] => []
  | a :: l => match nrm l with
    | [] => if a = 0 then [] else [a]
    | b :: m => a :: b :: m
theorem nrm_snoc0 (l : List Int) : nrm (l ++ [0]) = nrm l := by
  induction l with
  | nil => rfl
  | cons a l ih => simp only [List.cons_append, nrm, ih]
theorem nrm_snoc (l : List Int) (a : Int) (h : a ≠ 0) : nrm (l ++ [a]) = l ++ [a] := by
  induction l with
  | nil => simp [nrm, h]
  | cons b l ih => simp only [List.cons_append, nrm, ih]; cases l <;> rfl
theorem nrm_take0 (l : List Int) (k : Nat) (hk : k < l.length) (h : l[k]?.getD 0 = 0) : nrm (l.take (k + 1)) = nrm (l.take k) := by
  rw [take_snoc l k hk, h, nrm_snoc0]
theorem nrm_take1 (l : List Int) (k : Nat) (hk : k < l.length) (h : l[k]?.getD 0 ≠ 0) : nrm (l.take (k + 1)) = l.take (k + 1) := by
  rw [take_snoc l k hk, nrm_snoc _ _ h]
theorem nrm_prefix (l : List Int) : ∃ k, k ≤ l.length ∧ nrm l = l.take k ∧ ∀ i, k ≤ i → l[i]?.getD 0 = 0 := by
  induction l with
  | nil => exact ⟨0, by simp, rfl, by simp⟩
  | cons a l ih =>
    obtain ⟨k, hk, e, hz⟩ := ih
    simp only [nrm]
    cases h : nrm l with
    | nil =>
      have hk0 : l.take k = [] := by rw [← e, h]
      by_cases ha : a = 0
      · refine ⟨0, by simp, by simp [ha], fun i _ => ?_⟩
        cases i with
        | zero => simp [ha]
        | succ i =>
          simp only [List.getElem?_cons_succ]
          by_cases hi : k ≤ i
          · exact hz i hi
          · rcases List.take_eq_nil_iff.1 hk0 with h0 | h0
            · omega
            · simp [h0]
      · refine ⟨1, by simp, by simp [ha], fun i hi => ?_⟩
        obtain ⟨i, rfl⟩ : ∃ j, i = j + 1 := ⟨i - 1, by omega⟩
        simp only [List.getElem?_cons_succ]
        by_cases hi : k ≤ i
        · exact hz i hi
        · rcases List.take_eq_nil_iff.1 hk0 with h0 | h0
          · omega
          · simp [h0]
    | cons b m =>
      refine ⟨k + 1, by simp; omega, by rw [List.take_succ_cons, ← e, h], fun i hi => ?_⟩
      obtain ⟨i, rfl⟩ : ∃ j, i = j + 1 := ⟨i - 1, by omega⟩
      simp only [List.getElem?_cons_succ]; exact hz i (by omega)
theorem nrm_length_le (l : List Int) : (nrm l).length ≤ l.length := by
  obtain ⟨k, hk, e, _⟩ := nrm_prefix l
  rw [e]; simp; omega
theorem nrm_take (l : List Int) : l.take (nrm l).length = nrm l := by
  obtain ⟨k, hk, e, _⟩ := nrm_prefix l
  rw [e, List.length_take, show min k l.length = k by omega]
theorem val_nrm (l : List Int) : val (nrm l) = val l := by
  induction l with
  | nil => rfl
  | cons a l ih =>
    simp only [nrm]
    cases h : nrm l with
    | nil =>
      rw [h] at ih; simp only [val] at ih
      by_cases ha : a = 0
      · simp [ha, val, ← ih]
      · simp [ha, val, ← ih]
    | cons b m => rw [h] at ih; simp only [val] at ih ⊢; rw [ih]
theorem wfL_nrm {l : List Int} (h : wfL l) : wfL (nrm l) := by rw [← nrm_take]; exact wfL_take h _
theorem nrm_nrm (l : List Int) : nrm (nrm l) = nrm l := by
  induction l with
  | nil => rfl
  | cons a l ih =>
    simp only [nrm]
    cases h : nrm l with
    | nil => by_cases ha : a = 0 <;> simp [ha, nrm]
    | cons b m => rw [h] at ih; simp only [nrm] at ih ⊢; rw [ih]

/-- a block of words -/
def blk (L : List Int) : Obj := .cells (L.map (Value.int .u64)).toArray 87
/-- L with Z laid over it from o on -/
def spl (L : List Int) (o : Nat) (Z : List Int) : List Int := L.take o ++ Z ++ L.drop (o + Z.length)
theorem cell_blk {w : World} {b : Nat} {L : List Int} (h : w.heap[b]? = some (blk L)) (i : Nat) (hi : i < L.length) : w.cell? ⟨b, i, none⟩ = some (.int .u64 (L[i]?.getD 0)) := by
  unfold World.cell?; rw [h]; simp [blk, hi]
theorem frozen_blk {w : World} {b : Nat} {L : List Int} (h : w.heap[b]? = some (blk L)) (i : Nat) : w.frozen? ⟨b, i, none⟩ = false := by
  unfold World.frozen?; rw [h]; simp [blk]
theorem spl_length (L : List Int) (o : Nat) (Z : List Int) (h : o + Z.length ≤ L.length) : (spl L o Z).length = L.length := by unfold spl; simp; omega
theorem spl_nil (L : List Int) (o : Nat) : spl L o [] = L := by simp [spl]
theorem spl_snoc (L : List Int) (o : Nat) (Z : List Int) (z : Int) (h : o + Z.length < L.length) : (spl L o Z).set (o + Z.length) z = spl L o (Z ++ [z]) := by
  unfold spl
  rw [List.append_assoc, List.append_assoc, List.set_append_right _ _ (by simp; omega)]
  rw [List.append_assoc]
  congr 1
  rw [List.set_append_right _ _ (by simp; omega)]
  congr 1
  simp only [List.length_take]
  rw [show o + Z.length - min o L.length - Z.length = 0 by omega]
  have : L.drop (o + Z.length) = L[o + Z.length] :: L.drop (o + Z.length + 1) := List.drop_eq_getElem_cons h
  rw [this]; simp [Nat.add_assoc]
theorem spl_get (L : List Int) (o : Nat) (Z : List Int) (i : Nat) (h : o + Z.length ≤ i) (_ : i < L.length) : (spl L o Z)[i]?.getD 0 = L[i]?.getD 0 := by
  unfold spl
  rw [List.getElem?_append_right (by simp; omega)]
  simp only [List.length_append, List.length_take, List.getElem?_drop]
  rw [show o + Z.length + (i - (min o L.length + Z.length)) = i by omega]
theorem spl_in (L : List Int) (o : Nat) (Z : List Int) (i : Nat) (h : i < Z.length) (ho : o ≤ L.length) : (spl L o Z)[o + i]?.getD 0 = Z[i]?.getD 0 := by
  unfold spl
  rw [List.append_assoc, List.getElem?_append_right (by simp; omega), List.length_take, show o + i - min o L.length = i by omega, List.getElem?_append_left h]

/-- w' is w, but that block b holds the words L; and some draws -/
structure Upd (w w' : World) (b : Nat) (L : List Int) : Prop where
  os : w'.os = w.os
  tape : w'.tape = w.tape
  output : w'.output = w.output
  size : w'.heap.size = w.heap.size
  here : w'.heap[b]? = some (blk L)
  block : ∀ k, k ≠ b → w'.heap[k]? = w.heap[k]?
theorem Upd.refl {w : World} {b : Nat} {L : List Int} (h : w.heap[b]? = some (blk L)) : Upd w w b L := ⟨rfl, rfl, rfl, rfl, h, fun _ _ => rfl⟩
theorem Upd.drewN {w w' : World} {b : Nat} {L : List Int} (h : Upd w w' b L) (n : Nat) : Upd w (w'.drewN n) b L := ⟨h.os, h.tape, h.output, h.size, h.here, h.block⟩
theorem Upd.drew {w w' : World} {b : Nat} {L : List Int} (h : Upd w w' b L) : Upd w w'.drew b L := ⟨h.os, h.tape, h.output, h.size, h.here, h.block⟩
theorem Upd.set {w w' : World} {b : Nat} {L : List Int} (h : Upd w w' b L) (i : Nat) (v : Int) : Upd w (w'.setCell ⟨b, i, none⟩ (.int .u64 v)) b (L.set i v) := by
  refine ⟨h.os, h.tape, h.output, ?_, ?_, fun k hk => ?_⟩
  · simp [World.setCell, h.size]
  · have := h.here
    simp only [World.setCell, Array.getElem?_modify, if_pos, this, blk, Option.map_some, List.setIfInBounds_toArray, List.map_set]
    rfl
  · rw [Below.heap_setCell _ _ _ _ hk]; exact h.block k hk
theorem Upd.cell {w w' : World} {b : Nat} {L : List Int} (h : Upd w w' b L) {a : Addr} (ha : a.block ≠ b) : w'.cell? a = w.cell? a := World.cell?_of_block (h.block a.block ha)
theorem Upd.trans {w w' w'' : World} {b : Nat} {L M : List Int} (h : Upd w w' b L) (k : Upd w' w'' b M) : Upd w w'' b M :=
  ⟨k.os.trans h.os, k.tape.trans h.tape, k.output.trans h.output, k.size.trans h.size, k.here, fun i hi => (k.block i hi).trans (h.block i hi)⟩
theorem Upd.grown {w w' : World} {b : Nat} {L : List Int} (h : Upd w w' b L) : w.grownBy w' (some b) :=
  ⟨h.os, h.tape, h.output, by rw [h.size]; exact Nat.le_refl _, fun k _ hk => h.block k (by intro e; rw [e] at hk; exact hk rfl)⟩

/-- the words X lie in the memory from (b, o) on -/
def At (w : World) (b o : Nat) (X : List Int) : Prop := ∀ i, i < X.length → w.cell? ⟨b, o + i, none⟩ = some (.int .u64 (X[i]?.getD 0))
theorem At.upd {w w' : World} {b o bx ox : Nat} {X L Z : List Int} (h : At w bx ox X) (ha : bx = b → ox = o) (hL : w.heap[b]? = some (blk L)) (hl : o + X.length ≤ L.length) (hu : Upd w w' b (spl L o Z)) (hz : Z.length < X.length) :
    w'.cell? ⟨bx, ox + Z.length, none⟩ = some (.int .u64 (X[Z.length]?.getD 0)) := by
  have h1 := h Z.length hz
  by_cases e : bx = b
  · have e2 := ha e; subst e; subst e2
    rw [cell_blk hL _ (by omega)] at h1
    rw [cell_blk hu.here _ (by rw [spl_length _ _ _ (by omega)]; omega), spl_get _ _ _ _ (Nat.le_refl _) (by omega)]
    exact h1
  · rw [hu.cell (by exact e)]; exact h1
theorem At.of_blk {w : World} {b o : Nat} {L : List Int} (h : w.heap[b]? = some (blk L)) (X : List Int) (hl : o + X.length ≤ L.length) (hx : ∀ i, i < X.length → L[o + i]?.getD 0 = X[i]?.getD 0) : At w b o X := by
  intro i hi
  rw [cell_blk h _ (by omega), hx i hi]

theorem ret_sl {a : Option Addr} {n m c : Nat} (h : n = m) : Ending.returned (.slice a n c) = .returned (.slice a m c) := by rw [h]
theorem ret_int {k : IntKind} {a b : Int} (h : a = b) : Ending.returned (.int k a) = .returned (.int k b) := by rw [h]
end Go.Proofs.YtndphemomhcjlaaGreatDoor
