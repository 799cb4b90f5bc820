/- Words, lists of words and their worth; a block of words in memory; a world in which one block of words is written. No condition. math/bits and single words: sums, differences, products with carries. Conditions: the arguments are words. The loops over words: sums, differences, products of a number and a word. Conditions: the slices are of one length; each of what is read is either what is written, or lies in another block. copy of words; a number and a word, added and subtracted; shifts of words. Conditions as in the text before. A number and a word, added and subtracted. Conditions as in the text before. -/
import Derived.Test.YtjcfacinlgogaaaGreatDoorProg
import Derived.WalkKit
import Derived.WalkLawsBesides
import Derived.WalkSpells
import Derived.Lib.Hide
import Derived.Outline
import Derived.LoopTactic
import Derived.Laws.Externs
import Derived.Shelf.Spec.BitsCarry
import Derived.Deep.QuietTactic
import Derived.BigQuiet
import Derived.Deep.LoopGhost
import Derived.Test.YtjcfacinlgogaaaGreatDoorShelf
import Derived.Laws.CopyOwn
import Derived.StillTailTactics
import Derived.LaidEqlPtr
set_option linter.all false
set_option maxRecDepth 100000
namespace Go.Proofs.YtjcfacinlgogaaaGreatDoor
theorem Hq0 {p : Prop} (h : p) : Go.RowKit.Hid p := h
open Go.RowKit
def B64 : Int := 18446744073709551616
def U64 (x : Int) : Prop := 0 ≤ x ∧ x < B64
def Bit (x : Int) : Prop := 0 ≤ x ∧ x ≤ 1
def alo (x y c : Int) : Int := (x + y + c) % B64
def ahi (x y c : Int) : Int := (x + y + c) / B64
def slo (x y c : Int) : Int := (x - y - c) % B64
def shi (x y c : Int) : Int := if x < y + c then 1 else 0
def mlo (x y : Int) : Int := x * y % B64
def mhi (x y : Int) : Int := x * y / B64
theorem B64_pos : (0 : Int) < B64 := by unfold B64; omega
theorem alo_u (x y c : Int) : U64 (alo x y c) := by unfold U64 alo B64; omega
theorem slo_u (x y c : Int) : U64 (slo x y c) := by unfold U64 slo B64; omega
theorem mlo_u (x y : Int) : U64 (mlo x y) := ⟨Int.emod_nonneg _ (by decide), Int.emod_lt_of_pos _ (by decide)⟩
theorem ahi_b {x y c : Int} (hx : U64 x) (hy : U64 y) (hc : Bit c) : Bit (ahi x y c) := by unfold U64 Bit ahi B64 at *; omega
theorem shi_b (x y c : Int) : Bit (shi x y c) := by unfold Bit shi; split <;> omega
theorem bit_u {c : Int} (h : Bit c) : U64 c := by unfold Bit U64 B64 at *; omega
theorem bit0 : Bit 0 := by unfold Bit; omega
theorem bit1 : Bit 1 := by unfold Bit; omega
theorem u0 : U64 0 := bit_u bit0
theorem alo_ahi (x y c : Int) : alo x y c + B64 * ahi x y c = x + y + c := by unfold alo ahi B64; omega
theorem slo_shi {x y c : Int} (hx : U64 x) (hy : U64 y) (hc : Bit c) : slo x y c - B64 * shi x y c = x - y - c := by
  unfold slo shi U64 Bit B64 at *; split <;> omega
theorem mlo_mhi (x y : Int) : mlo x y + B64 * mhi x y = x * y := by unfold mlo mhi; exact Int.emod_add_mul_ediv _ _
theorem mul_le_sq {x y : Int} (hx : U64 x) (hy : U64 y) : x * y ≤ (B64 - 1) * (B64 - 1) := by
  have a : x * y ≤ (B64 - 1) * y := Int.mul_le_mul_of_nonneg_right (by have := hx.2; omega) hy.1
  have b : (B64 - 1) * y ≤ (B64 - 1) * (B64 - 1) := Int.mul_le_mul_of_nonneg_left (by have := hy.2; omega) (by unfold B64; omega)
  omega
theorem mhi_u {x y : Int} (hx : U64 x) (hy : U64 y) : U64 (mhi x y) := by
  have h := mlo_mhi x y
  have h2 := mul_le_sq hx hy
  have h3 := Int.mul_nonneg hx.1 hy.1
  have h4 := mlo_u x y
  unfold U64 B64 at *; omega
def val : List Int → Int
  | [] => 0
  | a :: l => a + B64 * val l
def wfL (l : List Int) : Prop := ∀ a ∈ l, U64 a
theorem wfL_nil : wfL [] := by intro a h; simp at h
theorem wfL_cons {a : Int} {l : List Int} (ha : U64 a) (hl : wfL l) : wfL (a :: l) := by
  intro b hb; simp at hb; rcases hb with rfl | hb
  · exact ha
  · exact hl _ hb
theorem wfL_tail {a : Int} {l : List Int} (h : wfL (a :: l)) : U64 a ∧ wfL l := ⟨h _ (by simp), fun b hb => h _ (by simp [hb])⟩
theorem wfL_append {l m : List Int} (h : wfL l) (k : wfL m) : wfL (l ++ m) := by
  intro a ha; rcases List.mem_append.1 ha with ha | ha
  · exact h _ ha
  · exact k _ ha
theorem wfL_take {l : List Int} (h : wfL l) (n : Nat) : wfL (l.take n) := fun a ha => h a (List.mem_of_mem_take ha)
theorem wfL_drop {l : List Int} (h : wfL l) (n : Nat) : wfL (l.drop n) := fun a ha => h a (List.mem_of_mem_drop ha)
theorem wfL_snoc {X : List Int} {a : Int} (h : wfL X) (ha : U64 a) : wfL (X ++ [a]) := wfL_append h (wfL_cons ha wfL_nil)
theorem getD_u64 {X : List Int} (h : wfL X) (i : Nat) (hi : i < X.length) : U64 (X[i]?.getD 0) := by
  simp only [hi, List.getElem?_eq_getElem, Option.getD_some]; exact h _ (List.getElem_mem hi)
theorem val_append (l m : List Int) : val (l ++ m) = val l + B64 ^ l.length * val m := by
  induction l with
  | nil => simp [val]
  | cons b l ih => simp only [List.cons_append, val, ih, List.length_cons, Int.pow_succ]; grind
theorem val_snoc (l : List Int) (a : Int) : val (l ++ [a]) = val l + B64 ^ l.length * a := by
  rw [val_append]; simp [val]
theorem B64_pow_pos (n : Nat) : 0 < B64 ^ n := Int.pow_pos B64_pos
theorem val_nonneg {l : List Int} (h : wfL l) : 0 ≤ val l := by
  induction l with
  | nil => simp [val]
  | cons a l ih =>
    have := (wfL_tail h).1.1
    have := ih (wfL_tail h).2
    unfold val; have := Int.mul_nonneg (Int.le_of_lt B64_pos) this; omega
theorem val_lt {l : List Int} (h : wfL l) : val l < B64 ^ l.length := by
  induction l with
  | nil => simp [val]
  | cons a l ih =>
    have h1 := (wfL_tail h).1.2
    have h2 := ih (wfL_tail h).2
    simp only [val, List.length_cons, Int.pow_succ]
    have : B64 * (val l + 1) ≤ B64 * B64 ^ l.length := Int.mul_le_mul_of_nonneg_left (by omega) (Int.le_of_lt B64_pos)
    rw [Int.mul_add] at this
    rw [Int.mul_comm (B64 ^ l.length)]; omega
theorem take_snoc (X : List Int) (k : Nat) (h : k < X.length) : X.take (k + 1) = X.take k ++ [X[k]?.getD 0] := by
  rw [List.take_succ_eq_append_getElem h]; simp [h]
theorem val_take_succ (X : List Int) (k : Nat) (h : k < X.length) : val (X.take (k + 1)) = val (X.take k) + B64 ^ k * (X[k]?.getD 0) := by
  rw [take_snoc X k h, val_snoc, List.length_take, show min k X.length = k by omega]
theorem val_inj {l m : List Int} (hl : wfL l) (hm : wfL m) (hn : l.length = m.length) (h : val l = val m) : l = m := by
  induction l generalizing m with
  | nil => cases m <;> simp_all
  | cons a l ih =>
    cases m with
    | nil => simp at hn
    | cons b m =>
      have a1 := (wfL_tail hl).1; have b1 := (wfL_tail hm).1
      simp only [val] at h
      have e : a = b ∧ val l = val m := by unfold U64 B64 at *; omega
      rw [e.1, ih (wfL_tail hl).2 (wfL_tail hm).2 (by simpa using hn) e.2]
def nrm : List Int → List Int
  | [] => []
  | a :: l => match nrm l with
    | [] => if a = 0 then [] else [a]
    | b :: m => a :: b :: m
theorem nrm_snoc0 (l : List Int) : nrm (l ++ [0]) = nrm l := by
  induction l with
  | nil => rfl
  | cons a l ih => simp only [List.cons_append, nrm, ih]
theorem nrm_snoc (l : List Int) (a : Int) (h : a ≠ 0) : nrm (l ++ [a]) = l ++ [a] := by
  induction l with
  | nil => simp [nrm, h]
  | cons b l ih => simp only [List.cons_append, nrm, ih]; cases l <;> rfl
theorem nrm_take0 (l : List Int) (k : Nat) (hk : k < l.length) (h : l[k]?.getD 0 = 0) : nrm (l.take (k + 1)) = nrm (l.take k) := by
  rw [take_snoc l k hk, h, nrm_snoc0]
theorem nrm_take1 (l : List Int) (k : Nat) (hk : k < l.length) (h : l[k]?.getD 0 ≠ 0) : nrm (l.take (k + 1)) = l.take (k + 1) := by
  rw [take_snoc l k hk, nrm_snoc _ _ h]
theorem nrm_prefix (l : List Int) : ∃ k, k ≤ l.length ∧ nrm l = l.take k ∧ ∀ i, k ≤ i → l[i]?.getD 0 = 0 := by
  induction l with
  | nil => exact ⟨0, by simp, rfl, by simp⟩
  | cons a l ih =>
    obtain ⟨k, hk, e, hz⟩ := ih
    simp only [nrm]
    cases h : nrm l with
    | nil =>
      have hk0 : l.take k = [] := by rw [← e, h]
      by_cases ha : a = 0
      · refine ⟨0, by simp, by simp [ha], fun i _ => ?_⟩
        cases i with
        | zero => simp [ha]
        | succ i =>
          simp only [List.getElem?_cons_succ]
          by_cases hi : k ≤ i
          · exact hz i hi
          · rcases List.take_eq_nil_iff.1 hk0 with h0 | h0
            · omega
            · simp [h0]
      · refine ⟨1, by simp, by simp [ha], fun i hi => ?_⟩
        obtain ⟨i, rfl⟩ : ∃ j, i = j + 1 := ⟨i - 1, by omega⟩
        simp only [List.getElem?_cons_succ]
        by_cases hi : k ≤ i
        · exact hz i hi
        · rcases List.take_eq_nil_iff.1 hk0 with h0 | h0
          · omega
          · simp [h0]
    | cons b m =>
      refine ⟨k + 1, by simp; omega, by rw [List.take_succ_cons, ← e, h], fun i hi => ?_⟩
      obtain ⟨i, rfl⟩ : ∃ j, i = j + 1 := ⟨i - 1, by omega⟩
      simp only [List.getElem?_cons_succ]; exact hz i (by omega)
theorem nrm_length_le (l : List Int) : (nrm l).length ≤ l.length := by
  obtain ⟨k, hk, e, _⟩ := nrm_prefix l
  rw [e]; simp; omega
theorem nrm_take (l : List Int) : l.take (nrm l).length = nrm l := by
  obtain ⟨k, hk, e, _⟩ := nrm_prefix l
  rw [e, List.length_take, show min k l.length = k by omega]
theorem val_nrm (l : List Int) : val (nrm l) = val l := by
  induction l with
  | nil => rfl
  | cons a l ih =>
    simp only [nrm]
    cases h : nrm l with
    | nil =>
      rw [h] at ih; simp only [val] at ih
      by_cases ha : a = 0
      · simp [ha, val, ← ih]
      · simp [ha, val, ← ih]
    | cons b m => rw [h] at ih; simp only [val] at ih ⊢; rw [ih]
theorem wfL_nrm {l : List Int} (h : wfL l) : wfL (nrm l) := by rw [← nrm_take]; exact wfL_take h _
theorem nrm_nrm (l : List Int) : nrm (nrm l) = nrm l := by
  induction l with
  | nil => rfl
  | cons a l ih =>
    simp only [nrm]
    cases h : nrm l with
    | nil => by_cases ha : a = 0 <;> simp [ha, nrm]
    | cons b m => rw [h] at ih; simp only [nrm] at ih ⊢; rw [ih]
def blk (L : List Int) : Obj := .cells (L.map (Value.int .u64)).toArray 104
def spl (L : List Int) (o : Nat) (Z : List Int) : List Int := L.take o ++ Z ++ L.drop (o + Z.length)
theorem cell_blk {w : World} {b : Nat} {L : List Int} (h : w.heap[b]? = some (blk L)) (i : Nat) (hi : i < L.length) : w.cell? ⟨b, i, none⟩ = some (.int .u64 (L[i]?.getD 0)) := by
  unfold World.cell?; rw [h]; simp [blk, hi]
theorem frozen_blk {w : World} {b : Nat} {L : List Int} (h : w.heap[b]? = some (blk L)) (i : Nat) : w.frozen? ⟨b, i, none⟩ = false := by
  unfold World.frozen?; rw [h]; simp [blk]
theorem spl_length (L : List Int) (o : Nat) (Z : List Int) (h : o + Z.length ≤ L.length) : (spl L o Z).length = L.length := by unfold spl; simp; omega
theorem spl_nil (L : List Int) (o : Nat) : spl L o [] = L := by simp [spl]
theorem spl_snoc (L : List Int) (o : Nat) (Z : List Int) (z : Int) (h : o + Z.length < L.length) : (spl L o Z).set (o + Z.length) z = spl L o (Z ++ [z]) := by
  unfold spl
  rw [List.append_assoc, List.append_assoc, List.set_append_right _ _ (by simp; omega)]
  rw [List.append_assoc]
  congr 1
  rw [List.set_append_right _ _ (by simp; omega)]
  congr 1
  simp only [List.length_take]
  rw [show o + Z.length - min o L.length - Z.length = 0 by omega]
  have : L.drop (o + Z.length) = L[o + Z.length] :: L.drop (o + Z.length + 1) := List.drop_eq_getElem_cons h
  rw [this]; simp [Nat.add_assoc]
theorem spl_get (L : List Int) (o : Nat) (Z : List Int) (i : Nat) (h : o + Z.length ≤ i) (_ : i < L.length) : (spl L o Z)[i]?.getD 0 = L[i]?.getD 0 := by
  unfold spl
  rw [List.getElem?_append_right (by simp; omega)]
  simp only [List.length_append, List.length_take, List.getElem?_drop]
  rw [show o + Z.length + (i - (min o L.length + Z.length)) = i by omega]
theorem spl_in (L : List Int) (o : Nat) (Z : List Int) (i : Nat) (h : i < Z.length) (ho : o ≤ L.length) : (spl L o Z)[o + i]?.getD 0 = Z[i]?.getD 0 := by
  unfold spl
  rw [List.append_assoc, List.getElem?_append_right (by simp; omega), List.length_take, show o + i - min o L.length = i by omega, List.getElem?_append_left h]
structure Upd (w w' : World) (b : Nat) (L : List Int) : Prop where
  os : w'.os = w.os
  tape : w'.tape = w.tape
  output : w'.output = w.output
  size : w'.heap.size = w.heap.size
  here : w'.heap[b]? = some (blk L)
  block : ∀ k, k ≠ b → w'.heap[k]? = w.heap[k]?
theorem Upd.refl {w : World} {b : Nat} {L : List Int} (h : w.heap[b]? = some (blk L)) : Upd w w b L := ⟨rfl, rfl, rfl, rfl, h, fun _ _ => rfl⟩
theorem Upd.drewN {w w' : World} {b : Nat} {L : List Int} (h : Upd w w' b L) (n : Nat) : Upd w (w'.drewN n) b L := ⟨h.os, h.tape, h.output, h.size, h.here, h.block⟩
theorem Upd.drew {w w' : World} {b : Nat} {L : List Int} (h : Upd w w' b L) : Upd w w'.drew b L := ⟨h.os, h.tape, h.output, h.size, h.here, h.block⟩
theorem Upd.set {w w' : World} {b : Nat} {L : List Int} (h : Upd w w' b L) (i : Nat) (v : Int) : Upd w (w'.setCell ⟨b, i, none⟩ (.int .u64 v)) b (L.set i v) := by
  refine ⟨h.os, h.tape, h.output, ?_, ?_, fun k hk => ?_⟩
  · simp [World.setCell, h.size]
  · have := h.here
    simp only [World.setCell, Array.getElem?_modify, if_pos, this, blk, Option.map_some, List.setIfInBounds_toArray, List.map_set]
    rfl
  · rw [Below.heap_setCell _ _ _ _ hk]; exact h.block k hk
theorem Upd.cell {w w' : World} {b : Nat} {L : List Int} (h : Upd w w' b L) {a : Addr} (ha : a.block ≠ b) : w'.cell? a = w.cell? a := World.cell?_of_block (h.block a.block ha)
theorem Upd.trans {w w' w'' : World} {b : Nat} {L M : List Int} (h : Upd w w' b L) (k : Upd w' w'' b M) : Upd w w'' b M :=
  ⟨k.os.trans h.os, k.tape.trans h.tape, k.output.trans h.output, k.size.trans h.size, k.here, fun i hi => (k.block i hi).trans (h.block i hi)⟩
theorem Upd.grown {w w' : World} {b : Nat} {L : List Int} (h : Upd w w' b L) : w.grownBy w' (some b) :=
  ⟨h.os, h.tape, h.output, by rw [h.size]; exact Nat.le_refl _, fun k _ hk => h.block k (by intro e; rw [e] at hk; exact hk rfl)⟩
def At (w : World) (b o : Nat) (X : List Int) : Prop := ∀ i, i < X.length → w.cell? ⟨b, o + i, none⟩ = some (.int .u64 (X[i]?.getD 0))
theorem At.upd {w w' : World} {b o bx ox : Nat} {X L Z : List Int} (h : At w bx ox X) (ha : bx = b → ox = o) (hL : w.heap[b]? = some (blk L)) (hl : o + X.length ≤ L.length) (hu : Upd w w' b (spl L o Z)) (hz : Z.length < X.length) :
    w'.cell? ⟨bx, ox + Z.length, none⟩ = some (.int .u64 (X[Z.length]?.getD 0)) := by
  have h1 := h Z.length hz
  by_cases e : bx = b
  · have e2 := ha e; subst e; subst e2
    rw [cell_blk hL _ (by omega)] at h1
    rw [cell_blk hu.here _ (by rw [spl_length _ _ _ (by omega)]; omega), spl_get _ _ _ _ (Nat.le_refl _) (by omega)]
    exact h1
  · rw [hu.cell (by exact e)]; exact h1
theorem At.of_blk {w : World} {b o : Nat} {L : List Int} (h : w.heap[b]? = some (blk L)) (X : List Int) (hl : o + X.length ≤ L.length) (hx : ∀ i, i < X.length → L[o + i]?.getD 0 = X[i]?.getD 0) : At w b o X := by
  intro i hi
  rw [cell_blk h _ (by omega), hx i hi]
theorem ret_sl {a : Option Addr} {n m c : Nat} (h : n = m) : Ending.returned (.slice a n c) = .returned (.slice a m c) := by rw [h]
theorem ret_int {k : IntKind} {a b : Int} (h : a = b) : Ending.returned (.int k a) = .returned (.int k b) := by rw [h]
end Go.Proofs.YtjcfacinlgogaaaGreatDoor
namespace Go.Proofs.YtjcfacinlgogaaaGreatDoor
open Go.RowKit
theorem sym {P : Program} {f : FuncId} {args : Array Value} {w : World} {v : Value} (h : Calls P f args w fun e w' => e = .returned v ∧ w' = w) : Calls P f args w fun e w' => e = .returned v ∧ w = w' :=
  h.mono fun _ _ ⟨a, b⟩ => ⟨a, b.symm⟩
theorem qs {P : Program} {f : FuncId} {args : Array Value} {w : World} {v : Value} (h : Calls P f args w fun e w' => e = .returned v ∧ w = w') : Calls P f args w fun e w' => e = .returned v ∧ w' = w :=
  h.mono fun _ _ ⟨a, b⟩ => ⟨a, b.symm⟩
theorem run_add64 (x y c : Int) (hx : U64 x) (hy : U64 y) (hc : Bit c) (w : World) : (callFunc 220 #[.int .u64 x, .int .u64 y, .int .u64 c]).run Tryz.prog w =
    .ok (.value (.tuple #[.int .u64 (alo x y c), .int .u64 (ahi x y c)])) w := by
  obtain ⟨x, rfl⟩ := Int.eq_ofNat_of_zero_le hx.1
  obtain ⟨y, rfl⟩ := Int.eq_ofNat_of_zero_le hy.1
  obtain ⟨c, rfl⟩ := Int.eq_ofNat_of_zero_le hc.1
  have h1 := hx.2; have h2 := hy.2; have h3 := hc.2
  unfold B64 at *
  rw [run_callFunc_extern (P := Tryz.prog) (f := 220) Tryz.func220 (by kernel_rfl) (by kernel_rfl) (by kernel_rfl) (e := add64Entry) (by kernel_rfl), Go.run_add64 x y c (by omega) (by omega) (by omega) (by omega)]
  simp only [Result.andThen, alo, ahi, B64]
theorem run_sub64 (x y c : Int) (hx : U64 x) (hy : U64 y) (hc : Bit c) (w : World) : (callFunc 222 #[.int .u64 x, .int .u64 y, .int .u64 c]).run Tryz.prog w =
    .ok (.value (.tuple #[.int .u64 (slo x y c), .int .u64 (shi x y c)])) w := by
  obtain ⟨x, rfl⟩ := Int.eq_ofNat_of_zero_le hx.1
  obtain ⟨y, rfl⟩ := Int.eq_ofNat_of_zero_le hy.1
  obtain ⟨c, rfl⟩ := Int.eq_ofNat_of_zero_le hc.1
  have h1 := hx.2; have h2 := hy.2; have h3 := hc.2
  unfold B64 at *
  rw [run_callFunc_extern (P := Tryz.prog) (f := 222) Tryz.func222 (by kernel_rfl) (by kernel_rfl) (by kernel_rfl) (e := Go.Proofs.sub64Entry) (by kernel_rfl), Go.Proofs.run_sub64 x y c (by omega)]
  have e1 : (((x + 18446744073709551616 - y - c) % 18446744073709551616 : Nat) : Int) = slo x y c := by unfold slo B64; omega
  have e2 : ((if x < y + c then 1 else 0 : Nat) : Int) = shi x y c := by unfold shi; split <;> split <;> omega
  rw [e1, e2]
  rfl
theorem bits_Add (x y c : Int) (w : World) (hx : U64 x) (hy : U64 y) (hc : Bit c) :
    Calls Tryz.prog 176 #[.int .u64 x, .int .u64 y, .int .u64 c] w fun e w' => e = .returned (.tuple #[.int .u64 (alo x y c), .int .u64 (ahi x y c)]) ∧ w = w' := by
  go_enter Tryz.func176, Tryz.ntmps176
  go_wp2_with (simp only [run_add64 x y c hx hy hc])
  go_ret2
  exact ⟨rfl, rfl⟩
theorem bits_Sub (x y c : Int) (w : World) (hx : U64 x) (hy : U64 y) (hc : Bit c) :
    Calls Tryz.prog 178 #[.int .u64 x, .int .u64 y, .int .u64 c] w fun e w' => e = .returned (.tuple #[.int .u64 (slo x y c), .int .u64 (shi x y c)]) ∧ w = w' := by
  go_enter Tryz.func178, Tryz.ntmps178
  go_wp2_with (simp only [run_sub64 x y c hx hy hc])
  go_ret2
  exact ⟨rfl, rfl⟩
theorem bits_Mul (x y : Int) (w : World) (hx : U64 x) (hy : U64 y) :
    Calls Tryz.prog 181 #[.int .u64 x, .int .u64 y] w fun e w' => e = .returned (.tuple #[.int .u64 (mhi x y), .int .u64 (mlo x y)]) ∧ w = w' := by
  obtain ⟨x, rfl⟩ := Int.eq_ofNat_of_zero_le hx.1
  obtain ⟨y, rfl⟩ := Int.eq_ofNat_of_zero_le hy.1
  have h1 := hx.2; have h2 := hy.2
  unfold B64 at *
  exact sym (Tryz.bits_Mul x y (by omega) (by omega) w)
theorem bits_Mul64 (x y : Int) (w : World) (hx : U64 x) (hy : U64 y) :
    Calls Tryz.prog 225 #[.int .u64 x, .int .u64 y] w fun e w' => e = .returned (.tuple #[.int .u64 (mhi x y), .int .u64 (mlo x y)]) ∧ w = w' := by
  obtain ⟨x, rfl⟩ := Int.eq_ofNat_of_zero_le hx.1
  obtain ⟨y, rfl⟩ := Int.eq_ofNat_of_zero_le hy.1
  have h1 := hx.2; have h2 := hy.2
  unfold B64 at *
  exact sym (Tryz.bits_Mul64 x y (by omega) (by omega) w)
theorem mulWW (x y : Int) (w : World) (hx : U64 x) (hy : U64 y) :
    Calls Tryz.prog 154 #[.int .u64 x, .int .u64 y] w fun e w' => e = .returned (.tuple #[.int .u64 (mhi x y), .int .u64 (mlo x y)]) ∧ w = w' := by
  go_enter Tryz.func154, Tryz.ntmps154
  go_wp2_with (go_at_call 181; refine (bits_Mul _ _ _ hx hy).mono ?_; rintro e w' ⟨rfl, rfl⟩)
  go_ret2
  exact ⟨rfl, rfl⟩
def malo (x y c : Int) : Int := (x * y + c) % B64
def mahi (x y c : Int) : Int := (x * y + c) / B64
theorem malo_u (x y c : Int) : U64 (malo x y c) := ⟨Int.emod_nonneg _ (by decide), Int.emod_lt_of_pos _ (by decide)⟩
theorem malo_mahi (x y c : Int) : malo x y c + B64 * mahi x y c = x * y + c := by unfold malo mahi; exact Int.emod_add_mul_ediv _ _
theorem mahi_u {x y c : Int} (hx : U64 x) (hy : U64 y) (hc : U64 c) : U64 (mahi x y c) := by
  have h := malo_mahi x y c
  have h2 := mul_le_sq hx hy
  have h3 := Int.mul_nonneg hx.1 hy.1
  have h4 := malo_u x y c
  unfold U64 B64 at *; omega
theorem mahi_eq {x y c : Int} (hx : U64 x) (hy : U64 y) (hc : U64 c) : alo (mlo x y) c 0 = malo x y c ∧ mhi x y + ahi (mlo x y) c 0 = mahi x y c := by
  have h := malo_mahi x y c
  have h1 := mlo_mhi x y
  have h2 := alo_ahi (mlo x y) c 0
  have h3 := malo_u x y c
  have h4 := alo_u (mlo x y) c 0
  unfold U64 B64 at *; omega
theorem wrap_u64 {x : Int} (h : U64 x) : IntKind.u64.wrap x = x := by
  have := h.1; have := h.2; unfold B64 at *
  show x % 18446744073709551616 = x; omega
theorem mulAddWWW_g (x y c : Int) (w : World) (hx : U64 x) (hy : U64 y) (hc : U64 c) :
    Calls Tryz.prog 268 #[.int .u64 x, .int .u64 y, .int .u64 c] w fun e w' => e = .returned (.tuple #[.int .u64 (mahi x y c), .int .u64 (malo x y c)]) ∧ w = w' := by
  have hm := mlo_u x y
  obtain ⟨e1, e2⟩ := mahi_eq hx hy hc
  have hw : IntKind.u64.wrap (mhi x y + ahi (mlo x y) c 0) = mahi x y c := by rw [e2]; exact wrap_u64 (mahi_u hx hy hc)
  have H := Hq0 hw; have H1 := Hq0 e1; clear hw e1 e2
  go_enter Tryz.func268, Tryz.ntmps268
  go_wp2_with (first | (go_at_call 181; refine (bits_Mul _ _ _ hx hy).mono ?_; rintro e w' ⟨rfl, rfl⟩) | (go_at_call 176; refine (bits_Add _ _ _ _ hm hc bit0).mono ?_; rintro e w' ⟨rfl, rfl⟩))
  go_ret2
  exact ⟨congrArg Ending.returned (by simp only [Array.getD_eq_getD_getElem?]; rw [← H.out, ← H1.out]; rfl), rfl⟩
theorem bitLen_le64 (x : Nat) (h : x < 18446744073709551616) : Lib.bitLen x ≤ 64 := by
  by_cases h0 : x = 0
  · rw [h0]; decide
  · obtain ⟨h1, h2, h3⟩ := Lib.bitLenAux_bounds 64 x h h0
    unfold Lib.bitLen
    have : 2 ^ (Lib.bitLenAux 64 x - 1) < 2 ^ 64 := Nat.lt_of_le_of_lt h2 h
    have := (Nat.pow_lt_pow_iff_right (by decide : 1 < 2)).1 this
    omega
def nlzI (x : Int) : Int := 64 - (Lib.bitLen x.toNat : Int)
theorem nlz_any (x : Int) (w : World) (hx : U64 x) :
    Calls Tryz.prog 199 #[.int .u64 x] w fun e w' => e = .returned (.int .u64 (nlzI x)) ∧ w = w' := by
  have h0 := hx.1; have h1 := hx.2
  unfold B64 at h1
  have hb := bitLen_le64 x.toNat (by omega)
  go_enter Tryz.func199, Tryz.ntmps199
  go_wp2_with (go_at_call 240; refine (sym (Tryz.bits_LeadingZeros _ _ h0 (by omega))).mono ?_; rintro e w' ⟨rfl, rfl⟩)
  go_ret
  exact ⟨ret_int (by unfold nlzI; first | rfl | (show _ % _ = _; omega)), rfl⟩
end Go.Proofs.YtjcfacinlgogaaaGreatDoor
namespace Go.Proofs.YtjcfacinlgogaaaGreatDoor
open Go.RowKit
def VRel (F : Int → Int → Prop) (w : World) (bz oz : Nat) (L : List Int) (j : Nat) (cc : Int) (wr : World) : Prop :=
  ∃ Z : List Int, Z.length = j ∧ wfL Z ∧ F (val Z) cc ∧ Upd w wr bz (spl L oz Z)
theorem VRel.start {F : Int → Int → Prop} {w : World} {bz oz : Nat} {L : List Int} {c : Int} (hz : w.heap[bz]? = some (blk L)) (h : F 0 c) : VRel F w bz oz L 0 c w :=
  ⟨[], rfl, wfL_nil, h, by rw [spl_nil]; exact Upd.refl hz⟩
theorem VRel.step {F F' : Int → Int → Prop} {w wr : World} {bz oz : Nat} {L : List Int} {j : Nat} {cc z c' : Int} (h : VRel F w bz oz L j cc wr) (hj : oz + j < L.length) (hz : U64 z)
    (hF : ∀ v, F v cc → F' (v + B64 ^ j * z) c') (nq : Nat) : VRel F' w bz oz L (j + 1) c' ((wr.drewN nq).setCell ⟨bz, oz + j, none⟩ (.int .u64 z)) := by
  obtain ⟨Z, hZ, wZ, hv, hu⟩ := h
  refine ⟨Z ++ [z], by simp [hZ], wfL_snoc wZ hz, by rw [val_snoc, hZ]; exact hF _ hv, ?_⟩
  rw [← spl_snoc _ _ _ _ (by omega), hZ]; exact (hu.drewN nq).set _ _
theorem VRel.read {F : Int → Int → Prop} {w wr : World} {bz oz bx ox : Nat} {L X : List Int} {j : Nat} {cc : Int} (h : VRel F w bz oz L j cc wr) (hX : At w bx ox X) (ha : bx = bz → ox = oz)
    (hL : w.heap[bz]? = some (blk L)) (hl : oz + X.length ≤ L.length) (hj : j < X.length) : wr.cell? ⟨bx, ox + j, none⟩ = some (.int .u64 (X[j]?.getD 0)) := by
  obtain ⟨Z, rfl, wZ, hv, hu⟩ := h
  exact At.upd hX ha hL hl hu hj
theorem VRel.room {F : Int → Int → Prop} {w wr : World} {bz oz : Nat} {L : List Int} {j : Nat} {cc : Int} (h : VRel F w bz oz L j cc wr) (i : Nat) (hi : i < L.length) (hl : oz + j ≤ L.length) :
    ∃ v, wr.cell? ⟨bz, i, none⟩ = some (.int .u64 v) := by
  obtain ⟨Z, rfl, wZ, hv, hu⟩ := h
  exact ⟨_, cell_blk hu.here _ (by rw [spl_length _ _ _ hl]; exact hi)⟩
theorem VRel.free {F : Int → Int → Prop} {w wr : World} {bz oz : Nat} {L : List Int} {j : Nat} {cc : Int} (h : VRel F w bz oz L j cc wr) (i : Nat) : wr.frozen? ⟨bz, i, none⟩ = false := by
  obtain ⟨Z, rfl, wZ, hv, hu⟩ := h
  exact frozen_blk hu.here _
def AddF (X Y : List Int) (j : Nat) (v c : Int) : Prop := Bit c ∧ v + B64 ^ j * c = val (X.take j) + val (Y.take j)
def SubF (X Y : List Int) (j : Nat) (v c : Int) : Prop := Bit c ∧ v - B64 ^ j * c = val (X.take j) - val (Y.take j)
def MulF (X : List Int) (y r : Int) (j : Nat) (v c : Int) : Prop := U64 c ∧ v + B64 ^ j * c = val (X.take j) * y + r
def AddMulF (X Y : List Int) (m a : Int) (j : Nat) (v c : Int) : Prop := U64 c ∧ v + B64 ^ j * c = val (X.take j) + val (Y.take j) * m + a
theorem AddF.step {X Y : List Int} {j : Nat} {v c : Int} (wx : wfL X) (wy : wfL Y) (hx : j < X.length) (hy : j < Y.length) (h : AddF X Y j v c) :
    AddF X Y (j + 1) (v + B64 ^ j * alo (X[j]?.getD 0) (Y[j]?.getD 0) c) (ahi (X[j]?.getD 0) (Y[j]?.getD 0) c) := by
  obtain ⟨hc, h⟩ := h
  refine ⟨ahi_b (getD_u64 wx _ hx) (getD_u64 wy _ hy) hc, ?_⟩
  rw [val_take_succ X j hx, val_take_succ Y j hy, Int.pow_succ]
  have := alo_ahi (X[j]?.getD 0) (Y[j]?.getD 0) c
  grind
theorem SubF.step {X Y : List Int} {j : Nat} {v c : Int} (wx : wfL X) (wy : wfL Y) (hx : j < X.length) (hy : j < Y.length) (h : SubF X Y j v c) :
    SubF X Y (j + 1) (v + B64 ^ j * slo (X[j]?.getD 0) (Y[j]?.getD 0) c) (shi (X[j]?.getD 0) (Y[j]?.getD 0) c) := by
  obtain ⟨hc, h⟩ := h
  refine ⟨shi_b _ _ _, ?_⟩
  rw [val_take_succ X j hx, val_take_succ Y j hy, Int.pow_succ]
  have := slo_shi (getD_u64 wx _ hx) (getD_u64 wy _ hy) hc
  grind
theorem MulF.step {X : List Int} {y r : Int} {j : Nat} {v c : Int} (wx : wfL X) (hy : U64 y) (hx : j < X.length) (h : MulF X y r j v c) :
    MulF X y r (j + 1) (v + B64 ^ j * malo (X[j]?.getD 0) y c) (mahi (X[j]?.getD 0) y c) := by
  obtain ⟨hc, h⟩ := h
  refine ⟨mahi_u (getD_u64 wx _ hx) hy hc, ?_⟩
  rw [val_take_succ X j hx, Int.pow_succ]
  have := malo_mahi (X[j]?.getD 0) y c
  grind
def amc (x y m c : Int) : Int := ahi (malo y m x) c 0 + mahi y m x
theorem amc_u {x y m c : Int} (hx : U64 x) (hy : U64 y) (hm : U64 m) (hc : U64 c) : U64 (amc x y m c) := by
  have h := malo_mahi y m x
  have h1 := alo_ahi (malo y m x) c 0
  have h2 := mul_le_sq hy hm
  have h3 := Int.mul_nonneg hy.1 hm.1
  have h4 := alo_u (malo y m x) c 0
  have h5 := mahi_u hy hm hx
  have h6 := ahi_b (malo_u y m x) hc bit0
  unfold amc U64 Bit B64 at *; omega
theorem AddMulF.step {X Y : List Int} {m a : Int} {j : Nat} {v c : Int} (wx : wfL X) (wy : wfL Y) (hm : U64 m) (hx : j < X.length) (hy : j < Y.length) (h : AddMulF X Y m a j v c) :
    AddMulF X Y m a (j + 1) (v + B64 ^ j * alo (malo (Y[j]?.getD 0) m (X[j]?.getD 0)) c 0) (amc (X[j]?.getD 0) (Y[j]?.getD 0) m c) := by
  obtain ⟨hc, h⟩ := h
  refine ⟨amc_u (getD_u64 wx _ hx) (getD_u64 wy _ hy) hm hc, ?_⟩
  rw [val_take_succ X j hx, val_take_succ Y j hy, Int.pow_succ]
  have h1 := malo_mahi (Y[j]?.getD 0) m (X[j]?.getD 0)
  have h2 := alo_ahi (malo (Y[j]?.getD 0) m (X[j]?.getD 0)) c 0
  unfold amc
  grind
theorem addVV_g (bz oz bx ox by_ oy n cz cx cy : Nat) (L X Y : List Int) (w : World) (hn : n ≤ 9223372036854775807) (hz : w.heap[bz]? = some (blk L)) (hl : oz + n ≤ L.length)
    (hX : At w bx ox X) (hY : At w by_ oy Y) (lx : X.length = n) (ly : Y.length = n) (wx : wfL X) (wy : wfL Y) (ax : bx = bz → ox = oz) (ay : by_ = bz → oy = oz) :
    Calls Tryz.prog 175 #[.slice (some ⟨bz, oz, none⟩) n cz, .slice (some ⟨bx, ox, none⟩) n cx, .slice (some ⟨by_, oy, none⟩) n cy] w fun e w' =>
      ∃ c, e = .returned (.int .u64 c) ∧ VRel (AddF X Y n) w bz oz L n c w' := by
  have HX := Hq0 hX; have HY := Hq0 hY; have Hl := Hq0 hl; have Hz := Hq0 hz; have Lx := Hq0 lx; have Ly := Hq0 ly
  have Ax := Hq0 ax; have Ay := Hq0 ay
  clear hX hY hl hz lx ly ax ay
  go_enter Tryz.func175, Tryz.ntmps175
  go_wp2
  go_loopw [6, 25] (fun c i wr => ∃ (j : Nat) (cc : Int), j ≤ n ∧ i = .int .i64 j ∧ c = .int .u64 cc ∧ VRel (AddF X Y j) w bz oz L j cc wr) (fun _ i _ => n - (intOf i).toNat)
  case atStart => exact ⟨0, 0, Nat.zero_le _, rfl, rfl, .start Hz.out ⟨bit0, by simp [val]⟩⟩
  case round =>
    obtain ⟨j, cc, hj, rfl, rfl, hR⟩ := hrel
    have HR := Hq0 hR
    clear hR
    by_cases hlt : j < n
    · have hl := Hl.out; have lx := Lx.out; have ly := Ly.out
      have bc : Bit cc := by obtain ⟨Z, _, _, h, _⟩ := HR.out; exact h.1
      have g1 := HR.out.read HX.out Ax.out Hz.out (by omega) (by omega)
      have g2 := HR.out.read HY.out Ay.out Hz.out (by omega) (by omega)
      obtain ⟨zj, g3⟩ := HR.out.room (oz + j) (by omega) (by omega)
      have g4 := HR.out.free (oz + j)
      have hn1 := Hq0 (fun nq => HR.out.step (F' := AddF X Y (j + 1)) (by omega) (alo_u _ _ _) (fun v h => h.step wx wy (by omega) (by omega)) nq)
      have u1 := getD_u64 wx j (by omega)
      have u2 := getD_u64 wy j (by omega)
      clear hl lx ly
      generalize X[j]?.getD 0 = xj at *
      generalize Y[j]?.getD 0 = yj at *
      go_wp2_with (fail)
      go_quiet ((go_at_call 176; exact Calls.quiet_of_same (qs <| bits_Add _ _ _ _ u1 u2 bc)))
      go_wp2
      go_roundw
      case rel => exact ⟨j + 1, _, by omega, by go_num, rfl, hn1.out _⟩
      case measure => simp [intOf]; omega
    · obtain rfl : j = n := by omega
      go_wp2
      go_ret
      exact ⟨_, rfl, HR.out⟩
theorem subVV_g (bz oz bx ox by_ oy n cz cx cy : Nat) (L X Y : List Int) (w : World) (hn : n ≤ 9223372036854775807) (hz : w.heap[bz]? = some (blk L)) (hl : oz + n ≤ L.length)
    (hX : At w bx ox X) (hY : At w by_ oy Y) (lx : X.length = n) (ly : Y.length = n) (wx : wfL X) (wy : wfL Y) (ax : bx = bz → ox = oz) (ay : by_ = bz → oy = oz) :
    Calls Tryz.prog 177 #[.slice (some ⟨bz, oz, none⟩) n cz, .slice (some ⟨bx, ox, none⟩) n cx, .slice (some ⟨by_, oy, none⟩) n cy] w fun e w' =>
      ∃ c, e = .returned (.int .u64 c) ∧ VRel (SubF X Y n) w bz oz L n c w' := by
  have HX := Hq0 hX; have HY := Hq0 hY; have Hl := Hq0 hl; have Hz := Hq0 hz; have Lx := Hq0 lx; have Ly := Hq0 ly
  have Ax := Hq0 ax; have Ay := Hq0 ay
  clear hX hY hl hz lx ly ax ay
  go_enter Tryz.func177, Tryz.ntmps177
  go_wp2
  go_loopw [6, 25] (fun c i wr => ∃ (j : Nat) (cc : Int), j ≤ n ∧ i = .int .i64 j ∧ c = .int .u64 cc ∧ VRel (SubF X Y j) w bz oz L j cc wr) (fun _ i _ => n - (intOf i).toNat)
  case atStart => exact ⟨0, 0, Nat.zero_le _, rfl, rfl, .start Hz.out ⟨bit0, by simp [val]⟩⟩
  case round =>
    obtain ⟨j, cc, hj, rfl, rfl, hR⟩ := hrel
    have HR := Hq0 hR
    clear hR
    by_cases hlt : j < n
    · have hl := Hl.out; have lx := Lx.out; have ly := Ly.out
      have bc : Bit cc := by obtain ⟨Z, _, _, h, _⟩ := HR.out; exact h.1
      have g1 := HR.out.read HX.out Ax.out Hz.out (by omega) (by omega)
      have g2 := HR.out.read HY.out Ay.out Hz.out (by omega) (by omega)
      obtain ⟨zj, g3⟩ := HR.out.room (oz + j) (by omega) (by omega)
      have g4 := HR.out.free (oz + j)
      have hn1 := Hq0 (fun nq => HR.out.step (F' := SubF X Y (j + 1)) (by omega) (slo_u _ _ _) (fun v h => h.step wx wy (by omega) (by omega)) nq)
      have u1 := getD_u64 wx j (by omega)
      have u2 := getD_u64 wy j (by omega)
      clear hl lx ly
      generalize X[j]?.getD 0 = xj at *
      generalize Y[j]?.getD 0 = yj at *
      go_wp2_with (fail)
      go_quiet ((go_at_call 178; exact Calls.quiet_of_same (qs <| bits_Sub _ _ _ _ u1 u2 bc)))
      go_wp2
      go_roundw
      case rel => exact ⟨j + 1, _, by omega, by go_num, rfl, hn1.out _⟩
      case measure => simp [intOf]; omega
    · obtain rfl : j = n := by omega
      go_wp2
      go_ret
      exact ⟨_, rfl, HR.out⟩
theorem mulAddVWW_g (bz oz bx ox n cz cx : Nat) (L X : List Int) (y r : Int) (w : World) (hn : n ≤ 9223372036854775807) (hz : w.heap[bz]? = some (blk L)) (hl : oz + n ≤ L.length)
    (hX : At w bx ox X) (lx : X.length = n) (wx : wfL X) (ax : bx = bz → ox = oz) (hy : U64 y) (hr : U64 r) :
    Calls Tryz.prog 228 #[.slice (some ⟨bz, oz, none⟩) n cz, .slice (some ⟨bx, ox, none⟩) n cx, .int .u64 y, .int .u64 r] w fun e w' =>
      ∃ c, e = .returned (.int .u64 c) ∧ VRel (MulF X y r n) w bz oz L n c w' := by
  have HX := Hq0 hX; have Hl := Hq0 hl; have Hz := Hq0 hz; have Lx := Hq0 lx
  have Ax := Hq0 ax
  clear hX hl hz lx ax
  go_enter Tryz.func228, Tryz.ntmps228
  go_wp2
  go_loopw [8, 19] (fun c i wr => ∃ (j : Nat) (cc : Int), j ≤ n ∧ i = .int .i64 j ∧ c = .int .u64 cc ∧ VRel (MulF X y r j) w bz oz L j cc wr) (fun _ i _ => n - (intOf i).toNat)
  case atStart => exact ⟨0, r, Nat.zero_le _, rfl, rfl, .start Hz.out ⟨hr, by simp [val]⟩⟩
  case round =>
    obtain ⟨j, cc, hj, rfl, rfl, hR⟩ := hrel
    have HR := Hq0 hR
    clear hR
    by_cases hlt : j < n
    · have hl := Hl.out; have lx := Lx.out
      have bc : U64 cc := by obtain ⟨Z, _, _, h, _⟩ := HR.out; exact h.1
      have g1 := HR.out.read HX.out Ax.out Hz.out (by omega) (by omega)
      obtain ⟨zj, g3⟩ := HR.out.room (oz + j) (by omega) (by omega)
      have g4 := HR.out.free (oz + j)
      have hn1 := Hq0 (HR.out.step (F' := MulF X y r (j + 1)) (by omega) (malo_u _ _ _) (fun v h => h.step wx hy (by omega)) 0)
      have u1 := getD_u64 wx j (by omega)
      clear hl lx
      generalize X[j]?.getD 0 = xj at *
      go_wp2_with (go_at_call 268; refine (mulAddWWW_g _ _ _ _ u1 hy bc).mono ?_; rintro e w' ⟨rfl, rfl⟩)
      go_roundw
      case rel => exact ⟨j + 1, _, by omega, by go_num, rfl, hn1.out⟩
      case measure => simp [intOf]; omega
    · obtain rfl : j = n := by omega
      go_wp2
      go_ret
      exact ⟨_, rfl, HR.out⟩
theorem addMulVVWW_g (bz oz bx ox by_ oy n cz cx cy : Nat) (L X Y : List Int) (m a : Int) (w : World) (hn : n ≤ 9223372036854775807) (hz : w.heap[bz]? = some (blk L)) (hl : oz + n ≤ L.length)
    (hX : At w bx ox X) (hY : At w by_ oy Y) (lx : X.length = n) (ly : Y.length = n) (wx : wfL X) (wy : wfL Y) (ax : bx = bz → ox = oz) (ay : by_ = bz → oy = oz) (hm : U64 m) (ha : U64 a) :
    Calls Tryz.prog 226 #[.slice (some ⟨bz, oz, none⟩) n cz, .slice (some ⟨bx, ox, none⟩) n cx, .slice (some ⟨by_, oy, none⟩) n cy, .int .u64 m, .int .u64 a] w fun e w' =>
      ∃ c, e = .returned (.int .u64 c) ∧ VRel (AddMulF X Y m a n) w bz oz L n c w' := by
  have HX := Hq0 hX; have HY := Hq0 hY; have Hl := Hq0 hl; have Hz := Hq0 hz; have Lx := Hq0 lx; have Ly := Hq0 ly
  have Ax := Hq0 ax; have Ay := Hq0 ay
  clear hX hY hl hz lx ly ax ay
  go_enter Tryz.func226, Tryz.ntmps226
  go_wp2
  go_loopw [10, 32] (fun c i wr => ∃ (j : Nat) (cc : Int), j ≤ n ∧ i = .int .i64 j ∧ c = .int .u64 cc ∧ VRel (AddMulF X Y m a j) w bz oz L j cc wr) (fun _ i _ => n - (intOf i).toNat)
  case atStart => exact ⟨0, a, Nat.zero_le _, rfl, rfl, .start Hz.out ⟨ha, by simp [val]⟩⟩
  case round =>
    obtain ⟨j, cc, hj, rfl, rfl, hR⟩ := hrel
    have HR := Hq0 hR
    clear hR
    by_cases hlt : j < n
    · have hl := Hl.out; have lx := Lx.out; have ly := Ly.out
      have bc : U64 cc := by obtain ⟨Z, _, _, h, _⟩ := HR.out; exact h.1
      have g1 := HR.out.read HX.out Ax.out Hz.out (by omega) (by omega)
      have g2 := HR.out.read HY.out Ay.out Hz.out (by omega) (by omega)
      obtain ⟨zj, g3⟩ := HR.out.room (oz + j) (by omega) (by omega)
      have g4 := HR.out.free (oz + j)
      have hn1 := Hq0 (fun nq => HR.out.step (F' := AddMulF X Y m a (j + 1)) (by omega) (alo_u _ _ _) (fun v h => h.step wx wy hm (by omega) (by omega)) nq)
      have u1 := getD_u64 wx j (by omega)
      have u2 := getD_u64 wy j (by omega)
      have u3 := malo_u (Y[j]?.getD 0) m (X[j]?.getD 0)
      have u4 := Hq0 (wrap_u64 (amc_u u1 u2 hm bc))
      clear hl lx ly
      generalize X[j]?.getD 0 = xj at *
      generalize Y[j]?.getD 0 = yj at *
      go_wp2_with (fail)
      go_quiet ((go_at_call 268; exact Calls.quiet_of_same (qs <| mulAddWWW_g _ _ _ _ u2 hm u1)))
      go_wp2_with (go_at_call 176; refine (bits_Add _ _ _ _ u3 bc bit0).mono ?_; rintro e w' ⟨rfl, rfl⟩)
      go_roundw
      case rel => exact ⟨j + 1, _, by omega, by go_num, by exact congrArg (Value.int .u64) u4.out, hn1.out _⟩
      case measure => simp [intOf]; omega
    · obtain rfl : j = n := by omega
      go_wp2
      go_ret
      exact ⟨_, rfl, HR.out⟩
end Go.Proofs.YtjcfacinlgogaaaGreatDoor
namespace Go.Proofs.YtjcfacinlgogaaaGreatDoor
open Go.RowKit
theorem oneCell_words (X : List Int) : ∀ v ∈ X.map (Value.int .u64), v.oneCell' = true := by
  intro v hv; obtain ⟨x, _, rfl⟩ := List.mem_map.1 hv; rfl
theorem Upd.of_setRow {w : World} {b : Nat} {L : List Int} (h : w.heap[b]? = some (blk L)) (M : List Int) (cs : Array Value) (hc : cs = (M.map (Value.int .u64)).toArray) : Upd w (w.setRow b cs) b M :=
  ⟨rfl, rfl, rfl, by simp [World.setRow], by rw [hc]; exact setRow_heap w b _ _ _ _ h, fun k hk => setRow_other w b k cs hk⟩
theorem At.src {w : World} {b o : Nat} {X : List Int} (h : At w b o X) : ∀ j v, (X.map (Value.int .u64))[j]? = some v → w.cell? ((⟨b, o, none⟩ : Addr).add j) = some v := by
  intro j v hv
  have hj : j < X.length := by
    have := (List.getElem?_eq_some_iff.1 hv).1; simpa using this
  have := h j hj
  have e : (⟨b, o, none⟩ : Addr).add j = ⟨b, o + j, none⟩ := by unfold Addr.add; split <;> simp_all
  rw [e, this, ← hv]; simp [hj]
theorem splice_words (L X : List Int) (o : Nat) : (((L.map (Value.int .u64)).take o ++ (X.map (Value.int .u64) ++ (L.map (Value.int .u64)).drop (o + (X.map (Value.int .u64)).length))).toArray) = ((spl L o X).map (Value.int .u64)).toArray := by
  unfold spl; simp
theorem wpList_copy_w {P : Program} {w : World} {ops : Array Oper} {rest : List Oper} {o : Oper} {a : Act} {Q : Exit → Act → World → Prop} (hgd : o.guard = none) (d s : Operand) (dT sT : TypeId)
    (ho : o.op = .call { callee := .builtin .copy, args := #[d, s], argTypes := #[dT, sT] }) (elem : TypeId) (hu : P.underlying dT = some (.slice elem)) (hsz : (P.info? elem).map (·.size) = some 1)
    (dp sp : Option Addr) (dLen dCap sLen sCap : Nat) (hd : a.eval d = .slice dp dLen dCap) (hs : a.eval s = .slice sp sLen sCap)
    (bz oz : Nat) (L X : List Int) (hz : w.heap[bz]? = some (blk L)) (hn : X.length = Nat.min sLen dLen)
    (hpos : 0 < X.length → dp = some ⟨bz, oz, none⟩ ∧ ∃ bx ox, sp = some ⟨bx, ox, none⟩ ∧ At w bx ox X) (hfit : oz + X.length ≤ L.length)
    (h : ∀ w', Upd w w' bz (spl L oz X) → wpList P ops Q rest (a.put o.dst (goInt X.length)) w') :
    wpList P ops Q (o :: rest) a w := by
  by_cases h0 : X.length = 0
  · obtain rfl : X = [] := List.eq_nil_of_length_eq_zero h0
    refine wpList_copy_nothing hgd d s dT sT ho elem hu hsz dp sp dLen dCap sLen sCap hd hs (by simpa using hn.symm) ?_
    exact h w (by rw [spl_nil]; exact Upd.refl hz)
  · obtain ⟨rfl, bx, ox, rfl, hsrc⟩ := hpos (by omega)
    refine wpList_copy_own hgd d s dT sT ho elem hu hsz bz oz dLen dCap ⟨bx, ox, none⟩ sLen sCap hd hs (L.map (Value.int .u64)).toArray 104 hz (X.map (Value.int .u64)) (by simpa using hn) hsrc.src (by simpa using hfit) (oneCell_words X) ?_
    have := h _ (Upd.of_setRow hz _ _ (splice_words L X oz))
    simpa using this
def VWF (X : List Int) (y : Int) (j : Nat) (v c : Int) : Prop := Bit c ∧ v + B64 ^ j * c = val (X.take j) + y
def VWS (X : List Int) (y : Int) (j : Nat) (v c : Int) : Prop := Bit c ∧ v - B64 ^ j * c = val (X.take j) - y
theorem VRel.upd {F : Int → Int → Prop} {w w1 w2 : World} {bz oz : Nat} {L : List Int} {j : Nat} {cc : Int} (h : VRel F w bz oz L j cc w1) {F' : Int → Int → Prop} {R : List Int} {c' : Int} (hl : oz + j + R.length ≤ L.length) (wR : wfL R)
    (hu : ∀ M, w1.heap[bz]? = some (blk M) → Upd w1 w2 bz (spl M (oz + j) R)) (hF : ∀ v, F v cc → F' (v + B64 ^ j * val R) c') : VRel F' w bz oz L (j + R.length) c' w2 := by
  obtain ⟨Z, rfl, wZ, hv, hu1⟩ := h
  refine ⟨Z ++ R, by simp, wfL_append wZ wR, by rw [val_append]; exact hF _ hv, ?_⟩
  have h2 := hu _ hu1.here
  have e : spl (spl L oz Z) (oz + Z.length) R = spl L oz (Z ++ R) := by
    unfold spl
    rw [List.take_append, List.take_append, List.drop_append, List.drop_append]
    simp only [List.length_append, List.length_take, List.take_take, List.drop_take, List.drop_drop]
    rw [show min (oz + Z.length) oz = oz by omega, show oz + Z.length - min oz L.length = Z.length by omega, List.take_length, show oz + Z.length - (min oz L.length + Z.length) = 0 by omega,
      show oz - (oz + Z.length + R.length) = 0 by omega, show oz + Z.length + R.length - min oz L.length = Z.length + R.length by omega,
      show oz + Z.length + R.length - (min oz L.length + Z.length) = R.length by omega]
    simp [List.append_assoc, Nat.add_assoc]
  rw [e] at h2
  exact hu1.trans h2
theorem blk_inj {L M : List Int} (h : blk L = blk M) : L = M := by
  have h2 : L.map (Value.int .u64) = M.map (Value.int .u64) := by simpa [blk] using h
  exact List.map_inj_right (fun a b h => by simpa using h) |>.1 h2
theorem VRel.here {F : Int → Int → Prop} {w w1 : World} {bz oz : Nat} {L : List Int} {j : Nat} {cc : Int} (h : VRel F w bz oz L j cc w1) (hl : oz + j ≤ L.length) : ∃ M, w1.heap[bz]? = some (blk M) ∧ M.length = L.length := by
  obtain ⟨Z, rfl, wZ, hv, hu⟩ := h
  exact ⟨_, hu.here, spl_length _ _ _ hl⟩
theorem VRel.upd' {F : Int → Int → Prop} {w w1 w2 : World} {bz oz : Nat} {L : List Int} {j : Nat} {cc : Int} (h : VRel F w bz oz L j cc w1) {F' : Int → Int → Prop} {R M : List Int} {c' : Int} {n : Nat} (hn : j + R.length = n) (hl : oz + n ≤ L.length) (wR : wfL R)
    (hM : w1.heap[bz]? = some (blk M)) (hu : Upd w1 w2 bz (spl M (oz + j) R)) (hF : ∀ v, F v cc → F' (v + B64 ^ j * val R) c') : VRel F' w bz oz L n c' w2 := by
  subst hn
  refine h.upd (by omega) wR (fun M' hM' => ?_) hF
  have := blk_inj (Option.some.inj (hM'.symm.trans hM))
  subst this; exact hu
theorem VRel.other {F : Int → Int → Prop} {w w1 : World} {bz oz : Nat} {L : List Int} {j : Nat} {cc : Int} (h : VRel F w bz oz L j cc w1) {k : Nat} (hk : k ≠ bz) : w1.heap[k]? = w.heap[k]? := by
  obtain ⟨Z, hZ, wZ, hv, hu⟩ := h; exact hu.block k hk
theorem At.drop {w w1 : World} {b o : Nat} {X : List Int} (h : At w b o X) (j : Nat) (hb : w1.heap[b]? = w.heap[b]?) : At w1 b (o + j) (X.drop j) := by
  intro i hi
  simp at hi
  rw [World.cell?_of_block (w := w) (w' := w1) (a := ⟨b, o + j + i, none⟩) hb, Nat.add_assoc, h (j + i) (by omega), List.getElem?_drop]
def adv (o k c : Nat) : Nat := if c = k then o else o + k
theorem adv_lt {o k c : Nat} (h : k < c) : adv o k c = o + k := by unfold adv; rw [if_neg (by omega)]
theorem run_slice_from {P : Program} {T e : TypeId} (hT : P.underlying T = some (.slice e)) (hs : (P.info? e).map (·.size) = some 1) (b o n c k : Nat) (lo : Int) (hlo : lo = k) (hk : k ≤ n) (wx : World) :
    (Instr.slice T (.slice (some ⟨b, o, none⟩) n c) (some (.int .i64 lo)) none none).run P wx = .ok (.slice (some ⟨b, adv o k c, none⟩) (n - k) (c - k)) wx := by
  subst hlo
  cases hq : P.info? e with
  | none => simp [hq] at hs
  | some i =>
    have hi : i.size = 1 := by simpa [hq] using hs
    have hk' : (k : Int) ≤ n := by omega
    unfold adv
    by_cases hc : c = k
    · simp [Instr.slice, Instr.sliceBounds, Instr.sliceBound, run_underlying hT, sizeOf, typeInfo, hq, asIntOf, hk, hc]
    · by_cases h0 : k = 0
      · subst h0; simp [Instr.slice, Instr.sliceBounds, Instr.sliceBound, run_underlying hT, sizeOf, typeInfo, hq, asIntOf, hc, Addr.add]
      · simp [Instr.slice, Instr.sliceBounds, Instr.sliceBound, run_underlying hT, sizeOf, typeInfo, hq, hi, asIntOf, hk, hc, Addr.add, h0]
end Go.Proofs.YtjcfacinlgogaaaGreatDoor
namespace Go.Proofs.YtjcfacinlgogaaaGreatDoor
open Go.RowKit
theorem spl_self (M R : List Int) (o : Nat) (hl : o + R.length ≤ M.length) (h : ∀ i, i < R.length → M[o + i]?.getD 0 = R[i]?.getD 0) : spl M o R = M := by
  apply List.ext_getElem?
  intro k
  unfold spl
  by_cases h1 : k < o
  · rw [List.append_assoc, List.getElem?_append_left (by simp; omega), List.getElem?_take, if_pos h1]
  · by_cases h2 : k < o + R.length
    · rw [List.append_assoc, List.getElem?_append_right (by simp; omega), List.length_take, show k - min o M.length = k - o by omega, List.getElem?_append_left (by omega)]
      have := h (k - o) (by omega)
      rw [show o + (k - o) = k by omega] at this
      rw [List.getElem?_eq_getElem (by omega), List.getElem?_eq_getElem (by omega)] at *
      simpa using this.symm
    · rw [List.getElem?_append_right (by simp; omega), List.getElem?_drop]
      simp only [List.length_append, List.length_take]
      rw [show o + R.length + (k - (min o M.length + R.length)) = k by omega]
theorem VRel.rest {F : Int → Int → Prop} {w w1 : World} {bz oz : Nat} {L X : List Int} {j : Nat} {cc : Int} (h : VRel F w bz oz L j cc w1) (hX : At w bz oz X) (hz : w.heap[bz]? = some (blk L)) (hl : oz + X.length ≤ L.length) (hj : j ≤ X.length) (wX : wfL X)
    {F' : Int → Int → Prop} (hF : ∀ v, F v cc → F' (v + B64 ^ j * val (X.drop j)) cc) : VRel F' w bz oz L X.length cc w1 := by
  obtain ⟨Z, hZ, wZ, hv, hu⟩ := h
  have := VRel.upd (F' := F') (c' := cc) (R := X.drop j) (w2 := w1) ⟨Z, hZ, wZ, hv, hu⟩ (by simp; omega) (wfL_drop wX _) (fun M hM => by
    have e : M = spl L oz Z := by
      have h1 := hM.symm.trans hu.here
      have h2 : M.map (Value.int .u64) = (spl L oz Z).map (Value.int .u64) := by simpa [blk] using h1
      exact List.map_inj_right (fun a b h => by simpa using h) |>.1 h2
    rw [spl_self]
    · exact Upd.refl hM
    · rw [e, spl_length _ _ _ (by omega)]; simp; omega
    · intro i hi
      simp at hi
      rw [e, Nat.add_assoc, show oz + (j + i) = oz + j + i by omega, spl_get _ _ _ _ (by omega) (by omega)]
      have h3 := hX (j + i) (by omega)
      rw [cell_blk hz _ (by omega)] at h3
      simp only [Option.some.injEq, Value.int.injEq, true_and] at h3
      rw [show oz + j + i = oz + (j + i) by omega, h3, List.getElem?_drop]) hF
  rw [show X.length = j + (X.drop j).length by simp; omega]; exact this
theorem val_split (X : List Int) (j : Nat) (h : j ≤ X.length) : val X = val (X.take j) + B64 ^ j * val (X.drop j) := by
  conv => lhs; rw [← List.take_append_drop j X]
  rw [val_append, List.length_take, show min j X.length = j by omega]
theorem VWF.rest {X : List Int} {y v : Int} {j : Nat} (hj : j ≤ X.length) (h : VWF X y j v 0) : VWF X y X.length (v + B64 ^ j * val (X.drop j)) 0 := by
  refine ⟨bit0, ?_⟩
  have := h.2
  rw [List.take_length, val_split X j hj]; grind
theorem VWF.one {X : List Int} {y : Int} (h : 0 < X.length) (wx : wfL X) (hy : U64 y) : VWF X y 1 (0 + B64 ^ 0 * alo (X[0]?.getD 0) y 0) (ahi (X[0]?.getD 0) y 0) := by
  refine ⟨ahi_b (getD_u64 wx 0 h) hy bit0, ?_⟩
  have h1 := alo_ahi (X[0]?.getD 0) y 0
  have h2 := val_take_succ X 0 h
  rw [h2]; simp [val]; grind
theorem VWF.keep {X : List Int} {y v : Int} {j : Nat} (hj : j < X.length) (hx : X[j]?.getD 0 = 18446744073709551615) (h : VWF X y j v 1) : VWF X y (j + 1) (v + B64 ^ j * 0) 1 := by
  refine ⟨bit1, ?_⟩
  have := h.2
  rw [val_take_succ X j hj, hx, Int.pow_succ]
  have : B64 = 18446744073709551615 + 1 := rfl
  grind
theorem VWF.stop {X : List Int} {y v : Int} {j : Nat} (hj : j < X.length) (h : VWF X y j v 1) : VWF X y (j + 1) (v + B64 ^ j * (X[j]?.getD 0 + 1)) 0 := by
  refine ⟨bit0, ?_⟩
  have := h.2
  rw [val_take_succ X j hj, Int.pow_succ]
  grind
theorem VRel.drewN {F : Int → Int → Prop} {w w1 : World} {bz oz : Nat} {L : List Int} {j : Nat} {cc : Int} (h : VRel F w bz oz L j cc w1) (n : Nat) : VRel F w bz oz L j cc (w1.drewN n) := by
  obtain ⟨Z, hZ, wZ, hv, hu⟩ := h; exact ⟨Z, hZ, wZ, hv, hu.drewN n⟩
theorem und86 : Tryz.prog.underlying 103 = some (.slice 104) := by kernel_rfl
theorem und88 : Tryz.prog.underlying 105 = some (.slice 104) := by kernel_rfl
theorem siz87 : (Tryz.prog.info? 104).map (·.size) = some 1 := by kernel_rfl
theorem und145 : Tryz.prog.underlying 168 = some (.pointer 104) := by kernel_rfl
theorem inf87 : ∃ j, Tryz.prog.info? 104 = some j ∧ j.size ≠ 0 := by
  have h := siz87
  cases hq : Tryz.prog.info? 104 with
  | none => rw [hq] at h; simp at h
  | some j => rw [hq] at h; simp at h; exact ⟨j, rfl, by omega⟩
theorem neq_same (a : Addr) (wx : World) : (binOp .neq 168 (.pointer (some a)) (.pointer (some a))).run Tryz.prog wx = .ok (.bool false) wx := by
  obtain ⟨j, hj, _⟩ := inf87
  have h : ∀ d : Nat, (Op.equalIn (d + 1) 168 (.pointer (some a)) (.pointer (some a))).run Tryz.prog wx = .ok true wx := fun d => by
    simp [Op.equalIn, run_underlying und145, sizeOf, typeInfo, hj, run_sameAddr_same]
  simp only [binOp]
  simp [Op.equal, Op.maxDepth, h 9999]
theorem neq_other {a b : Addr} {A B : List Int} {wx : World} (hne : a ≠ b) (ha : wx.heap[a.block]? = some (blk A)) (hb : wx.heap[b.block]? = some (blk B)) :
    (binOp .neq 168 (.pointer (some a)) (.pointer (some b))).run Tryz.prog wx = .ok (.bool true) wx := by
  obtain ⟨j, hj, hs⟩ := inf87
  have h : ∀ d : Nat, (Op.equalIn (d + 1) 168 (.pointer (some a)) (.pointer (some b))).run Tryz.prog wx = .ok false wx := fun d => by
    simp [Op.equalIn, run_underlying und145, sizeOf, typeInfo, hj, hs, run_sameAddr_other wx hne ha hb]
  simp only [binOp]
  simp [Op.equal, Op.maxDepth, h 9999]
theorem addVW_same (bz oz n cz cx : Nat) (L X : List Int) (y : Int) (w : World) (hn : n ≤ 9223372036854775807) (h1 : 1 ≤ n) (hz : w.heap[bz]? = some (blk L)) (hl : oz + n ≤ L.length)
    (hX : At w bz oz X) (lx : X.length = n) (wx : wfL X) (hy : U64 y) :
    Calls Tryz.prog 147 #[.slice (some ⟨bz, oz, none⟩) n cz, .slice (some ⟨bz, oz, none⟩) n cx, .int .u64 y] w fun e w' =>
      ∃ c, e = .returned (.int .u64 c) ∧ VRel (VWF X y n) w bz oz L n c w' := by
  have HX := Hq0 hX; have Hl := Hq0 hl; have Hz := Hq0 hz; have Lx := Hq0 lx
  have hu0 := Upd.refl hz
  have g1 := hX 0 (by omega)
  have g3 := cell_blk hz oz (by omega)
  have g4 := frozen_blk hz oz
  rw [Nat.add_zero] at g1
  have u1 := getD_u64 wx 0 (by omega)
  have H1 : Hid (VRel (VWF X y 1) w bz oz L 1 (ahi (X[0]?.getD 0) y 0) ((w.drewN 0).setCell ⟨bz, oz + 0, none⟩ (.int .u64 (alo (X[0]?.getD 0) y 0)))) :=
    VRel.step (.start hz (F := fun v c => v = 0) (c := 0) rfl) (by omega) (alo_u _ _ _) (fun v h => by subst h; exact VWF.one (by omega) wx hy) 0
  clear hX hl hz lx
  generalize X[0]?.getD 0 = x0 at *
  generalize L[oz]?.getD 0 = z0 at *
  have hz0 : x0 = z0 := by rw [g1] at g3; simpa using g3
  subst hz0
  clear g3
  have hb0 : 0 < n := by omega
  have hne := neq_same ⟨bz, oz, none⟩
  go_enter Tryz.func147, Tryz.ntmps147
  go_wp2_with (go_at_call 176; refine (bits_Add _ _ _ _ u1 hy bit0).mono ?_; rintro e w' ⟨rfl, rfl⟩)
  · have hc : ahi x0 y 0 = 0 := by simpa using (by assumption : (ahi x0 y 0 == 0) = true)
    have HF : Hid (VRel (VWF X y n) w bz oz L n 0 ((w.drewN 0).setCell ⟨bz, oz + 0, none⟩ (.int .u64 (alo x0 y 0)))) := by
      have := Lx.out; have := Hl.out
      have h2 := H1.out; rw [hc] at h2
      have h3 := h2.rest (F' := VWF X y n) HX.out Hz.out (by omega) (by omega) wx (fun v h => by rw [← Lx.out]; exact h.rest (by omega))
      rw [Lx.out] at h3; exact h3
    clear hc H1
    go_wp2_with (fail)
    go_quiet (fail)
    go_wp2
    go_ret
    exact ⟨_, rfl, HF.out.drewN _⟩
  · have hc : ahi x0 y 0 = 1 := by
      have h1 : (ahi x0 y 0 == 0) = false := by assumption
      have h2 := ahi_b u1 hy bit0
      unfold Bit at h2; simp at h1; omega
    rw [hc] at H1
    clear hc g1 g4 hu0
    go_loopw [9] (fun i wr => ∃ j : Nat, 1 ≤ j ∧ j ≤ n ∧ i = .int .i64 j ∧ VRel (VWF X y j) w bz oz L j 1 wr) (fun i _ => n - (intOf i).toNat)
    case atStart => exact ⟨1, Nat.le_refl _, h1, rfl, H1.out⟩
    case round =>
      obtain ⟨j, hj1, hj, rfl, hR⟩ := hrel
      have HR := Hq0 hR
      clear hR H1
      by_cases hlt : j < n
      · have hl := Hl.out; have lx := Lx.out
        have g1 := HR.out.read HX.out (fun _ => rfl) Hz.out (by omega) (by omega)
        obtain ⟨zj, g3⟩ := HR.out.room (oz + j) (by omega) (by omega)
        have g4 := HR.out.free (oz + j)
        have gx := g1
        rw [g3] at gx
        simp only [Option.some.injEq, Value.int.injEq, true_and] at gx
        subst gx
        have uj := getD_u64 wx j (by omega)
        by_cases hmax : X[j]?.getD 0 = 18446744073709551615
        · have hn1 := Hq0 (HR.out.step (F' := VWF X y (j + 1)) (by omega) u0 (fun v h => h.keep (by omega) hmax) 0)
          have hb : (X[j]?.getD 0 != 18446744073709551615) = false := by rw [hmax]; rfl
          clear hl lx g3 uj hmax
          generalize X[j]?.getD 0 = xj at *
          go_wp2
          go_roundw
          case rel => exact ⟨j + 1, by omega, by omega, by go_num, hn1.out⟩
          case measure => simp [intOf]; omega
        · have hub : U64 (X[j]?.getD 0 + 1) := by unfold U64 B64 at *; omega
          have hn1 := HR.out.step (F' := VWF X y (j + 1)) (by omega) hub (fun v h => h.stop (by omega)) 0
          have h3 := hn1.rest (F' := VWF X y n) HX.out Hz.out (by omega) (by omega) wx (fun v h => by rw [← lx]; exact h.rest (by omega))
          rw [lx, ← wrap_u64 hub] at h3
          have HF := Hq0 h3
          have hb : (X[j]?.getD 0 != 18446744073709551615) = true := by simp [hmax]
          have hz0 := Hz.out
          obtain ⟨z0, k3⟩ := HR.out.room oz (by omega) (by omega)
          clear hl lx g3 uj hmax h3 hn1 hz0
          generalize X[j]?.getD 0 = xj at *
          go_wp2
          go_quiet (fail)
          go_wp2
          go_ret
          exact ⟨_, rfl, HF.out.drewN _⟩
      · obtain rfl : j = n := by omega
        go_wp2
        go_ret
        exact ⟨_, rfl, HR.out⟩
end Go.Proofs.YtjcfacinlgogaaaGreatDoor
