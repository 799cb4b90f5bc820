/- copy of words; a number and a word, added and subtracted; shifts of words. Conditions as in the text before. -/
import Derived.Test.YtndphemomhcjlaaGreatDoorQ02
import Derived.Laws.CopyOwn
import Derived.StillTailTactics
set_option linter.all false

namespace Go.Proofs.YtndphemomhcjlaaGreatDoor
open Go.RowKit

theorem oneCell_words (X : List Int) : ∀ v ∈ X.map (Value.int .u64), v.oneCell' = true := by
  intro v hv; obtain ⟨x, _, rfl⟩ := List.mem_map.1 hv; rfl

theorem Upd.of_setRow {w : World} {b : Nat} {L : List Int} (h : w.heap[b]? = some (blk L)) (M : List Int) (cs : Array Value) (hc : cs = (M.map (Value.int .u64)).toArray) : Upd w (w.setRow b cs) b M :=
  ⟨rfl, rfl, rfl, by simp [World.setRow], by rw [hc]; exact setRow_heap w b _ _ _ _ h, fun k hk => setRow_other w b k cs hk⟩

theorem At.src {w : World} {b o : Nat} {X : List Int} (h : At w b o X) : ∀ j v, (X.map (Value.int .u64))[j]? = some v → w.cell? ((⟨b, o, none⟩ : Addr).add j) = some v := by
  intro j v hv
  have hj : j < X.length := by
    have := (List.getElem?_eq_some_iff.1 hv).1; simpa using this
  have := h j hj
  have e : (⟨b, o, none⟩ : Addr).add j = ⟨b, o + j, none⟩ := by unfold Addr.add; split <;> simp_all
  rw [e, this, ← hv]; simp [hj]

theorem splice_words (L X : List Int) (o : Nat) : (((L.map (Value.int .u64)).take o ++ (X.map (Value.int .u64) ++ (L.map (Value.int .u64)).drop (o + (X.map (Value.int .u64)).length))).toArray) = ((spl L o X).map (Value.int .u64)).toArray := by
  unfold spl; simp

theorem wpList_copy_w {P : Program} {w : World} {ops : Array Oper} {rest : List Oper} {o : Oper} {a : Act} {Q : Exit → Act → World → Prop} (hgd : o.guard = none) (d s : Operand) (dT sT : TypeId)
    (ho : o.op = .call { callee := .builtin .copy, args := #[d, s], argTypes := #[dT, sT] }) (elem : TypeId) (hu : P.underlying dT = some (.slice elem)) (hsz : (P.info? elem).map (·.size) = some 1)
    (dp sp : Option Addr) (dLen dCap sLen sCap : Nat) (hd : a.eval d = .slice dp dLen dCap) (hs : a.eval s = .slice sp sLen sCap)
    (bz oz : Nat) (L X : List Int) (hz : w.heap[bz]? = some (blk L)) (hn : X.length = Nat.min sLen dLen)
    (hpos : 0 < X.length → dp = some ⟨bz, oz, none⟩ ∧ ∃ bx ox, sp = some ⟨bx, ox, none⟩ ∧ At w bx ox X) (hfit : oz + X.length ≤ L.length)
    (h : ∀ w', Upd w w' bz (spl L oz X) → wpList P ops Q rest (a.put o.dst (goInt X.length)) w') :
    wpList P ops Q (o :: rest) a w := by
  by_cases h0 : X.length = 0
  · obtain rfl : X = [] := List.eq_nil_of_length_eq_zero h0
    refine wpList_copy_nothing hgd d s dT sT ho elem hu hsz dp sp dLen dCap sLen sCap hd hs (by simpa using hn.symm) ?_
    exact h w (by rw [spl_nil]; exact Upd.refl hz)
  · obtain ⟨rfl, bx, ox, rfl, hsrc⟩ := hpos (by omega)
    refine wpList_copy_own hgd d s dT sT ho elem hu hsz bz oz dLen dCap ⟨bx, ox, none⟩ sLen sCap hd hs (L.map (Value.int .u64)).toArray 87 hz (X.map (Value.int .u64)) (by simpa using hn) hsrc.src (by simpa using hfit) (oneCell_words X) ?_
    have := h _ (Upd.of_setRow hz _ _ (splice_words L X oz))
    simpa using this

/-- the carry of a word on words that are all at their greatest -/
def VWF (X : List Int) (y : Int) (j : Nat) (v c : Int) : Prop := Bit c ∧ v + B64 ^ j * c = val (X.take j) + y
def VWS (X : List Int) (y : Int) (j : Nat) (v c : Int) : Prop := Bit c ∧ v - B64 ^ j * c = val (X.take j) - y

theorem VRel.upd {F : Int → Int → Prop} {w w1 w2 : World} {bz oz : Nat} {L : List Int} {j : Nat} {cc : Int} (h : VRel F w bz oz L j cc w1) {F' : Int → Int → Prop} {R : List Int} {c' : Int} (hl : oz + j + R.length ≤ L.length) (wR : wfL R)
    (hu : ∀ M, w1.heap[bz]? = some (blk M) → Upd w1 w2 bz (spl M (oz + j) R)) (hF : ∀ v, F v cc → F' (v + B64 ^ j * val R) c') : VRel F' w bz oz L (j + R.length) c' w2 := by
  obtain ⟨Z, rfl, wZ, hv, hu1⟩ := h
  refine ⟨Z ++ R, by simp, wfL_append wZ wR, by rw [val_append]; exact hF _ hv, ?_⟩
  have h2 := hu _ hu1.here
  have e : spl (spl L oz Z) (oz + Z.length) R = spl L oz (Z ++ R) := by
    unfold spl
    rw [List.take_append, List.take_append, List.drop_append, List.drop_append]
    simp only [List.length_append, List.length_take, List.take_take, List.drop_take, List.drop_drop]
    rw [show min (oz + Z.length) oz = oz by omega, show oz + Z.length - min oz L.length = Z.length by omega, List.take_length, show oz + Z.length - (min oz L.length + Z.length) = 0 by omega,
      show oz - (oz + Z.length + R.length) = 0 by omega, show oz + Z.length + R.length - min oz L.length = Z.length + R.length by omega,
      show oz + Z.length + R.length - (min oz L.length + Z.length) = R.length by omega]
    simp [List.append_assoc, Nat.add_assoc]
  rw [e] at h2
  exact hu1.trans h2

theorem blk_inj {L M : List Int} (h : blk L = blk M) : L = M := by
  have h2 : L.map (Value.int .u64) = M.map (Value.int .u64) := by simpa [blk] using h
  exact List.map_inj_right (fun a b h => by simpa using h) |>.1 h2
theorem VRel.here {F : Int → Int → Prop} {w w1 : World} {bz oz : Nat} {L : List Int} {j : Nat} {cc : Int} (h : VRel F w bz oz L j cc w1) (hl : oz + j ≤ L.length) : ∃ M, w1.heap[bz]? = some (blk M) ∧ M.length = L.length := by
  obtain ⟨Z, rfl, wZ, hv, hu⟩ := h
  exact ⟨_, hu.here, spl_length _ _ _ hl⟩
theorem VRel.upd' {F : Int → Int → Prop} {w w1 w2 : World} {bz oz : Nat} {L : List Int} {j : Nat} {cc : Int} (h : VRel F w bz oz L j cc w1) {F' : Int → Int → Prop} {R M : List Int} {c' : Int} {n : Nat} (hn : j + R.length = n) (hl : oz + n ≤ L.length) (wR : wfL R)
    (hM : w1.heap[bz]? = some (blk M)) (hu : Upd w1 w2 bz (spl M (oz + j) R)) (hF : ∀ v, F v cc → F' (v + B64 ^ j * val R) c') : VRel F' w bz oz L n c' w2 := by
  subst hn
  refine h.upd (by omega) wR (fun M' hM' => ?_) hF
  have := blk_inj (Option.some.inj (hM'.symm.trans hM))
  subst this; exact hu
theorem VRel.other {F : Int → Int → Prop} {w w1 : World} {bz oz : Nat} {L : List Int} {j : Nat} {cc : Int} (h : VRel F w bz oz L j cc w1) {k : Nat} (hk : k ≠ bz) : w1.heap[k]? = w.heap[k]? := by
  obtain ⟨Z, hZ, wZ, hv, hu⟩ := h; exact hu.block k hk
theorem At.drop {w w1 : World} {b o : Nat} {X : List Int} (h : At w b o X) (j : Nat) (hb : w1.heap[b]? = w.heap[b]?) : At w1 b (o + j) (X.drop j) := by
  intro i hi
  simp at hi
  rw [World.cell?_of_block (w := w) (w' := w1) (a := ⟨b, o + j + i, none⟩) hb, Nat.add_assoc, h (j + i) (by omega), List.getElem?_drop]

/-- where a slice that is cut at k begins -/
def adv (o k c : Nat) : Nat := if c = k then o else o + k
theorem adv_lt {o k c : Nat} (h : k < c) : adv o k c = o + k := by unfold adv; rw [if_neg (by omega)]
theorem run_slice_from {P : Program} {T e : TypeId} (hT : P.underlying T = some (.slice e)) (hs : (P.info? e).map (·.size) = some 1) (b o n c k : Nat) (lo : Int) (hlo : lo = k) (hk : k ≤ n) (wx : World) :
    (Instr.slice T (.slice (some ⟨b, o, none⟩) n c) (some (.int .i64 lo)) none none).run P wx = .ok (.slice (some ⟨b, adv o k c, none⟩) (n - k) (c - k)) wx := by
  subst hlo
  cases hq : P.info? e with
  | none => simp [hq] at hs
  | some i =>
    have hi : i.size = 1 := by simpa [hq] using hs
    have hk' : (k : Int) ≤ n := by omega
    unfold adv
    by_cases hc : c = k
    · simp [Instr.slice, Instr.sliceBounds, Instr.sliceBound, run_underlying hT, sizeOf, typeInfo, hq, asIntOf, hk, hc]
    · by_cases h0 : k = 0
      · subst h0; simp [Instr.slice, Instr.sliceBounds, Instr.sliceBound, run_underlying hT, sizeOf, typeInfo, hq, asIntOf, hc, Addr.add]
      · simp [Instr.slice, Instr.sliceBounds, Instr.sliceBound, run_underlying hT, sizeOf, typeInfo, hq, hi, asIntOf, hk, hc, Addr.add, h0]
end Go.Proofs.YtndphemomhcjlaaGreatDoor
