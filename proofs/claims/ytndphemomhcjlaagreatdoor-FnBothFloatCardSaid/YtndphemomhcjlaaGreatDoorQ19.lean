/- The writing of a decimal's text from its end: plain numbers; a block of bytes. A decimal's text and its float. -/
import Derived.Test.YtndphemomhcjlaaGreatDoorQ18
import Derived.Lib.SlBytesRow
import Derived.OwnWalk
import Derived.Deep.CutBlock
import Derived.Deep.CutRange
set_option linter.all false

namespace Go.Proofs.YtndphemomhcjlaaGreatDoor
open Go.RowKit

/-- byte q from the end of a text -/
def rb (c k q : Nat) : Nat := if k ≠ 0 ∧ q = k then 46 else 48 + c / 10 ^ (if k ≠ 0 ∧ k < q then q - 1 else q) % 10
theorem rb_tb {c m k j : Nat} (hk : k < m) (hj : j < m + pnt k) : tb c m k j = rb c k (m + pnt k - 1 - j) := by
  unfold tb rb
  by_cases h : k = 0
  · subst h
    have e : pnt 0 = 0 := rfl
    rw [if_neg (by omega), if_neg (by omega), if_neg (by omega), e]
    have e2 : dgs m 0 j = j := by unfold dgs; rw [if_neg (by omega)]
    rw [e2, Nat.add_zero]
  · have e : pnt k = 1 := by unfold pnt; rw [if_neg h]
    rw [e] at hj ⊢
    by_cases h2 : j = m - k
    · rw [if_pos ⟨h, h2⟩, if_pos ⟨h, by omega⟩]
    · rw [if_neg (by omega), if_neg (by omega)]
      congr 1; congr 1; congr 1; congr 1
      unfold dgs
      split <;> split <;> omega
theorem rb_lt (c k q : Nat) : rb c k q < 256 := by unfold rb; split <;> omega

/-- a block of 24 bytes -/
def bb8 (L : List Int) : Obj := .cells (L.map (Value.int .u8)).toArray 130
theorem cell_bb8 {w : World} {b : Nat} {L : List Int} (h : w.heap[b]? = some (bb8 L)) (i : Nat) (hi : i < L.length) : w.cell? ⟨b, i, none⟩ = some (.int .u8 (L[i]?.getD 0)) := by
  unfold World.cell?; rw [h]; simp [bb8, hi]
theorem frozen_bb8 {w : World} {b : Nat} {L : List Int} (h : w.heap[b]? = some (bb8 L)) (i : Nat) : w.frozen? ⟨b, i, none⟩ = false := by
  unfold World.frozen?; rw [h]; simp [bb8]
theorem set_bb8 {w : World} {b : Nat} {L : List Int} (h : w.heap[b]? = some (bb8 L)) (i : Nat) (v : Int) : (w.setCell ⟨b, i, none⟩ (.int .u8 v)).heap[b]? = some (bb8 (L.set i v)) := by
  simp only [World.setCell, Array.getElem?_modify, if_pos, h, bb8, Option.map_some, List.setIfInBounds_toArray, List.map_set]
  rfl

/-- the writing's loop, in its slots -/
def ApL (w : World) (c k bb : Nat) (s6 s7 s8 : Value) (wr : World) : Prop :=
  ∃ (L : List Int) (r t sc : Nat), L.length = 24 ∧ wr.heap[bb]? = some (bb8 L) ∧ (∀ q, q < r → L[23 - q]?.getD 0 = (rb c k q : Nat)) ∧ s6 = .int .i64 ((23 : Int) - r) ∧ s7 = .int .u64 ((c / 10 ^ t : Nat) : Int) ∧ s8 = .int .i64 sc ∧
    ((t < k ∧ r = t ∧ sc = k - t) ∨ (k ≤ t ∧ r = t + pnt k ∧ sc = 0 ∧ (t = 0 ∨ c / 10 ^ t ≠ 0))) ∧ w.grownBy wr (some bb)
/-- the written text, from its end -/
def ApD (w : World) (c k bb : Nat) (s6 : Value) (wr : World) : Prop :=
  ∃ (L : List Int) (m : Nat), L.length = 24 ∧ wr.heap[bb]? = some (bb8 L) ∧ (∀ q, q < m + pnt k → L[23 - q]?.getD 0 = (rb c k q : Nat)) ∧ s6 = .int .i64 ((23 : Int) - (m + pnt k : Nat)) ∧ k < m ∧ m ≤ 20 ∧ c < 10 ^ m ∧ w.grownBy wr (some bb)
theorem rb_A {c k t : Nat} (h : t < k) : rb c k t = 48 + c / 10 ^ t % 10 := by unfold rb; rw [if_neg (by omega), if_neg (by omega)]
theorem rb_B {c k t : Nat} (h : k ≤ t) : rb c k (t + pnt k) = 48 + c / 10 ^ t % 10 := by
  unfold rb pnt
  by_cases hk : k = 0
  · subst hk; simp
  · rw [if_neg hk, if_neg (by omega), if_pos ⟨hk, by omega⟩, Nat.add_sub_cancel]
theorem rb_pt {c k : Nat} (h : k ≠ 0) : rb c k k = 46 := by unfold rb; rw [if_pos ⟨h, rfl⟩]
theorem grown_setb {w w' : World} {b : Nat} (g : w.grownBy w' (some b)) (o : Nat) (v : Value) : w.grownBy (w'.setCell ⟨b, o, none⟩ v) (some b) := by
  refine ⟨g.os, g.tape, g.output, by simp [World.setCell]; exact g.size, fun i hi hr => ?_⟩
  have hne : i ≠ b := fun e => hr (by rw [e])
  rw [Below.heap_setCell _ _ _ _ hne]; exact g.block i hi hr
theorem div_zero_lt {c n : Nat} (h : c / 10 ^ n = 0) : c < 10 ^ n := by
  rcases Nat.lt_or_ge c (10 ^ n) with h1 | h1
  · exact h1
  · have := Nat.div_pos h1 (Nat.pow_pos (by decide)); omega
theorem div_succ (c t : Nat) : c / 10 ^ (t + 1) = c / 10 ^ t / 10 := by rw [Nat.pow_succ, Nat.div_div_eq_div_mul]
theorem ApL.bound {c k r t sc : Nat} (hc : c < 10000000000000000000) (hk : k ≤ 19) (h : (t < k ∧ r = t ∧ sc = k - t) ∨ (k ≤ t ∧ r = t + pnt k ∧ sc = 0 ∧ (t = 0 ∨ c / 10 ^ t ≠ 0))) : t ≤ 18 ∨ (t = 0) := by
  rcases h with h | h
  · left; omega
  · rcases h.2.2.2 with e | e
    · right; exact e
    · left
      have h1 : 10 ^ t ≤ c := by
        rcases Nat.lt_or_ge c (10 ^ t) with h2 | h2
        · exact absurd (Nat.div_eq_of_lt h2) e
        · exact h2
      have h2 : 10 ^ t < 10 ^ 19 := by
        have : (10 : Nat) ^ 19 = 10000000000000000000 := by decide
        omega
      have := (Nat.pow_lt_pow_iff_right (by decide : 1 < 10)).1 h2
      omega
theorem L_set {L : List Int} {c k r : Nat} (hL : L.length = 24) (h : ∀ q, q < r → L[23 - q]?.getD 0 = (rb c k q : Nat)) (hr : r ≤ 23) (v : Int) (hv : v = (rb c k r : Nat)) : ∀ q, q < r + 1 → (L.set (23 - r) v)[23 - q]?.getD 0 = (rb c k q : Nat) := by
  intro q hq
  by_cases e : q = r
  · subst e
    rw [List.getElem?_set_self (by omega)]; exact hv
  · rw [List.getElem?_set_ne (by omega)]; exact h q (by omega)

/-- the text of a decimal with m digits -/
def mkTxt (neg : Bool) (c k m : Nat) : ByteArray := ⟨((List.range (sgn neg + m + pnt k)).map fun i => UInt8.ofNat (if i < sgn neg then 45 else tb c m k (i - sgn neg))).toArray⟩
theorem mkTxt_size (neg : Bool) (c k m : Nat) : (mkTxt neg c k m).size = sgn neg + m + pnt k := by
  show (List.toArray _).size = _
  simp
theorem tb_lt (c m k j : Nat) : tb c m k j < 256 := by unfold tb; split <;> omega
theorem mkTxt_get (neg : Bool) (c k m i : Nat) (h : i < (mkTxt neg c k m).size) : ((mkTxt neg c k m)[i]'h).toNat = if i < sgn neg then 45 else tb c m k (i - sgn neg) := by
  have h' : i < sgn neg + m + pnt k := by rw [mkTxt_size] at h; exact h
  have e : (mkTxt neg c k m)[i]'h = UInt8.ofNat (if i < sgn neg then 45 else tb c m k (i - sgn neg)) := by
    have h1 := byte_at (mkTxt neg c k m) i h
    have h2 : (mkTxt neg c k m).data.toList[i]? = some (UInt8.ofNat (if i < sgn neg then 45 else tb c m k (i - sgn neg))) := by
      simp [mkTxt, h']
    rw [h2] at h1
    exact (Option.some.inj h1).symm
  rw [e]
  have h2 : (if i < sgn neg then 45 else tb c m k (i - sgn neg)) < 256 := by have := tb_lt c m k (i - sgn neg); split <;> omega
  simp [UInt8.toNat_ofNat']
  omega
theorem mkTxt_is {neg : Bool} {c k m : Nat} (h1 : k < m) (h2 : m ≤ 20) (h3 : c < 10 ^ m) : IsTxt (mkTxt neg c k m) neg c k m := by
  refine ⟨mkTxt_size _ _ _ _, fun h hn => ?_, fun i h hi => ?_, h1, h2, h3⟩
  · rw [mkTxt_get, if_pos (by subst hn; decide)]
  · rw [mkTxt_get, if_neg (by omega)]

theorem add_none (b o j : Nat) : (⟨b, o, none⟩ : Addr).add j = ⟨b, o + j, none⟩ := by unfold Addr.add; split <;> simp_all
/-- the values of a text's bytes -/
def txtV (s : ByteArray) : List Value := s.data.toList.map fun x => .int .u8 (x.toNat : Int)
theorem txtV_length (s : ByteArray) : (txtV s).length = s.size := by unfold txtV; simp
theorem txtV_at {s : ByteArray} {j : Nat} {u : Value} (h : (txtV s)[j]? = some u) : ∃ hj : j < s.size, u = .int .u8 ((s[j]'hj).toNat : Int) := by
  unfold txtV at h
  rw [List.getElem?_map] at h
  have hj : j < s.size := by
    rcases Nat.lt_or_ge j s.size with h1 | h1
    · exact h1
    · rw [List.getElem?_eq_none (by simpa using h1)] at h; cases h
  rw [byte_at s j hj] at h
  exact ⟨hj, (Option.some.inj h).symm⟩
theorem cellsTxt {w : World} {bb : Nat} {L : List Int} {neg : Bool} {c k m R : Nat} (hL : L.length = 24) (hb : w.heap[bb]? = some (bb8 L)) (hq : ∀ q, q < R → L[23 - q]?.getD 0 = (rb c k q : Nat)) (hR : m + pnt k = R) (hR2 : R ≤ 21) (hkm : k < m)
    (hneg : neg = true → L[23 - R]?.getD 0 = 45) : ∀ j u, (txtV (mkTxt neg c k m))[j]? = some u → w.cell? ((⟨bb, 24 - (sgn neg + R), none⟩ : Addr).add j) = some u := by
  intro j u hu
  obtain ⟨hj, rfl⟩ := txtV_at hu
  have hsz := mkTxt_size neg c k m
  have hj2 : j < sgn neg + R := by omega
  have s1 : sgn neg ≤ 1 := by unfold sgn; split <;> omega
  rw [add_none, mkTxt_get, cell_bb8 hb _ (by omega)]
  congr 2
  by_cases h : j < sgn neg
  · have hn : neg = true := by cases neg with | true => rfl | false => simp [sgn] at h
    rw [if_pos h, show 24 - (sgn neg + R) + j = 23 - R by omega]
    exact hneg hn
  · rw [if_neg h, show 24 - (sgn neg + R) + j = 23 - (R - 1 - (j - sgn neg)) by omega, hq _ (by omega), rb_tb hkm (by omega), hR]
theorem txtV_one (s : ByteArray) : ∀ u ∈ txtV s, u.oneCell' = true := by
  intro u hu
  unfold txtV at hu
  obtain ⟨x, _, rfl⟩ := List.mem_map.1 hu
  rfl
theorem und24 : Tryz.prog.underlying 130 = some (.array 24 5) := by kernel_rfl
theorem siz8 : (Tryz.prog.info? 5).map (fun i => (i.zero, i.size, i.bytes)) = some (some (.int .u8 0), 1, 1) := by kernel_rfl
theorem und81 : Tryz.prog.underlying 81 = some (.slice 5) := by kernel_rfl
theorem slice24 (b lo : Nat) (x : Int) (hx : x = lo) (h : lo ≤ 23) (w : World) : (Instr.sliceAt 130 (.pointer (some ⟨b, 0, none⟩)) (some (.int .i64 x)) none none).run Tryz.prog w = .ok (.slice (some ⟨b, lo, none⟩) (24 - lo) (24 - lo)) w := by
  subst hx
  have hl : Tryz.prog.arrayLen 130 = 24 := by kernel_rfl
  have he : Tryz.prog.elem 130 = 5 := by kernel_rfl
  have hz : ∀ w, (sizeOf 5).run Tryz.prog w = .ok 1 w := fun w => by kernel_rfl
  rw [run_sliceAt_array_l w 130 ⟨b, 0, none⟩ (by rw [hl, he]; exact und24) .i64 lo (by omega) (by rw [hl]; omega), he, hz, hl]
  simp only [Result.andThen, slicedAt, Int.toNat_natCast, Nat.mul_one]
  rw [if_neg (by omega), add_none, Nat.zero_add]

theorem bytes_own {w : World} {base tk n cap : Nat} {s : ByteArray} (h : w.ownsRow base 5 1 (.slice (some ⟨tk, 0, none⟩) n cap) n (txtV s)) : Lib.Bytes w tk 0 s := by
  intro i hi
  have hl := h.1
  rw [txtV_length] at hl
  rw [Nat.zero_add, h.cellAt i (by omega)]
  unfold txtV
  rw [List.getElem?_map, byte_at s i hi]; rfl

/-- the text in a slice -/
def ApRes (w : World) (tk : Nat) (neg : Bool) (c k : Nat) (e : Ending) (w' : World) : Prop :=
  ∃ m, IsTxt (mkTxt neg c k m) neg c k m ∧ e = .returned (.slice (some ⟨tk, 0, none⟩) (mkTxt neg c k m).size 24) ∧ Lib.Bytes w' tk 0 (mkTxt neg c k m) ∧ w.grownBy w' (some tk)

set_option maxHeartbeats 2000000 in
set_option maxRecDepth 100000 in
theorem append_any (neg : Bool) (c k : Nat) (w : World) (tk base : Nat) (hc : c < 10000000000000000000) (hk : k ≤ 19) (hown : w.ownsRow base 5 1 (.slice (some ⟨tk, 0, none⟩) 0 24) 0 []) : Calls Tryz.prog 61 #[.agg #[.bool neg, .int .i8 k, .int .u64 c], .slice (some ⟨tk, 0, none⟩) 0 24] w fun e w' => ApRes w tk neg c k e w' := by
  have hOW := Lib.hid hown
  obtain ⟨i0, hi0, hz0, hz1, hz2⟩ := info_parts siz8
  have htk := (hown.lt tk rfl).2
  clear hown
  have HC := Lib.hid (fun w => Coef_any neg c k w)
  have HS := Lib.hid (fun w => Scale_any neg c k w hk)
  have HI := Lib.hid (fun w => IsNeg_any neg c k w)
  unfold govV at HC HS HI
  go_enter Tryz.func61, Tryz.ntmps61
  go_upto_region 3 with (fail)
  obtain ⟨W1, hW1⟩ : ∃ W1, W1 = (w.alloc (.cells #[.bool neg, .int .i8 k, .int .u64 c] 46)).alloc (bb8 (List.replicate 24 0)) := ⟨_, rfl⟩
  have hW1' : W1 = (w.alloc (.cells #[.bool neg, .int .i8 k, .int .u64 c] 46)).alloc (.cells #[.int .u8 0, .int .u8 0, .int .u8 0, .int .u8 0, .int .u8 0, .int .u8 0, .int .u8 0, .int .u8 0, .int .u8 0, .int .u8 0, .int .u8 0, .int .u8 0, .int .u8 0, .int .u8 0, .int .u8 0, .int .u8 0, .int .u8 0, .int .u8 0, .int .u8 0, .int .u8 0, .int .u8 0, .int .u8 0, .int .u8 0, .int .u8 0] 130) := hW1
  rw [← hW1']
  have hs := size_alloc w (.cells #[.bool neg, .int .i8 k, .int .u64 c] 46)
  have hb : W1.heap[w.heap.size + 1]? = some (bb8 (List.replicate 24 0)) := by rw [hW1, ← hs]; exact heap_new _ _
  have hx : W1.heap[w.heap.size]? = some (.cells #[.bool neg, .int .i8 k, .int .u64 c] 46) := by rw [hW1]; exact keepb (grown_new _ _) (heap_new _ _)
  have g1 : w.grownBy W1 none := by rw [hW1]; exact grown_trans (grown_new _ _) (grown_new _ _)
  have x0 : W1.cell? ⟨w.heap.size, 0, none⟩ = some (.bool neg) := by unfold World.cell?; rw [hx]; rfl
  have x1 : W1.cell? ⟨w.heap.size, 1, none⟩ = some (.int .i8 k) := by unfold World.cell?; rw [hx]; rfl
  have x2 : W1.cell? ⟨w.heap.size, 2, none⟩ = some (.int .u64 c) := by unfold World.cell?; rw [hx]; rfl
  have HB := Lib.hid hb; have HX := Lib.hid hx; have G1 := Lib.hid g1
  clear hW1 hW1' hs hb hx g1
  go_wp2_with (fail)
  refine (HC.out _).mono ?_
  rintro e w2 ⟨rfl, g2⟩
  have HB2 := Lib.hid (keepb g2 HB.out); have HX2 := Lib.hid (keepb g2 HX.out); have G2 := Lib.hid (grown_trans G1.out g2)
  have y0 := keepc g2 x0; have y1 := keepc g2 x1; have y2 := keepc g2 x2
  clear g2 x0 x1 x2 HB HX G1
  go_wp2_with (fail)
  refine (HS.out _).mono ?_
  rintro e w3 ⟨rfl, g3⟩
  have HB3 := Lib.hid (keepb g3 HB2.out); have HX3 := Lib.hid (keepb g3 HX2.out); have G3 := Lib.hid (grown_trans G2.out g3)
  clear g3 y0 y1 y2 HB2 HX2 G2
  go_upto_block 0 with (fail)
  go_cut [6] from 13 to 44 (fun s6 wx => ApD w3 c k (w.heap.size + 1) s6 wx)
  case first =>
    go_wp2_with (fail)
    go_loopw [6, 7, 8] (fun s6 s7 s8 wr => ApL w3 c k (w.heap.size + 1) s6 s7 s8 wr) (fun _ s7 s8 _ => (intOf s7).toNat + (intOf s8).toNat)
    case atStart =>
      refine ⟨List.replicate 24 0, 0, 0, k, by simp, HB3.out, fun q h => by omega, rfl, by simp, rfl, ?_, grown_refl _ _⟩
      by_cases h : k = 0
      · right; subst h; exact ⟨Nat.le_refl _, rfl, rfl, .inl rfl⟩
      · left; exact ⟨by omega, rfl, rfl⟩
    case round =>
      obtain ⟨L, r, t, sc, hL, hb, hq, rfl, rfl, rfl, hst, hg⟩ := hrel
      obtain ⟨x, hx⟩ : ∃ x, c / 10 ^ t = x := ⟨_, rfl⟩
      have hxc : x < 10000000000000000000 := by rw [← hx]; exact Nat.lt_of_le_of_lt (Nat.div_le_self _ _) hc
      have ht := ApL.bound hc hk hst
      have hr : r ≤ 20 := by unfold pnt at hst; split at hst <;> omega
      have hsc : sc ≤ 19 := by omega
      have HST := Lib.hid hst; have HBR := Lib.hid hb; have HQ := Lib.hid hq; have HG := Lib.hid hg; have HXX := Lib.hid hx; have HL := Lib.hid hL
      rw [hx]
      clear hst hq hg hx
      have er : ((23 : Int) - r).toNat = 23 - r := by omega
      have c1 := cell_bb8 hb (23 - r) (by omega)
      have f1 := frozen_bb8 hb (23 - r)
      clear hb hL
      generalize L[23 - r]?.getD 0 = ov at c1
      rcases HST.out with ⟨h1, h2, h3⟩ | ⟨h1, h2, h3, h4⟩
      · by_cases hlast : sc = 1
        · have hk0 : k ≠ 0 := by omega
          have t1 : (0 : Int) < sc := by omega
          have t2 : ((sc : Int) - 1 == 0) = true := by simp; omega
          have er2 : ((23 : Int) - r - 1).toNat = 22 - r := by omega
          have er3 : ((23 : Int) - r - 1 - 1).toNat = 21 - r := by omega
          have hb1 := set_bb8 HBR.out (23 - r) ((x : Int) % 10 + 48)
          have hL1 : (L.set (23 - r) ((x : Int) % 10 + 48)).length = 24 := by rw [List.length_set]; exact HL.out
          have hq1 := L_set HL.out HQ.out (by omega) ((x : Int) % 10 + 48) (by rw [h2, rb_A h1, HXX.out]; omega)
          have c2 := cell_bb8 hb1 (22 - r) (by omega)
          have f2 := frozen_bb8 hb1 (22 - r)
          have hb2 := set_bb8 hb1 (22 - r) 46
          have hL2 : ((L.set (23 - r) ((x : Int) % 10 + 48)).set (22 - r) 46).length = 24 := by rw [List.length_set]; exact hL1
          have hq2 := L_set (r := r + 1) hL1 hq1 (by omega) 46 (by rw [show r + 1 = k by omega, rb_pt hk0]; rfl)
          rw [show 23 - (r + 1) = 22 - r by omega] at hq2
          have c3 := cell_bb8 hb2 (21 - r) (by omega)
          have f3 := frozen_bb8 hb2 (21 - r)
          have HH := Lib.hid (show _ ∧ _ ∧ _ from ⟨h1, h2, h3⟩)
          have H2 := Lib.hid (show _ ∧ _ ∧ _ from ⟨hb2, hL2, hq2⟩)
          generalize (L.set (23 - r) ((x : Int) % 10 + 48))[22 - r]?.getD 0 = ov2 at c2
          generalize ((L.set (23 - r) ((x : Int) % 10 + 48)).set (22 - r) 46)[21 - r]?.getD 0 = ov3 at c3
          have hl1 : sc = 1 := hlast
          clear h1 h2 h3 hb1 hb2 hL1 hL2 hq1 hq2 hlast
          by_cases hx0 : x / 10 = 0
          · have t3 : ((x : Int) / 10 == 0) = true := by simp; omega
            have HX0 := Lib.hid hx0; have HL1 := Lib.hid hl1
            clear hx0 hl1
            go_wp2_with (fail)
            go_meet
            obtain ⟨h1, h2, h3⟩ := HH.out
            obtain ⟨k1, k2, k3⟩ := H2.out
            have hl1 := HL1.out
            have hz : c / 10 ^ (t + 1) = 0 := by rw [div_succ, HXX.out]; exact HX0.out
            have ep : pnt k = 1 := by unfold pnt; rw [if_neg hk0]
            refine ⟨_, k + 1, by rw [List.length_set]; exact k2, set_bb8 k1 (21 - r) 48, ?_, congrArg (Value.int .i64) (by rw [ep]; omega), by omega, by omega, ?_, grown_setb (grown_setb (grown_setb HG.out _ _) _ _) _ _⟩
            · have hq3 := L_set (r := r + 2) k2 k3 (by omega) 48 (by
                rw [show r + 2 = k + pnt k by rw [ep]; omega, rb_B (Nat.le_refl _), show k = t + 1 by omega, hz]; rfl)
              rw [show 23 - (r + 2) = 21 - r by omega] at hq3
              rw [ep, show k + 1 + 1 = r + 2 + 1 by omega]; exact hq3
            · have := div_zero_lt hz
              rw [show k + 1 = t + 1 + 1 by omega, Nat.pow_succ]; omega
          · have t3 : ((x : Int) / 10 == 0) = false := by simp; omega
            have HX0 := Lib.hid hx0; have HL1 := Lib.hid hl1
            clear hx0 hl1 c3 f3
            go_wp2_with (fail)
            go_roundw
            case rel =>
              obtain ⟨h1, h2, h3⟩ := HH.out
              obtain ⟨k1, k2, k3⟩ := H2.out
              have hl1 := HL1.out
              have ep : pnt k = 1 := by unfold pnt; rw [if_neg hk0]
              exact ⟨_, r + 2, t + 1, 0, k2, k1, k3, congrArg (Value.int .i64) (by omega), congrArg (Value.int .u64) (by rw [div_succ, HXX.out]; omega), congrArg (Value.int .i64) (by omega), .inr ⟨by omega, by rw [ep]; omega, rfl, .inr (by rw [div_succ, HXX.out]; exact HX0.out)⟩, grown_setb (grown_setb HG.out _ _) _ _⟩
            case measure => simp [intOf]; omega
        · have t1 : (0 : Int) < sc := by omega
          have t2 : ((sc : Int) - 1 == 0) = false := by simp; omega
          have HH := Lib.hid (show _ ∧ _ ∧ _ from ⟨h1, h2, h3⟩)
          clear h1 h2 h3
          by_cases hx0 : x / 10 = 0
          · have t3 : ((x : Int) / 10 == 0) = true := by simp; omega
            clear hx0
            go_wp2_with (fail)
            go_roundw
            case rel =>
              obtain ⟨h1, h2, h3⟩ := HH.out
              refine ⟨L.set (23 - r) ((x : Int) % 10 + 48), r + 1, t + 1, sc - 1, by rw [List.length_set]; exact HL.out, set_bb8 HBR.out _ _, L_set HL.out HQ.out (by omega) _ ?_, congrArg (Value.int .i64) (by omega), congrArg (Value.int .u64) (by rw [div_succ, HXX.out]; omega), congrArg (Value.int .i64) (by omega), .inl ⟨by omega, by omega, by omega⟩, grown_setb HG.out _ _⟩
              rw [h2, rb_A h1, HXX.out]; omega
            case measure => simp [intOf]; omega
          · have t3 : ((x : Int) / 10 == 0) = false := by simp; omega
            clear hx0
            go_wp2_with (fail)
            go_roundw
            case rel =>
              obtain ⟨h1, h2, h3⟩ := HH.out
              refine ⟨L.set (23 - r) ((x : Int) % 10 + 48), r + 1, t + 1, sc - 1, by rw [List.length_set]; exact HL.out, set_bb8 HBR.out _ _, L_set HL.out HQ.out (by omega) _ ?_, congrArg (Value.int .i64) (by omega), congrArg (Value.int .u64) (by rw [div_succ, HXX.out]; omega), congrArg (Value.int .i64) (by omega), .inl ⟨by omega, by omega, by omega⟩, grown_setb HG.out _ _⟩
              rw [h2, rb_A h1, HXX.out]; omega
            case measure => simp [intOf]; omega
      · subst h3
        have HH := Lib.hid (show _ ∧ _ ∧ _ from ⟨h1, h2, h4⟩)
        have hb1 := set_bb8 HBR.out (23 - r) ((x : Int) % 10 + 48)
        have hL1 : (L.set (23 - r) ((x : Int) % 10 + 48)).length = 24 := by rw [List.length_set]; exact HL.out
        have hq1 := L_set HL.out HQ.out (by omega) ((x : Int) % 10 + 48) (by rw [h2, rb_B h1, HXX.out]; omega)
        have H2 := Lib.hid (show _ ∧ _ ∧ _ from ⟨hb1, hL1, hq1⟩)
        clear h1 h2 h4 hb1 hL1 hq1
        by_cases hx0 : x / 10 = 0
        · have t3 : ((x : Int) / 10 == 0) = true := by simp; omega
          have HX0 := Lib.hid hx0
          clear hx0
          go_wp2_with (fail)
          go_meet
          obtain ⟨h1, h2, h3⟩ := HH.out
          obtain ⟨k1, k2, k3⟩ := H2.out
          have hz : c / 10 ^ (t + 1) = 0 := by rw [div_succ, HXX.out]; exact HX0.out
          exact ⟨_, t + 1, k2, k1, by rw [show t + 1 + pnt k = r + 1 by omega]; exact k3, congrArg (Value.int .i64) (by omega), by omega, by omega, div_zero_lt hz, grown_setb HG.out _ _⟩
        · have t3 : ((x : Int) / 10 == 0) = false := by simp; omega
          have HX0 := Lib.hid hx0
          clear hx0
          go_wp2_with (fail)
          go_roundw
          case rel =>
            obtain ⟨h1, h2, h3⟩ := HH.out
            obtain ⟨k1, k2, k3⟩ := H2.out
            exact ⟨_, r + 1, t + 1, 0, k2, k1, k3, congrArg (Value.int .i64) (by omega), congrArg (Value.int .u64) (by rw [div_succ, HXX.out]; omega), rfl, .inr ⟨by omega, by omega, rfl, .inr (by rw [div_succ, HXX.out]; exact HX0.out)⟩, grown_setb HG.out _ _⟩
          case measure =>
            have := HX0.out
            simp [intOf]; omega
  case rest =>
    obtain ⟨L, m, hL, hb, hq, rfl, hkm, hm20, hcm, hg⟩ := hcut
    have s2 : pnt k ≤ 1 := by unfold pnt; split <;> omega
    have hlt3 : w.heap.size + 1 < w3.heap.size := (Array.getElem?_eq_some_iff.1 HB3.out).1
    have hxc : wc.heap[w.heap.size]? = some (.cells #[.bool neg, .int .i8 k, .int .u64 c] 46) := by
      rw [hg.block _ (by omega) (by intro e; injection e with e; omega)]; exact HX3.out
    have x0 : wc.cell? ⟨w.heap.size, 0, none⟩ = some (.bool neg) := by unfold World.cell?; rw [hxc]; rfl
    have x1 : wc.cell? ⟨w.heap.size, 1, none⟩ = some (.int .i8 k) := by unfold World.cell?; rw [hxc]; rfl
    have x2 : wc.cell? ⟨w.heap.size, 2, none⟩ = some (.int .u64 c) := by unfold World.cell?; rw [hxc]; rfl
    have HT := Lib.hid (mkTxt_is (neg := neg) hkm hm20 hcm)
    obtain ⟨R, hR⟩ : ∃ R, m + pnt k = R := ⟨_, rfl⟩
    have HRR := Lib.hid hR
    have hR21 : R ≤ 21 := by omega
    have hR1 : 1 ≤ R := by omega
    have hq : ∀ q, q < R → L[23 - q]?.getD 0 = (rb c k q : Nat) := fun q h => hq q (by omega)
    have HL := Lib.hid hL; have HBR := Lib.hid hb; have HQ := Lib.hid hq; have HG := Lib.hid hg
    rw [hR]
    clear hL hb hq hg hcm hxc hR
    go_wp2_with (fail)
    refine (HI.out _).mono ?_
    rintro e w5 ⟨rfl, g5⟩
    have HB5 := Lib.hid (keepb g5 HBR.out)
    have HG5 := Lib.hid (grown_trans HG.out (grown_weak g5))
    clear g5 x0 x1 x2 HBR HG HC HS HI
    cases neg with
    | false =>
      have HCT := cellsTxt (neg := false) (c := c) (k := k) (m := m) HL.out HB5.out HQ.out HRR.out hR21 hkm (fun h => by cases h)
      rw [show sgn false + R = R by simp [sgn]] at HCT
      have HCT := Lib.hid HCT
      have hsl := fun w' => slice24 (w.heap.size + 1) (24 - R) ((23 : Int) - R + 1) (by omega) (by omega) w'
      have hG6 := Lib.hid HG5.out
      have en : 24 - (24 - R) = R := by omega
      rw [en] at hsl
      have esz : (mkTxt false c k m).size = R := by rw [mkTxt_size, ← HRR.out]; simp [sgn]
      have HSZ := Lib.hid esz
      have hgw : w.grownBy _ none := Grown2.new G3.out (⟨hG6.out.os, hG6.out.tape, hG6.out.output, hG6.out.size, fun i hi h1 _ => hG6.out.block i hi (by intro e; injection e with e; exact h1 e)⟩ : Grown2 w3 _ (w.heap.size + 1) none) (by omega)
      have HOWN := Lib.hid (hOW.out.kept hgw (.inr (by simp [Value.ownBlock])))
      have HGW := Lib.hid hgw
      clear esz hgw
      go_wp2_with (at_builtin; refine wpList_append_fits _ rfl (.tmp 51) (.tmp 54) 81 rfl base 5 i0 1 und81 hi0 hz1 tk 0 24 [] rfl HOWN.out ⟨w.heap.size + 1, 24 - R, none⟩ R R (txtV (mkTxt false c k m)) rfl (by rw [txtV_length, HSZ.out]; omega) HCT.out (txtV_one _) (by omega) ?_; intro w6 hown6 hg6)
      go_ret
      exact ⟨m, HT.out, by rw [HSZ.out]; rfl, bytes_own (by simpa using hown6), grown_trans (grown_weak HGW.out) hg6⟩
    | true =>
      have er : ((23 : Int) - R).toNat = 23 - R := by omega
      have c1 := cell_bb8 HB5.out (23 - R) (by rw [HL.out]; omega)
      have f1 := frozen_bb8 HB5.out (23 - R)
      have hb6 := set_bb8 HB5.out (23 - R) 45
      have hL6 : (L.set (23 - R) 45).length = 24 := by rw [List.length_set]; exact HL.out
      have hq6 : ∀ q, q < R → (L.set (23 - R) 45)[23 - q]?.getD 0 = (rb c k q : Nat) := fun q hq => by
        rw [List.getElem?_set_ne (by omega)]; exact HQ.out q hq
      have hn6 : (L.set (23 - R) 45)[23 - R]?.getD 0 = 45 := by rw [List.getElem?_set_self (by rw [HL.out]; omega)]; rfl
      have HCT := Lib.hid (cellsTxt (neg := true) (c := c) (k := k) (m := m) hL6 hb6 hq6 HRR.out hR21 hkm (fun _ => hn6))
      have hsl := fun w' => slice24 (w.heap.size + 1) (24 - (1 + R)) ((23 : Int) - R - 1 + 1) (by omega) (by omega) w'
      have hsl2 := fun w' => slice24 (w.heap.size + 1) (24 - (1 + R)) ((23 : Int) - R) (by omega) (by omega) w'
      have hG6 := Lib.hid (grown_setb HG5.out (23 - R) (.int .u8 45))
      generalize L[23 - R]?.getD 0 = ov at c1
      clear hb6 hL6 hq6 hn6
      have en : 24 - (24 - (1 + R)) = 1 + R := by omega
      rw [en] at hsl hsl2
      have esz : (mkTxt true c k m).size = 1 + R := by rw [mkTxt_size, ← HRR.out]; simp [sgn]; omega
      have HSZ := Lib.hid esz
      have hgw : w.grownBy _ none := Grown2.new G3.out (⟨hG6.out.os, hG6.out.tape, hG6.out.output, hG6.out.size, fun i hi h1 _ => hG6.out.block i hi (by intro e; injection e with e; exact h1 e)⟩ : Grown2 w3 _ (w.heap.size + 1) none) (by omega)
      have HOWN := Lib.hid (hOW.out.kept hgw (.inr (by simp [Value.ownBlock])))
      have HGW := Lib.hid hgw
      clear esz hgw
      go_wp2_with (at_builtin; refine wpList_append_fits _ rfl (.tmp 51) (.tmp 54) 81 rfl base 5 i0 1 und81 hi0 hz1 tk 0 24 [] rfl HOWN.out ⟨w.heap.size + 1, 24 - (1 + R), none⟩ (1 + R) (1 + R) (txtV (mkTxt true c k m)) rfl (by rw [txtV_length, HSZ.out]; omega) HCT.out (txtV_one _) (by omega) ?_; intro w6 hown6 hg6)
      go_ret
      exact ⟨m, HT.out, by rw [HSZ.out]; rfl, bytes_own (by simpa using hown6), grown_trans (grown_weak HGW.out) hg6⟩
end Go.Proofs.YtndphemomhcjlaaGreatDoor

namespace Go.Proofs.YtndphemomhcjlaaGreatDoor
open Go.RowKit

theorem gov_cells {w : World} {b : Nat} {neg : Bool} {c k : Nat} (h : w.heap[b]? = some (.cells #[.bool neg, .int .i8 k, .int .u64 c] 46)) :
    w.cell? ⟨b, 0, none⟩ = some (.bool neg) ∧ w.cell? ⟨b, 1, none⟩ = some (.int .i8 k) ∧ w.cell? ⟨b, 2, none⟩ = some (.int .u64 c) := by
  refine ⟨?_, ?_, ?_⟩ <;> (unfold World.cell?; rw [h]; rfl)
def ByRes (w : World) (neg : Bool) (c k : Nat) (e : Ending) (w' : World) : Prop :=
  ∃ m b, IsTxt (mkTxt neg c k m) neg c k m ∧ e = .returned (.slice (some ⟨b, 0, none⟩) (mkTxt neg c k m).size 24) ∧ Lib.Bytes w' b 0 (mkTxt neg c k m) ∧ w.grownBy w' none

set_option maxRecDepth 100000 in
theorem bytes_any (neg : Bool) (c k : Nat) (w : World) (hc : c < 10000000000000000000) (hk : k ≤ 19) : Calls Tryz.prog 37 #[.agg #[.bool neg, .int .i8 k, .int .u64 c]] w fun e w' => ByRes w neg c k e w' := by
  have HC := Lib.hid hc; have HK := Lib.hid hk
  clear hc hk
  obtain ⟨i0, hi0, hz0, hz1, hz2⟩ := info_parts siz8
  go_enter Tryz.func37, Tryz.ntmps37
  obtain ⟨W1, hW1⟩ : ∃ W1, W1 = w.alloc (.cells #[.bool neg, .int .i8 k, .int .u64 c] 46) := ⟨_, rfl⟩
  have hs := size_alloc w (.cells #[.bool neg, .int .i8 k, .int .u64 c] 46)
  rw [← hW1] at hs
  have g1 : w.grownBy W1 none := by rw [hW1]; exact grown_new _ _
  have hx : W1.heap[w.heap.size]? = some (.cells #[.bool neg, .int .i8 k, .int .u64 c] 46) := by rw [hW1]; exact heap_new _ _
  have HX := Lib.hid hx; have G1 := Lib.hid g1; have HS := Lib.hid hs
  clear hx g1 hs
  go_upto_region 1 with (fail)
  rw [← hW1]
  clear hW1
  go_wp2_with (at_make; refine wpList_make_own _ rfl _ _ 81 rfl w.heap.size 5 i0 _ 1 und81 hi0 hz0 hz1 _ _ _ 24 rfl rfl rfl (by rw [hz2]; omega) (by simp [maxLen]) (by rw [HS.out]; omega) ?_; intro w2 hown hg2; obtain ⟨x0, x1, x2⟩ := gov_cells (keepb hg2 HX.out); have HOWN := Lib.hid hown; have G2 := Lib.hid (grown_trans G1.out hg2); clear hown hg2 HX)
  refine (append_any neg c k w2 W1.heap.size w.heap.size HC.out HK.out HOWN.out).mono ?_
  rintro e w3 ⟨m, ht, rfl, hb, hg⟩
  have HT := Lib.hid ht; have HB := Lib.hid hb
  have HG := Lib.hid (grown_own G2.out hg (.inr (by rw [HS.out]; omega)))
  clear ht hb hg x0 x1 x2
  go_wp2
  go_ret
  exact ⟨m, W1.heap.size, HT.out, rfl, HB.out, HG.out⟩

theorem govString_any (neg : Bool) (c k : Nat) (w : World) (hc : c < 10000000000000000000) (hk : k ≤ 19) : Calls Tryz.prog 20 #[.agg #[.bool neg, .int .i8 k, .int .u64 c]] w fun e w' => ∃ s m, IsTxt s neg c k m ∧ e = .returned (.string s) ∧ w.grownBy w' none := by
  have HC := Lib.hid hc; have HK := Lib.hid hk
  clear hc hk
  go_enter Tryz.func20, Tryz.ntmps20
  obtain ⟨W1, hW1⟩ : ∃ W1, W1 = w.alloc (.cells #[.bool neg, .int .i8 k, .int .u64 c] 46) := ⟨_, rfl⟩
  have g1 : w.grownBy W1 none := by rw [hW1]; exact grown_new _ _
  have hx : W1.heap[w.heap.size]? = some (.cells #[.bool neg, .int .i8 k, .int .u64 c] 46) := by rw [hW1]; exact heap_new _ _
  have G1 := Lib.hid g1
  obtain ⟨x0, x1, x2⟩ := gov_cells hx
  clear hx g1
  go_upto_region 1 with (fail)
  rw [← hW1]
  clear hW1
  go_wp2_with (fail)
  refine (bytes_any neg c k W1 HC.out HK.out).mono ?_
  rintro e w2 ⟨m, b, ht, rfl, hb, hg⟩
  have HT := Lib.hid ht
  have HG := Lib.hid (grown_trans G1.out hg)
  have hcv := fun cap => Lib.run_convert_whole (P := Tryz.prog) w2 81 5 9 und81 (by kernel_rfl) (by kernel_rfl) b 0 (mkTxt neg c k m) hb cap
  clear ht hg x0 x1 x2 hb
  generalize mkTxt neg c k m = s at hcv HT
  go_wp2
  go_ret
  exact ⟨s, m, HT.out, rfl, HG.out⟩

theorem govFloat_any (neg : Bool) (c k : Nat) (w : World) (hc : c < 10000000000000000000) (hk : k ≤ 19) (hS : TabS w) (hP : TabP w) (hPb : 16 < w.heap.size) : Calls Tryz.prog 11 #[.agg #[.bool neg, .int .i8 k, .int .u64 c]] w fun e w' => ∃ W : Nat, e = .returned (.tuple #[.float .f64 W, .bool true]) ∧ FltW neg c k W ∧ w.grownBy w' none := by
  have HC := Lib.hid hc; have HK := Lib.hid hk; have HS := Lib.hid hS; have HP := Lib.hid hP; have HPB := Lib.hid hPb
  clear hc hk hS hP hPb
  go_enter Tryz.func11, Tryz.ntmps11
  obtain ⟨W1, hW1⟩ : ∃ W1, W1 = w.alloc (.cells #[.bool neg, .int .i8 k, .int .u64 c] 46) := ⟨_, rfl⟩
  have g1 : w.grownBy W1 none := by rw [hW1]; exact grown_new _ _
  have hx : W1.heap[w.heap.size]? = some (.cells #[.bool neg, .int .i8 k, .int .u64 c] 46) := by rw [hW1]; exact heap_new _ _
  have G1 := Lib.hid g1
  obtain ⟨x0, x1, x2⟩ := gov_cells hx
  clear hx g1
  go_upto_region 1 with (fail)
  rw [← hW1]
  clear hW1
  go_wp2_with (fail)
  refine (govString_any neg c k W1 HC.out HK.out).mono ?_
  rintro e w2 ⟨s, m, ht, rfl, hg⟩
  have HT := Lib.hid ht
  have HG := Lib.hid (grown_trans G1.out hg)
  clear ht hg x0 x1 x2
  go_wp2_with (fail)
  refine (ParseFloat_any HT.out HC.out HK.out (HS.out.same HG.out) (HP.out.same HG.out) (Nat.lt_of_lt_of_le HPB.out HG.out.size)).mono ?_
  rintro e w3 ⟨W, rfl, hw, hg⟩
  have HW := Lib.hid hw
  have HG3 := Lib.hid (grown_trans HG.out hg)
  clear hw hg
  go_wp2
  refine bodyPost_ret (v := .tuple #[.float .f64 W, .bool true]) (by simp [results, Tryz.func11, go_sem]; try rfl) rfl ?_
  exact ⟨W, rfl, HW.out, HG3.out⟩
end Go.Proofs.YtndphemomhcjlaaGreatDoor
