/- A fixed decimal as one of the other package. Both floats are the same word: plain numbers. No condition. -/
import Derived.Test.YtndphemomhcjlaaGreatDoorQ26
set_option linter.all false

namespace Go.Proofs.YtndphemomhcjlaaGreatDoor
open Go.RowKit

def BdRes (w : World) (neg : Bool) (c : Nat) (x : Int) (e : Ending) (w' : World) : Prop :=
  ∃ s m, e = .returned (.tuple #[.agg #[.string s, .int .i64 (IntKind.i64.wrap (-x))], .bool (decide (c < 10000000000000000000) && (decide (0 ≤ x) && decide (x ≤ 19)))]) ∧ IsTxt s (neg && !decide (c = 0)) c 0 m ∧ ((c = 0 ∧ m = 1) ∨ 10 ^ (m - 1) ≤ c) ∧ w.grownBy w' none
@[reducible] def BoP (w : World) (b : Nat) (neg : Bool) (c : Nat) (x : Int) (w' : World) : Prop := w.grownBy w' none ∧ w'.cell? ⟨b, 0, none⟩ = some (.bool neg) ∧ w'.cell? ⟨b, 1, none⟩ = some (.int .u64 c) ∧ w'.cell? ⟨b, 2, none⟩ = some (.int .i64 x) ∧ w'.heap[b + 1]? = some (.cells #[.string { data := #[] }, .int .i64 0] 26)
theorem boS {w w' : World} {b : Nat} {neg : Bool} {c : Nat} {x : Int} (h : w'.heap[b]? = some (.cells #[.bool neg, .int .u64 c, .int .i64 x] 24)) (g : w.grownBy w' none) (ho : w'.heap[b + 1]? = some (.cells #[.string { data := #[] }, .int .i64 0] 26)) : BoP w b neg c x w' := by
  refine ⟨g, ?_, ?_, ?_, ho⟩
  all_goals (unfold World.cell?; rw [h]; rfl)
theorem boKeep {w w' w'' : World} {b : Nat} {neg : Bool} {c : Nat} {x : Int} (h : BoP w b neg c x w') (g : w'.grownBy w'' none) : BoP w b neg c x w'' := ⟨grown_trans h.1 g, keepc g h.2.1, keepc g h.2.2.1, keepc g h.2.2.2.1, keepb g h.2.2.2.2⟩
set_option maxHeartbeats 2000000 in
set_option maxRecDepth 100000 in
theorem boDec_any (neg : Bool) (c : Nat) (x : Int) (w : World) (hc : c < 18446744073709551616) : Calls Tryz.prog 4 #[.agg #[.bool neg, .int .u64 c, .int .i64 x]] w fun e w' => BdRes w neg c x e w' := by
  have HF := Lib.hid (fun w => ofFix_any neg c x w hc)
  have HD := Lib.hid (fun (w : World) base t v (h : NatOf w base v c t) => decOf_any (neg && !decide (c = 0)) (IntKind.i64.wrap (-x)) h hc)
  unfold BdRes
  generalize (decide (c < 10000000000000000000) && (decide (0 ≤ x) && decide (x ≤ 19))) = ok at *
  generalize (neg && !decide (c = 0)) = ng at *
  generalize IntKind.i64.wrap (-x) = ex at *
  unfold plainV DoRes at HD
  unfold plainV at HF
  clear hc
  go_enter Tryz.func4, Tryz.ntmps4
  go_upto_region 1 with (fail)
  obtain ⟨W0, hW0⟩ : ∃ W0, W0 = (w.alloc (.cells #[.bool neg, .int .u64 c, .int .i64 x] 24)).alloc (.cells #[.string { data := #[] }, .int .i64 0] 26) := ⟨_, rfl⟩
  rw [← hW0]
  have g0 : w.grownBy W0 none := by rw [hW0]; exact grown_trans (grown_new _ _) (grown_new _ _)
  have hx : W0.heap[w.heap.size]? = some (.cells #[.bool neg, .int .u64 c, .int .i64 x] 24) := by rw [hW0]; exact keepb (grown_new _ _) (heap_new _ _)
  have hs := size_alloc w (.cells #[.bool neg, .int .u64 c, .int .i64 x] 24)
  have ho : W0.heap[w.heap.size + 1]? = some (.cells #[.string { data := #[] }, .int .i64 0] 26) := by rw [hW0, ← hs]; exact heap_new _ _
  have E := Lib.hid (boS hx g0 ho)
  have ED := Lib.hid (boS (keepb (grown_drew W0) hx) (grown_trans g0 (grown_drew W0)) (keepb (grown_drew W0) ho))
  have HS : Hid (w.heap.size + 2 ≤ W0.heap.size) := by rw [hW0, size_alloc, size_alloc]; exact Nat.le_refl _
  clear hW0 hx hs ho g0
  have x0 := E.out.2.1
  have x1 := E.out.2.2.1
  have x2 := E.out.2.2.2.1
  go_wp2_with (fail)
  refine (HF.out _).mono ?_
  rintro r wn ⟨v, t, rfl, hn, gn⟩
  obtain ⟨a, cap, rfl, hac⟩ := hn.own.slice
  clear hac
  have HN := Lib.hid hn
  have KN := Lib.hid (boKeep E.out gn)
  have HSN : Hid (w.heap.size + 2 ≤ wn.heap.size) := Nat.le_trans HS.out gn.size
  clear hn gn x0 x1 x2 E ED HS
  go_upto_region 2 with (fail)
  obtain ⟨W2, hW2⟩ : ∃ W2, W2 = wn.alloc (.cells #[.bool ng, .slice a t cap, .int .i64 ex] 39) := ⟨_, rfl⟩
  rw [← hW2]
  have g2 : wn.grownBy W2 none := by rw [hW2]; exact grown_new _ _
  have hy : W2.heap[wn.heap.size]? = some (.cells #[.bool ng, .slice a t cap, .int .i64 ex] 39) := by rw [hW2]; exact heap_new _ _
  have K2 := Lib.hid (boKeep KN.out g2)
  obtain ⟨-, y0, y1, y2⟩ := doS hy K2.out.1
  have H2 := Lib.hid (HN.out.same g2)
  clear hW2 g2 hy HN KN
  go_wp2_with (fail)
  refine (HD.out _ _ _ _ H2.out).mono ?_
  rintro r wv ⟨s, m, rfl, ht, hm, gv⟩
  have HT := Lib.hid ht; have HM := Lib.hid hm
  obtain ⟨o0, o1, o2, o3⟩ := doO (keepb gv K2.out.2.2.2.2)
  have GV := Lib.hid (grown_trans K2.out.1 gv)
  clear ht hm gv y0 y1 y2 H2 K2
  go_wp2_with (fail)
  refine bodyPost_ret (v := .tuple #[.agg #[.string s, .int .i64 ex], .bool ok]) (by simp [results, Tryz.func4, go_sem, o0, o1]; try rfl) rfl ?_
  exact ⟨s, m, rfl, HT.out, HM.out, gset (by omega) _ _ (gset (by omega) _ _ GV.out)⟩
end Go.Proofs.YtndphemomhcjlaaGreatDoor

namespace Go.Proofs.YtndphemomhcjlaaGreatDoor
open Go.RowKit

theorem word_eq (s : Bool) (g : Nat) (h1 : 4503599627370496 ≤ g) (h2 : g < 9218868437227405312) : Ieee.double.order (Ieee.double.word s g) (Ieee.double.word s g) = some .eq := by
  have h := order_word s (g / 4503599627370496) (g % 4503599627370496) (Nat.mod_lt _ (by decide)) (by omega) (by omega)
  rw [show g / 4503599627370496 * 4503599627370496 + g % 4503599627370496 = g by omega] at h
  exact h
theorem flt_same {neg : Bool} {c k W W2 : Nat} (h : FltW (neg && !decide (c = 0)) c k W) (h2 : DcW (if (neg && !decide (c = 0)) then -(c : Int) else c) k W2) : W = W2 ∧ Ieee.double.order W W = some .eq := by
  rcases h with ⟨h0, h1⟩ | ⟨h0, g, h1, h3, h4, h5⟩
  · subst h0
    have e : (neg && !decide (0 = 0)) = false := by simp
    rw [e] at h1 h2
    rcases h2 with ⟨_, h2⟩ | ⟨h2, _⟩
    · subst h1 h2
      exact ⟨rfl, by decide⟩
    · simp at h2
  · have e : (neg && !decide (c = 0)) = neg := by simp [h0]
    rw [e] at h1 h2
    rcases h2 with ⟨k0, _⟩ | ⟨_, g2, k1, k2, k4, k5⟩
    · exfalso; revert k0; split <;> omega
    · have en : (if neg = true then -(c : Int) else c).natAbs = c := by split <;> omega
      have es : decide ((if neg = true then -(c : Int) else c) < 0) = neg := by cases neg <;> simp; omega
      rw [en] at k2
      rw [es] at k1
      have := h3.unique k2
      subst this
      exact ⟨h1.trans k1.symm, by rw [h1]; exact word_eq _ _ h4 h5⟩

set_option maxHeartbeats 2000000 in
set_option maxRecDepth 100000 in
theorem bothFloat_no (neg : Bool) (c : Nat) (x : Int) (w : World) (hc : c < 18446744073709551616) (hno : (decide (c < 10000000000000000000) && (decide (0 ≤ x) && decide (x ≤ 19))) = false) : Calls Tryz.prog 3 #[.agg #[.bool neg, .int .u64 c, .int .i64 x]] w fun e w' => e = .returned (.bool true) ∧ w.grownBy w' none := by
  have HB := Lib.hid (fun w => boDec_any neg c x w hc)
  unfold BdRes at HB
  rw [hno] at HB
  generalize (neg && !decide (c = 0)) = ng at *
  generalize IntKind.i64.wrap (-x) = ex at *
  clear hc hno
  go_enter Tryz.func3, Tryz.ntmps3
  go_upto_region 1 with (fail)
  obtain ⟨W0, hW0⟩ : ∃ W0, W0 = w.alloc (.cells #[.bool neg, .int .u64 c, .int .i64 x] 24) := ⟨_, rfl⟩
  rw [← hW0]
  have g0 : w.grownBy W0 none := by rw [hW0]; exact grown_new _ _
  have hx : W0.heap[w.heap.size]? = some (.cells #[.bool neg, .int .u64 c, .int .i64 x] 24) := by rw [hW0]; exact heap_new _ _
  have x0 : W0.cell? ⟨w.heap.size, 0, none⟩ = some (.bool neg) := by unfold World.cell?; rw [hx]; rfl
  have x1 : W0.cell? ⟨w.heap.size, 1, none⟩ = some (.int .u64 c) := by unfold World.cell?; rw [hx]; rfl
  have x2 : W0.cell? ⟨w.heap.size, 2, none⟩ = some (.int .i64 x) := by unfold World.cell?; rw [hx]; rfl
  have G0 := Lib.hid g0
  clear hW0 hx g0
  go_wp2_with (fail)
  refine (HB.out _).mono ?_
  rintro r w1 ⟨s, m, rfl, -, -, g1⟩
  have G1 := Lib.hid (grown_trans G0.out g1)
  clear g1 x0 x1 x2
  go_wp2_with (fail)
  go_ret
  exact ⟨rfl, grown_trans G1.out (grown_new _ _)⟩

set_option maxHeartbeats 2000000 in
set_option maxRecDepth 100000 in
theorem bothFloat_yes (neg : Bool) (c k : Nat) (w : World) (hc : c < 10000000000000000000) (hk : k ≤ 19) (hS : TabS w) (hP : TabP w) (hPb : 16 < w.heap.size) (hT : TabF w) : Calls Tryz.prog 3 #[.agg #[.bool neg, .int .u64 c, .int .i64 k]] w fun e w' => e = .returned (.bool true) ∧ w.grownBy w' none := by
  have HB := Lib.hid (fun w => boDec_any neg c k w (by omega))
  have HFix := Lib.hid (fun w hS hP hPb => fixFloat_any neg c k w hc hk hS hP hPb)
  have HDec := Lib.hid (fun w (s : ByteArray) m h hn hT => decToFloat_any (s := s) (neg := neg && !decide (c = 0)) (c := c) (m := m) k w h hn (by intro h; simp [h]) hc hk hT)
  have HL := Lib.hid (fun W W2 => flt_same (neg := neg) (c := c) (k := k) (W := W) (W2 := W2))
  have HS := Lib.hid hS; have HP := Lib.hid hP; have HPB := Lib.hid hPb; have HT := Lib.hid hT
  unfold BdRes at HB
  rw [show (decide (c < 10000000000000000000) && (decide ((0 : Int) ≤ (k : Int)) && decide ((k : Int) ≤ 19))) = true by simp; omega, show IntKind.i64.wrap (-(k : Int)) = -(k : Int) by rw [IntKind.wrap_i64]; omega] at HB
  generalize hng : (neg && !decide (c = 0)) = ng at *
  clear hc hk hS hP hPb hT hng
  go_enter Tryz.func3, Tryz.ntmps3
  go_upto_region 1 with (fail)
  obtain ⟨W0, hW0⟩ : ∃ W0, W0 = w.alloc (.cells #[.bool neg, .int .u64 c, .int .i64 k] 24) := ⟨_, rfl⟩
  rw [← hW0]
  have g0 : w.grownBy W0 none := by rw [hW0]; exact grown_new _ _
  have hx : W0.heap[w.heap.size]? = some (.cells #[.bool neg, .int .u64 c, .int .i64 k] 24) := by rw [hW0]; exact heap_new _ _
  have x0 : W0.cell? ⟨w.heap.size, 0, none⟩ = some (.bool neg) := by unfold World.cell?; rw [hx]; rfl
  have x1 : W0.cell? ⟨w.heap.size, 1, none⟩ = some (.int .u64 c) := by unfold World.cell?; rw [hx]; rfl
  have x2 : W0.cell? ⟨w.heap.size, 2, none⟩ = some (.int .i64 k) := by unfold World.cell?; rw [hx]; rfl
  have G0 := Lib.hid g0
  clear hW0 hx g0
  go_wp2_with (fail)
  refine (HB.out _).mono ?_
  rintro r w1 ⟨s, m, rfl, ht, hm, g1⟩
  have HTx := Lib.hid ht; have HM := Lib.hid hm
  have G1 := Lib.hid (grown_trans G0.out g1)
  have X := Lib.hid (And.intro (keepc g1 x0) (And.intro (keepc g1 x1) (keepc g1 x2)))
  clear g1 x0 x1 x2 ht hm
  go_upto_region 4 with (fail)
  obtain ⟨W2, hW2⟩ : ∃ W2, W2 = w1.alloc (.cells #[.string s, .int .i64 (-(k : Int))] 26) := ⟨_, rfl⟩
  rw [← hW2]
  have g2 : w1.grownBy W2 none := by rw [hW2]; exact grown_new _ _
  have ha : W2.heap[w1.heap.size]? = some (.cells #[.string s, .int .i64 (-(k : Int))] 26) := by rw [hW2]; exact heap_new _ _
  have A := Lib.hid ha
  have G2 := Lib.hid (grown_trans G1.out g2)
  have x0 := keepc g2 X.out.1
  have x1 := keepc g2 X.out.2.1
  have x2 := keepc g2 X.out.2.2
  clear hW2 g2 ha X G1
  go_wp2_with (fail)
  refine (HFix.out _ (HS.out.same G2.out) (HP.out.same G2.out) (Nat.lt_of_lt_of_le HPB.out G2.out.size)).mono ?_
  rintro r w3 ⟨W, rfl, hW, g3⟩
  have HW := Lib.hid hW
  have G3 := Lib.hid (grown_trans G2.out g3)
  obtain ⟨a0, a1⟩ := dec_cells (keepb g3 A.out)
  clear g3 x0 x1 x2 hW G2 A
  go_wp2_with (fail)
  refine (HDec.out _ s m HTx.out HM.out (fun i hi => keepc G3.out (HT.out i hi))).mono ?_
  rintro r w4 ⟨W2, exact, rfl, hW2, g4⟩
  obtain ⟨e, he⟩ := HL.out W W2 HW.out hW2
  subst e
  have G4 := Lib.hid (grown_trans G3.out g4)
  clear g4 a0 a1 hW2 HW G3 HL HDec HFix
  go_wp2_with (fail)
  have hq : (FloatKind.f64.format.order W W == some Ordering.eq) = true := by
    show (Ieee.double.order W W == some Ordering.eq) = true
    rw [he]; rfl
  rw [hq]
  go_ret
  exact ⟨rfl, G4.out⟩

theorem bothFloat_any (neg : Bool) (c : Nat) (x : Int) (w : World) (hc : c < 18446744073709551616) (hS : TabS w) (hP : TabP w) (hPb : 16 < w.heap.size) (hT : TabF w) : Calls Tryz.prog 3 #[.agg #[.bool neg, .int .u64 c, .int .i64 x]] w fun e w' => e = .returned (.bool true) ∧ w.grownBy w' none := by
  by_cases h : c < 10000000000000000000 ∧ 0 ≤ x ∧ x ≤ 19
  · obtain ⟨k, rfl⟩ : ∃ k : Nat, x = k := ⟨x.toNat, by omega⟩
    exact bothFloat_yes neg c k w h.1 (by omega) hS hP hPb hT
  · exact bothFloat_no neg c x w hc (by simp; omega)
end Go.Proofs.YtndphemomhcjlaaGreatDoor
