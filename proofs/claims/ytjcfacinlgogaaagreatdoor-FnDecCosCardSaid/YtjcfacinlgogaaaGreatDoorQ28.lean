/- A decimal of a small amount. Conditions: at most nineteen digits, at most nineteen places. -/
import Derived.Test.YtjcfacinlgogaaaGreatDoorQ25
import Derived.Test.YtjcfacinlgogaaaGreatDoorQ27
set_option linter.all false
set_option maxHeartbeats 2000000
set_option maxRecDepth 100000
set_option exponentiation.threshold 2000
namespace Go.Proofs.YtjcfacinlgogaaaGreatDoor
open Go.RowKit
theorem AbsD_any {w : World} {b : Nat} {x : Value} {n : Int} (e : Int) (hx : IntC w b 0 x n) :
    Calls Tryz.prog 54 #[decV b e] w fun r w' => ∃ b' v', r = .returned (decV b' e) ∧ IntC w' b' 0 v' n.natAbs ∧ w.grownBy w' none := by
  by_cases hn : n < 0
  · refine (AbsD_neg e hx hn).mono ?_
    rintro r w' ⟨b', v', rfl, hb, hbx, g⟩
    exact ⟨b', v', rfl, hbx.c, g⟩
  · refine (AbsD_pos e hx hn).mono ?_
    rintro r w' ⟨rfl, g⟩
    have h1 : (n.natAbs : Int) = n := by omega
    rw [h1]
    exact ⟨b, x, rfl, hx.same g, g⟩
theorem IntC.lt {w : World} {b o : Nat} {v : Value} {n : Int} (h : IntC w b o v n) : b < w.heap.size := by
  obtain ⟨_, _, ho⟩ := h.obj; exact (Array.getElem?_eq_some_iff.1 ho).1
theorem cmpD_most {w : World} {b1 b2 : Nat} {x y : Value} {n1 n2 : Int} (k : Nat) (hx : IntC w b1 0 x n1) (hy : IntC w b2 0 y n2) (hne : b1 ≠ b2) (h1 : 0 ≤ n1) (h2 : 0 < n2) (hn : (n2.natAbs : Int) < B64 ^ 39) (hk : k ≤ 19) (hK : TabK w) :
    Calls Tryz.prog 55 #[decV b1 (-(k : Int)), decV b2 0] w fun r w' => r = .returned (.int .i64 (icmp n1 (n2 * 10 ^ k))) ∧ w.grownBy w' none := by
  by_cases h0 : k = 0
  · subst h0
    rw [Int.pow_zero, Int.mul_one]
    exact cmpD_eq hx hy hne
  · have := cmpD_lt (e1 := -(k : Int)) (e2 := 0) hx hy (by omega) (by omega) (by decide) (by omega) h1 h2 hK hn
    rw [show (0 - -(k : Int)).toNat = k by omega] at this
    exact this
theorem icmp_le {a b : Int} (h : a ≤ b) : decide (icmp a b ≤ 0) = true := by
  unfold icmp
  by_cases h1 : a < b
  · simp [h1]
  · have : ¬ b < a := by omega
    simp [h1, this]
theorem mild_any {s : ByteArray} {neg : Bool} {c m : Nat} (k : Nat) (w : World) (h : IsTxt s neg c 0 m) (hn : (c = 0 ∧ m = 1) ∨ 10 ^ (m - 1) ≤ c) (hz : c = 0 → neg = false) (hc : c < 10000000000000000000) (hk : k ≤ 19) (hK : TabK w) (hle : c ≤ 1000000 * 10 ^ k) :
    Calls Tryz.prog 32 #[.agg #[.string s, .int .i64 (-(k : Int))], .int .i64 1000000] w fun e w' => e = .returned (.bool true) ∧ w.grownBy w' none := by
  have hsz : s.size ≤ 41 := by
    have h1 := h.size
    have h2 := h.m20
    have hp0 : pnt 0 = 0 := rfl
    have s1 : sgn neg ≤ 1 := by unfold sgn; split <;> omega
    omega
  have HM := Hq0 (fun w => made_any k w h hn hz hc hk)
  have habs : ((if neg then -(c : Int) else c).natAbs : Int) = c := by split <;> omega
  generalize (if neg then -(c : Int) else c) = n at *
  have HA := Hq0 habs
  have HLE : Hid ((c : Int) ≤ 1000000 * 10 ^ k) := by
    show _ ≤ _
    have h1 : ((1000000 * 10 ^ k : Nat) : Int) = 1000000 * 10 ^ k := by simp
    rw [← h1]; exact Int.ofNat_le.2 hle
  have HK := Hq0 hK
  have hl1 : ¬ ((41 : Int) < s.size) := by omega
  have hl2 : ¬ (-(k : Int) < -40) := by omega
  have hl3 : ¬ ((8 : Int) < -(k : Int)) := by omega
  unfold MdRes decV at HM
  clear h hn hz hc hK hle habs
  go_enter Tryz.func32, Tryz.ntmps32
  go_upto_region 1 with (fail)
  obtain ⟨W1, hW1⟩ : ∃ W1, W1 = w.alloc (.cells #[.string s, .int .i64 (-(k : Int))] 23) := ⟨_, rfl⟩
  rw [← hW1]
  have g1 : w.grownBy W1 none := by rw [hW1]; exact grown_new _ _
  have hx : W1.heap[w.heap.size]? = some (.cells #[.string s, .int .i64 (-(k : Int))] 23) := by rw [hW1]; exact heap_new _ _
  obtain ⟨x0, x1⟩ := dec_cells hx
  have G1 := Hq0 g1; have HX := Hq0 hx
  clear g1 hx hW1
  go_wp2_with (fail)
  refine (HM.out _).mono ?_
  rintro e w2 ⟨bz, v, rfl, hv, g2⟩
  have ga := grown_new w2 (.cells #[.pointer (some ⟨bz, 0, none⟩), .int .i32 (-(k : Int))] 56)
  have H3 : Hid ((w2.alloc (.cells #[.pointer (some ⟨bz, 0, none⟩), .int .i32 (-(k : Int))] 56)).heap[w2.heap.size]? = some (dobj bz (-(k : Int)))) := heap_new w2 (dobj bz (-(k : Int)))
  have G2 := Hq0 (grown_trans G1.out (grown_trans g2 ga))
  have HX2 := Hq0 (kpb ga (kpb g2 HX.out))
  have HV := Hq0 (hv.same ga)
  clear g2 ga hv x0 x1
  go_upto_region 2 with (fail)
  generalize w2.alloc (.cells #[.pointer (some ⟨bz, 0, none⟩), .int .i32 (-(k : Int))] 56) = W3 at *
  generalize w2.heap.size = R at *
  obtain ⟨x0, x1⟩ := dec_cells HX2.out
  obtain ⟨y0, y1, _, _⟩ := cell_dobj H3.out
  go_wp2_with (fail)
  refine (AbsD_any (-(k : Int)) HV.out).mono ?_
  rintro e w4 ⟨b4, v4, rfl, hv4, g4⟩
  rw [HA.out] at hv4
  have HV4 := Hq0 hv4
  have G4 := Hq0 (grown_trans G2.out g4)
  clear hv4 g4 x0 x1 y0 y1
  unfold decV
  go_wp2_with (fail)
  refine (NewFromInt_any 1000000 _ (by unfold S64; omega)).mono ?_
  rintro e w5 ⟨b5, v5, rfl, hb5, hv5, g5⟩
  have HV5 := Hq0 hv5.c
  have HV45 := Hq0 (HV4.out.same g5)
  have G5 := Hq0 (grown_trans G4.out g5)
  have hlt := HV4.out.lt
  have HC := Hq0 (cmpD_most k HV45.out HV5.out (by omega) (by omega) (by decide) (by unfold B64; decide) hk (HK.out.same G5.out))
  have hic := icmp_le HLE.out
  clear hv5 hb5 g5 hlt
  unfold decV at HC ⊢
  obtain ⟨ic, hic2⟩ : ∃ ic, icmp (c : Int) (1000000 * 10 ^ k) = ic := ⟨_, rfl⟩
  rw [hic2] at hic HC
  have hic0 : ic ≤ 0 := by simpa using hic
  go_wp2_with (fail)
  refine HC.out.mono ?_
  rintro e w6 ⟨rfl, g6⟩
  have G6 := Hq0 (grown_trans G5.out g6)
  clear g6
  go_wp2_with (fail)
  try rw [hic]
  go_ret
  exact ⟨rfl, G6.out⟩
end Go.Proofs.YtjcfacinlgogaaaGreatDoor
