/- The nearest float of a fraction of two words. The nearest float of a decimal. Conditions: at most nineteen digits and places. Decimals of nineteen digits: made, and what they are made of. The parts of the fast parsing of a decimal. -/
import Derived.Test.YtndphemomhcjlaaGreatDoorQ13
import Derived.Test.YtndphemomhcjlaaGreatDoorQ15
set_option linter.all false

namespace Go.Proofs.YtndphemomhcjlaaGreatDoor
open Go.RowKit

theorem neg_word (g : Nat) (h : g < 9223372036854775808) : Go.Op.negFloat .f64 g = Ieee.double.word true g := by
  show g ^^^ 2 ^ 63 = 2 ^ 63 + g
  have h1 := Nat.shiftLeft_add_eq_or_of_lt (i := 63) (b := g) (by omega) 1
  rw [Nat.shiftLeft_eq, Nat.one_mul] at h1
  rw [h1]
  apply Nat.eq_of_testBit_eq
  intro i
  rw [Nat.testBit_xor, Nat.testBit_or, Nat.testBit_two_pow]
  by_cases e : 63 = i
  · subst e
    have : g.testBit 63 = false := Nat.testBit_lt_two_pow (by omega)
    simp [this]
  · simp [e]
theorem run_neg (g : Nat) (h : g < 9223372036854775808) (w : World) : (Op.unary UnOp.neg (.float .f64 g)).run Tryz.prog w = .ok (.float .f64 (Ieee.double.word true g)) w := by
  rw [← neg_word g h]; rfl
/-- a float's word, its sign s -/
def FltRes (w : World) (s : Bool) (A B : Nat) (e : Ending) (w' : World) : Prop :=
  ∃ (g : Nat) (ex : Bool), e = .returned (.tuple #[.float .f64 (Ieee.double.word s g), .bool ex]) ∧ Rung A B g ∧ 4503599627370496 ≤ g ∧ g < 9218868437227405312 ∧ w.grownBy w' none

set_option maxHeartbeats 1000000 in
set_option maxRecDepth 100000 in
theorem ratFloat_any {w0 w : World} {bz : Nat} {s : Bool} {av bv : Value} {A B : Nat} (h : RatIn w0 bz s false av bv A B w) (ha0 : 0 < A) (hb0 : 0 < B) (ha1 : A < 18446744073709551616) (hb1 : B < 18446744073709551616) :
    Calls Tryz.prog 34 #[.pointer (some ⟨bz, 0, none⟩)] w fun e w' => FltRes w0 s A B e w' := by
  obtain ⟨⟨c0, c1, c2, c3⟩, f0, f1, f2, f3⟩ := cell_rbox h.here
  obtain ⟨xa, xc, rfl⟩ := h.na.slice
  obtain ⟨ya, yc, rfl⟩ := h.nb.slice
  have H := Lib.hid h
  clear h
  go_enter_defers Tryz.func34, Tryz.ntmps34
  go_wp2_with (fail)
  refine (getStack_box w).mono ?_
  rintro e w1 ⟨bs, rfl, hbs, hstk, g1⟩
  have HS := Lib.hid hstk
  have H1 := Lib.hid (H.out.same g1)
  clear hstk hbs g1 H c0 c1 c2 c3 f0 f1 f2 f3
  obtain ⟨⟨c0, c1, c2, c3⟩, f0, f1, f2, f3⟩ := cell_rbox H1.out.here
  go_wp2_with (fail)
  refine (quot_any (.pointer (some ⟨bs, 0, none⟩)) H1.out.na H1.out.nb ha0 hb0 ha1 hb1).mono ?_
  rintro e w2 ⟨g, ex, rfl, hR, gl, gu, hg⟩
  have HS2 : Hid (w2.heap[bs]? = some sbox) := Stks.grown hg bs HS.out
  have H2 := Lib.hid (H1.out.same hg)
  have HR := Lib.hid hR
  clear hg HS H1 hR c0 c1 c2 c3 f0 f1 f2 f3
  obtain ⟨⟨c0, c1, c2, c3⟩, f0, f1, f2, f3⟩ := cell_rbox H2.out.here
  have cS := cell_sbox HS2.out
  cases s with
  | false =>
    go_wp2_with (fail)
    refine leaves_cons (f := 58) (args := #[.pointer (some ⟨bs, 0, none⟩)]) (by simp) (by simp [go_sem]) ?_
    refine (stackFree_d .returning cS).mono ?_
    rintro e u' w'' ⟨rfl, rfl, rfl⟩
    exact ⟨_, results_tmp2 rfl _ _ _, g, ex, rfl, HR.out, gl, gu, H2.out.g⟩
  | true =>
    have rn := fun w => run_neg g (by omega) w
    go_wp2_with (fail)
    refine leaves_cons (f := 58) (args := #[.pointer (some ⟨bs, 0, none⟩)]) (by simp) (by simp [go_sem]) ?_
    refine (stackFree_d .returning cS).mono ?_
    rintro e u' w'' ⟨rfl, rfl, rfl⟩
    exact ⟨_, results_tmp2 rfl _ _ _, g, ex, rfl, HR.out, gl, gu, H2.out.g⟩
end Go.Proofs.YtndphemomhcjlaaGreatDoor

namespace Go.Proofs.YtndphemomhcjlaaGreatDoor
open Go.RowKit

/-- the float of a power of ten -/
def f10 (k : Nat) : Nat := Ieee.double.nearest false (10 ^ k) 0
theorem f10_ok : ∀ k, k < 23 → 1023 ≤ f10 k / 4503599627370496 ∧ f10 k / 4503599627370496 ≤ 1100 ∧ (4503599627370496 + f10 k % 4503599627370496) * 2 ^ (f10 k / 4503599627370496 - 1023) = 10 ^ k * 4503599627370496 := by decide +kernel
theorem f10_read (k : Nat) (h : k < 23) : Ieee.double.read (f10 k) = .number false (4503599627370496 + f10 k % 4503599627370496) (((f10 k / 4503599627370496 : Nat) : Int) - 1075) := by
  obtain ⟨h1, h2, _⟩ := f10_ok k h
  have h3 := read_word false (f10 k / 4503599627370496) (f10 k % 4503599627370496) (Nat.mod_lt _ (by decide)) (by omega) (by omega)
  have e : Ieee.double.word false (f10 k / 4503599627370496 * 4503599627370496 + f10 k % 4503599627370496) = f10 k := by
    show f10 k / 4503599627370496 * 4503599627370496 + f10 k % 4503599627370496 = f10 k
    omega
  rw [e] at h3
  exact h3
/-- a whole number of at most 53 digits, divided by a power of ten -/
theorem fast_div {n : Int} {k : Nat} (h0 : n ≠ 0) (h1 : n.natAbs ≤ 9007199254740992) (hk : k < 23) :
    ∃ g, Rung n.natAbs (10 ^ k) g ∧ 4503599627370496 ≤ g ∧ g < 9218868437227405312 ∧ Ieee.double.div (floatOfInt .f64 n) (f10 k) = some (Ieee.double.word (decide (n < 0)) g) := by
  obtain ⟨x, m, hm, hx, hx2, hw, _, hc⟩ := int_rung (decide (n < 0)) n.natAbs (by omega) h1
  obtain ⟨y1, y2, hd⟩ := f10_ok k hk
  have hX : Ieee.double.read (floatOfInt .f64 n) = .number (decide (n < 0)) (4503599627370496 + m) ((x : Int) - 1075) := by
    show Ieee.double.read (Ieee.double.nearest (decide (n < 0)) n.natAbs 0) = _
    rw [hw]; exact read_word _ x m hm (by omega) (by omega)
  exact div_rung hX (f10_read k hk) hm (Nat.mod_lt _ (by decide)) hx (by omega) y1 y2 (Nat.pow_pos (by decide)) hc hd

/-- a decimal's float -/
def DecFlt (w : World) (n : Int) (k : Nat) (e : Ending) (w' : World) : Prop :=
  ∃ (W : Nat) (ex : Bool), e = .returned (.tuple #[.float .f64 W, .bool ex]) ∧ ((n = 0 ∧ W = 0) ∨ (n ≠ 0 ∧ ∃ g, W = Ieee.double.word (decide (n < 0)) g ∧ Rung n.natAbs (10 ^ k) g ∧ 4503599627370496 ≤ g ∧ g < 9218868437227405312)) ∧ w.grownBy w' none

def TabF (w : World) : Prop := ∀ i : Nat, i < 23 → w.cell? ⟨0, i, none⟩ = some (.float .f64 (f10 i))

theorem decBox (w : World) (b k : Nat) : ∃ W0, W0 = w.alloc (.cells #[.pointer (some ⟨b, 0, none⟩), .int .i32 (-(k : Int))] 53) ∧ w.grownBy W0 none ∧ W0.cell? ⟨w.heap.size, 0, none⟩ = some (.pointer (some ⟨b, 0, none⟩)) ∧ W0.cell? ⟨w.heap.size, 1, none⟩ = some (.int .i32 (-(k : Int))) := by
  have hh := heap_new w (.cells #[.pointer (some ⟨b, 0, none⟩), .int .i32 (-(k : Int))] 53)
  exact ⟨_, rfl, World.grownBy_alloc _ _ _, by unfold World.cell?; rw [hh]; rfl, by unfold World.cell?; rw [hh]; rfl⟩

set_option maxRecDepth 100000 in
theorem decFloat_zero {w : World} {b k : Nat} {v : Value} (h : IntC w b 0 v 0) :
    Calls Tryz.prog 14 #[decV b (-(k : Int))] w fun e w' => DecFlt w 0 k e w' := by
  have H := Lib.hid h
  clear h
  have HS := Lib.hid (fun (w : World) (h : IntC w b 0 v 0) => decSign_any (-(k : Int)) h)
  unfold decV at HS
  unfold decV
  obtain ⟨W0, hW0, g0, e0, e1⟩ := decBox w b k
  go_enter Tryz.func14, Tryz.ntmps14
  go_upto_region 1 with (fail)
  rw [← hW0]
  have G0 := Lib.hid g0
  clear hW0 g0
  go_wp2_with (fail)
  refine (HS.out _ (H.out.same G0.out)).mono ?_
  rintro e w1 ⟨rfl, g1⟩
  have G1 := Lib.hid (grown_trans G0.out g1)
  have es : isgn 0 = 0 := rfl
  rw [es]
  clear g1
  go_wp2
  go_ret2
  exact ⟨0, true, rfl, .inl ⟨rfl, rfl⟩, G1.out⟩
theorem isgn_ne {n : Int} (h : n ≠ 0) : (isgn n == 0) = false := by
  unfold isgn; rw [if_neg h]; split <;> rfl

set_option maxHeartbeats 1000000 in
set_option maxRecDepth 100000 in
theorem decFloat_fast {w : World} {b k : Nat} {v : Value} {n : Int} (h : IntC w b 0 v n) (hT : TabF w) (h0 : n ≠ 0) (h1 : n.natAbs ≤ 9007199254740992) (hk : k ≤ 19) :
    Calls Tryz.prog 14 #[decV b (-(k : Int))] w fun e w' => DecFlt w n k e w' := by
  have H := Lib.hid h
  clear h
  have HS := Lib.hid (fun (w : World) (h : IntC w b 0 v n) => decSign_any (-(k : Int)) h)
  have HV := Lib.hid (fun (w : World) => getValue_any b (-(k : Int)) w)
  unfold decV at HS HV
  unfold decV
  obtain ⟨W0, hW0, g0, e0, e1⟩ := decBox w b k
  have hs0 := isgn_ne h0
  obtain ⟨r, hr1, hr2, hr3, hr4⟩ := fast_div h0 h1 (k := k) (by omega)
  have HR := Lib.hid (show _ ∧ _ ∧ _ from ⟨hr1, hr2, hr3⟩)
  have hq : ∀ wx, (binOp .quo 29 (.float .f64 (floatOfInt .f64 n)) (.float .f64 (f10 k))).run Tryz.prog wx = .ok (.float .f64 (Ieee.double.word (decide (n < 0)) r)) wx := fun wx => run_float_arith wx .quo 29 .f64 _ _ _ hr4
  clear hr1 hr2 hr3 hr4
  have l1 : -(k : Int) ≤ 0 := by omega
  have l2 : -22 ≤ -(k : Int) := by omega
  have dS : decide (-9223372036854775808 ≤ n ∧ n ≤ 9223372036854775807) = true := by simp; omega
  have l3 : -9007199254740992 ≤ n := by omega
  have l4 : n ≤ 9007199254740992 := by omega
  have ek : IntKind.i32.wrap (-(-(k : Int))) = k := by simp [IntKind.wrap_i32]; omega
  have ek2 : IntKind.i32.wrap (k : Int) = k := by simp [IntKind.wrap_i32]; omega
  have kk : (k : Int) < 23 := by omega
  have kk0 : (0 : Int) ≤ k := by omega
  have p5 : ¬ ((5 : Int) ^ k = 0) := by have : (0 : Int) < 5 ^ k := Int.pow_pos (by decide)
                                        omega
  go_enter Tryz.func14, Tryz.ntmps14
  go_upto_region 1 with (fail)
  rw [← hW0]
  have G0 := Lib.hid g0
  have E := Lib.hid (show _ ∧ _ from ⟨e0, e1⟩)
  clear hW0 g0
  go_wp2_with (fail)
  refine (HS.out _ (H.out.same G0.out)).mono ?_
  rintro e w1 ⟨rfl, g1⟩
  have G1 := Lib.hid (grown_trans G0.out g1)
  have f0 := keepc g1 e0
  have f1 := keepc g1 e1
  clear g1 e0 e1 E
  go_wp2_with (fail)
  refine (HV.out _).mono ?_
  rintro e w2 ⟨rfl, g2⟩
  have G2 := Lib.hid (grown_trans G1.out g2)
  have q0 := keepc g2 f0
  have q1 := keepc g2 f1
  clear g2 f0 f1
  go_wp2_with (fail)
  refine (IsInt64_any (H.out.same G2.out)).mono ?_
  rintro e w3 ⟨rfl, q3, hw3⟩
  have g3 : w2.grownBy w3 none := by rw [hw3]; exact grown_drewN _ _
  have G3 := Lib.hid (grown_trans G2.out g3)
  have f0 := keepc g3 q0
  have f1 := keepc g3 q1
  rw [dS]
  clear g3 q0 q1 hw3
  go_wp2_with (fail)
  refine (Int64_any (H.out.same G3.out) (by unfold S64; omega)).mono ?_
  rintro e w4 ⟨rfl, q4, hw4⟩
  have g4 : w3.grownBy w4 none := by rw [hw4]; exact grown_drewN _ _
  have G4 := Lib.hid (grown_trans G3.out g4)
  have q1 := keepc g4 f1
  have t1 := keepc G4.out (hT k (by omega))
  clear g4 f0 f1 hw4 hs0
  have H5 := Lib.hid (fun w : World => pow5Int64_any k w (by omega))
  generalize (5 : Int) ^ k = p at *
  go_wp2_with (fail)
  go_quiet ((go_at_call 29; exact Calls.quiet_of_same ((H5.out _).mono fun e w' ⟨h1, h2⟩ => ⟨h1, h2.symm⟩)))
  clear HS HV H5 H t1 q1 hq
  go_wp2
  go_ret2
  exact ⟨_, _, rfl, .inr ⟨h0, r, rfl, HR.out⟩, grown_trans G4.out (grown_drewN _ _)⟩

set_option maxHeartbeats 1000000 in
set_option maxRecDepth 100000 in
theorem decFloat_slow {w : World} {b k : Nat} {v : Value} {n : Int} (h : IntC w b 0 v n) (h0 : n ≠ 0) (h1 : 9007199254740992 < n.natAbs) (h2 : n.natAbs < 10000000000000000000) (hk : k ≤ 19) :
    Calls Tryz.prog 14 #[decV b (-(k : Int))] w fun e w' => DecFlt w n k e w' := by
  have H := Lib.hid h
  clear h
  have HS := Lib.hid (fun (w : World) (h : IntC w b 0 v n) => decSign_any (-(k : Int)) h)
  have HV := Lib.hid (fun (w : World) => getValue_any b (-(k : Int)) w)
  have HD := Lib.hid (fun (w : World) (h : IntC w b 0 v n) => NumDigits_any (-(k : Int)) h h0 h2)
  have HRt := Lib.hid (fun (w : World) (h : IntC w b 0 v n) => Rat_any h h0 (by omega) hk)
  unfold decV at HS HV HD HRt
  unfold decV
  obtain ⟨W0, hW0, g0, e0, e1⟩ := decBox w b k
  have hs0 := isgn_ne h0
  have l1 : -(k : Int) ≤ 0 := by omega
  have l2 : -22 ≤ -(k : Int) := by omega
  have l5 : -19 ≤ -(k : Int) := by omega
  go_enter Tryz.func14, Tryz.ntmps14
  go_upto_region 1 with (fail)
  rw [← hW0]
  have G0 := Lib.hid g0
  have E := Lib.hid (show _ ∧ _ from ⟨e0, e1⟩)
  clear hW0 g0
  go_wp2_with (fail)
  refine (HS.out _ (H.out.same G0.out)).mono ?_
  rintro e w1 ⟨rfl, g1⟩
  have G1 := Lib.hid (grown_trans G0.out g1)
  have f0 := keepc g1 e0
  have f1 := keepc g1 e1
  clear g1 e0 e1 E
  go_wp2_with (fail)
  refine (HV.out _).mono ?_
  rintro e w2 ⟨rfl, g2⟩
  have G2 := Lib.hid (grown_trans G1.out g2)
  have q0 := keepc g2 f0
  have q1 := keepc g2 f1
  clear g2 f0 f1
  go_wp2_with (fail)
  refine (IsInt64_any (H.out.same G2.out)).mono ?_
  rintro e w3 ⟨rfl, q3, hw3⟩
  obtain ⟨hb, ehb⟩ : ∃ hb, decide (-9223372036854775808 ≤ n ∧ n ≤ 9223372036854775807) = hb := ⟨_, rfl⟩
  rw [ehb]
  have EHB := Lib.hid ehb
  clear ehb
  have g3 : w2.grownBy w3 none := by rw [hw3]; exact grown_drewN _ _
  have G3 := Lib.hid (grown_trans G2.out g3)
  have f0 := keepc g3 q0
  have f1 := keepc g3 q1
  have E3 := Lib.hid (show w.grownBy w3 none ∧ w3.cell? ⟨w.heap.size, 0, none⟩ = some (.pointer (some ⟨b, 0, none⟩)) ∧ w3.cell? ⟨w.heap.size, 1, none⟩ = some (.int .i32 (-(k : Int))) from ⟨G3.out, f0, f1⟩)
  clear g3 q0 q1 hw3
  go_upto_if 25 with (fail)
  go_cut [] from 26 to 48 (fun wx => w.grownBy wx none ∧ wx.cell? ⟨w.heap.size, 0, none⟩ = some (.pointer (some ⟨b, 0, none⟩)) ∧ wx.cell? ⟨w.heap.size, 1, none⟩ = some (.int .i32 (-(k : Int))))
  case first =>
    cases hb with
    | true =>
      have hs : S64 n := by have := EHB.out; simpa [S64] using this
      go_wp2_with (fail)
      refine (Int64_any (H.out.same G3.out) hs).mono ?_
      rintro e w4 ⟨rfl, q4, hw4⟩
      have g4 : w3.grownBy w4 none := by rw [hw4]; exact grown_drewN _ _
      have E4 := Lib.hid (show w.grownBy w4 none ∧ w4.cell? ⟨w.heap.size, 0, none⟩ = some (.pointer (some ⟨b, 0, none⟩)) ∧ w4.cell? ⟨w.heap.size, 1, none⟩ = some (.int .i32 (-(k : Int))) from ⟨grown_trans G3.out g4, keepc g4 f0, keepc g4 f1⟩)
      clear g4 hw4 f0 f1
      by_cases hneg : n < 0
      · have c1 : ¬ (-9007199254740992 ≤ n) := by omega
        clear hs
        go_wp2_with (fail)
        go_meet
        exact E4.out
      · have c1 : -9007199254740992 ≤ n := by omega
        have c2 : ¬ (n ≤ 9007199254740992) := by omega
        clear hs
        go_wp2_with (fail)
        go_meet
        exact E4.out
    | false =>
      go_wp2_with (fail)
      go_meet
      exact E3.out
  case rest =>
    obtain ⟨g4, f0, f1⟩ := hcut
    have E : Hid (w.grownBy wc none ∧ wc.cell? ⟨w.heap.size, 0, none⟩ = some (.pointer (some ⟨b, 0, none⟩)) ∧ wc.cell? ⟨w.heap.size, 1, none⟩ = some (.int .i32 (-(k : Int)))) := ⟨g4, f0, f1⟩
    clear g4 f0 f1 E3 G3
    go_wp2_with (fail)
    go_region_held3 (fun w' => w.grownBy w' none ∧ w'.cell? ⟨w.heap.size, 0, none⟩ = some (.pointer (some ⟨b, 0, none⟩)) ∧ w'.cell? ⟨w.heap.size, 1, none⟩ = some (.int .i32 (-(k : Int))))
      (first | exact KD.out | exact sKeep (grown_drew _) E.out)
      (first
        | (go_at_call 30; refine (HD.out _ (H.out.same (grown_trans E.out.1 (grown_drew _)))).mono ?_; rintro r wd ⟨d, rfl, d0, d1, gd⟩; have KD : Hid (w.grownBy wd none ∧ wd.cell? ⟨w.heap.size, 0, none⟩ = some (.pointer (some ⟨b, 0, none⟩)) ∧ wd.cell? ⟨w.heap.size, 1, none⟩ = some (.int .i32 (-(k : Int)))) := sKeep gd (sKeep (grown_drew _) E.out); have ed : IntKind.i64.wrap (d + IntKind.i64.wrap (-(k : Int))) = d - k := (by rw [IntKind.wrap_i64, IntKind.wrap_i64]; omega); clear gd))
    have m1 : ¬ (d - (k : Int) < -400) := by omega
    have m2 : ¬ (400 < d - (k : Int)) := by omega
    obtain ⟨g5, f0, f1⟩ := KD.out
    have G5 := Lib.hid g5
    clear g5 E ed d0 d1
    go_wp2_with (fail)
    refine (HRt.out _ (H.out.same G5.out)).mono ?_
    rintro e w6 ⟨bz, av, bv, A, B, g, rfl, hg, hA, hB, hR⟩
    have hA0 : 0 < A := Nat.pos_of_ne_zero (fun e => by rw [e, Nat.zero_mul] at hA; omega)
    have hB0 : 0 < B := Nat.pos_of_ne_zero (fun e => by
      rw [e, Nat.zero_mul] at hB
      have : 0 < 10 ^ k := Nat.pow_pos (by decide)
      omega)
    have hA1 : A ≤ n.natAbs := by rw [hA]; exact Nat.le_mul_of_pos_right _ hg
    have hB1 : B < 18446744073709551616 := by
      have h3 : B ≤ 10 ^ k := by rw [hB]; exact Nat.le_mul_of_pos_right _ hg
      have h4 : 10 ^ k ≤ 10 ^ 19 := Nat.pow_le_pow_right (by decide) hk
      have h5 : (10 : Nat) ^ 19 = 10000000000000000000 := by decide
      omega
    have HA := Lib.hid hA; have HB := Lib.hid hB; have HR := Lib.hid hR
    clear hA hB hR
    go_wp2_with (fail)
    refine (ratFloat_any HR.out hA0 hB0 (by omega) hB1).mono ?_
    rintro e w7 ⟨r, ex, rfl, r1, r2, r3, r4⟩
    have HF : Hid (DecFlt w n k (.returned (.tuple #[.float .f64 (Ieee.double.word (decide (n < 0)) r), .bool ex])) w7) := by
      refine ⟨_, ex, rfl, .inr ⟨h0, r, rfl, ?_, r2, r3⟩, grown_trans G5.out r4⟩
      rw [HA.out, HB.out]
      exact (Rung.scale g hg).2 r1
    clear r1 r2 r3 r4
    go_wp2
    go_ret2
    exact HF.out
theorem decFloat_any {w : World} {b k : Nat} {v : Value} {n : Int} (h : IntC w b 0 v n) (hT : TabF w) (h2 : n.natAbs < 10000000000000000000) (hk : k ≤ 19) :
    Calls Tryz.prog 14 #[decV b (-(k : Int))] w fun e w' => DecFlt w n k e w' := by
  by_cases h0 : n = 0
  · subst h0; exact decFloat_zero h
  · by_cases h1 : n.natAbs ≤ 9007199254740992
    · exact decFloat_fast h hT h0 h1 hk
    · exact decFloat_slow h h0 (by omega) h2 hk
end Go.Proofs.YtndphemomhcjlaaGreatDoor

namespace Go.Proofs.YtndphemomhcjlaaGreatDoor
open Go.RowKit

/-- a decimal's value -/
def govV (neg : Bool) (c k : Nat) : Value := .agg #[.bool neg, .int .i8 k, .int .u64 c]
theorem grown_new (w : World) (o : Obj) : w.grownBy (w.alloc o) none := World.grownBy_alloc w o none

theorem newUnsafe_any (neg : Bool) (c k : Nat) (w : World) (hk : k ≤ 19) :
    Calls Tryz.prog 60 #[.bool neg, .int .u64 c, .int .i64 k] w fun e w' => e = .returned (govV (neg && !decide (c = 0)) c k) ∧ w.grownBy w' none := by
  have hg := Lib.hid (fun o => grown_new w o)
  by_cases h0 : c = 0
  · subst h0
    unfold govV
    go_enter Tryz.func60, Tryz.ntmps60
    go_wp2
    refine bodyPost_ret (v := .agg #[.bool false, .int .i8 k, .int .u64 ((0 : Nat) : Int)]) (by simp [results, Tryz.func60, go_sem]; try rfl) rfl ?_
    exact ⟨by simp, hg.out _⟩
  · have h1 : ((c : Int) == 0) = false := by simp; omega
    have h2 : (neg && !decide (c = 0)) = neg := by simp [h0]
    rw [h2]
    unfold govV
    clear h0 h2
    go_enter Tryz.func60, Tryz.ntmps60
    go_wp2
    refine bodyPost_ret (v := .agg #[.bool neg, .int .i8 k, .int .u64 c]) (by simp [results, Tryz.func60, go_sem]; try rfl) rfl ?_
    exact ⟨rfl, hg.out _⟩

set_option maxRecDepth 100000 in
theorem newSafe_any (neg : Bool) (c k : Nat) (w : World) (hk : k ≤ 19) (hc : c < 10000000000000000000) :
    Calls Tryz.prog 36 #[.bool neg, .int .u64 c, .int .i64 k] w fun e w' => e = .returned (.tuple #[govV (neg && !decide (c = 0)) c k, .nilIface]) ∧ w.grownBy w' none := by
  have HC := Lib.hid (fun w => newUnsafe_any neg c k w hk)
  have G := Lib.hid (fun o => grown_new w o)
  have HN := Lib.hid (fun o => heap_new w o)
  have HL := Lib.hid (fun o => size_alloc w o)
  have c1 : ¬ (9999999999999999999 < (c : Int)) := by omega
  generalize (neg && !decide (c = 0)) = ng at *
  unfold govV at HC
  unfold govV
  go_enter Tryz.func36, Tryz.ntmps36
  go_wp2_with (fail)
  refine (HC.out _).mono ?_
  rintro e w1 ⟨rfl, g1⟩
  have hb := keepb g1 (HN.out _)
  have hg := grown_trans (G.out _) g1
  have HB := Lib.hid hb; have HG := Lib.hid hg
  have z0 : w1.cell? ⟨w.heap.size, 0, none⟩ = some (.bool false) := by unfold World.cell?; rw [hb]; rfl
  have z1 : w1.cell? ⟨w.heap.size, 1, none⟩ = some (.int .i8 0) := by unfold World.cell?; rw [hb]; rfl
  have z2 : w1.cell? ⟨w.heap.size, 2, none⟩ = some (.int .u64 0) := by unfold World.cell?; rw [hb]; rfl
  have f0 : ∀ i, w1.frozen? ⟨w.heap.size, i, none⟩ = false := by intro i; unfold World.frozen?; rw [hb]; rfl
  clear g1 hb hg
  go_wp2_with (fail)
  have hlt := (Array.getElem?_eq_some_iff.1 HB.out).1
  have gset : ∀ (w2 : World) (o : Nat) (v : Value), w.grownBy w2 none → w.grownBy (w2.setCell ⟨w.heap.size, o, none⟩ v) none := fun w2 o v h => Grown2.new h (grown_set2 (grown_refl w2 none) o v) (Nat.le_refl _)
  refine bodyPost_ret (v := .tuple #[.agg #[.bool ng, .int .i8 k, .int .u64 c], .nilIface]) (by simp [results, Tryz.func36, go_sem, z0, z1, z2]; try rfl) rfl ?_
  exact ⟨rfl, gset _ _ _ (gset _ _ _ (gset _ _ _ HG.out))⟩

set_option maxRecDepth 100000 in
theorem govMake_any (neg : Bool) (c k : Nat) (w : World) (hk : k ≤ 19) (hc : c < 10000000000000000000) :
    Calls Tryz.prog 19 #[.bool neg, .int .u64 c, .int .i64 k] w fun e w' => e = .returned (.tuple #[govV (neg && !decide (c = 0)) c k, .nilIface]) ∧ w.grownBy w' none := by
  have HC := Lib.hid (fun w => newSafe_any neg c k w hk hc)
  have G := Lib.hid (fun o => grown_new w o)
  have HN := Lib.hid (fun o => heap_new w o)
  generalize (neg && !decide (c = 0)) = ng at *
  unfold govV at HC
  unfold govV
  go_enter Tryz.func19, Tryz.ntmps19
  go_wp2_with (fail)
  refine (HC.out _).mono ?_
  rintro e w1 ⟨rfl, g1⟩
  have hb := keepb g1 (HN.out _)
  have hg := grown_trans (G.out _) g1
  have HB := Lib.hid hb; have HG := Lib.hid hg
  have z0 : w1.cell? ⟨w.heap.size, 0, none⟩ = some (.bool false) := by unfold World.cell?; rw [hb]; rfl
  have z1 : w1.cell? ⟨w.heap.size, 1, none⟩ = some (.int .i8 0) := by unfold World.cell?; rw [hb]; rfl
  have z2 : w1.cell? ⟨w.heap.size, 2, none⟩ = some (.int .u64 0) := by unfold World.cell?; rw [hb]; rfl
  have f0 : ∀ i, w1.frozen? ⟨w.heap.size, i, none⟩ = false := by intro i; unfold World.frozen?; rw [hb]; rfl
  clear g1 hb hg
  go_wp2_with (fail)
  have hlt := (Array.getElem?_eq_some_iff.1 HB.out).1
  have gset : ∀ (w2 : World) (o : Nat) (v : Value), w.grownBy w2 none → w.grownBy (w2.setCell ⟨w.heap.size, o, none⟩ v) none := fun w2 o v h => Grown2.new h (grown_set2 (grown_refl w2 none) o v) (Nat.le_refl _)
  refine bodyPost_ret (v := .tuple #[.agg #[.bool ng, .int .i8 k, .int .u64 c], .nilIface]) (by simp [results, Tryz.func19, go_sem, z0, z1, z2]; try rfl) rfl ?_
  exact ⟨rfl, gset _ _ _ (gset _ _ _ (gset _ _ _ HG.out))⟩

theorem Coef_any (neg : Bool) (c k : Nat) (w : World) : Calls Tryz.prog 86 #[govV neg c k] w fun e w' => e = .returned (.int .u64 c) ∧ w.grownBy w' none := by
  have G := Lib.hid (fun o => grown_new w o)
  unfold govV
  go_enter Tryz.func86, Tryz.ntmps86
  go_wp2
  go_ret
  exact ⟨rfl, G.out _⟩
theorem Scale_any (neg : Bool) (c k : Nat) (w : World) (hk : k ≤ 19) : Calls Tryz.prog 87 #[govV neg c k] w fun e w' => e = .returned (.int .i64 k) ∧ w.grownBy w' none := by
  have G := Lib.hid (fun o => grown_new w o)
  unfold govV
  go_enter Tryz.func87, Tryz.ntmps87
  go_wp2
  go_ret
  exact ⟨rfl, G.out _⟩
theorem IsNeg_any (neg : Bool) (c k : Nat) (w : World) : Calls Tryz.prog 88 #[govV neg c k] w fun e w' => e = .returned (.bool neg) ∧ w.grownBy w' none := by
  have G := Lib.hid (fun o => grown_new w o)
  unfold govV
  go_enter Tryz.func88, Tryz.ntmps88
  go_wp2
  go_ret
  exact ⟨rfl, G.out _⟩
end Go.Proofs.YtndphemomhcjlaaGreatDoor

namespace Go.Proofs.YtndphemomhcjlaaGreatDoor
open Go.RowKit

theorem run_sfrom (x : Int) (w : World) : (callFunc 122 #[.int .u64 x]).run Tryz.prog w = .ok (.value (.float .f64 x.toNat)) w := by
  rw [run_callFunc_extern (P := Tryz.prog) (f := 122) Tryz.func122 (by kernel_rfl) (by kernel_rfl) (by kernel_rfl) (e := Go.Extern.MathFloatBits.float64frombits) (by kernel_rfl)]
  rfl

theorem log2Pow10_any (k : Nat) (w : World) (hk : k ≤ 19) :
    Calls Tryz.prog 166 #[.int .i64 (-(k : Int))] w fun e w' => e = .returned (.int .i64 (-(lk k : Int))) ∧ w = w' := by
  have h : (-(k : Int) * 108853) / 32768 = -(lk k : Int) := by unfold lk; omega
  have HH := Lib.hid h
  clear h
  go_enter Tryz.func166, Tryz.ntmps166
  go_wp2
  go_ret
  exact ⟨ret_int HH.out, rfl⟩

theorem bool264_any (b : Bool) (w : World) :
    Calls Tryz.prog 121 #[.bool b] w fun e w' => e = .returned (.int .u64 (if b then 1 else 0)) ∧ w = w' := by
  cases b <;> (go_enter Tryz.func121, Tryz.ntmps121; go_wp2; go_ret; exact ⟨rfl, rfl⟩)
theorem bool2i_any (b : Bool) (w : World) :
    Calls Tryz.prog 169 #[.bool b] w fun e w' => e = .returned (.int .i64 (if b then 1 else 0)) ∧ w = w' := by
  cases b <;> (go_enter Tryz.func169, Tryz.ntmps169; go_wp2; go_ret; exact ⟨rfl, rfl⟩)
theorem unmin_any (w : World) :
    Calls Tryz.prog 170 #[.int .u64 9007199254740992] w fun e w' => e = .returned (.int .u64 36028797018963966) ∧ w = w' := by
  go_enter Tryz.func170, Tryz.ntmps170
  go_wp2
  go_ret
  exact ⟨rfl, rfl⟩
theorem round_any (u : Nat) (w : World) (hu : u < 1152921504606846976) :
    Calls Tryz.prog 172 #[.int .u64 u] w fun e w' => e = .returned (.int .u64 (mant u)) ∧ w = w' := by
  have h1 := and_one64 (u / 4) (by omega)
  have h2 : bits .and .u64 ((u : Int) / 4) 1 = ((u / 4 % 2 : Nat) : Int) := h1
  obtain ⟨t, ht⟩ : ∃ t : Nat, u / 4 % 2 = t := ⟨_, rfl⟩
  have t1 : t ≤ 1 := by omega
  rw [ht] at h2
  have HH : Hid (((u : Int) + 1 + t) / 4 = (mant u : Nat)) := by show _ = _; unfold mant; rw [ht]; omega
  clear h1 ht
  go_enter Tryz.func172, Tryz.ntmps172
  go_wp2
  go_ret
  exact ⟨ret_int HH.out, rfl⟩
theorem mant_lt {u : Nat} : mant u ≤ u / 4 + 1 := by unfold mant; omega
end Go.Proofs.YtndphemomhcjlaaGreatDoor
