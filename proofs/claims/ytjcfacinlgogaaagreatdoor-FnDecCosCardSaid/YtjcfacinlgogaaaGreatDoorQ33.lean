/- The coefficients. Conditions: the tables as they are laid. Decimals by their value at a fixed number of places: sums, differences, products. Conditions: sizes within the bounds named. Variables of decimals; the cosine's beginning. Conditions: the decimal less than ten, at most 18 places. -/
import Derived.Test.YtjcfacinlgogaaaGreatDoorQ32
import Derived.Test.YtjcfacinlgogaaaGreatDoorQ24
import Derived.Test.YtjcfacinlgogaaaGreatDoorQ28
set_option linter.all false
set_option maxHeartbeats 4000000
set_option maxRecDepth 100000
set_option exponentiation.threshold 3000
namespace Go.Proofs.YtjcfacinlgogaaaGreatDoor
open Go.RowKit
def six0 : Array Value := #[.pointer none, .int .i32 0, .pointer none, .int .i32 0, .pointer none, .int .i32 0, .pointer none, .int .i32 0, .pointer none, .int .i32 0, .pointer none, .int .i32 0]
theorem six_cells {w : World} {b : Nat} (h : w.heap[b]? = some (.cells six0 94)) : (w.cell? ⟨b, 0, none⟩ = some (.pointer none) ∧ w.frozen? ⟨b, 0, none⟩ = false) ∧ (w.cell? ⟨b, 1, none⟩ = some (.int .i32 0) ∧ w.frozen? ⟨b, 1, none⟩ = false) ∧ (w.cell? ⟨b, 2, none⟩ = some (.pointer none) ∧ w.frozen? ⟨b, 2, none⟩ = false) ∧ (w.cell? ⟨b, 3, none⟩ = some (.int .i32 0) ∧ w.frozen? ⟨b, 3, none⟩ = false) ∧ (w.cell? ⟨b, 4, none⟩ = some (.pointer none) ∧ w.frozen? ⟨b, 4, none⟩ = false) ∧ (w.cell? ⟨b, 5, none⟩ = some (.int .i32 0) ∧ w.frozen? ⟨b, 5, none⟩ = false) ∧ (w.cell? ⟨b, 6, none⟩ = some (.pointer none) ∧ w.frozen? ⟨b, 6, none⟩ = false) ∧ (w.cell? ⟨b, 7, none⟩ = some (.int .i32 0) ∧ w.frozen? ⟨b, 7, none⟩ = false) ∧ (w.cell? ⟨b, 8, none⟩ = some (.pointer none) ∧ w.frozen? ⟨b, 8, none⟩ = false) ∧ (w.cell? ⟨b, 9, none⟩ = some (.int .i32 0) ∧ w.frozen? ⟨b, 9, none⟩ = false) ∧ (w.cell? ⟨b, 10, none⟩ = some (.pointer none) ∧ w.frozen? ⟨b, 10, none⟩ = false) ∧ (w.cell? ⟨b, 11, none⟩ = some (.int .i32 0) ∧ w.frozen? ⟨b, 11, none⟩ = false) := by
  refine ⟨?_, ?_, ?_, ?_, ?_, ?_, ?_, ?_, ?_, ?_, ?_, ?_⟩ <;> simp [World.cell?, World.frozen?, h, six0]
theorem six_lt {w w1 : World} {b : Nat} (g : (w.alloc (.cells six0 94)).grownBy w1 none) (h : w1.heap.size ≤ b) : w.heap.size < b := by
  have h1 := g.size
  rw [size_alloc] at h1
  omega
theorem IntC.own {w w' : World} {b R : Nat} {v : Value} {n : Int} {cs : Array Value} (h : IntC w b 0 v n) (ho : w.heap[R]? = some (.cells cs 94)) (g : w.grownBy w' (some R)) (hb : b ≠ R) : IntC w' b 0 v n := by
  have hv : v.ownBlock ≠ some R := by
    intro hx
    obtain ⟨l, h1, _⟩ := h.nat
    rcases h1 with ⟨rfl, _⟩ | ⟨c, cap, M, rfl, hc, _⟩
    · simp [Value.ownBlock] at hx
    · simp [Value.ownBlock] at hx
      subst hx
      rw [ho] at hc
      simp [blk] at hc
  obtain ⟨cs2, T, hh⟩ := h.obj
  have e : w'.heap[b]? = w.heap[b]? := g.block b (Array.getElem?_eq_some_iff.1 hh).1 (by intro e; injection e with e; exact hb e)
  obtain ⟨l, h1, h2⟩ := h.nat
  refine ⟨by rw [World.cell?_of_block e]; exact h.neg, by rw [World.cell?_of_block e]; exact h.abs, by rw [e]; exact h.obj, l, ?_, h2⟩
  rcases h1 with ⟨rfl, h5⟩ | ⟨c, cap, M, rfl, hc, h5⟩
  · exact .inl ⟨rfl, h5⟩
  · exact .inr ⟨c, cap, M, rfl, by rw [g.block c (Array.getElem?_eq_some_iff.1 hc).1 (by intro e; apply hv; exact e ▸ rfl)]; exact hc, h5⟩
def DI (w0 w : World) (b : Nat) (n : Int) : Prop := w0.heap.size ≤ b ∧ ∃ v, IntC w b 0 v n
def SixD (w w' : World) (r : Ending) (n0 e0 n1 e1 n2 e2 n3 e3 n4 e4 n5 e5 : Int) : Prop :=
  ∃ b0 b1 b2 b3 b4 b5, r = .returned (.agg #[.pointer (some ⟨b0, 0, none⟩), .int .i32 e0, .pointer (some ⟨b1, 0, none⟩), .int .i32 e1, .pointer (some ⟨b2, 0, none⟩), .int .i32 e2, .pointer (some ⟨b3, 0, none⟩), .int .i32 e3, .pointer (some ⟨b4, 0, none⟩), .int .i32 e4, .pointer (some ⟨b5, 0, none⟩), .int .i32 e5]) ∧
    DI w w' b0 n0 ∧ DI w w' b1 n1 ∧ DI w w' b2 n2 ∧ DI w w' b3 n3 ∧ DI w w' b4 n4 ∧ DI w w' b5 n5 ∧ w.grownBy w' none
theorem set_blk {w : World} {b : Nat} {cs : Array Value} {t : TypeId} (h : w.heap[b]? = some (.cells cs t)) (i : Nat) (v : Value) : (w.setCell ⟨b, i, none⟩ v).heap[b]? = some (.cells (cs.setIfInBounds i v) t) := by
  simp [World.setCell, Array.getElem?_modify, h]
theorem six_set {w : World} {b : Nat} (h : w.heap[b]? = some (.cells six0 94)) (a0 a1 a2 a3 a4 a5 a6 a7 a8 a9 a10 a11 : Value) : ((((((((((((w.setCell ⟨b, 0, none⟩ a0).setCell ⟨b, 1, none⟩ a1).setCell ⟨b, 2, none⟩ a2).setCell ⟨b, 3, none⟩ a3).setCell ⟨b, 4, none⟩ a4).setCell ⟨b, 5, none⟩ a5).setCell ⟨b, 6, none⟩ a6).setCell ⟨b, 7, none⟩ a7).setCell ⟨b, 8, none⟩ a8).setCell ⟨b, 9, none⟩ a9).setCell ⟨b, 10, none⟩ a10).setCell ⟨b, 11, none⟩ a11).heap[b]? = some (.cells #[a0, a1, a2, a3, a4, a5, a6, a7, a8, a9, a10, a11] 94) :=
  by have := (set_blk (set_blk (set_blk (set_blk (set_blk (set_blk (set_blk (set_blk (set_blk (set_blk (set_blk (set_blk h 0 a0) 1 a1) 2 a2) 3 a3) 4 a4) 5 a5) 6 a6) 7 a7) 8 a8) 9 a9) 10 a10) 11 a11); simp only [six0, List.setIfInBounds_toArray, List.set] at this; exact this
theorem six_grow (w : World) (b : Nat) (a0 a1 a2 a3 a4 a5 a6 a7 a8 a9 a10 a11 : Value) : w.grownBy ((((((((((((w.setCell ⟨b, 0, none⟩ a0).setCell ⟨b, 1, none⟩ a1).setCell ⟨b, 2, none⟩ a2).setCell ⟨b, 3, none⟩ a3).setCell ⟨b, 4, none⟩ a4).setCell ⟨b, 5, none⟩ a5).setCell ⟨b, 6, none⟩ a6).setCell ⟨b, 7, none⟩ a7).setCell ⟨b, 8, none⟩ a8).setCell ⟨b, 9, none⟩ a9).setCell ⟨b, 10, none⟩ a10).setCell ⟨b, 11, none⟩ a11) (some b) :=
  (grown_setb (grown_setb (grown_setb (grown_setb (grown_setb (grown_setb (grown_setb (grown_setb (grown_setb (grown_setb (grown_setb (grown_setb (grown_refl w (some b)) 0 a0) 1 a1) 2 a2) 3 a3) 4 a4) 5 a5) 6 a6) 7 a7) 8 a8) 9 a9) 10 a10) 11 a11)
theorem six_vals {w : World} {b : Nat} {a0 a1 a2 a3 a4 a5 a6 a7 a8 a9 a10 a11 : Value} (h : w.heap[b]? = some (.cells #[a0, a1, a2, a3, a4, a5, a6, a7, a8, a9, a10, a11] 94)) : w.cell? ⟨b, 0, none⟩ = some a0 ∧ w.cell? ⟨b, 1, none⟩ = some a1 ∧ w.cell? ⟨b, 2, none⟩ = some a2 ∧ w.cell? ⟨b, 3, none⟩ = some a3 ∧ w.cell? ⟨b, 4, none⟩ = some a4 ∧ w.cell? ⟨b, 5, none⟩ = some a5 ∧ w.cell? ⟨b, 6, none⟩ = some a6 ∧ w.cell? ⟨b, 7, none⟩ = some a7 ∧ w.cell? ⟨b, 8, none⟩ = some a8 ∧ w.cell? ⟨b, 9, none⟩ = some a9 ∧ w.cell? ⟨b, 10, none⟩ = some a10 ∧ w.cell? ⟨b, 11, none⟩ = some a11 := by
  refine ⟨?_, ?_, ?_, ?_, ?_, ?_, ?_, ?_, ?_, ?_, ?_, ?_⟩ <;> simp [World.cell?, h]
theorem cos_any {w : World} (hC : TabC w) : Calls Tryz.prog 73 #[] w fun r w' => SixD w w' r (-11358536521387682) (-27) (2087570084197473) (-24) (-2755731417929674) (-22) (24801587288851704) (-21) (-13888888888873056) (-19) (41666666666666595) (-18) := by
  have hg := Hq0 (World.grownBy_alloc w (.cells six0 94) none)
  have h0 := Hq0 (heap_new w (.cells six0 94))
  have HN0 := Hq0 (fun (wx : World) (g : w.grownBy wx none) => flt_cos0 (hC.same g))
  have HN1 := Hq0 (fun (wx : World) (g : w.grownBy wx none) => flt_cos1 (hC.same g))
  have HN2 := Hq0 (fun (wx : World) (g : w.grownBy wx none) => flt_cos2 (hC.same g))
  have HN3 := Hq0 (fun (wx : World) (g : w.grownBy wx none) => flt_cos3 (hC.same g))
  have HN4 := Hq0 (fun (wx : World) (g : w.grownBy wx none) => flt_cos4 (hC.same g))
  have HN5 := Hq0 (fun (wx : World) (g : w.grownBy wx none) => flt_cos5 (hC.same g))
  clear hC
  go_enter Tryz.func73, Tryz.ntmps73
  go_wp2_with (fail)
  refine (HN0.out _ hg.out).mono ?_
  rintro r w1 ⟨b0, v0, rfl, hb0, hx0, g0⟩
  have G0 := Hq0 (grown_trans hg.out g0)
  have X0 := Hq0 hx0.c
  have L0 := Hq0 (six_lt (grown_refl _ none) hb0)
  have E0 := Hq0 (grown_trans (grown_refl _ none) g0)
  clear hx0 hb0 g0 HN0
  unfold decV
  go_wp2_with (fail)
  refine (HN1.out _ G0.out).mono ?_
  rintro r w2 ⟨b1, v1, rfl, hb1, hx1, g1⟩
  have G1 := Hq0 (grown_trans G0.out g1)
  have X1 := Hq0 hx1.c
  have L1 := Hq0 (six_lt E0.out hb1)
  have E1 := Hq0 (grown_trans E0.out g1)
  have X0 := Hq0 (X0.out.same g1)
  clear hx1 hb1 g1 HN1
  unfold decV
  go_wp2_with (fail)
  refine (HN2.out _ G1.out).mono ?_
  rintro r w3 ⟨b2, v2, rfl, hb2, hx2, g2⟩
  have G2 := Hq0 (grown_trans G1.out g2)
  have X2 := Hq0 hx2.c
  have L2 := Hq0 (six_lt E1.out hb2)
  have E2 := Hq0 (grown_trans E1.out g2)
  have X0 := Hq0 (X0.out.same g2)
  have X1 := Hq0 (X1.out.same g2)
  clear hx2 hb2 g2 HN2
  unfold decV
  go_wp2_with (fail)
  refine (HN3.out _ G2.out).mono ?_
  rintro r w4 ⟨b3, v3, rfl, hb3, hx3, g3⟩
  have G3 := Hq0 (grown_trans G2.out g3)
  have X3 := Hq0 hx3.c
  have L3 := Hq0 (six_lt E2.out hb3)
  have E3 := Hq0 (grown_trans E2.out g3)
  have X0 := Hq0 (X0.out.same g3)
  have X1 := Hq0 (X1.out.same g3)
  have X2 := Hq0 (X2.out.same g3)
  clear hx3 hb3 g3 HN3
  unfold decV
  go_wp2_with (fail)
  refine (HN4.out _ G3.out).mono ?_
  rintro r w5 ⟨b4, v4, rfl, hb4, hx4, g4⟩
  have G4 := Hq0 (grown_trans G3.out g4)
  have X4 := Hq0 hx4.c
  have L4 := Hq0 (six_lt E3.out hb4)
  have E4 := Hq0 (grown_trans E3.out g4)
  have X0 := Hq0 (X0.out.same g4)
  have X1 := Hq0 (X1.out.same g4)
  have X2 := Hq0 (X2.out.same g4)
  have X3 := Hq0 (X3.out.same g4)
  clear hx4 hb4 g4 HN4
  unfold decV
  go_wp2_with (fail)
  refine (HN5.out _ G4.out).mono ?_
  rintro r w6 ⟨b5, v5, rfl, hb5, hx5, g5⟩
  have G5 := Hq0 (grown_trans G4.out g5)
  have X5 := Hq0 hx5.c
  have L5 := Hq0 (six_lt E4.out hb5)
  have E5 := Hq0 (grown_trans E4.out g5)
  have X0 := Hq0 (X0.out.same g5)
  have X1 := Hq0 (X1.out.same g5)
  have X2 := Hq0 (X2.out.same g5)
  have X3 := Hq0 (X3.out.same g5)
  have X4 := Hq0 (X4.out.same g5)
  clear hx5 hb5 g5 HN5
  unfold decV
  have hr := kpb E5.out h0.out
  obtain ⟨d0, d1, d2, d3, d4, d5, d6, d7, d8, d9, d10, d11⟩ := six_cells hr
  have HR := Hq0 hr
  clear hr
  go_wp2
  clear d0 d1 d2 d3 d4 d5 d6 d7 d8 d9 d10 d11
  have q1 := six_set HR.out (.pointer (some ⟨b0, 0, none⟩)) (.int .i32 (-27)) (.pointer (some ⟨b1, 0, none⟩)) (.int .i32 (-24)) (.pointer (some ⟨b2, 0, none⟩)) (.int .i32 (-22)) (.pointer (some ⟨b3, 0, none⟩)) (.int .i32 (-21)) (.pointer (some ⟨b4, 0, none⟩)) (.int .i32 (-19)) (.pointer (some ⟨b5, 0, none⟩)) (.int .i32 (-18))
  have q2 := six_grow w6 w.heap.size (.pointer (some ⟨b0, 0, none⟩)) (.int .i32 (-27)) (.pointer (some ⟨b1, 0, none⟩)) (.int .i32 (-24)) (.pointer (some ⟨b2, 0, none⟩)) (.int .i32 (-22)) (.pointer (some ⟨b3, 0, none⟩)) (.int .i32 (-21)) (.pointer (some ⟨b4, 0, none⟩)) (.int .i32 (-19)) (.pointer (some ⟨b5, 0, none⟩)) (.int .i32 (-18))
  generalize ((((((((((((w6.setCell ⟨w.heap.size, 0, none⟩ (.pointer (some ⟨b0, 0, none⟩))).setCell ⟨w.heap.size, 1, none⟩ (.int .i32 (-27))).setCell ⟨w.heap.size, 2, none⟩ (.pointer (some ⟨b1, 0, none⟩))).setCell ⟨w.heap.size, 3, none⟩ (.int .i32 (-24))).setCell ⟨w.heap.size, 4, none⟩ (.pointer (some ⟨b2, 0, none⟩))).setCell ⟨w.heap.size, 5, none⟩ (.int .i32 (-22))).setCell ⟨w.heap.size, 6, none⟩ (.pointer (some ⟨b3, 0, none⟩))).setCell ⟨w.heap.size, 7, none⟩ (.int .i32 (-21))).setCell ⟨w.heap.size, 8, none⟩ (.pointer (some ⟨b4, 0, none⟩))).setCell ⟨w.heap.size, 9, none⟩ (.int .i32 (-19))).setCell ⟨w.heap.size, 10, none⟩ (.pointer (some ⟨b5, 0, none⟩))).setCell ⟨w.heap.size, 11, none⟩ (.int .i32 (-18))) = w9 at *
  obtain ⟨s0, s1, s2, s3, s4, s5, s6, s7, s8, s9, s10, s11⟩ := six_vals q1
  have q3 := grown_own G5.out q2 (.inr (Nat.le_refl _))
  have Y0 : Hid (DI w w9 b0 (-11358536521387682)) := Hq0 ⟨by have := L0.out; omega, v0, X0.out.own HR.out q2 (by have := L0.out; omega)⟩
  have Y1 : Hid (DI w w9 b1 (2087570084197473)) := Hq0 ⟨by have := L1.out; omega, v1, X1.out.own HR.out q2 (by have := L1.out; omega)⟩
  have Y2 : Hid (DI w w9 b2 (-2755731417929674)) := Hq0 ⟨by have := L2.out; omega, v2, X2.out.own HR.out q2 (by have := L2.out; omega)⟩
  have Y3 : Hid (DI w w9 b3 (24801587288851704)) := Hq0 ⟨by have := L3.out; omega, v3, X3.out.own HR.out q2 (by have := L3.out; omega)⟩
  have Y4 : Hid (DI w w9 b4 (-13888888888873056)) := Hq0 ⟨by have := L4.out; omega, v4, X4.out.own HR.out q2 (by have := L4.out; omega)⟩
  have Y5 : Hid (DI w w9 b5 (41666666666666595)) := Hq0 ⟨by have := L5.out; omega, v5, X5.out.own HR.out q2 (by have := L5.out; omega)⟩
  have Q3 := Hq0 q3
  clear q1 q2 q3 L0 X0 G0 E0 L1 X1 G1 E1 L2 X2 G2 E2 L3 X3 G3 E3 L4 X4 G4 E4 L5 X5 G5 E5
  refine bodyPost_ret (v := .agg #[.pointer (some ⟨b0, 0, none⟩), .int .i32 (-27), .pointer (some ⟨b1, 0, none⟩), .int .i32 (-24), .pointer (some ⟨b2, 0, none⟩), .int .i32 (-22), .pointer (some ⟨b3, 0, none⟩), .int .i32 (-21), .pointer (some ⟨b4, 0, none⟩), .int .i32 (-19), .pointer (some ⟨b5, 0, none⟩), .int .i32 (-18)]) (by simp [results, Tryz.func73, go_sem, s0, s1, s2, s3, s4, s5, s6, s7, s8, s9, s10, s11]; try rfl) rfl ?_
  exact ⟨b0, b1, b2, b3, b4, b5, rfl, Y0.out, Y1.out, Y2.out, Y3.out, Y4.out, Y5.out, Q3.out⟩
theorem sin_any {w : World} (hC : TabC w) : Calls Tryz.prog 72 #[] w fun r w' => SixD w w' r (15896230157654656) (-26) (-25050747762857807) (-24) (27557313621385722) (-22) (-1984126982958954) (-19) (8333333333322118) (-18) (-1666666666666663) (-16) := by
  have hg := Hq0 (World.grownBy_alloc w (.cells six0 94) none)
  have h0 := Hq0 (heap_new w (.cells six0 94))
  have HN0 := Hq0 (fun (wx : World) (g : w.grownBy wx none) => flt_sin0 (hC.same g))
  have HN1 := Hq0 (fun (wx : World) (g : w.grownBy wx none) => flt_sin1 (hC.same g))
  have HN2 := Hq0 (fun (wx : World) (g : w.grownBy wx none) => flt_sin2 (hC.same g))
  have HN3 := Hq0 (fun (wx : World) (g : w.grownBy wx none) => flt_sin3 (hC.same g))
  have HN4 := Hq0 (fun (wx : World) (g : w.grownBy wx none) => flt_sin4 (hC.same g))
  have HN5 := Hq0 (fun (wx : World) (g : w.grownBy wx none) => flt_sin5 (hC.same g))
  clear hC
  go_enter Tryz.func72, Tryz.ntmps72
  go_wp2_with (fail)
  refine (HN0.out _ hg.out).mono ?_
  rintro r w1 ⟨b0, v0, rfl, hb0, hx0, g0⟩
  have G0 := Hq0 (grown_trans hg.out g0)
  have X0 := Hq0 hx0.c
  have L0 := Hq0 (six_lt (grown_refl _ none) hb0)
  have E0 := Hq0 (grown_trans (grown_refl _ none) g0)
  clear hx0 hb0 g0 HN0
  unfold decV
  go_wp2_with (fail)
  refine (HN1.out _ G0.out).mono ?_
  rintro r w2 ⟨b1, v1, rfl, hb1, hx1, g1⟩
  have G1 := Hq0 (grown_trans G0.out g1)
  have X1 := Hq0 hx1.c
  have L1 := Hq0 (six_lt E0.out hb1)
  have E1 := Hq0 (grown_trans E0.out g1)
  have X0 := Hq0 (X0.out.same g1)
  clear hx1 hb1 g1 HN1
  unfold decV
  go_wp2_with (fail)
  refine (HN2.out _ G1.out).mono ?_
  rintro r w3 ⟨b2, v2, rfl, hb2, hx2, g2⟩
  have G2 := Hq0 (grown_trans G1.out g2)
  have X2 := Hq0 hx2.c
  have L2 := Hq0 (six_lt E1.out hb2)
  have E2 := Hq0 (grown_trans E1.out g2)
  have X0 := Hq0 (X0.out.same g2)
  have X1 := Hq0 (X1.out.same g2)
  clear hx2 hb2 g2 HN2
  unfold decV
  go_wp2_with (fail)
  refine (HN3.out _ G2.out).mono ?_
  rintro r w4 ⟨b3, v3, rfl, hb3, hx3, g3⟩
  have G3 := Hq0 (grown_trans G2.out g3)
  have X3 := Hq0 hx3.c
  have L3 := Hq0 (six_lt E2.out hb3)
  have E3 := Hq0 (grown_trans E2.out g3)
  have X0 := Hq0 (X0.out.same g3)
  have X1 := Hq0 (X1.out.same g3)
  have X2 := Hq0 (X2.out.same g3)
  clear hx3 hb3 g3 HN3
  unfold decV
  go_wp2_with (fail)
  refine (HN4.out _ G3.out).mono ?_
  rintro r w5 ⟨b4, v4, rfl, hb4, hx4, g4⟩
  have G4 := Hq0 (grown_trans G3.out g4)
  have X4 := Hq0 hx4.c
  have L4 := Hq0 (six_lt E3.out hb4)
  have E4 := Hq0 (grown_trans E3.out g4)
  have X0 := Hq0 (X0.out.same g4)
  have X1 := Hq0 (X1.out.same g4)
  have X2 := Hq0 (X2.out.same g4)
  have X3 := Hq0 (X3.out.same g4)
  clear hx4 hb4 g4 HN4
  unfold decV
  go_wp2_with (fail)
  refine (HN5.out _ G4.out).mono ?_
  rintro r w6 ⟨b5, v5, rfl, hb5, hx5, g5⟩
  have G5 := Hq0 (grown_trans G4.out g5)
  have X5 := Hq0 hx5.c
  have L5 := Hq0 (six_lt E4.out hb5)
  have E5 := Hq0 (grown_trans E4.out g5)
  have X0 := Hq0 (X0.out.same g5)
  have X1 := Hq0 (X1.out.same g5)
  have X2 := Hq0 (X2.out.same g5)
  have X3 := Hq0 (X3.out.same g5)
  have X4 := Hq0 (X4.out.same g5)
  clear hx5 hb5 g5 HN5
  unfold decV
  have hr := kpb E5.out h0.out
  obtain ⟨d0, d1, d2, d3, d4, d5, d6, d7, d8, d9, d10, d11⟩ := six_cells hr
  have HR := Hq0 hr
  clear hr
  go_wp2
  clear d0 d1 d2 d3 d4 d5 d6 d7 d8 d9 d10 d11
  have q1 := six_set HR.out (.pointer (some ⟨b0, 0, none⟩)) (.int .i32 (-26)) (.pointer (some ⟨b1, 0, none⟩)) (.int .i32 (-24)) (.pointer (some ⟨b2, 0, none⟩)) (.int .i32 (-22)) (.pointer (some ⟨b3, 0, none⟩)) (.int .i32 (-19)) (.pointer (some ⟨b4, 0, none⟩)) (.int .i32 (-18)) (.pointer (some ⟨b5, 0, none⟩)) (.int .i32 (-16))
  have q2 := six_grow w6 w.heap.size (.pointer (some ⟨b0, 0, none⟩)) (.int .i32 (-26)) (.pointer (some ⟨b1, 0, none⟩)) (.int .i32 (-24)) (.pointer (some ⟨b2, 0, none⟩)) (.int .i32 (-22)) (.pointer (some ⟨b3, 0, none⟩)) (.int .i32 (-19)) (.pointer (some ⟨b4, 0, none⟩)) (.int .i32 (-18)) (.pointer (some ⟨b5, 0, none⟩)) (.int .i32 (-16))
  generalize ((((((((((((w6.setCell ⟨w.heap.size, 0, none⟩ (.pointer (some ⟨b0, 0, none⟩))).setCell ⟨w.heap.size, 1, none⟩ (.int .i32 (-26))).setCell ⟨w.heap.size, 2, none⟩ (.pointer (some ⟨b1, 0, none⟩))).setCell ⟨w.heap.size, 3, none⟩ (.int .i32 (-24))).setCell ⟨w.heap.size, 4, none⟩ (.pointer (some ⟨b2, 0, none⟩))).setCell ⟨w.heap.size, 5, none⟩ (.int .i32 (-22))).setCell ⟨w.heap.size, 6, none⟩ (.pointer (some ⟨b3, 0, none⟩))).setCell ⟨w.heap.size, 7, none⟩ (.int .i32 (-19))).setCell ⟨w.heap.size, 8, none⟩ (.pointer (some ⟨b4, 0, none⟩))).setCell ⟨w.heap.size, 9, none⟩ (.int .i32 (-18))).setCell ⟨w.heap.size, 10, none⟩ (.pointer (some ⟨b5, 0, none⟩))).setCell ⟨w.heap.size, 11, none⟩ (.int .i32 (-16))) = w9 at *
  obtain ⟨s0, s1, s2, s3, s4, s5, s6, s7, s8, s9, s10, s11⟩ := six_vals q1
  have q3 := grown_own G5.out q2 (.inr (Nat.le_refl _))
  have Y0 : Hid (DI w w9 b0 (15896230157654656)) := Hq0 ⟨by have := L0.out; omega, v0, X0.out.own HR.out q2 (by have := L0.out; omega)⟩
  have Y1 : Hid (DI w w9 b1 (-25050747762857807)) := Hq0 ⟨by have := L1.out; omega, v1, X1.out.own HR.out q2 (by have := L1.out; omega)⟩
  have Y2 : Hid (DI w w9 b2 (27557313621385722)) := Hq0 ⟨by have := L2.out; omega, v2, X2.out.own HR.out q2 (by have := L2.out; omega)⟩
  have Y3 : Hid (DI w w9 b3 (-1984126982958954)) := Hq0 ⟨by have := L3.out; omega, v3, X3.out.own HR.out q2 (by have := L3.out; omega)⟩
  have Y4 : Hid (DI w w9 b4 (8333333333322118)) := Hq0 ⟨by have := L4.out; omega, v4, X4.out.own HR.out q2 (by have := L4.out; omega)⟩
  have Y5 : Hid (DI w w9 b5 (-1666666666666663)) := Hq0 ⟨by have := L5.out; omega, v5, X5.out.own HR.out q2 (by have := L5.out; omega)⟩
  have Q3 := Hq0 q3
  clear q1 q2 q3 L0 X0 G0 E0 L1 X1 G1 E1 L2 X2 G2 E2 L3 X3 G3 E3 L4 X4 G4 E4 L5 X5 G5 E5
  refine bodyPost_ret (v := .agg #[.pointer (some ⟨b0, 0, none⟩), .int .i32 (-26), .pointer (some ⟨b1, 0, none⟩), .int .i32 (-24), .pointer (some ⟨b2, 0, none⟩), .int .i32 (-22), .pointer (some ⟨b3, 0, none⟩), .int .i32 (-19), .pointer (some ⟨b4, 0, none⟩), .int .i32 (-18), .pointer (some ⟨b5, 0, none⟩), .int .i32 (-16)]) (by simp [results, Tryz.func72, go_sem, s0, s1, s2, s3, s4, s5, s6, s7, s8, s9, s10, s11]; try rfl) rfl ?_
  exact ⟨b0, b1, b2, b3, b4, b5, rfl, Y0.out, Y1.out, Y2.out, Y3.out, Y4.out, Y5.out, Q3.out⟩
end Go.Proofs.YtjcfacinlgogaaaGreatDoor
namespace Go.Proofs.YtjcfacinlgogaaaGreatDoor
open Go.RowKit
def DV (w : World) (b : Nat) (e : Int) (p : Nat) (X : Int) (k s : Nat) : Prop :=
  ∃ v n, IntC w b 0 v n ∧ -(p : Int) ≤ e ∧ e ≤ -(p : Int) + s ∧ X = n * 10 ^ (e + p).toNat ∧ X.natAbs ≤ 10 ^ k
theorem DV.same {w w' : World} {b p k s : Nat} {e X : Int} (h : DV w b e p X k s) (g : w.grownBy w' none) : DV w' b e p X k s := by
  obtain ⟨v, n, h1, h2⟩ := h
  exact ⟨v, n, h1.same g, h2⟩
theorem DV.lt {w : World} {b p k s : Nat} {e X : Int} (h : DV w b e p X k s) : b < w.heap.size := by
  obtain ⟨v, n, h1, h2⟩ := h
  exact h1.lt
theorem DV.lift {w : World} {b p k s : Nat} {e X : Int} (h : DV w b e p X k s) (j : Nat) : DV w b e (p + j) (X * 10 ^ j) (k + j) (s + j) := by
  obtain ⟨v, n, h1, h2, h3, h4, h5⟩ := h
  refine ⟨v, n, h1, by omega, by omega, ?_, ?_⟩
  · rw [h4, Int.mul_assoc, ← Int.pow_add, show (e + ((p + j : Nat) : Int)).toNat = (e + p).toNat + j by omega]
  · rw [Int.natAbs_mul, Int.natAbs_pow, Nat.pow_add]
    exact Nat.mul_le_mul_right _ h5
theorem DV.at {w : World} {b p k s p' k' s' : Nat} {e X X' : Int} (h : DV w b e p X k s) (j : Nat) (hp : p + j = p') (hX : X * 10 ^ j = X') (hk : k + j ≤ k') (hs : s + j ≤ s') : DV w b e p' X' k' s' := by
  subst hp hX
  obtain ⟨v, n, h1, h2, h3, h4, h5⟩ := h.lift j
  exact ⟨v, n, h1, h2, by omega, h4, Nat.le_trans h5 (Nat.pow_le_pow_right (by decide) hk)⟩
theorem DV.bound {w : World} {b p k s k' : Nat} {e X : Int} (h : DV w b e p X k s) (hk : X.natAbs ≤ 10 ^ k') : DV w b e p X k' s := by
  obtain ⟨v, n, h1, h2, h3, h4, h5⟩ := h
  exact ⟨v, n, h1, h2, h3, h4, hk⟩
theorem n_le {n : Int} {m k : Nat} (h : (n * 10 ^ m).natAbs ≤ 10 ^ k) : n.natAbs ≤ 10 ^ k := by
  rw [Int.natAbs_mul, Int.natAbs_pow] at h
  exact Nat.le_trans (Nat.le_mul_of_pos_right _ (Nat.pow_pos (by decide))) h
theorem lt39 {n : Int} {k : Nat} (h : n.natAbs ≤ 10 ^ k) (hk : k ≤ 600) : (n.natAbs : Int) < B64 ^ 39 := by
  have h1 := Nat.le_trans h (Nat.pow_le_pow_right (by decide) hk)
  have h2 : (10 : Nat) ^ 600 < 18446744073709551616 ^ 39 := by decide +kernel
  have h3 : (n.natAbs : Int) < ((18446744073709551616 ^ 39 : Nat) : Int) := by omega
  rw [Int.natCast_pow] at h3
  exact h3
theorem lt11 {n : Int} {k : Nat} (h : n.natAbs ≤ 10 ^ k) (hk : k ≤ 200) : (n.natAbs : Int) < B64 ^ 11 := by
  have h1 := Nat.le_trans h (Nat.pow_le_pow_right (by decide) hk)
  have h2 : (10 : Nat) ^ 200 < 18446744073709551616 ^ 11 := by decide +kernel
  have h3 : (n.natAbs : Int) < ((18446744073709551616 ^ 11 : Nat) : Int) := by omega
  rw [Int.natCast_pow] at h3
  exact h3
theorem lt1000 {n m : Int} {k j : Nat} (h : n.natAbs ≤ 10 ^ k) (h2 : m.natAbs ≤ 10 ^ j) (hk : k ≤ 600) (hj : j ≤ 600) : ((n * m).natAbs : Int) < B64 ^ 1000 := by
  have h1 := Nat.le_trans h (Nat.pow_le_pow_right (by decide) hk)
  have h2 := Nat.le_trans h2 (Nat.pow_le_pow_right (by decide) hj)
  have h3 : (n * m).natAbs ≤ 10 ^ 600 * 10 ^ 600 := by rw [Int.natAbs_mul]; exact Nat.mul_le_mul h1 h2
  have h4 : (10 : Nat) ^ 600 * 10 ^ 600 < 18446744073709551616 ^ 1000 := by decide +kernel
  have h5 : ((n * m).natAbs : Int) < ((18446744073709551616 ^ 1000 : Nat) : Int) := by omega
  rw [Int.natCast_pow] at h5
  exact h5
def OpD (w : World) (p : Nat) (X : Int) (k s : Nat) (r : Ending) (w' : World) : Prop :=
  ∃ b e, r = .returned (.agg #[.pointer (some ⟨b, 0, none⟩), .int .i32 e]) ∧ w.heap.size ≤ b ∧ DV w' b e p X k s ∧ w.grownBy w' none
theorem dv_new {w w' : World} {r : Ending} {n : Int} {k p : Nat} (h : DecNew w w' r n (-(p : Int))) (hn : n.natAbs ≤ 10 ^ k) : OpD w p n k 0 r w' := by
  obtain ⟨b, v, rfl, hb, hx, g⟩ := h
  exact ⟨b, -(p : Int), rfl, hb, ⟨v, n, hx.c, Int.le_refl _, by omega, by rw [show (-(p : Int) + p).toNat = 0 by omega]; simp, hn⟩, g⟩
theorem dv_mul {w : World} {b1 b2 p1 p2 k1 k2 s1 s2 : Nat} {e1 e2 X1 X2 : Int} (h1 : DV w b1 e1 p1 X1 k1 s1) (h2 : DV w b2 e2 p2 X2 k2 s2) (hne : b1 ≠ b2) (hK : TabK w) (hb : k1 ≤ 600 ∧ k2 ≤ 600 ∧ p1 ≤ 600 ∧ p2 ≤ 600 ∧ s1 ≤ 600 ∧ s2 ≤ 600) :
    Calls Tryz.prog 66 #[.agg #[.pointer (some ⟨b1, 0, none⟩), .int .i32 e1], .agg #[.pointer (some ⟨b2, 0, none⟩), .int .i32 e2]] w fun r w' => OpD w (p1 + p2) (X1 * X2) (k1 + k2) (s1 + s2) r w' := by
  obtain ⟨v1, n1, a1, a2, a3, a4, a5⟩ := h1
  obtain ⟨v2, n2, c1, c2, c3, c4, c5⟩ := h2
  have q1 : n1.natAbs ≤ 10 ^ k1 := n_le (a4 ▸ a5)
  have q2 : n2.natAbs ≤ 10 ^ k2 := n_le (c4 ▸ c5)
  refine (mulD_any a1 c1 hne (.inl (lt39 q1 hb.1)) hK (lt1000 q1 q2 hb.1 hb.2.1) (by omega) (by omega)).mono ?_
  rintro r w' ⟨b, v, rfl, hb2, hx, g⟩
  refine ⟨b, e1 + e2, rfl, hb2, ⟨v, n1 * n2, hx.c, by omega, by omega, ?_, ?_⟩, g⟩
  · rw [a4, c4, show (e1 + e2 + ((p1 + p2 : Nat) : Int)).toNat = (e1 + p1).toNat + (e2 + p2).toNat by omega, Int.pow_add]
    generalize (10 : Int) ^ (e1 + p1).toNat = x
    generalize (10 : Int) ^ (e2 + p2).toNat = y
    rw [Int.mul_assoc, Int.mul_assoc, Int.mul_left_comm x]
  · rw [Int.natAbs_mul, Nat.pow_add]; exact Nat.mul_le_mul a5 c5
theorem dv_sqr {w : World} {b p k s : Nat} {e X : Int} (h : DV w b e p X k s) (hK : TabK w) (hb : k ≤ 200 ∧ p ≤ 600 ∧ s ≤ 600) :
    Calls Tryz.prog 66 #[.agg #[.pointer (some ⟨b, 0, none⟩), .int .i32 e], .agg #[.pointer (some ⟨b, 0, none⟩), .int .i32 e]] w fun r w' => OpD w (p + p) (X * X) (k + k) (s + s) r w' := by
  obtain ⟨v1, n1, a1, a2, a3, a4, a5⟩ := h
  have q1 : n1.natAbs ≤ 10 ^ k := n_le (a4 ▸ a5)
  refine (sqrD_any a1 (lt11 q1 hb.1) hK (by omega)).mono ?_
  rintro r w' ⟨b, v, rfl, hb2, hx, g⟩
  refine ⟨b, e + e, rfl, hb2, ⟨v, n1 * n1, hx.c, by omega, by omega, ?_, ?_⟩, g⟩
  · rw [a4, show (e + e + ((p + p : Nat) : Int)).toNat = (e + p).toNat + (e + p).toNat by omega, Int.pow_add]
    generalize (10 : Int) ^ (e + p).toNat = x
    rw [Int.mul_assoc, Int.mul_assoc, Int.mul_left_comm x]
  · rw [Int.natAbs_mul, Nat.pow_add]; exact Nat.mul_le_mul a5 a5
theorem abs_add_le {x y : Int} {k j : Nat} (h1 : x.natAbs ≤ 10 ^ k) (h2 : y.natAbs ≤ 10 ^ j) : (x + y).natAbs ≤ 10 ^ (max k j + 1) ∧ (x - y).natAbs ≤ 10 ^ (max k j + 1) := by
  have a := Nat.le_trans h1 (Nat.pow_le_pow_right (by decide) (Nat.le_max_left k j))
  have b := Nat.le_trans h2 (Nat.pow_le_pow_right (by decide) (Nat.le_max_right k j))
  rw [Nat.pow_succ]
  generalize 10 ^ max k j = u at *
  omega
theorem ten_split {n e m p : Int} (h1 : m ≤ e) (h2 : -p ≤ m) : n * 10 ^ (e + p).toNat = n * 10 ^ (e - m).toNat * 10 ^ (m + p).toNat := by
  rw [Int.mul_assoc, ← Int.pow_add, show (e + p).toNat = (e - m).toNat + (m + p).toNat by omega]
theorem dv_add {w : World} {b1 b2 p k1 k2 s1 s2 : Nat} {e1 e2 X1 X2 : Int} (h1 : DV w b1 e1 p X1 k1 s1) (h2 : DV w b2 e2 p X2 k2 s2) (hK : TabK w) (hb : k1 ≤ 600 ∧ k2 ≤ 600 ∧ p ≤ 600 ∧ s1 ≤ 423 ∧ s2 ≤ 423) :
    Calls Tryz.prog 69 #[.agg #[.pointer (some ⟨b1, 0, none⟩), .int .i32 e1], .agg #[.pointer (some ⟨b2, 0, none⟩), .int .i32 e2]] w fun r w' => OpD w p (X1 + X2) (max k1 k2 + 1) (min s1 s2) r w' := by
  obtain ⟨v1, n1, a1, a2, a3, a4, a5⟩ := h1
  obtain ⟨v2, n2, c1, c2, c3, c4, c5⟩ := h2
  have q1 : n1.natAbs ≤ 10 ^ k1 := n_le (a4 ▸ a5)
  have q2 : n2.natAbs ≤ 10 ^ k2 := n_le (c4 ▸ c5)
  refine (addD_any a1 c1 (by omega) (by omega) (by omega) hK (lt39 q1 hb.1) (lt39 q2 hb.2.1)).mono ?_
  rintro r w' ⟨b, v, rfl, hb2, hx, g⟩
  refine ⟨b, min e1 e2, rfl, hb2, ⟨v, _, hx.c, by omega, by omega, ?_, (abs_add_le a5 c5).1⟩, g⟩
  rw [a4, c4, Int.add_mul, ← ten_split (by omega) (by omega), ← ten_split (by omega) (by omega)]
theorem dv_sub {w : World} {b1 b2 p k1 k2 s1 s2 : Nat} {e1 e2 X1 X2 : Int} (h1 : DV w b1 e1 p X1 k1 s1) (h2 : DV w b2 e2 p X2 k2 s2) (hK : TabK w) (hb : k1 ≤ 600 ∧ k2 ≤ 600 ∧ p ≤ 600 ∧ s1 ≤ 423 ∧ s2 ≤ 423) :
    Calls Tryz.prog 71 #[.agg #[.pointer (some ⟨b1, 0, none⟩), .int .i32 e1], .agg #[.pointer (some ⟨b2, 0, none⟩), .int .i32 e2]] w fun r w' => OpD w p (X1 - X2) (max k1 k2 + 1) (min s1 s2) r w' := by
  obtain ⟨v1, n1, a1, a2, a3, a4, a5⟩ := h1
  obtain ⟨v2, n2, c1, c2, c3, c4, c5⟩ := h2
  have q1 : n1.natAbs ≤ 10 ^ k1 := n_le (a4 ▸ a5)
  have q2 : n2.natAbs ≤ 10 ^ k2 := n_le (c4 ▸ c5)
  refine (subD_any a1 c1 (by omega) (by omega) (by omega) hK (lt39 q1 hb.1) (lt39 q2 hb.2.1)).mono ?_
  rintro r w' ⟨b, v, rfl, hb2, hx, g⟩
  refine ⟨b, min e1 e2, rfl, hb2, ⟨v, _, hx.c, by omega, by omega, ?_, (abs_add_le a5 c5).2⟩, g⟩
  rw [a4, c4, Int.sub_mul, ← ten_split (by omega) (by omega), ← ten_split (by omega) (by omega)]
theorem dv_neg {w : World} {b p k s : Nat} {e X : Int} (h : DV w b e p X k s) :
    Calls Tryz.prog 65 #[.agg #[.pointer (some ⟨b, 0, none⟩), .int .i32 e]] w fun r w' => OpD w p (-X) k s r w' := by
  obtain ⟨v1, n1, a1, a2, a3, a4, a5⟩ := h
  refine (NegD_any e a1).mono ?_
  rintro r w' ⟨b, v, rfl, hb2, hx, g⟩
  exact ⟨b, e, rfl, hb2, ⟨v, _, hx.c, a2, a3, by rw [a4, Int.neg_mul], by rw [Int.natAbs_neg]; exact a5⟩, g⟩
theorem dv_isneg {w : World} {b p k s : Nat} {e X : Int} (h : DV w b e p X k s) :
    Calls Tryz.prog 64 #[.agg #[.pointer (some ⟨b, 0, none⟩), .int .i32 e]] w fun r w' => r = .returned (.bool (decide (X < 0))) ∧ w.grownBy w' none := by
  obtain ⟨v1, n1, a1, a2, a3, a4, a5⟩ := h
  have : decide (X < 0) = decide (n1 < 0) := by
    have hp : (0 : Int) < 10 ^ (e + p).toNat := Int.pow_pos (by decide)
    rw [a4]
    by_cases hn : n1 < 0
    · have := Int.mul_neg_of_neg_of_pos hn hp
      simp [hn, this]
    · have := Int.mul_nonneg (show 0 ≤ n1 by omega) (Int.le_of_lt hp)
      simp [hn]; omega
  rw [this]
  exact IsNegative_any e a1
theorem dv_int {w : World} {b p k s : Nat} {e X : Int} (h : DV w b e p X k s) (hX : 0 ≤ X) (hK : TabK w) (hk : k ≤ 600) (hp : p ≤ 57) (hs : s < p) (hj : X / 10 ^ p < 1000) :
    Calls Tryz.prog 67 #[.agg #[.pointer (some ⟨b, 0, none⟩), .int .i32 e]] w fun r w' => r = .returned (.int .i64 (X / 10 ^ p)) ∧ w.grownBy w' none := by
  obtain ⟨v1, n1, a1, a2, a3, a4, a5⟩ := h
  have q1 : n1.natAbs ≤ 10 ^ k := n_le (a4 ▸ a5)
  have hpp : (0 : Int) < 10 ^ (e + p).toNat := Int.pow_pos (by decide)
  have hn : 0 ≤ n1 := by
    rcases Int.lt_or_le n1 0 with h | h
    · have := Int.mul_neg_of_neg_of_pos h hpp; omega
    · exact h
  have e1 : n1.tdiv (10 ^ (-e).toNat) = X / 10 ^ p := by
    rw [Int.tdiv_eq_ediv_of_nonneg hn, a4]
    have : (10 : Int) ^ p = 10 ^ (e + p).toNat * 10 ^ (-e).toNat := by rw [← Int.pow_add]; congr 1; omega
    rw [this, Int.mul_comm n1, Int.mul_ediv_mul_of_pos _ _ hpp]
  have hnn : 0 ≤ X / 10 ^ p := Int.ediv_nonneg hX (Int.le_of_lt (Int.pow_pos (by decide)))
  have := IntPart_any (e := e) (k := (-e).toNat) a1 (by omega) (by omega) (by omega) (lt39 q1 hk) (by rw [e1]; unfold S64; omega) hK
  rw [e1] at this
  exact this
end Go.Proofs.YtjcfacinlgogaaaGreatDoor
namespace Go.Proofs.YtjcfacinlgogaaaGreatDoor
open Go.RowKit
theorem IntC.own56 {w w' : World} {b R : Nat} {v : Value} {n : Int} {u : Option Addr} {x : Int} (h : IntC w b 0 v n) (ho : w.heap[R]? = some (.cells #[.pointer u, .int .i32 x] 56)) (g : w.grownBy w' (some R)) : IntC w' b 0 v n := by
  have hb : b ≠ R := by
    rintro rfl
    have := h.neg
    unfold World.cell? at this
    rw [ho] at this
    simp at this
  have hv : v.ownBlock ≠ some R := by
    intro hx
    obtain ⟨l, h1, _⟩ := h.nat
    rcases h1 with ⟨rfl, _⟩ | ⟨c, cap, M, rfl, hc, _⟩
    · simp [Value.ownBlock] at hx
    · simp [Value.ownBlock] at hx
      subst hx
      rw [ho] at hc
      simp [blk] at hc
  obtain ⟨cs2, T, hh⟩ := h.obj
  have e : w'.heap[b]? = w.heap[b]? := g.block b (Array.getElem?_eq_some_iff.1 hh).1 (by intro e; injection e with e; exact hb e)
  obtain ⟨l, h1, h2⟩ := h.nat
  refine ⟨by rw [World.cell?_of_block e]; exact h.neg, by rw [World.cell?_of_block e]; exact h.abs, by rw [e]; exact h.obj, l, ?_, h2⟩
  rcases h1 with ⟨rfl, h5⟩ | ⟨c, cap, M, rfl, hc, h5⟩
  · exact .inl ⟨rfl, h5⟩
  · exact .inr ⟨c, cap, M, rfl, by rw [g.block c (Array.getElem?_eq_some_iff.1 hc).1 (by intro e; apply hv; exact e ▸ rfl)]; exact hc, h5⟩
theorem DV.own {w w' : World} {b R p k s : Nat} {e X : Int} {u : Option Addr} {x : Int} (h : DV w b e p X k s) (ho : w.heap[R]? = some (.cells #[.pointer u, .int .i32 x] 56)) (g : w.grownBy w' (some R)) : DV w' b e p X k s := by
  obtain ⟨v, n, h1, h2⟩ := h
  exact ⟨v, n, h1.own56 ho g, h2⟩
theorem st_var {w : World} {R : Nat} {u0 u1 : Value} {t : TypeId} (h : w.heap[R]? = some (.cells #[u0, u1] t)) (a c : Value) :
    w.grownBy ((w.setCell ⟨R, 0, none⟩ a).setCell ⟨R, 1, none⟩ c) (some R) ∧ ((w.setCell ⟨R, 0, none⟩ a).setCell ⟨R, 1, none⟩ c).heap[R]? = some (.cells #[a, c] t) := by
  refine ⟨grown_setb (grown_setb (grown_refl w (some R)) 0 a) 1 c, ?_⟩
  have := set_blk (set_blk h 0 a) 1 c
  simp only [List.setIfInBounds_toArray, List.set] at this
  exact this
theorem stay {w w' : World} {R b : Nat} {o : Obj} (g : w.grownBy w' (some R)) (h : w.heap[b]? = some o) (hb : b ≠ R) : w'.heap[b]? = some o := by
  rw [g.block b (Array.getElem?_eq_some_iff.1 h).1 (by intro e; injection e with e; exact hb e)]; exact h
theorem o_pi4A {w : World} (hC : TabC w) : Calls Tryz.prog 60 #[] w fun r w' => OpD w 16 7853981256484985 16 0 r w' :=
  (c_pi4A hC).mono fun r w' h => dv_new (p := 16) h (by decide)
theorem o_pi4B {w : World} (hC : TabC w) : Calls Tryz.prog 61 #[] w fun r w' => OpD w 23 3774894707930798 16 0 r w' :=
  (c_pi4B hC).mono fun r w' h => dv_new (p := 23) h (by decide)
theorem o_pi4C {w : World} (hC : TabC w) : Calls Tryz.prog 62 #[] w fun r w' => OpD w 31 26951514290790595 17 0 r w' :=
  (c_pi4C hC).mono fun r w' h => dv_new (p := 31) h (by decide)
theorem o_m4PI {w : World} (hC : TabC w) : Calls Tryz.prog 63 #[] w fun r w' => OpD w 16 12732395447351625 17 0 r w' :=
  (c_m4PI hC).mono fun r w' h => dv_new (p := 16) h (by decide)
theorem four_new (w : World) (o1 o2 o3 o4 : Obj) : w.grownBy ((((w.alloc o1).alloc o2).alloc o3).alloc o4) none ∧ ((((w.alloc o1).alloc o2).alloc o3).alloc o4).heap[w.heap.size]? = some o1 ∧ ((((w.alloc o1).alloc o2).alloc o3).alloc o4).heap[w.heap.size + 1]? = some o2 ∧ ((((w.alloc o1).alloc o2).alloc o3).alloc o4).heap[w.heap.size + 2]? = some o3 ∧ ((((w.alloc o1).alloc o2).alloc o3).alloc o4).heap[w.heap.size + 3]? = some o4 := by
  have g1 := World.grownBy_alloc w o1 none
  have g2 := World.grownBy_alloc (w.alloc o1) o2 none
  have g3 := World.grownBy_alloc ((w.alloc o1).alloc o2) o3 none
  have g4 := World.grownBy_alloc (((w.alloc o1).alloc o2).alloc o3) o4 none
  have h1 := heap_new w o1
  have h2 := heap_new (w.alloc o1) o2
  have h3 := heap_new ((w.alloc o1).alloc o2) o3
  have h4 := heap_new (((w.alloc o1).alloc o2).alloc o3) o4
  simp only [size_alloc] at h2 h3 h4
  exact ⟨grown_trans g1 (grown_trans g2 (grown_trans g3 g4)), kpb g4 (kpb g3 (kpb g2 h1)), kpb g4 (kpb g3 h2), kpb g4 h3, h4⟩
def LV (w : World) (R b : Nat) (e : Int) : Prop := w.heap[R]? = some (.cells #[.pointer (some ⟨b, 0, none⟩), .int .i32 e] 56)
theorem LV.c {w : World} {R b : Nat} {e : Int} (h : LV w R b e) : w.cell? ⟨R, 0, none⟩ = some (.pointer (some ⟨b, 0, none⟩)) ∧ w.cell? ⟨R, 1, none⟩ = some (.int .i32 e) ∧ w.frozen? ⟨R, 0, none⟩ = false ∧ w.frozen? ⟨R, 1, none⟩ = false := cell_dobj h
theorem LV.lt {w : World} {R b : Nat} {e : Int} (h : LV w R b e) : R < w.heap.size := (Array.getElem?_eq_some_iff.1 h).1
structure CS (w w' : World) (A V b1 b2 b3 b4 : Nat) (e1 e2 e3 e4 : Int) : Prop where
  g : w.grownBy w' none
  a : w.heap.size ≤ A ∧ A + 1 < V
  r : w'.heap[A + 1]? = some (.cells #[.pointer none, .int .i32 0] 56)
  v1 : LV w' V b1 e1
  v2 : LV w' (V + 1) b2 e2
  v3 : LV w' (V + 2) b3 e3
  v4 : LV w' (V + 3) b4 e4
  d1 : DV w' b1 e1 16 7853981256484985 16 0
  d2 : DV w' b2 e2 23 3774894707930798 16 0
  d3 : DV w' b3 e3 31 26951514290790595 17 0
  d4 : DV w' b4 e4 16 12732395447351625 17 0
  f4 : w.heap.size ≤ b4
theorem CS.same {w w' w2 : World} {A V b1 b2 b3 b4 : Nat} {e1 e2 e3 e4 : Int} (h : CS w w' A V b1 b2 b3 b4 e1 e2 e3 e4) (g : w'.grownBy w2 none) : CS w w2 A V b1 b2 b3 b4 e1 e2 e3 e4 :=
  ⟨grown_trans h.g g, h.a, kpb g h.r, kpb g h.v1, kpb g h.v2, kpb g h.v3, kpb g h.v4, h.d1.same g, h.d2.same g, h.d3.same g, h.d4.same g, h.f4⟩
theorem CS.own {w w' w2 : World} {A V b1 b2 b3 b4 R : Nat} {e1 e2 e3 e4 x : Int} {u : Option Addr} (h : CS w w' A V b1 b2 b3 b4 e1 e2 e3 e4) (ho : w'.heap[R]? = some (.cells #[.pointer u, .int .i32 x] 56)) (g : w'.grownBy w2 (some R)) (hR : R = A ∨ V + 4 ≤ R) : CS w w2 A V b1 b2 b3 b4 e1 e2 e3 e4 :=
  ⟨grown_own h.g g (.inr (by have := h.a; omega)), h.a, stay g h.r (by have := h.a; omega), stay g h.v1 (by have := h.a; omega), stay g h.v2 (by have := h.a; omega), stay g h.v3 (by have := h.a; omega), stay g h.v4 (by have := h.a; omega), h.d1.own ho g, h.d2.own ho g, h.d3.own ho g, h.d4.own ho g, h.f4⟩
theorem dv_small {w w' : World} {r : Ending} {n e X : Int} (h : DecNew w w' r n e) (h0 : 0 ≤ e) (h1 : e ≤ 1) (hX : n * 10 ^ e.toNat = X) (hb : X.natAbs ≤ 100) : OpD w 0 X 2 1 r w' := by
  obtain ⟨b, v, rfl, hb2, hx, g⟩ := h
  exact ⟨b, e, rfl, hb2, ⟨v, n, hx.c, by omega, by omega, by rw [← hX]; simp, hb⟩, g⟩
theorem flt_any {w : World} (hC : TabC w) (j : Nat) (h : j ≤ 12) : Calls Tryz.prog 68 #[.float .f64 (floatOfInt .f64 (j : Int))] w fun r w' => OpD w 0 j 2 1 r w' := by
  have hj : j = 0 ∨ j = 1 ∨ j = 2 ∨ j = 3 ∨ j = 4 ∨ j = 5 ∨ j = 6 ∨ j = 7 ∨ j = 8 ∨ j = 9 ∨ j = 10 ∨ j = 11 ∨ j = 12 := by omega
  rcases hj with rfl | rfl | rfl | rfl | rfl | rfl | rfl | rfl | rfl | rfl | rfl | rfl | rfl
  · rw [show floatOfInt .f64 ((0 : Nat) : Int) = 0 by decide +kernel]
    exact (flt_j0).mono fun r w' h => dv_small h (by decide) (by decide) (by decide) (by decide)
  · rw [show floatOfInt .f64 ((1 : Nat) : Int) = 4607182418800017408 by decide +kernel]
    exact (flt_j1 hC).mono fun r w' h => dv_small h (by decide) (by decide) (by decide) (by decide)
  · rw [show floatOfInt .f64 ((2 : Nat) : Int) = 4611686018427387904 by decide +kernel]
    exact (flt_j2 hC).mono fun r w' h => dv_small h (by decide) (by decide) (by decide) (by decide)
  · rw [show floatOfInt .f64 ((3 : Nat) : Int) = 4613937818241073152 by decide +kernel]
    exact (flt_j3 hC).mono fun r w' h => dv_small h (by decide) (by decide) (by decide) (by decide)
  · rw [show floatOfInt .f64 ((4 : Nat) : Int) = 4616189618054758400 by decide +kernel]
    exact (flt_j4 hC).mono fun r w' h => dv_small h (by decide) (by decide) (by decide) (by decide)
  · rw [show floatOfInt .f64 ((5 : Nat) : Int) = 4617315517961601024 by decide +kernel]
    exact (flt_j5 hC).mono fun r w' h => dv_small h (by decide) (by decide) (by decide) (by decide)
  · rw [show floatOfInt .f64 ((6 : Nat) : Int) = 4618441417868443648 by decide +kernel]
    exact (flt_j6 hC).mono fun r w' h => dv_small h (by decide) (by decide) (by decide) (by decide)
  · rw [show floatOfInt .f64 ((7 : Nat) : Int) = 4619567317775286272 by decide +kernel]
    exact (flt_j7 hC).mono fun r w' h => dv_small h (by decide) (by decide) (by decide) (by decide)
  · rw [show floatOfInt .f64 ((8 : Nat) : Int) = 4620693217682128896 by decide +kernel]
    exact (flt_j8 hC).mono fun r w' h => dv_small h (by decide) (by decide) (by decide) (by decide)
  · rw [show floatOfInt .f64 ((9 : Nat) : Int) = 4621256167635550208 by decide +kernel]
    exact (flt_j9 hC).mono fun r w' h => dv_small h (by decide) (by decide) (by decide) (by decide)
  · rw [show floatOfInt .f64 ((10 : Nat) : Int) = 4621819117588971520 by decide +kernel]
    exact (flt_j10 hC).mono fun r w' h => dv_small h (by decide) (by decide) (by decide) (by decide)
  · rw [show floatOfInt .f64 ((11 : Nat) : Int) = 4622382067542392832 by decide +kernel]
    exact (flt_j11 hC).mono fun r w' h => dv_small h (by decide) (by decide) (by decide) (by decide)
  · rw [show floatOfInt .f64 ((12 : Nat) : Int) = 4622945017495814144 by decide +kernel]
    exact (flt_j12 hC).mono fun r w' h => dv_small h (by decide) (by decide) (by decide) (by decide)
theorem al0 (w : World) : (w.alloc (.cells #[.pointer none, .int .i32 0] 56)).cell? ⟨w.heap.size, 0, none⟩ = some (.pointer none) := (cell_dnil (heap_new w dnil)).1
theorem al1 (w : World) : (w.alloc (.cells #[.pointer none, .int .i32 0] 56)).cell? ⟨w.heap.size, 1, none⟩ = some (.int .i32 0) := (cell_dnil (heap_new w dnil)).2.1
theorem al2 (w : World) : (w.alloc (.cells #[.pointer none, .int .i32 0] 56)).frozen? ⟨w.heap.size, 0, none⟩ = false := (cell_dnil (heap_new w dnil)).2.2.1
theorem al3 (w : World) : (w.alloc (.cells #[.pointer none, .int .i32 0] 56)).frozen? ⟨w.heap.size, 1, none⟩ = false := (cell_dnil (heap_new w dnil)).2.2.2
theorem fz_new {wc wp w' : World} {o : Obj} (g : (wp.alloc o).grownBy w' none) (h : wc.grownBy wp none) : Hid (w'.heap[wp.heap.size]? = some o) ∧ Hid (wc.heap.size ≤ wp.heap.size) := ⟨kpb g (heap_new _ _), h.size⟩
theorem fz_new2 {wc wp w' : World} {o : Obj} (g : (wp.alloc o).drew.grownBy w' none) (h : wc.grownBy wp none) : Hid (w'.heap[wp.heap.size]? = some o) ∧ Hid (wc.heap.size ≤ wp.heap.size) := ⟨kpb g (heap_new wp _), h.size⟩
theorem z_bound {xi jn m2 O : Nat} (h1 : (xi : Int) * 12732395447351625 / 10 ^ 47 = jn) (h2 : jn % 2 = m2) (h3 : jn + m2 = O) (h4 : jn ≤ 12) : ((xi : Int) - (O : Int) * 7853981256484985 * 10 ^ 15 - (O : Int) * 3774894707930798 * 10 ^ 8 - (O : Int) * 26951514290790595).natAbs ≤ 10 ^ 31 := by
  obtain ⟨z, hz⟩ : ∃ z, (xi : Int) - (O : Int) * 7853981256484985 * 10 ^ 15 - (O : Int) * 3774894707930798 * 10 ^ 8 - (O : Int) * 26951514290790595 = z := ⟨_, rfl⟩
  rw [hz]
  omega
theorem keepo {w w' : World} {Y R i : Nat} {v : Value} (g : w.grownBy w' (some Y)) (h : w.cell? ⟨R, i, none⟩ = some v) (hR : R ≠ Y) : w'.cell? ⟨R, i, none⟩ = some v := by
  have := World.block_lt_of_cell? w ⟨R, i, none⟩ h
  rw [World.cell?_of_block (g.block R this (by intro e; injection e with e; exact hR e))]; exact h
theorem und94 : Tryz.prog.underlying 94 = some (.array 6 56) := by kernel_rfl
theorem run_ix0 (a0 a1 a2 a3 a4 a5 a6 a7 a8 a9 a10 a11 : Value) (w : World) :
    (Instr.index 94 (.agg #[a0, a1, a2, a3, a4, a5, a6, a7, a8, a9, a10, a11]) (.int .i64 0)).run Tryz.prog w = .ok (.agg #[a0, a1]) w := by
  have hs : (sizeOf 56).run Tryz.prog w = .ok 2 w := by kernel_rfl
  have ha : (isAgg 56).run Tryz.prog w = .ok true w := by kernel_rfl
  simp [Instr.index, run_underlying und94, asIntOf, part, go_sem, hs, ha]
theorem run_ix1 (a0 a1 a2 a3 a4 a5 a6 a7 a8 a9 a10 a11 : Value) (w : World) :
    (Instr.index 94 (.agg #[a0, a1, a2, a3, a4, a5, a6, a7, a8, a9, a10, a11]) (.int .i64 1)).run Tryz.prog w = .ok (.agg #[a2, a3]) w := by
  have hs : (sizeOf 56).run Tryz.prog w = .ok 2 w := by kernel_rfl
  have ha : (isAgg 56).run Tryz.prog w = .ok true w := by kernel_rfl
  simp [Instr.index, run_underlying und94, asIntOf, part, go_sem, hs, ha]
theorem run_ix2 (a0 a1 a2 a3 a4 a5 a6 a7 a8 a9 a10 a11 : Value) (w : World) :
    (Instr.index 94 (.agg #[a0, a1, a2, a3, a4, a5, a6, a7, a8, a9, a10, a11]) (.int .i64 2)).run Tryz.prog w = .ok (.agg #[a4, a5]) w := by
  have hs : (sizeOf 56).run Tryz.prog w = .ok 2 w := by kernel_rfl
  have ha : (isAgg 56).run Tryz.prog w = .ok true w := by kernel_rfl
  simp [Instr.index, run_underlying und94, asIntOf, part, go_sem, hs, ha]
theorem run_ix3 (a0 a1 a2 a3 a4 a5 a6 a7 a8 a9 a10 a11 : Value) (w : World) :
    (Instr.index 94 (.agg #[a0, a1, a2, a3, a4, a5, a6, a7, a8, a9, a10, a11]) (.int .i64 3)).run Tryz.prog w = .ok (.agg #[a6, a7]) w := by
  have hs : (sizeOf 56).run Tryz.prog w = .ok 2 w := by kernel_rfl
  have ha : (isAgg 56).run Tryz.prog w = .ok true w := by kernel_rfl
  simp [Instr.index, run_underlying und94, asIntOf, part, go_sem, hs, ha]
theorem run_ix4 (a0 a1 a2 a3 a4 a5 a6 a7 a8 a9 a10 a11 : Value) (w : World) :
    (Instr.index 94 (.agg #[a0, a1, a2, a3, a4, a5, a6, a7, a8, a9, a10, a11]) (.int .i64 4)).run Tryz.prog w = .ok (.agg #[a8, a9]) w := by
  have hs : (sizeOf 56).run Tryz.prog w = .ok 2 w := by kernel_rfl
  have ha : (isAgg 56).run Tryz.prog w = .ok true w := by kernel_rfl
  simp [Instr.index, run_underlying und94, asIntOf, part, go_sem, hs, ha]
theorem run_ix5 (a0 a1 a2 a3 a4 a5 a6 a7 a8 a9 a10 a11 : Value) (w : World) :
    (Instr.index 94 (.agg #[a0, a1, a2, a3, a4, a5, a6, a7, a8, a9, a10, a11]) (.int .i64 5)).run Tryz.prog w = .ok (.agg #[a10, a11]) w := by
  have hs : (sizeOf 56).run Tryz.prog w = .ok 2 w := by kernel_rfl
  have ha : (isAgg 56).run Tryz.prog w = .ok true w := by kernel_rfl
  simp [Instr.index, run_underlying und94, asIntOf, part, go_sem, hs, ha]
def S19 (w0 : World) (Y : Option Nat) (Z T b c : Nat) (e f : Int) (w' : World) : Prop :=
  w0.grownBy w' Y ∧ w'.cell? ⟨Z, 0, none⟩ = some (.pointer (some ⟨b, 0, none⟩)) ∧ w'.cell? ⟨Z, 1, none⟩ = some (.int .i32 e) ∧ w'.cell? ⟨T, 0, none⟩ = some (.pointer (some ⟨c, 0, none⟩)) ∧ w'.cell? ⟨T, 1, none⟩ = some (.int .i32 f)
theorem S19.keep {w0 w' w2 : World} {Y : Option Nat} {Z T b c : Nat} {e f : Int} (g : w'.grownBy w2 none) (h : S19 w0 Y Z T b c e f w') : S19 w0 Y Z T b c e f w2 := by
  obtain ⟨h0, h1, h2, h3, h4⟩ := h
  exact ⟨grown_trans h0 (grown_weak g), keepc g h1, keepc g h2, keepc g h3, keepc g h4⟩
theorem S19.st {w0 w' : World} {Y Z T b c : Nat} {e f : Int} (h : S19 w0 (some Y) Z T b c e f w') (hZ : Z ≠ Y) (hT : T ≠ Y) (u v : Value) : S19 w0 (some Y) Z T b c e f ((w'.setCell ⟨Y, 0, none⟩ u).setCell ⟨Y, 1, none⟩ v) := by
  obtain ⟨h0, h1, h2, h3, h4⟩ := h
  have g : w'.grownBy ((w'.setCell ⟨Y, 0, none⟩ u).setCell ⟨Y, 1, none⟩ v) (some Y) := grown_setb (grown_setb (grown_refl _ _) 0 u) 1 v
  exact ⟨grown_trans h0 g, keepo g h1 hZ, keepo g h2 hZ, keepo g h3 hT, keepo g h4 hT⟩
theorem dv_di {w0 w : World} {b p k : Nat} {e n : Int} (h : DI w0 w b n) (he : e = -(p : Int)) (hn : n.natAbs ≤ 10 ^ k) : DV w b e p n k 0 := by
  obtain ⟨_, v, hv⟩ := h
  subst he
  exact ⟨v, n, hv, Int.le_refl _, by omega, by rw [show (-(p : Int) + p).toNat = 0 by omega]; simp, hn⟩
def S16 (w0 : World) (A Y V bd bz b1 b2 b3 : Nat) (ed ez e1 e2 e3 : Int) (w' : World) : Prop :=
  w0.grownBy w' none ∧ w'.cell? ⟨A, 0, none⟩ = some (.pointer (some ⟨bd, 0, none⟩)) ∧ w'.cell? ⟨A, 1, none⟩ = some (.int .i32 ed) ∧ w'.cell? ⟨Y, 0, none⟩ = some (.pointer (some ⟨bz, 0, none⟩)) ∧ w'.cell? ⟨Y, 1, none⟩ = some (.int .i32 ez) ∧
  w'.cell? ⟨V, 0, none⟩ = some (.pointer (some ⟨b1, 0, none⟩)) ∧ w'.cell? ⟨V, 1, none⟩ = some (.int .i32 e1) ∧ w'.cell? ⟨V + 1, 0, none⟩ = some (.pointer (some ⟨b2, 0, none⟩)) ∧ w'.cell? ⟨V + 1, 1, none⟩ = some (.int .i32 e2) ∧
  w'.cell? ⟨V + 2, 0, none⟩ = some (.pointer (some ⟨b3, 0, none⟩)) ∧ w'.cell? ⟨V + 2, 1, none⟩ = some (.int .i32 e3)
theorem S16.keep {w0 w' w2 : World} {A Y V bd bz b1 b2 b3 : Nat} {ed ez e1 e2 e3 : Int} (g : w'.grownBy w2 none) (h : S16 w0 A Y V bd bz b1 b2 b3 ed ez e1 e2 e3 w') : S16 w0 A Y V bd bz b1 b2 b3 ed ez e1 e2 e3 w2 := by
  obtain ⟨h0, h1, h2, h3, h4, h5, h6, h7, h8, h9, h10⟩ := h
  exact ⟨grown_trans h0 g, keepc g h1, keepc g h2, keepc g h3, keepc g h4, keepc g h5, keepc g h6, keepc g h7, keepc g h8, keepc g h9, keepc g h10⟩
def sinP (z : Int) : Int := z * 10 ^ 398 + z * (z * z) * (((((15896230157654656 * (z * z) + -25050747762857807 * 10 ^ 64) * (z * z) + 27557313621385722 * 10 ^ 128) * (z * z) + -1984126982958954 * 10 ^ 193) * (z * z) + 8333333333322118 * 10 ^ 256) * (z * z) + -1666666666666663 * 10 ^ 320)
def cosP (z : Int) : Int := (1 * 10 ^ 63 - 5 * (z * z)) * 10 ^ 398 + z * z * (z * z) * (((((-11358536521387682 * (z * z) + 2087570084197473 * 10 ^ 65) * (z * z) + -2755731417929674 * 10 ^ 129) * (z * z) + 24801587288851704 * 10 ^ 192) * (z * z) + -13888888888873056 * 10 ^ 256) * (z * z) + 41666666666666595 * 10 ^ 319)
def octN (xi : Nat) : Nat := xi * 12732395447351625 / 10 ^ 47 + xi * 12732395447351625 / 10 ^ 47 % 2
def redZ (xi O : Nat) : Int := (xi : Int) - (O : Int) * 7853981256484985 * 10 ^ 15 - (O : Int) * 3774894707930798 * 10 ^ 8 - (O : Int) * 26951514290790595
def cosX (xi : Nat) : Int := if Bool.xor (decide (3 < octN xi % 8)) (decide (1 < octN xi % 4)) then -(if octN xi % 4 = 2 then sinP (redZ xi (octN xi)) * 10 ^ 32 else cosP (redZ xi (octN xi))) else (if octN xi % 4 = 2 then sinP (redZ xi (octN xi)) * 10 ^ 32 else cosP (redZ xi (octN xi)))
theorem cosX_eq {xi jn m2 O P8 P4 : Nat} {z : Int} {sg1 sg : Bool} (h1 : (xi : Int) * 12732395447351625 / 10 ^ 47 = jn) (h2 : jn % 2 = m2) (h3 : jn + m2 = O) (h4 : O % 8 = P8 ∧ O % 4 = P4) (h5 : decide (3 < P8) = sg1) (h6 : Bool.xor sg1 (decide (1 < P4)) = sg) (h7 : (xi : Int) - (O : Int) * 7853981256484985 * 10 ^ 15 - (O : Int) * 3774894707930798 * 10 ^ 8 - (O : Int) * 26951514290790595 = z) :
    cosX xi = if sg then -(if P4 = 2 then sinP z * 10 ^ 32 else cosP z) else (if P4 = 2 then sinP z * 10 ^ 32 else cosP z) := by
  have hO : octN xi = O := by
    have : xi * 12732395447351625 / 10 ^ 47 = jn := by omega
    unfold octN; rw [this, h2, h3]
  unfold cosX redZ
  rw [hO, h4.1, h4.2, h5, h6, h7]
def CosR (w : World) (xi : Nat) (r : Ending) (w' : World) : Prop := ∃ b e, r = .returned (.agg #[.pointer (some ⟨b, 0, none⟩), .int .i32 e]) ∧ DV w' b e 461 (cosX xi) 500 100 ∧ w.grownBy w' none
end Go.Proofs.YtjcfacinlgogaaaGreatDoor
