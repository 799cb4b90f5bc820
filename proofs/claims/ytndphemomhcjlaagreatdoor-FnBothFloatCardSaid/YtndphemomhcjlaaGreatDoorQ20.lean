/- The doors of the fixed decimals' float. FixToFloat. -/
import Derived.Test.YtndphemomhcjlaaGreatDoorQ19
import Derived.Recover
import Derived.Defers
import Derived.Deep.RegionHeld3
set_option linter.all false

namespace Go.Proofs.YtndphemomhcjlaaGreatDoor
open Go.RowKit

theorem fix_idle (p0 p1 p2 : Addr) (w : World) :
    CallsD Tryz.prog 9 #[.pointer (some p0), .pointer (some p1), .pointer (some p2)] .returning w fun e u' w' => e = .returned (.tuple #[]) ∧ u' = .returning ∧ w' = w := by
  refine callsD_of_wpS Tryz.func9 rfl fun c₀ cs hu => ?_
  apply wpS_seq
  apply wpS_region
  simp [wpOpsS, go_sem, recoverD, hu, Tryz.ntmps9, Exit.thenS]
  refine wpS_cond (t := false) (by simp [Act.eval, Array.replicate]) ?_
  simp only [Bool.false_eq_true, if_false]
  refine wpS_of_wp (wp_skip ?_)
  cases c₀
  simp_all [bodyPostS, results, Tryz.results9]

theorem gset {w w2 : World} {b : Nat} (hb : w.heap.size ≤ b) (o : Nat) (v : Value) (h : w.grownBy w2 none) : w.grownBy (w2.setCell ⟨b, o, none⟩ v) none := Grown2.new h (grown_set2 (grown_refl w2 none) o v) hb
theorem fixed_any (neg : Bool) (c k : Nat) (w : World) (hc : c < 10000000000000000000) (hk : k ≤ 19) : Calls Tryz.prog 10 #[.agg #[.bool neg, .int .u64 c, .int .i64 k]] w fun e w' => e = .returned (.tuple #[govV (neg && !decide (c = 0)) c k, .bool true]) ∧ w.grownBy w' none := by
  have HC := Lib.hid (fun w => govMake_any neg c k w hk hc)
  generalize (neg && !decide (c = 0)) = ng at *
  unfold govV at HC
  unfold govV
  clear hc hk
  go_enter Tryz.func10, Tryz.ntmps10
  obtain ⟨W1, hW1⟩ : ∃ W1, W1 = (w.alloc (.cells #[.bool neg, .int .u64 c, .int .i64 k] 24)).alloc (.cells #[.bool false, .int .i8 0, .int .u64 0] 46) := ⟨_, rfl⟩
  have g1 : w.grownBy W1 none := by rw [hW1]; exact grown_trans (grown_new _ _) (grown_new _ _)
  have hx : W1.heap[w.heap.size]? = some (.cells #[.bool neg, .int .u64 c, .int .i64 k] 24) := by rw [hW1]; exact keepb (grown_new _ _) (heap_new _ _)
  have hs := size_alloc w (.cells #[.bool neg, .int .u64 c, .int .i64 k] 24)
  have ho : W1.heap[w.heap.size + 1]? = some (.cells #[.bool false, .int .i8 0, .int .u64 0] 46) := by rw [hW1, ← hs]; exact heap_new _ _
  have x0 : W1.cell? ⟨w.heap.size, 0, none⟩ = some (.bool neg) := by unfold World.cell?; rw [hx]; rfl
  have x1 : W1.cell? ⟨w.heap.size, 1, none⟩ = some (.int .u64 c) := by unfold World.cell?; rw [hx]; rfl
  have x2 : W1.cell? ⟨w.heap.size, 2, none⟩ = some (.int .i64 k) := by unfold World.cell?; rw [hx]; rfl
  have hs2 : W1.heap.size = w.heap.size + 2 := by rw [hW1, size_alloc, size_alloc]
  have G1 := Lib.hid g1; have HO := Lib.hid ho; have HS := Lib.hid hs2
  clear g1 hx hs ho hs2
  go_upto_region 1 with (fail)
  rw [← hW1]
  clear hW1
  go_wp2_with (fail)
  refine (HC.out _).mono ?_
  rintro e w2 ⟨rfl, g2⟩
  have G2 := Lib.hid (grown_trans G1.out g2)
  have HO2 := Lib.hid (keepb g2 HO.out)
  have HS2 := Lib.hid (show w.heap.size + 2 ≤ w2.heap.size from by rw [← HS.out]; exact g2.size)
  clear g2 HO G1 x0 x1 x2
  go_upto_region 2 with (fail)
  obtain ⟨w3, hw3⟩ : ∃ w3, w3 = w2.alloc (.cells #[.bool ng, .int .i8 k, .int .u64 c] 46) := ⟨_, rfl⟩
  rw [← hw3]
  have hx : w3.heap[w2.heap.size]? = some (.cells #[.bool ng, .int .i8 k, .int .u64 c] 46) := by rw [hw3]; exact heap_new _ _
  have g3 : w2.grownBy w3 none := by rw [hw3]; exact grown_new _ _
  obtain ⟨x0, x1, x2⟩ := gov_cells hx
  have G3 := Lib.hid (grown_trans G2.out g3)
  have ho := keepb g3 HO2.out
  obtain ⟨y0, y1, y2⟩ := gov_cells ho
  have f0 : ∀ i, w3.frozen? ⟨w.heap.size + 1, i, none⟩ = false := by intro i; unfold World.frozen?; rw [ho]; rfl
  have z0 := f0 0; have z1 := f0 1; have z2 := f0 2
  have ne : w2.heap.size ≠ w.heap.size + 1 := by have := HS2.out; omega
  have HO3 := Lib.hid ho
  clear hw3 hx g3 G2 HO2 ho f0
  go_region
  all_goals
    go_wp2_with (fail)
    refine bodyPost_ret (v := .tuple #[.agg #[.bool ng, .int .i8 k, .int .u64 c], .bool true]) (by simp [results, Tryz.func10, go_sem, y0, y1, y2]; try rfl) rfl ?_
    exact ⟨rfl, by repeat first | exact G3.out | refine gset (by omega) _ _ ?_ | refine grown_trans ?_ (grown_drew _)⟩
end Go.Proofs.YtndphemomhcjlaaGreatDoor

namespace Go.Proofs.YtndphemomhcjlaaGreatDoor
open Go.RowKit

/-- three cells of results -/
structure Res3 (w : World) (b : Nat) (x : Nat) (ok : Bool) (n : Int) : Prop where
  h0 : w.heap[b]? = some (.cells #[.float .f64 x] 29)
  h1 : w.heap[b + 1]? = some (.cells #[.bool ok] 4)
  h2 : w.heap[b + 1 + 1]? = some (.cells #[.int .i64 n] 3)
theorem Res3.cells {w : World} {b x : Nat} {ok : Bool} {n : Int} (h : Res3 w b x ok n) :
    (w.cell? ⟨b, 0, none⟩ = some (.float .f64 x) ∧ w.cell? ⟨b + 1, 0, none⟩ = some (.bool ok) ∧ w.cell? ⟨b + 1 + 1, 0, none⟩ = some (.int .i64 n)) ∧ w.frozen? ⟨b, 0, none⟩ = false ∧ w.frozen? ⟨b + 1, 0, none⟩ = false ∧ w.frozen? ⟨b + 1 + 1, 0, none⟩ = false := by
  refine ⟨⟨?_, ?_, ?_⟩, ?_, ?_, ?_⟩ <;> simp [World.cell?, World.frozen?, h.h0, h.h1, h.h2]
theorem Res3.same {w w' : World} {b x : Nat} {ok : Bool} {n : Int} (h : Res3 w b x ok n) (g : w.grownBy w' none) : Res3 w' b x ok n := ⟨keepb g h.h0, keepb g h.h1, keepb g h.h2⟩

theorem Res3.set {w : World} {b x : Nat} {ok : Bool} {n : Int} (h : Res3 w b x ok n) (x2 : Nat) (ok2 : Bool) : Res3 ((w.setCell ⟨b, 0, none⟩ (.float .f64 x2)).setCell ⟨b + 1, 0, none⟩ (.bool ok2)) b x2 ok2 n := by
  refine ⟨?_, ?_, ?_⟩ <;> simp [World.setCell, Array.getElem?_modify, h.h0, h.h1, h.h2]
  omega
theorem Res3.set3 {w : World} {b x : Nat} {ok : Bool} {n : Int} (h : Res3 w b x ok n) (x2 : Nat) (ok2 : Bool) (n2 : Int) : Res3 (((w.setCell ⟨b, 0, none⟩ (.float .f64 x2)).setCell ⟨b + 1, 0, none⟩ (.bool ok2)).setCell ⟨b + 1 + 1, 0, none⟩ (.int .i64 n2)) b x2 ok2 n2 := by
  have g := h.set x2 ok2
  have k := g.h2
  refine ⟨?_, ?_, ?_⟩
  · rw [Below.heap_setCell _ _ _ _ (by show b ≠ b + 1 + 1; omega)]; exact g.h0
  · rw [Below.heap_setCell _ _ _ _ (by show b + 1 ≠ b + 1 + 1; omega)]; exact g.h1
  · generalize (w.setCell ⟨b, 0, none⟩ (.float .f64 x2)).setCell ⟨b + 1, 0, none⟩ (.bool ok2) = w' at k
    simp [World.setCell, Array.getElem?_modify, k]
theorem res3_new (w : World) (o : Obj) : Res3 ((((w.alloc o).alloc (.cells #[.float .f64 0] 29)).alloc (.cells #[.bool false] 4)).alloc (.cells #[.int .i64 0] 3)) (w.heap.size + 1) 0 false 0 := by
  have s1 := size_alloc w o
  refine ⟨?_, ?_, ?_⟩
  · rw [← s1]; exact keepb (grown_trans (grown_new _ _) (grown_new _ _)) (heap_new _ _)
  · rw [← s1, ← size_alloc _ (.cells #[.float .f64 0] 29)]; exact keepb (grown_new _ _) (heap_new _ _)
  · rw [show w.heap.size + 1 + 1 + 1 = (((w.alloc o).alloc (.cells #[.float .f64 0] 29)).alloc (.cells #[.bool false] 4)).heap.size by rw [size_alloc, size_alloc, size_alloc]]; exact heap_new _ _
theorem fixFloat_any (neg : Bool) (c k : Nat) (w : World) (hc : c < 10000000000000000000) (hk : k ≤ 19) (hS : TabS w) (hP : TabP w) (hPb : 16 < w.heap.size) : Calls Tryz.prog 5 #[.agg #[.bool neg, .int .u64 c, .int .i64 k]] w fun e w' => ∃ W : Nat, e = .returned (.tuple #[.float .f64 W, .bool true, .int .i64 0]) ∧ FltW (neg && !decide (c = 0)) c k W ∧ w.grownBy w' none := by
  have hmf : ∀ (fn : Fn) (first cap : Array Value) (w : World), (Instr.makeFunc fn first cap).run Tryz.prog w = .ok (.func fn first cap) w := fun _ _ _ _ => rfl
  have hfs : ∀ (w : World) (a : Addr) (k : FloatKind) (x : Nat) (m : Mode), (store a (.float k x) m).run Tryz.prog w = stored Tryz.prog w a (.float k x) m := fun w a k x m => run_store Tryz.prog w a _ m rfl
  have HF := Lib.hid (fun w => fixed_any neg c k w hc hk)
  generalize (neg && !decide (c = 0)) = ng at *
  unfold govV at HF
  have HS := Lib.hid hS; have HP := Lib.hid hP; have HPB := Lib.hid hPb; have HC := Lib.hid hc; have HK := Lib.hid hk
  clear hS hP hPb hc hk
  go_enter_defers Tryz.func5, Tryz.ntmps5
  go_upto_region 1 with (fail)
  obtain ⟨W1, hW1⟩ : ∃ W1, W1 = (((w.alloc (.cells #[.bool neg, .int .u64 c, .int .i64 k] 24)).alloc (.cells #[.float .f64 0] 29)).alloc (.cells #[.bool false] 4)).alloc (.cells #[.int .i64 0] 3) := ⟨_, rfl⟩
  rw [← hW1]
  have g1 : w.grownBy W1 none := by rw [hW1]; exact grown_trans (grown_trans (grown_new _ _) (grown_new _ _)) (grown_trans (grown_new _ _) (grown_new _ _))
  have hx : W1.heap[w.heap.size]? = some (.cells #[.bool neg, .int .u64 c, .int .i64 k] 24) := by rw [hW1]; exact keepb (grown_trans (grown_new _ _) (grown_trans (grown_new _ _) (grown_new _ _))) (heap_new _ _)
  have R1 : Hid (Res3 W1 (w.heap.size + 1) 0 false 0) := by rw [hW1]; exact res3_new _ _
  have x0 : W1.cell? ⟨w.heap.size, 0, none⟩ = some (.bool neg) := by unfold World.cell?; rw [hx]; rfl
  have x1 : W1.cell? ⟨w.heap.size, 1, none⟩ = some (.int .u64 c) := by unfold World.cell?; rw [hx]; rfl
  have x2 : W1.cell? ⟨w.heap.size, 2, none⟩ = some (.int .i64 k) := by unfold World.cell?; rw [hx]; rfl
  have G1 := Lib.hid g1
  clear hW1 g1 hx
  go_wp2_with (fail)
  refine (HF.out _).mono ?_
  rintro e w2 ⟨rfl, g2⟩
  have G2 := Lib.hid (grown_trans G1.out g2)
  have R2 := Lib.hid (R1.out.same g2)
  clear g2 R1 G1 x0 x1 x2
  go_upto_region 3 with (fail)
  obtain ⟨w3, hw3⟩ : ∃ w3, w3 = w2.alloc (.cells #[.bool ng, .int .i8 k, .int .u64 c] 46) := ⟨_, rfl⟩
  rw [← hw3]
  have g3 : w2.grownBy w3 none := by rw [hw3]; exact grown_new _ _
  have hx : w3.heap[w2.heap.size]? = some (.cells #[.bool ng, .int .i8 k, .int .u64 c] 46) := by rw [hw3]; exact heap_new _ _
  obtain ⟨x0, x1, x2⟩ := gov_cells hx
  have G3 := Lib.hid (grown_trans G2.out g3)
  have R3 := Lib.hid (R2.out.same g3)
  clear g3 R2 G2 hw3 hx
  go_wp2_with (fail)
  refine (govFloat_any ng c k _ HC.out HK.out (HS.out.same G3.out) (HP.out.same G3.out) (Nat.lt_of_lt_of_le HPB.out G3.out.size)).mono ?_
  rintro e w4 ⟨W, rfl, hW, g4⟩
  have HW := Lib.hid hW
  have G4 := Lib.hid (grown_trans G3.out g4)
  have R4 := Lib.hid (R3.out.same g4)
  clear g4 hW R3 G3 x0 x1 x2
  obtain ⟨⟨y0, y1, y2⟩, f0, f1, f2⟩ := R4.out.cells
  go_upto_region 6 with (fail)
  obtain ⟨w5, hw5⟩ : ∃ w5, w5 = (w4.setCell ⟨w.heap.size + 1, 0, none⟩ (.float .f64 W)).setCell ⟨w.heap.size + 1 + 1, 0, none⟩ (.bool true) := ⟨_, rfl⟩
  rw [← hw5]
  have R5 : Hid (Res3 w5 (w.heap.size + 1) W true 0) := by rw [hw5]; exact R4.out.set _ _
  have G5 : Hid (w.grownBy w5 none) := by rw [hw5]; exact gset (by omega) _ _ (gset (by omega) _ _ G4.out)
  clear hw5 y0 y1 y2 f0 f1 f2 R4 G4
  obtain ⟨⟨y0, y1, y2⟩, f0, f1, f2⟩ := R5.out.cells
  go_region
  all_goals
    go_wp2_with (fail)
    obtain ⟨w6, hw6⟩ : ∃ w6, w6 = (((w5.setCell ⟨w.heap.size + 1, 0, none⟩ (.float .f64 W)).setCell ⟨w.heap.size + 1 + 1, 0, none⟩ (.bool true)).setCell ⟨w.heap.size + 1 + 1 + 1, 0, none⟩ (.int .i64 0)).drew := ⟨_, rfl⟩
    rw [← hw6]
    have R6 : Hid (Res3 w6 (w.heap.size + 1) W true 0) := by rw [hw6]; exact (R5.out.set3 _ _ _).same (grown_drew _)
    have G6 : Hid (w.grownBy w6 none) := by rw [hw6]; exact grown_trans (gset (by omega) _ _ (gset (by omega) _ _ (gset (by omega) _ _ G5.out))) (grown_drew _)
    clear hw6 y0 y1 y2 f0 f1 f2 R5 G5
    obtain ⟨⟨y0, y1, y2⟩, f0, f1, f2⟩ := R6.out.cells
    refine leaves_cons (f := 9) (args := #[.pointer (some ⟨w.heap.size + 1, 0, none⟩), .pointer (some ⟨w.heap.size + 1 + 1, 0, none⟩), .pointer (some ⟨w.heap.size + 1 + 1 + 1, 0, none⟩)]) (by simp) (by simp [go_sem]) ?_
    refine (fix_idle _ _ _ _).mono ?_
    rintro e u' w'' ⟨rfl, rfl, rfl⟩
    simp [Leaves, settle, results, Tryz.results5, go_sem, y0, y1, y2]
    exact ⟨HW.out, G6.out⟩
end Go.Proofs.YtndphemomhcjlaaGreatDoor
