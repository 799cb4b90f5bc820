/- The other decimal out of its parts, and its float. A number in limbs of nine digits. No condition beyond 64 bits. -/
import Derived.Test.YtndphemomhcjlaaGreatDoorQ23
import Derived.Test.YtndphemomhcjlaaGreatDoorQ16
set_option linter.all false

namespace Go.Proofs.YtndphemomhcjlaaGreatDoor
open Go.RowKit

/-- the word of n/10^k -/
def DcW (n : Int) (k W : Nat) : Prop := (n = 0 ∧ W = 0) ∨ (n ≠ 0 ∧ ∃ g, W = Ieee.double.word (decide (n < 0)) g ∧ Rung n.natAbs (10 ^ k) g ∧ 4503599627370496 ≤ g ∧ g < 9218868437227405312)
theorem dec_idle (p0 p1 p2 : Addr) (w : World) :
    CallsD Tryz.prog 12 #[.pointer (some p0), .pointer (some p1), .pointer (some p2)] .returning w fun e u' w' => e = .returned (.tuple #[]) ∧ u' = .returning ∧ w' = w := by
  refine callsD_of_wpS Tryz.func12 rfl fun c₀ cs hu => ?_
  apply wpS_seq
  apply wpS_region
  simp [wpOpsS, go_sem, recoverD, hu, Tryz.ntmps12, Exit.thenS]
  refine wpS_cond (t := false) (by simp [Act.eval, Array.replicate]) ?_
  simp only [Bool.false_eq_true, if_false]
  refine wpS_of_wp (wp_skip ?_)
  cases c₀
  simp_all [bodyPostS, results, Tryz.results12]

theorem places_any (k : Nat) (hk : k ≤ 19) (w : World) : Calls Tryz.prog 23 #[.int .i64 (-(k : Int))] w fun e w' => e = .returned (.bool true) ∧ w = w' := by
  have h1 : (-400 : Int) ≤ -(k : Int) := by omega
  have h2 : (-(k : Int)) ≤ 400 := by omega
  go_enter Tryz.func23, Tryz.ntmps23
  go_wp2
  go_ret
  exact ⟨rfl, rfl⟩

theorem dec_cells {w : World} {b : Nat} {s : ByteArray} {e : Int} (h : w.heap[b]? = some (.cells #[.string s, .int .i64 e] 26)) : w.cell? ⟨b, 0, none⟩ = some (.string s) ∧ w.cell? ⟨b, 1, none⟩ = some (.int .i64 e) := by
  refine ⟨?_, ?_⟩ <;> simp [World.cell?, h]
theorem IntC.set {w : World} {b : Nat} {v : Value} {n : Int} (h : IntC w b 0 v n) {x : Nat} (hb : b ≠ x) (hv : v.ownBlock ≠ some x) (o : Nat) (u : Value) : IntC (w.setCell ⟨x, o, none⟩ u) b 0 v n := by
  have e : (w.setCell ⟨x, o, none⟩ u).heap[b]? = w.heap[b]? := Below.heap_setCell _ _ _ _ hb
  obtain ⟨l, h1, h2⟩ := h.nat
  exact ⟨by rw [World.cell?_of_block e]; exact h.neg, by rw [World.cell?_of_block e]; exact h.abs, by rw [e]; exact h.obj, l, h1.set hv o u, h2⟩
theorem IntC.off {w : World} {b x : Nat} {v : Value} {n : Int} {e : Int} (h : IntC w b 0 v n) (ho : w.heap[x]? = some (.cells #[.pointer none, .int .i32 e] 53)) : b ≠ x ∧ v.ownBlock ≠ some x := by
  constructor
  · rintro rfl
    have := h.neg
    unfold World.cell? at this
    rw [ho] at this
    simp at this
  · intro hx
    obtain ⟨l, h1, _⟩ := h.nat
    rcases h1 with ⟨rfl, _⟩ | ⟨c, cap, M, rfl, hc, _⟩
    · simp [Value.ownBlock] at hx
    · simp [Value.ownBlock] at hx
      subst hx
      rw [ho] at hc
      simp [blk] at hc
def MdRes (w : World) (n : Int) (k : Nat) (e : Ending) (w' : World) : Prop :=
  ∃ bz v, e = .returned (.tuple #[decV bz (-(k : Int)), .bool true]) ∧ IntC w' bz 0 v n ∧ w.grownBy w' none
theorem made_any {s : ByteArray} {neg : Bool} {c m : Nat} (k : Nat) (w : World) (h : IsTxt s neg c 0 m) (hn : (c = 0 ∧ m = 1) ∨ 10 ^ (m - 1) ≤ c) (hz : c = 0 → neg = false) (hc : c < 10000000000000000000) (hk : k ≤ 19) :
    Calls Tryz.prog 13 #[.agg #[.string s, .int .i64 (-(k : Int))]] w fun e w' => MdRes w (if neg then -(c : Int) else c) k e w' := by
  have HW := Lib.hid (fun w => whole_any w h hn hz hc)
  have HP := Lib.hid (places_any k hk)
  have hw32 : IntKind.i32.wrap (-(k : Int)) = -(k : Int) := by rw [IntKind.wrap_i32]; omega
  clear h hn hz hc
  generalize (if neg then -(c : Int) else c) = n at *
  go_enter Tryz.func13, Tryz.ntmps13
  go_upto_region 1 with (fail)
  obtain ⟨W1, hW1⟩ : ∃ W1, W1 = (w.alloc (.cells #[.string s, .int .i64 (-(k : Int))] 26)).alloc (.cells #[.pointer none, .int .i32 0] 53) := ⟨_, rfl⟩
  rw [← hW1]
  have g1 : w.grownBy W1 none := by rw [hW1]; exact grown_trans (grown_new _ _) (grown_new _ _)
  have hx : W1.heap[w.heap.size]? = some (.cells #[.string s, .int .i64 (-(k : Int))] 26) := by rw [hW1]; exact keepb (grown_new _ _) (heap_new _ _)
  have hs := size_alloc w (.cells #[.string s, .int .i64 (-(k : Int))] 26)
  have ho : W1.heap[w.heap.size + 1]? = some (.cells #[.pointer none, .int .i32 0] 53) := by rw [hW1, ← hs]; exact heap_new _ _
  obtain ⟨x0, x1⟩ := dec_cells hx
  have G1 := Lib.hid g1; have HO := Lib.hid ho; have HX := Lib.hid hx
  clear g1 hx hs ho hW1
  go_wp2_with (fail)
  refine (HW.out _).mono ?_
  rintro e w2 ⟨bz, v, rfl, hv, g2⟩
  have G2 := Lib.hid (grown_trans G1.out g2)
  have HO2 := Lib.hid (keepb g2 HO.out)
  have HV := Lib.hid hv
  obtain ⟨x0, x1⟩ := dec_cells (keepb g2 HX.out)
  clear g2 hv G1 HO
  go_wp2_with (fail)
  refine (HP.out _).mono ?_
  rintro e w3 ⟨rfl, rfl⟩
  go_wp2_with (fail)
  refine (ZzMake_any bz (-(k : Int)) _).mono ?_
  rintro e w3 ⟨rfl, g3⟩
  have G3 := Lib.hid (grown_trans G2.out g3)
  have ho := keepb g3 HO2.out
  have HV3 := Lib.hid (HV.out.same g3)
  obtain ⟨o1, o2⟩ := HV3.out.off ho
  have z0 : w3.cell? ⟨w.heap.size + 1, 0, none⟩ = some (.pointer none) := by unfold World.cell?; rw [ho]; rfl
  have z1 : w3.cell? ⟨w.heap.size + 1, 1, none⟩ = some (.int .i32 0) := by unfold World.cell?; rw [ho]; rfl
  have f0 : ∀ i, w3.frozen? ⟨w.heap.size + 1, i, none⟩ = false := by intro i; unfold World.frozen?; rw [ho]; rfl
  unfold decV
  clear g3 ho HO2 HV G2
  go_wp2_with (fail)
  refine bodyPost_ret (v := .tuple #[.agg #[.pointer (some ⟨bz, 0, none⟩), .int .i32 (-(k : Int))], .bool true]) (by simp [results, Tryz.func13, go_sem, z0, z1]; try rfl) rfl ?_
  exact ⟨bz, v, rfl, (HV3.out.set o1 o2 _ _).set o1 o2 _ _, gset (by omega) _ _ (gset (by omega) _ _ G3.out)⟩

theorem decToFloat_any {s : ByteArray} {neg : Bool} {c m : Nat} (k : Nat) (w : World) (h : IsTxt s neg c 0 m) (hn : (c = 0 ∧ m = 1) ∨ 10 ^ (m - 1) ≤ c) (hz : c = 0 → neg = false) (hc : c < 10000000000000000000) (hk : k ≤ 19) (hT : TabF w) :
    Calls Tryz.prog 6 #[.agg #[.string s, .int .i64 (-(k : Int))]] w fun e w' => ∃ (W : Nat) (ex : Bool), e = .returned (.tuple #[.float .f64 W, .bool ex, .int .i64 0]) ∧ DcW (if neg then -(c : Int) else c) k W ∧ w.grownBy w' none := by
  have hmf : ∀ (fn : Fn) (first cap : Array Value) (w : World), (Instr.makeFunc fn first cap).run Tryz.prog w = .ok (.func fn first cap) w := fun _ _ _ _ => rfl
  have hfs : ∀ (w : World) (a : Addr) (k : FloatKind) (x : Nat) (m : Mode), (store a (.float k x) m).run Tryz.prog w = stored Tryz.prog w a (.float k x) m := fun w a k x m => run_store Tryz.prog w a _ m rfl
  have HF := Lib.hid (fun w => made_any k w h hn hz hc hk)
  have hn2 : (if neg then -(c : Int) else c).natAbs < 10000000000000000000 := by split <;> omega
  generalize (if neg then -(c : Int) else c) = n at *
  unfold MdRes decV at HF
  have HT := Lib.hid hT; have HN := Lib.hid hn2; have HK := Lib.hid hk
  clear h hn hz hc hT hk hn2
  go_enter_defers Tryz.func6, Tryz.ntmps6
  go_upto_region 1 with (fail)
  obtain ⟨W1, hW1⟩ : ∃ W1, W1 = (((w.alloc (.cells #[.string s, .int .i64 (-(k : Int))] 26)).alloc (.cells #[.float .f64 0] 29)).alloc (.cells #[.bool false] 4)).alloc (.cells #[.int .i64 0] 3) := ⟨_, rfl⟩
  rw [← hW1]
  have g1 : w.grownBy W1 none := by rw [hW1]; exact grown_trans (grown_trans (grown_new _ _) (grown_new _ _)) (grown_trans (grown_new _ _) (grown_new _ _))
  have hx : W1.heap[w.heap.size]? = some (.cells #[.string s, .int .i64 (-(k : Int))] 26) := by rw [hW1]; exact keepb (grown_trans (grown_new _ _) (grown_trans (grown_new _ _) (grown_new _ _))) (heap_new _ _)
  have R1 : Hid (Res3 W1 (w.heap.size + 1) 0 false 0) := by rw [hW1]; exact res3_new _ _
  obtain ⟨x0, x1⟩ := dec_cells hx
  have G1 := Lib.hid g1
  clear hW1 g1 hx
  go_wp2_with (fail)
  refine (HF.out _).mono ?_
  rintro e w2 ⟨bz, v, rfl, hv, g2⟩
  have G2 := Lib.hid (grown_trans G1.out g2)
  have R2 := Lib.hid (R1.out.same g2)
  have HV := Lib.hid hv
  clear g2 R1 G1 x0 x1 hv
  go_upto_region 3 with (fail)
  obtain ⟨w3, hw3⟩ : ∃ w3, w3 = w2.alloc (.cells #[.pointer (some ⟨bz, 0, none⟩), .int .i32 (-(k : Int))] 53) := ⟨_, rfl⟩
  rw [← hw3]
  have g3 : w2.grownBy w3 none := by rw [hw3]; exact grown_new _ _
  have hx : w3.heap[w2.heap.size]? = some (.cells #[.pointer (some ⟨bz, 0, none⟩), .int .i32 (-(k : Int))] 53) := by rw [hw3]; exact heap_new _ _
  have x0 : w3.cell? ⟨w2.heap.size, 0, none⟩ = some (.pointer (some ⟨bz, 0, none⟩)) := by unfold World.cell?; rw [hx]; rfl
  have x1 : w3.cell? ⟨w2.heap.size, 1, none⟩ = some (.int .i32 (-(k : Int))) := by unfold World.cell?; rw [hx]; rfl
  have G3 := Lib.hid (grown_trans G2.out g3)
  have R3 := Lib.hid (R2.out.same g3)
  have HV3 := Lib.hid (HV.out.same g3)
  clear g3 R2 G2 hw3 hx HV
  have HD := Lib.hid (decFloat_any HV3.out (fun i hi => keepc G3.out (HT.out i hi)) HN.out HK.out)
  unfold decV at HD
  go_wp2_with (fail)
  refine HD.out.mono ?_
  rintro e w4 ⟨W, ex, rfl, hW, g4⟩
  have HW : Hid (DcW n k W) := hW
  have G4 := Lib.hid (grown_trans G3.out g4)
  have R4 := Lib.hid (R3.out.same g4)
  clear g4 hW R3 G3 x0 x1 HD HV3
  obtain ⟨⟨y0, y1, y2⟩, f0, f1, f2⟩ := R4.out.cells
  go_upto_region 6 with (fail)
  obtain ⟨w5, hw5⟩ : ∃ w5, w5 = (w4.setCell ⟨w.heap.size + 1, 0, none⟩ (.float .f64 W)).setCell ⟨w.heap.size + 1 + 1, 0, none⟩ (.bool ex) := ⟨_, rfl⟩
  rw [← hw5]
  have R5 : Hid (Res3 w5 (w.heap.size + 1) W ex 0) := by rw [hw5]; exact R4.out.set _ _
  have G5 : Hid (w.grownBy w5 none) := by rw [hw5]; exact gset (by omega) _ _ (gset (by omega) _ _ G4.out)
  clear hw5 y0 y1 y2 f0 f1 f2 R4 G4
  obtain ⟨⟨y0, y1, y2⟩, f0, f1, f2⟩ := R5.out.cells
  go_region
  all_goals
    go_wp2_with (fail)
    obtain ⟨w6, hw6⟩ : ∃ w6, w6 = (((w5.setCell ⟨w.heap.size + 1, 0, none⟩ (.float .f64 W)).setCell ⟨w.heap.size + 1 + 1, 0, none⟩ (.bool ex)).setCell ⟨w.heap.size + 1 + 1 + 1, 0, none⟩ (.int .i64 0)).drew := ⟨_, rfl⟩
    rw [← hw6]
    have R6 : Hid (Res3 w6 (w.heap.size + 1) W ex 0) := by rw [hw6]; exact (R5.out.set3 _ _ _).same (grown_drew _)
    have G6 : Hid (w.grownBy w6 none) := by rw [hw6]; exact grown_trans (gset (by omega) _ _ (gset (by omega) _ _ (gset (by omega) _ _ G5.out))) (grown_drew _)
    clear hw6 y0 y1 y2 f0 f1 f2 R5 G5
    obtain ⟨⟨y0, y1, y2⟩, f0, f1, f2⟩ := R6.out.cells
    refine leaves_cons (f := 12) (args := #[.pointer (some ⟨w.heap.size + 1, 0, none⟩), .pointer (some ⟨w.heap.size + 1 + 1, 0, none⟩), .pointer (some ⟨w.heap.size + 1 + 1 + 1, 0, none⟩)]) (by simp) (by simp [go_sem]) ?_
    refine (dec_idle _ _ _ _).mono ?_
    rintro e u' w'' ⟨rfl, rfl, rfl⟩
    simp [Leaves, settle, results, Tryz.results6, go_sem, y0, y1, y2]
    exact ⟨W, by cases ex <;> simp, HW.out, G6.out⟩
end Go.Proofs.YtndphemomhcjlaaGreatDoor

namespace Go.Proofs.YtndphemomhcjlaaGreatDoor
open Go.RowKit

def lim9 (c t : Nat) : List Value := (List.range t).map fun i => .int .u32 ((c / 10 ^ (9 * i) % 1000000000 : Nat) : Int)
theorem lim9_len (c t : Nat) : (lim9 c t).length = t := by simp [lim9]
theorem lim9_succ (c t : Nat) : lim9 c (t + 1) = lim9 c t ++ [.int .u32 ((c / 10 ^ (9 * t) % 1000000000 : Nat) : Int)] := by
  unfold lim9; rw [List.range_succ, List.map_append]; rfl
theorem lim9_at {c t i : Nat} (h : i < t) : (lim9 c t)[i]? = some (.int .u32 ((c / 10 ^ (9 * i) % 1000000000 : Nat) : Int)) := by
  unfold lim9; simp [h]
theorem lim_next (c t : Nat) : c / 10 ^ (9 * (t + 1)) = c / 10 ^ (9 * t) / 1000000000 := by
  rw [show 9 * (t + 1) = 9 * t + 9 by omega, Nat.pow_add, ← Nat.div_div_eq_div_mul]
theorem lim_short {c t : Nat} (hc : c < 18446744073709551616) (h : 10 ^ (9 * t) ≤ c) : t ≤ 2 := by
  have h2 : 10 ^ (9 * t) < 10 ^ 27 := by
    have : (10 : Nat) ^ 27 = 1000000000000000000000000000 := by decide
    omega
  have := (Nat.pow_lt_pow_iff_right (by decide : 1 < 10)).1 h2
  omega
theorem pow_le_of_div {c n : Nat} (h : c / 10 ^ n ≠ 0) : 10 ^ n ≤ c := by
  rcases Nat.lt_or_ge c (10 ^ n) with h1 | h1
  · exact absurd (Nat.div_eq_of_lt h1) h
  · exact h1
theorem und35 : Tryz.prog.underlying 35 = some (.slice 79) := by kernel_rfl
theorem inf79 : (Tryz.prog.info? 79).map (fun i => (i.zero, i.size, i.bytes)) = some (some (.int .u32 0), 1, 4) := by kernel_rfl

/-- c in limbs, in a slice -/
structure NatOf (w : World) (base : Nat) (v : Value) (c t : Nat) : Prop where
  own : w.ownsRow base 79 1 v t (lim9 c t)
  lt : c < 10 ^ (9 * t)
  top : t = 0 ∨ 10 ^ (9 * (t - 1)) ≤ c
theorem NatOf.same {w w' : World} {base : Nat} {v : Value} {c t : Nat} (h : NatOf w base v c t) (g : w.grownBy w' none) : NatOf w' base v c t := ⟨h.own.kept g (own_any _), h.lt, h.top⟩
theorem NatOf.t3 {w : World} {base : Nat} {v : Value} {c t : Nat} (h : NatOf w base v c t) (hc : c < 18446744073709551616) : t ≤ 3 := by
  rcases h.top with e | e
  · omega
  · have := lim_short hc e; omega

def NfRes (w : World) (c : Nat) (e : Ending) (w' : World) : Prop := ∃ v t, e = .returned v ∧ NatOf w' w.heap.size v c t ∧ w.grownBy w' none
set_option maxRecDepth 100000 in
theorem NatFrom_any (c : Nat) (w : World) (hc : c < 18446744073709551616) : Calls Tryz.prog 16 #[.int .u64 c] w fun e w' => NfRes w c e w' := by
  obtain ⟨i0, hi0, hz0, hz1, hz2⟩ := info_parts inf79
  go_enter Tryz.func16, Tryz.ntmps16
  go_wp2_with (fail)
  go_loopw [0, 3] (fun s0 s3 wx => ∃ t : Nat, s0 = .int .u64 ((c / 10 ^ (9 * t) : Nat) : Int) ∧ wx.ownsRow w.heap.size 79 1 s3 t (lim9 c t) ∧ (t = 0 ∨ 10 ^ (9 * (t - 1)) ≤ c) ∧ w.grownBy wx none) (fun s0 _ _ => (intOf s0).toNat)
  case atStart => exact ⟨0, by simp, World.ownsRow_nil _ _ _ _, .inl rfl, grown_refl _ _⟩
  case round =>
    obtain ⟨t, rfl, how, htop, hg⟩ := hrel
    have HW := Lib.hid how; have HT := Lib.hid htop; have HG := Lib.hid hg
    obtain ⟨n, hn⟩ : ∃ n, c / 10 ^ (9 * t) = n := ⟨_, rfl⟩
    have hnc : n ≤ c := by rw [← hn]; exact Nat.div_le_self _ _
    have HN := Lib.hid hn
    rw [hn]
    by_cases h0 : n = 0
    · subst h0
      clear how htop hg hn hnc
      go_wp2_with (fail)
      go_ret
      exact ⟨_, t, rfl, ⟨HW.out, div_zero_lt HN.out, HT.out⟩, HG.out⟩
    · have hp : (0 : Int) < n := by omega
      have ht2 := lim_short hc (pow_le_of_div (c := c) (n := 9 * t) (by rw [hn]; exact h0))
      have hsz := hg.size
      clear how htop hg hn
      have ew : IntKind.u64.wrap ((n : Int) / 1000000000) = (n : Int) / 1000000000 := by rw [IntKind.wrap_u64]; omega
      have HC := Lib.hid hc
      clear hc
      have e32 : IntKind.u32.wrap ((n : Int) % 1000000000) = ((n % 1000000000 : Nat) : Int) := by rw [IntKind.wrap_u32]; omega
      go_wp2_with (at_builtin; refine wpList_append_own _ rfl (.tmp 8) (.tmp 12) 35 rfl w.heap.size 79 i0 _ 1 4 und35 hi0 hz0 hz1 hz2 rfl (by decide) _ t (lim9 c t) rfl (HW.out.alloc _) ⟨wr.heap.size, 0, none⟩ 1 1 [_] rfl rfl (cell_one_new _ _ _) (ints_oneCell .u32 [_]) (by simp only [maxLen]; omega) (by omega) (by simp; omega) ?_; intro v' w' hown' hg' hv')
      go_roundw
      case rel =>
        refine ⟨t + 1, congrArg (Value.int .u64) (by rw [lim_next, HN.out]; simp), ?_, .inr (pow_le_of_div (n := 9 * t) (by rw [HN.out]; exact h0)), grown_ownb (grown_trans HG.out (grown_new _ _)) hg' fun b hb => (HW.out.lt b hb).1⟩
        rw [lim9_succ, HN.out]; exact hown'
      case measure => simp [intOf]; omega
end Go.Proofs.YtndphemomhcjlaaGreatDoor
