/- A decimal as data; the door of the cosine. Conditions: less than ten, at most 18 places. -/
import Derived.Recover
import Derived.Test.YtjcfacinlgogaaaGreatDoorQ35
import Derived.Test.YtjcfacinlgogaaaGreatDoorQ36
set_option linter.all false
set_option maxHeartbeats 1000000
set_option exponentiation.threshold 3000
namespace Go.Proofs.YtjcfacinlgogaaaGreatDoor
open Go.RowKit
theorem dc_cells {w : World} {b : Nat} {s : ByteArray} {e : Int} (h : w.heap[b]? = some (.cells #[.string s, .int .i64 e] 23)) : w.cell? ⟨b, 0, none⟩ = some (.string s) ∧ w.cell? ⟨b, 1, none⟩ = some (.int .i64 e) ∧ w.frozen? ⟨b, 0, none⟩ = false ∧ w.frozen? ⟨b, 1, none⟩ = false := by
  refine ⟨?_, ?_, ?_, ?_⟩ <;> simp [World.cell?, World.frozen?, h]
def DcR (w : World) (p : Nat) (X : Int) (s : Nat) (r : Ending) (w' : World) : Prop := ∃ (t : ByteArray) (n e : Int) (q : Nat), r = .returned (.agg #[.string t, .int .i64 e]) ∧ TxtD t (decide (n < 0)) n.natAbs q ∧ X = n * 10 ^ (e + p).toNat ∧ -(p : Int) ≤ e ∧ e ≤ -(p : Int) + s ∧ w.grownBy w' none
theorem dec_any {w : World} {b p k s : Nat} {e X : Int} (h : DV w b e p X k s) (hk : k ≤ 599) (hp : p ≤ 600) (hs : s ≤ 600) :
    Calls Tryz.prog 33 #[.agg #[.pointer (some ⟨b, 0, none⟩), .int .i32 e]] w fun r w' => DcR w p X s r w' := by
  obtain ⟨v, n, hv, he1, he2, hX, hXk⟩ := h
  have hn600 : n.natAbs < 10 ^ 600 := Nat.lt_of_le_of_lt (n_le (hX ▸ hXk)) (Nat.pow_lt_pow_right (by decide) (by omega))
  obtain ⟨W0, hW0⟩ : ∃ W0, W0 = (w.alloc (.cells #[.pointer (some ⟨b, 0, none⟩), .int .i32 e] 56)).alloc (.cells #[.string ⟨#[]⟩, .int .i64 0] 23) := ⟨_, rfl⟩
  have g0 : w.grownBy W0 none := by rw [hW0]; exact grown_trans (grown_new _ _) (grown_new _ _)
  have hb : LV W0 w.heap.size b e := by rw [hW0]; exact kpb (grown_new _ _) (heap_new _ _)
  have hsz := size_alloc w (.cells #[.pointer (some ⟨b, 0, none⟩), .int .i32 e] 56)
  have hr : W0.heap[w.heap.size + 1]? = some (.cells #[.string ⟨#[]⟩, .int .i64 0] 23) := by rw [hW0, ← hsz]; exact heap_new _ _
  have HX := Hq0 (And.intro hX (And.intro he1 he2))
  have HV := Hq0 hv; have G0 := Hq0 g0; have HB := Hq0 hb; have HR := Hq0 hr
  have HD := Hq0 (fun (wx : World) (g : w.grownBy wx none) => impl_digits_any (hv.same g) hn600)
  have he32 : IntKind.i64.wrap e = e := IntWalk.i64_in _ (by omega)
  clear hX he1 he2 hXk hv hn600 g0 hb hr hsz
  go_enter Tryz.func33, Tryz.ntmps33
  go_upto_region 1 with (fail)
  rw [← hW0]
  have HS0 : Hid (S19 W0 none w.heap.size w.heap.size b b e e W0) := Hq0 ⟨grown_refl _ _, HB.out.c.1, HB.out.c.2.1, HB.out.c.1, HB.out.c.2.1⟩
  have HRR := HR
  have hZ := Hq0 (fun wx => ZzValue_any b e wx)
  have hE := Hq0 (fun wx => Exponent_any b e wx)
  unfold decV at hZ hE
  have HSZ : Hid (S19 W0 (some (w.heap.size + 1)) w.heap.size w.heap.size b b e e W0) := Hq0 ⟨grown_refl _ _, HB.out.c.1, HB.out.c.2.1, HB.out.c.1, HB.out.c.2.1⟩
  have GG : Hid (W0.grownBy W0 none) := Hq0 (grown_refl _ _)
  clear hW0 HS0
  go_region_held3 (fun w' => W0.grownBy w' (some (w.heap.size + 1)) ∧ w'.cell? ⟨w.heap.size, 0, none⟩ = some (.pointer (some ⟨b, 0, none⟩)) ∧ w'.cell? ⟨w.heap.size, 1, none⟩ = some (.int .i32 e) ∧ w'.cell? ⟨w.heap.size, 0, none⟩ = some (.pointer (some ⟨b, 0, none⟩)) ∧ w'.cell? ⟨w.heap.size, 1, none⟩ = some (.int .i32 e))
    (first | exact KS.out | exact S19.keep (grown_dw _) HSZ.out | exact S19.st KS.out (by omega) (by omega) _ _)
    (first
      | (go_at_call 58; refine (hZ.out _).mono ?_; rintro r wk ⟨rfl, gk⟩; have KS : Hid (S19 W0 (some (w.heap.size + 1)) w.heap.size w.heap.size b b e e wk) := Hq0 (S19.keep gk (by assumption)); have GG := Hq0 (grown_trans (grown_drew W0) gk); have HRR := Hq0 (kpb GG.out HR.out); obtain ⟨y0, y1, y2, y3⟩ := dc_cells HRR.out; have Tg1 : Hid True := trivial; clear gk)
      | (go_at_call 57; refine (HD.out _ (grown_trans G0.out GG.out)).mono ?_; rintro r wk ⟨t, q, rfl, htx, gk⟩; have KS : Hid (S19 W0 (some (w.heap.size + 1)) w.heap.size w.heap.size b b e e wk) := Hq0 (S19.keep gk (by assumption)); have HTX := Hq0 htx; have GG := Hq0 (grown_trans GG.out gk); have HRR := Hq0 (kpb GG.out HR.out); clear y0 y1 y2 y3; obtain ⟨y0, y1, y2, y3⟩ := dc_cells HRR.out; clear gk htx)
      | (go_at_call 59; refine (hE.out _).mono ?_; rintro r wk ⟨rfl, gk⟩; have KS : Hid (S19 W0 (some (w.heap.size + 1)) w.heap.size w.heap.size b b e e wk) := Hq0 (S19.keep gk (by assumption)); have GG := Hq0 (grown_trans GG.out gk); have HRR := Hq0 (kpb GG.out HR.out); clear y0 y1 y2 y3; obtain ⟨y0, y1, y2, y3⟩ := dc_cells HRR.out; clear gk))
  all_goals
    clear y0 y1 y2 y3
    try rw [he32]
    obtain ⟨o1, o2⟩ := st_var HRR.out (.string t) (.int .i64 e)
    have G9 := Hq0 (grown_own (grown_trans G0.out GG.out) o1 (.inr (Nat.le_succ _)))
    go_wp2
    generalize (wk.setCell ⟨w.heap.size + 1, 0, none⟩ (.string t)).setCell ⟨w.heap.size + 1, 1, none⟩ (.int .i64 e) = w9 at *
    obtain ⟨s0, s1, _, _⟩ := dc_cells o2
    refine bodyPost_ret (v := .agg #[.string t, .int .i64 e]) (by simp [results, Tryz.func33, go_sem, s0, s1]; try rfl) rfl ?_
    exact ⟨t, n, e, q, rfl, HTX.out, HX.out.1, HX.out.2.1, HX.out.2.2, G9.out⟩
theorem cosdec_idle (p0 p1 : Addr) (w : World) :
    CallsD Tryz.prog 30 #[.pointer (some p0), .pointer (some p1)] .returning w fun e u' w' => e = .returned (.tuple #[]) ∧ u' = .returning ∧ w' = w := by
  refine callsD_of_wpS Tryz.func30 rfl fun c₀ cs hu => ?_
  apply wpS_seq
  apply wpS_region
  simp [wpOpsS, go_sem, recoverD, hu, Tryz.ntmps30, Exit.thenS]
  refine wpS_cond (t := false) (by simp [Act.eval, Array.replicate]) ?_
  simp only [Bool.false_eq_true, if_false]
  refine wpS_of_wp (wp_skip ?_)
  cases c₀
  simp_all [bodyPostS, results, Tryz.results30]
def CsR (w : World) (xi : Nat) (r : Ending) (w' : World) : Prop := ∃ (t : ByteArray) (n e : Int) (q : Nat), r = .returned (.tuple #[.agg #[.string t, .int .i64 e], .int .i64 0]) ∧ TxtD t (decide (n < 0)) n.natAbs q ∧ cosX xi = n * 10 ^ (e + 461).toNat ∧ -461 ≤ e ∧ e ≤ -361 ∧ w.grownBy w' none
theorem in_dv {w : World} {b c k : Nat} {v : Value} {neg : Bool} (h : IntC w b 0 v (if neg then -(c : Int) else c)) (hk : k ≤ 18) (hc : c < 10 ^ (k + 1)) : DV w b (-(k : Int)) 31 ((if neg then -(c : Int) else c) * 10 ^ (31 - k)) 32 31 ∧ ((if neg then -(c : Int) else c) * 10 ^ (31 - k)).natAbs = c * 10 ^ (31 - k) ∧ c * 10 ^ (31 - k) < 10 ^ 32 := by
  have e1 : ((if neg then -(c : Int) else c) * 10 ^ (31 - k)).natAbs = c * 10 ^ (31 - k) := by
    rw [Int.natAbs_mul, Int.natAbs_pow]
    cases neg <;> simp
  have e2 : c * 10 ^ (31 - k) < 10 ^ 32 := by
    rw [show 32 = (k + 1) + (31 - k) by omega, Nat.pow_add]
    exact Nat.mul_lt_mul_of_pos_right hc (Nat.pow_pos (by decide))
  refine ⟨⟨v, _, h, by omega, by omega, by rw [show (-(k : Int) + ((31 : Nat) : Int)).toNat = 31 - k by omega], by rw [e1]; exact Nat.le_of_lt e2⟩, e1, e2⟩
theorem decCos_any {s : ByteArray} {neg : Bool} {c m k : Nat} (w : World) (h : IsTxt s neg c 0 m) (hn : (c = 0 ∧ m = 1) ∨ 10 ^ (m - 1) ≤ c) (hz : c = 0 → neg = false) (hk : k ≤ 18) (hc : c < 10 ^ (k + 1)) (hK : TabK w) (hC : TabC w) :
    Calls Tryz.prog 7 #[.agg #[.string s, .int .i64 (-(k : Int))]] w fun r w' => CsR w (c * 10 ^ (31 - k)) r w' := by
  have hmf : ∀ (fn : Fn) (first cap : Array Value) (w : World), (Instr.makeFunc fn first cap).run Tryz.prog w = .ok (.func fn first cap) w := fun _ _ _ _ => rfl
  have hc19 : c < 10000000000000000000 := Nat.lt_of_lt_of_le hc (Nat.pow_le_pow_right (n := 10) (by decide) (show k + 1 ≤ 19 by omega))
  have hc6 : c ≤ 1000000 * 10 ^ k := by
    rw [Nat.pow_succ] at hc
    generalize 10 ^ k = u at *
    omega
  have HF := Hq0 (fun w => made_any k w h hn hz hc19 (by omega))
  have HM := Hq0 (fun (wx : World) (g : w.grownBy wx none) => mild_any k wx h hn hz hc19 (by omega) (hK.same g) hc6)
  have HK := Hq0 hK; have HC := Hq0 hC; have HKC := Hq0 (And.intro hk hc)
  unfold MdRes decV at HF
  clear h hn hz hc hk hc19 hc6 hK hC
  go_enter_defers Tryz.func7, Tryz.ntmps7
  go_upto_region 1 with (fail)
  obtain ⟨W1, hW1⟩ : ∃ W1, W1 = ((w.alloc (.cells #[.string s, .int .i64 (-(k : Int))] 23)).alloc (.cells #[.string ⟨#[]⟩, .int .i64 0] 23)).alloc (.cells #[.int .i64 0] 3) := ⟨_, rfl⟩
  rw [← hW1]
  have g1 : w.grownBy W1 none := by rw [hW1]; exact grown_trans (grown_new _ _) (grown_trans (grown_new _ _) (grown_new _ _))
  have hx : W1.heap[w.heap.size]? = some (.cells #[.string s, .int .i64 (-(k : Int))] 23) := by rw [hW1]; exact kpb (grown_trans (grown_new _ _) (grown_new _ _)) (heap_new _ _)
  have hsz := size_alloc w (.cells #[.string s, .int .i64 (-(k : Int))] 23)
  have hsz2 := size_alloc (w.alloc (.cells #[.string s, .int .i64 (-(k : Int))] 23)) (.cells #[.string ⟨#[]⟩, .int .i64 0] 23)
  have ho : W1.heap[w.heap.size + 1]? = some (.cells #[.string ⟨#[]⟩, .int .i64 0] 23) := by rw [hW1, ← hsz]; exact kpb (grown_new _ _) (heap_new _ _)
  have hf : W1.heap[w.heap.size + 1 + 1]? = some (.cells #[.int .i64 0] 3) := by rw [hW1, ← hsz, ← hsz2]; exact heap_new _ _
  have G1 := Hq0 g1; have HX := Hq0 hx; have HO := Hq0 ho; have HFF := Hq0 hf
  obtain ⟨x0, x1, _, _⟩ := dc_cells hx
  clear hW1 g1 hsz hsz2 ho hf hx
  go_wp2_with (fail)
  refine (HF.out _).mono ?_
  rintro e w2 ⟨bz, v, rfl, hv, g2⟩
  have G2 := Hq0 (grown_trans G1.out g2)
  have HV := Hq0 hv
  have HX := Hq0 (kpb g2 HX.out); have HO := Hq0 (kpb g2 HO.out); have HFF := Hq0 (kpb g2 HFF.out)
  clear g2 hv x0 x1 G1 HF
  go_upto_region 3 with (fail)
  obtain ⟨w3, hw3⟩ : ∃ w3, w3 = w2.alloc (.cells #[.pointer (some ⟨bz, 0, none⟩), .int .i32 (-(k : Int))] 56) := ⟨_, rfl⟩
  rw [← hw3]
  have g3 : w2.grownBy w3 none := by rw [hw3]; exact grown_new _ _
  have hx4 : LV w3 w2.heap.size bz (-(k : Int)) := by rw [hw3]; exact heap_new _ _
  have HX4 := Hq0 hx4
  have G3 := Hq0 (grown_trans G2.out g3)
  have HV := Hq0 (HV.out.same g3)
  have HX := Hq0 (kpb g3 HX.out); have HO := Hq0 (kpb g3 HO.out); have HFF := Hq0 (kpb g3 HFF.out)
  obtain ⟨x0, x1, _, _⟩ := dc_cells HX.out
  clear g3 hw3 hx4 G2
  have HMM := Hq0 (HM.out _ G3.out)
  go_wp2_with (fail)
  refine HMM.out.mono ?_
  rintro e w4 ⟨rfl, g4⟩
  have G4 := Hq0 (grown_trans G3.out g4)
  have HX4 : Hid (LV w4 _ bz _) := kpb g4 HX4.out
  have HDV := in_dv (HV.out.same g4) HKC.out.1 HKC.out.2
  have HO := Hq0 (kpb g4 HO.out); have HFF := Hq0 (kpb g4 HFF.out)
  have HCS := Hq0 (cosD_any HDV.1 (by omega) (by rw [HDV.2.1]; exact HDV.2.2) (HK.out.same G4.out) (HC.out.same G4.out))
  rw [HDV.2.1] at HCS
  obtain ⟨z0, z1, _, _⟩ := HX4.out.c
  clear HDV g4 x0 x1 G3 HV HX HMM HM
  go_wp2_with (fail)
  refine HCS.out.mono ?_
  rintro e w5 ⟨b5, e5, rfl, hd5, g5⟩
  have HDC := Hq0 (dec_any hd5 (by decide) (by decide) (by decide))
  have HE5 := Hq0 hd5
  have G5 := Hq0 (grown_trans G4.out g5)
  have HO := Hq0 (kpb g5 HO.out); have HFF := Hq0 (kpb g5 HFF.out)
  clear hd5 g5 z0 z1 G4 HCS HX4
  go_wp2_with (fail)
  refine HDC.out.mono ?_
  rintro e w6 ⟨t, n, ee, q, rfl, htx, hX, hee1, hee2, g6⟩
  have HT := Hq0 (And.intro htx (And.intro hX (And.intro hee1 hee2)))
  have G6 := Hq0 (grown_trans G5.out g6)
  have HO := Hq0 (kpb g6 HO.out); have HFF := Hq0 (kpb g6 HFF.out)
  clear htx hX hee1 hee2 g6 G5 HDC HE5
  obtain ⟨y0, y1, y2, y3⟩ := dc_cells HO.out
  obtain ⟨v0, v1⟩ : w6.cell? ⟨w.heap.size + 1 + 1, 0, none⟩ = some (.int .i64 0) ∧ w6.frozen? ⟨w.heap.size + 1 + 1, 0, none⟩ = false := by have := HFF.out; constructor <;> simp [World.cell?, World.frozen?, this]
  go_wp2_with (fail)
  obtain ⟨o1, o2⟩ := st_var HO.out (.string t) (.int .i64 ee)
  have hF := stay o1 HFF.out (Nat.ne_of_gt (Nat.lt_succ_self _))
  have hF2 := set_blk hF 0 (.int .i64 0)
  have o3 := grown_set1 ((w6.setCell ⟨w.heap.size + 1, 0, none⟩ (.string t)).setCell ⟨w.heap.size + 1, 1, none⟩ (.int .i64 ee)) (w.heap.size + 1 + 1) 0 (.int .i64 0)
  have o4 := stay o3 o2 (Nat.ne_of_lt (Nat.lt_succ_self _))
  have G7 := Hq0 (grown_own (grown_own G6.out o1 (.inr (Nat.le_succ _))) o3 (.inr (by omega)))
  clear y0 y1 y2 y3 v0 v1 hF o1 o2 o3 HO HFF G6
  generalize ((w6.setCell ⟨w.heap.size + 1, 0, none⟩ (.string t)).setCell ⟨w.heap.size + 1, 1, none⟩ (.int .i64 ee)).setCell ⟨w.heap.size + 1 + 1, 0, none⟩ (.int .i64 0) = w7 at *
  obtain ⟨y0, y1, y2, y3⟩ := dc_cells o4
  obtain ⟨v0, v1⟩ : w7.cell? ⟨w.heap.size + 1 + 1, 0, none⟩ = some (.int .i64 0) ∧ w7.frozen? ⟨w.heap.size + 1 + 1, 0, none⟩ = false := by constructor <;> simp [World.cell?, World.frozen?, hF2]
  refine leaves_cons (f := 30) (args := #[.pointer (some ⟨w.heap.size + 1, 0, none⟩), .pointer (some ⟨w.heap.size + 1 + 1, 0, none⟩)]) (by simp) (by simp [go_sem]) ?_
  refine (cosdec_idle _ _ _).mono ?_
  rintro e u' w'' ⟨rfl, rfl, rfl⟩
  clear hF2 o4
  simp [Leaves, settle, results, Tryz.results7, go_sem, y0, y1, v0]
  exact ⟨t, n, ee, q, rfl, HT.out.1, HT.out.2.1, HT.out.2.2.1, by have := HT.out.2.2.2; omega, G7.out⟩
end Go.Proofs.YtjcfacinlgogaaaGreatDoor
