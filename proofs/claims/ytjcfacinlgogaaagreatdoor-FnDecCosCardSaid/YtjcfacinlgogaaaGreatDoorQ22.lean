/- Decimals: products. Decimals: new ones, their sign, the opposite, the amount, the parts. Decimals: sums, the first exponent below the second. -/
import Derived.Test.YtjcfacinlgogaaaGreatDoorQ06
import Derived.Test.YtjcfacinlgogaaaGreatDoorQ21
import Derived.Test.YtjcfacinlgogaaaGreatDoorQ14
set_option linter.all false
set_option maxHeartbeats 4000000
set_option maxRecDepth 100000
set_option exponentiation.threshold 2000
namespace Go.Proofs.YtjcfacinlgogaaaGreatDoor
open Go.RowKit
def dobj (b : Nat) (e : Int) : Obj := .cells #[.pointer (some ⟨b, 0, none⟩), .int .i32 e] 56
def dnil : Obj := .cells #[.pointer none, .int .i32 0] 56
structure Dby (w W0 : World) (b1 : Nat) (e1 : Int) (b2 : Nat) (e2 : Int) : Prop where
  g : w.grownBy W0 none
  p : W0.heap[w.heap.size]? = some (dobj b1 e1)
  q : W0.heap[w.heap.size + 1]? = some (dobj b2 e2)
  r : W0.heap[w.heap.size + 2]? = some dnil
theorem dby_new (w : World) (b1 : Nat) (e1 : Int) (b2 : Nat) (e2 : Int) : ∃ W0, W0 = ((w.alloc (dobj b1 e1)).alloc (dobj b2 e2)).alloc dnil ∧ Dby w W0 b1 e1 b2 e2 := by
  have h1 := heap_new w (dobj b1 e1)
  have s1 := size_alloc w (dobj b1 e1)
  have h2 := heap_new (w.alloc (dobj b1 e1)) (dobj b2 e2)
  have s2 := size_alloc (w.alloc (dobj b1 e1)) (dobj b2 e2)
  have h3 := heap_new ((w.alloc (dobj b1 e1)).alloc (dobj b2 e2)) dnil
  have g1 := World.grownBy_alloc w (dobj b1 e1) none
  have g2 := World.grownBy_alloc (w.alloc (dobj b1 e1)) (dobj b2 e2) none
  have g3 := World.grownBy_alloc ((w.alloc (dobj b1 e1)).alloc (dobj b2 e2)) dnil none
  rw [s2, s1] at h3
  rw [s1] at h2
  exact ⟨_, rfl, grown_trans (grown_trans g1 g2) g3, kpb g3 (kpb g2 h1), kpb g3 h2, h3⟩
theorem Dby.same {w W0 W1 : World} {b1 : Nat} {e1 : Int} {b2 : Nat} {e2 : Int} (h : Dby w W0 b1 e1 b2 e2) (g : W0.grownBy W1 none) : Dby w W1 b1 e1 b2 e2 :=
  ⟨grown_trans h.g g, kpb g h.p, kpb g h.q, kpb g h.r⟩
theorem cell_dobj {w : World} {s b : Nat} {e : Int} (h : w.heap[s]? = some (dobj b e)) : w.cell? ⟨s, 0, none⟩ = some (.pointer (some ⟨b, 0, none⟩)) ∧ w.cell? ⟨s, 1, none⟩ = some (.int .i32 e) ∧ w.frozen? ⟨s, 0, none⟩ = false ∧ w.frozen? ⟨s, 1, none⟩ = false := by
  refine ⟨?_, ?_, ?_, ?_⟩ <;> simp [World.cell?, World.frozen?, h, dobj]
theorem cell_dnil {w : World} {s : Nat} (h : w.heap[s]? = some dnil) : w.cell? ⟨s, 0, none⟩ = some (.pointer none) ∧ w.cell? ⟨s, 1, none⟩ = some (.int .i32 0) ∧ w.frozen? ⟨s, 0, none⟩ = false ∧ w.frozen? ⟨s, 1, none⟩ = false := by
  refine ⟨?_, ?_, ?_, ?_⟩ <;> simp [World.cell?, World.frozen?, h, dnil]
def SD (W0 w' : World) (s b1 : Nat) (e1 : Int) (b2 : Nat) (e2 : Int) : Prop :=
  W0.grownBy w' none ∧ w'.cell? ⟨s, 0, none⟩ = some (.pointer (some ⟨b1, 0, none⟩)) ∧ w'.cell? ⟨s, 1, none⟩ = some (.int .i32 e1) ∧ w'.cell? ⟨s + 1, 0, none⟩ = some (.pointer (some ⟨b2, 0, none⟩)) ∧ w'.cell? ⟨s + 1, 1, none⟩ = some (.int .i32 e2)
theorem SD.keep {W0 w1 w2 : World} {s b1 b2 : Nat} {e1 e2 : Int} (g : w1.grownBy w2 none) (h : SD W0 w1 s b1 e1 b2 e2) : SD W0 w2 s b1 e1 b2 e2 :=
  ⟨grown_trans h.1 g, kpc g h.2.1, kpc g h.2.2.1, kpc g h.2.2.2.1, kpc g h.2.2.2.2⟩
def OpRes (W0 : World) (n : Int) (r : Ending) (w' : World) : Prop := ∃ bz v, r = .returned (.pointer (some ⟨bz, 0, none⟩)) ∧ W0.heap.size ≤ bz ∧ IntBox w' bz v n ∧ W0.grownBy w' none
theorem OpRes.of {W0 wx : World} {bz : Nat} {n : Int} {r : Ending} {w' : World} (g : W0.grownBy wx none) (hb : W0.heap.size ≤ bz) (h : MuRes wx bz n r w') : OpRes W0 n r w' := by
  obtain ⟨rfl, v, hx, hg⟩ := h
  exact ⟨bz, v, rfl, hb, hx, Grown2.new g hg.toGrown2 hb⟩
theorem fin_of {w w4 : World} {s bz : Nat} {v : Value} {n e2 : Int} (hr : w4.heap[s]? = some dnil) (hb : IntBox w4 bz v n) (hne : bz ≠ s) (g : w.grownBy w4 none) (hs : w.heap.size ≤ s) :
    DfRes w ((w4.setCell ⟨s, 0, none⟩ (.pointer (some ⟨bz, 0, none⟩))).setCell ⟨s, 1, none⟩ (.int .i32 e2)) s bz v n e2 := df_of hr hb hne g hs
theorem mulD_of {w : World} {b1 b2 : Nat} {n e1 e2 : Int} (hM : ∀ (wx : World) (bz : Nat), w.grownBy wx none → w.heap.size ≤ bz → wx.heap[bz]? = some (ibox false (.slice none 0 0)) → Calls Tryz.prog 89 #[.pointer (some ⟨bz, 0, none⟩), .pointer (some ⟨b1, 0, none⟩), .pointer (some ⟨b2, 0, none⟩)] wx fun r w' => MuRes wx bz n r w')
    (h1 : e1.natAbs ≤ 100000) (h2 : e2.natAbs ≤ 100000) :
    Calls Tryz.prog 66 #[decV b1 e1, decV b2 e2] w fun r w' => DecNew w w' r n (e1 + e2) := by
  have HM := Hq0 hM
  have HV1 := Hq0 (fun (w : World) => getValue_any b1 e1 w)
  have HV2 := Hq0 (fun (w : World) => getValue_any b2 e2 w)
  unfold decV at HV1 HV2 ⊢
  obtain ⟨W0, hW0, h0⟩ := dby_new w b1 e1 b2 e2
  unfold dobj dnil at hW0
  have HB := Hq0 h0
  obtain ⟨a0, a1, _, _⟩ := cell_dobj h0.p
  obtain ⟨c0, c1, _, _⟩ := cell_dobj h0.q
  have ew1 : wrap64 (e1 + e2) = e1 + e2 := by rw [← i64_left']; exact IntWalk.i64_in _ (by omega)
  have ew3 : wrap64 e1 = e1 := by rw [← i64_left']; exact IntWalk.i64_in _ (by omega)
  have ew4 : wrap64 e2 = e2 := by rw [← i64_left']; exact IntWalk.i64_in _ (by omega)
  have ew2 : IntKind.i32.wrap (e1 + e2) = e1 + e2 := by rw [IntKind.wrap_i32]; omega
  have hb1 : ¬ (2147483647 < e1 + e2) := by omega
  have hb2 : ¬ (e1 + e2 < -2147483648) := by omega
  have E : Hid (SD W0 W0 w.heap.size b1 e1 b2 e2) := ⟨grown_refl _ _, a0, a1, c0, c1⟩
  clear hM h0 h1 h2
  go_enter Tryz.func66, Tryz.ntmps66
  go_upto_region 1 with (fail)
  rw [← hW0]
  clear hW0
  go_wp2_with (fail)
  clear a0 a1 c0 c1
  go_region_held3 (fun w' => W0.grownBy w' none ∧ w'.cell? ⟨w.heap.size, 0, none⟩ = some (.pointer (some ⟨b1, 0, none⟩)) ∧ w'.cell? ⟨w.heap.size, 1, none⟩ = some (.int .i32 e1) ∧ w'.cell? ⟨w.heap.size + 1, 0, none⟩ = some (.pointer (some ⟨b2, 0, none⟩)) ∧ w'.cell? ⟨w.heap.size + 1, 1, none⟩ = some (.int .i32 e2))
    (first | exact KM.out | exact KV2.out | exact KV1.out | exact SD.keep (grown_dw _) E.out | exact SD.keep (World.grownBy_alloc _ _ _) (by assumption))
    (first
      | (go_at_call 86; refine (HV1.out _).mono ?_; rintro r wv ⟨rfl, gv⟩; have KV1 : Hid (SD W0 wv w.heap.size b1 e1 b2 e2) := SD.keep gv (by assumption); have GV1 := Hq0 gv; clear gv)
      | (go_at_call 86; refine (HV2.out _).mono ?_; rintro r wu ⟨rfl, gu⟩; have KV2 : Hid (SD W0 wu w.heap.size b1 e1 b2 e2) := SD.keep gu (by assumption); have GV2 := Hq0 gu; clear gu)
      | (go_at_call 89; refine ((HM.out _ _ (by first | exact grown_trans HB.out.g KV2.out.1 | exact grown_trans HB.out.g (grown_trans KV2.out.1 (World.grownBy_alloc _ _ _))) (by first | exact HB.out.g.size | exact Nat.le_trans HB.out.g.size KV1.out.1.size | exact Nat.le_trans HB.out.g.size KV2.out.1.size) (by first | exact kpb GV2.out (kpb GV1.out (heap_new _ _)) | exact kpb GV2.out (heap_new _ _) | exact heap_new _ _))).mono ?_; rintro r wz hz; obtain ⟨bz, vz, rfl, hbz, hxz, gz⟩ := OpRes.of (W0 := W0) (by first | exact KV2.out.1 | exact grown_trans KV2.out.1 (World.grownBy_alloc _ _ _)) (by first | exact Nat.le_refl _ | exact KV1.out.1.size | exact KV2.out.1.size) hz; have KM : Hid (SD W0 wz w.heap.size b1 e1 b2 e2) := SD.keep gz E.out; have GZ := Hq0 gz; have HXZ := Hq0 hxz; have HBZ := Hq0 hbz; clear gz hxz hbz hz))
  all_goals
    have hr := kpb GZ.out HB.out.r
    have hlt := (Array.getElem?_eq_some_iff.1 HB.out.r).1
    have HD := Hq0 (fin_of (e2 := e1 + e2) hr HXZ.out (by have := HBZ.out; omega) (grown_trans HB.out.g GZ.out) (by omega))
    obtain ⟨r0, r1, r2, r3⟩ := cell_dnil hr
    clear hr
    go_wp2
    have hD := HD.out
    clear HD
    generalize (wz.setCell ⟨w.heap.size + 2, 0, none⟩ (.pointer (some ⟨bz, 0, none⟩))).setCell ⟨w.heap.size + 2, 1, none⟩ (.int .i32 (e1 + e2)) = w9 at *
    obtain ⟨s0, s1, hbx, hg5⟩ := hD
    have HF5 := Hq0 (show _ ∧ _ from ⟨hbx, hg5⟩)
    clear hbx hg5 r0 r1 r2 r3
    refine bodyPost_ret (v := decV bz (e1 + e2)) (by simp [results, Tryz.func66, go_sem, s0, s1, decV]; try rfl) rfl ?_
    exact ⟨bz, vz, rfl, Nat.le_trans HB.out.g.size HBZ.out, HF5.out.1, HF5.out.2⟩
theorem mulD_any {w : World} {b1 b2 : Nat} {x y : Value} {nx ny e1 e2 : Int} (hx : IntC w b1 0 x nx) (hy : IntC w b2 0 y ny) (hne : b1 ≠ b2) (h6 : (nx.natAbs : Int) < B64 ^ 39 ∨ (ny.natAbs : Int) < B64 ^ 39) (hK : TabK w) (h7 : ((nx * ny).natAbs : Int) < B64 ^ 1000)
    (h1 : e1.natAbs ≤ 100000) (h2 : e2.natAbs ≤ 100000) :
    Calls Tryz.prog 66 #[decV b1 e1, decV b2 e2] w fun r w' => DecNew w w' r (nx * ny) (e1 + e2) := by
  obtain ⟨_, _, ox⟩ := hx.obj
  obtain ⟨_, _, oy⟩ := hy.obj
  have l1 := (Array.getElem?_eq_some_iff.1 ox).1
  have l2 := (Array.getElem?_eq_some_iff.1 oy).1
  exact mulD_of (fun wx bz g hb hz => Mul_any hz (hx.same g) (hy.same g) (by omega) (by omega) (by intro e; injection e with e; exact hne e) h6 (hK.same g) h7) h1 h2
theorem sqrD_any {w : World} {b1 : Nat} {x : Value} {nx e1 : Int} (hx : IntC w b1 0 x nx) (h6 : (nx.natAbs : Int) < B64 ^ 11) (hK : TabK w) (h1 : e1.natAbs ≤ 100000) :
    Calls Tryz.prog 66 #[decV b1 e1, decV b1 e1] w fun r w' => DecNew w w' r (nx * nx) (e1 + e1) := by
  obtain ⟨_, _, ox⟩ := hx.obj
  have l1 := (Array.getElem?_eq_some_iff.1 ox).1
  exact mulD_of (fun wx bz g hb hz => MulSq_any hz (hx.same g) (by omega) h6 (hK.same g)) h1 h1
end Go.Proofs.YtjcfacinlgogaaaGreatDoor
namespace Go.Proofs.YtjcfacinlgogaaaGreatDoor
open Go.RowKit
theorem New_any (x e : Int) (w : World) (h : S64 x) :
    Calls Tryz.prog 70 #[.int .i64 x, .int .i32 e] w fun r w' => DecNew w w' r x e := by
  have h1 : Hid ((w.alloc (.cells #[.pointer none, .int .i32 0] 56)).heap[w.heap.size]? = some dnil) := heap_new w dnil
  have hg := Hq0 (World.grownBy_alloc w (.cells #[.pointer none, .int .i32 0] 56) none)
  have HN := Hq0 (fun w => NewInt_any x w h)
  clear h
  go_enter Tryz.func70, Tryz.ntmps70
  go_wp2_with (fail)
  refine (HN.out _).mono ?_
  rintro r w1 ⟨b, v, rfl, hb, hx, g1⟩
  have hr := kpb g1 h1.out
  have hlt : w.heap.size < b := by have := (Array.getElem?_eq_some_iff.1 h1.out).1; omega
  have HD := Hq0 (fin_of (e2 := e) hr hx (by omega) (grown_trans hg.out g1) (Nat.le_refl _))
  obtain ⟨r0, r1, r2, r3⟩ := cell_dnil hr
  clear hr hx g1 hb
  go_wp2
  have hD := HD.out
  clear HD
  generalize (w1.setCell ⟨w.heap.size, 0, none⟩ (.pointer (some ⟨b, 0, none⟩))).setCell ⟨w.heap.size, 1, none⟩ (.int .i32 e) = w9 at *
  obtain ⟨s0, s1, hbx, hg5⟩ := hD
  have HF5 := Hq0 (show _ ∧ _ from ⟨hbx, hg5⟩)
  clear hbx hg5 r0 r1 r2 r3
  refine bodyPost_ret (v := decV b e) (by simp [results, Tryz.func70, go_sem, s0, s1, decV]; try rfl) rfl ?_
  exact ⟨b, v, rfl, by omega, HF5.out.1, HF5.out.2⟩
theorem NewFromInt_any (x : Int) (w : World) (h : S64 x) :
    Calls Tryz.prog 56 #[.int .i64 x] w fun r w' => DecNew w w' r x 0 := by
  have h1 : Hid ((w.alloc (.cells #[.pointer none, .int .i32 0] 56)).heap[w.heap.size]? = some dnil) := heap_new w dnil
  have hg := Hq0 (World.grownBy_alloc w (.cells #[.pointer none, .int .i32 0] 56) none)
  have HN := Hq0 (fun w => NewInt_any x w h)
  clear h
  go_enter Tryz.func56, Tryz.ntmps56
  go_wp2_with (fail)
  refine (HN.out _).mono ?_
  rintro r w1 ⟨b, v, rfl, hb, hx, g1⟩
  have hr := kpb g1 h1.out
  have hlt : w.heap.size < b := by have := (Array.getElem?_eq_some_iff.1 h1.out).1; omega
  have HD := Hq0 (fin_of (e2 := 0) hr hx (by omega) (grown_trans hg.out g1) (Nat.le_refl _))
  obtain ⟨r0, r1, r2, r3⟩ := cell_dnil hr
  clear hr hx g1 hb
  go_wp2
  have hD := HD.out
  clear HD
  generalize (w1.setCell ⟨w.heap.size, 0, none⟩ (.pointer (some ⟨b, 0, none⟩))).setCell ⟨w.heap.size, 1, none⟩ (.int .i32 0) = w9 at *
  obtain ⟨s0, s1, hbx, hg5⟩ := hD
  have HF5 := Hq0 (show _ ∧ _ from ⟨hbx, hg5⟩)
  clear hbx hg5 r0 r1 r2 r3
  refine bodyPost_ret (v := decV b 0) (by simp [results, Tryz.func56, go_sem, s0, s1, decV]; try rfl) rfl ?_
  exact ⟨b, v, rfl, by omega, HF5.out.1, HF5.out.2⟩
theorem isgn_neg (n : Int) : (isgn n == -1) = decide (n < 0) := by
  unfold isgn
  by_cases h : n = 0
  · simp [h]
  · by_cases h2 : n < 0 <;> simp [h, h2]
theorem IsNegative_any {w : World} {b : Nat} {v : Value} {n : Int} (e : Int) (h : IntC w b 0 v n) :
    Calls Tryz.prog 64 #[decV b e] w fun r w' => r = .returned (.bool (decide (n < 0))) ∧ w.grownBy w' none := by
  have hg : ∀ o, w.grownBy (w.alloc o) none := fun o => World.grownBy_alloc w o none
  have HS := Hq0 (fun (wz : World) (g : w.grownBy wz none) => decSign_any e (h.same g))
  have hs := isgn_neg n
  clear h
  unfold decV at *
  go_enter Tryz.func64, Tryz.ntmps64
  go_wp2_with (fail)
  refine (HS.out _ (hg _)).mono ?_
  rintro r w1 ⟨rfl, g1⟩
  have G1 := Hq0 (grown_trans (hg _) g1)
  clear g1
  generalize isgn n = sg at *
  go_wp2_with (fail)
  try rw [hs]
  clear hs
  go_ret
  exact ⟨rfl, G1.out⟩
theorem Exponent_any (b : Nat) (e : Int) (w : World) :
    Calls Tryz.prog 59 #[decV b e] w fun r w' => r = .returned (.int .i32 e) ∧ w.grownBy w' none := by
  have hg : ∀ o, w.grownBy (w.alloc o) none := fun o => World.grownBy_alloc w o none
  unfold decV
  go_enter Tryz.func59, Tryz.ntmps59
  go_wp2
  go_ret
  exact ⟨rfl, hg _⟩
theorem ZzValue_any (b : Nat) (e : Int) (w : World) :
    Calls Tryz.prog 58 #[decV b e] w fun r w' => r = .returned (.pointer (some ⟨b, 0, none⟩)) ∧ w.grownBy w' none := by
  have hg : ∀ o, w.grownBy (w.alloc o) none := fun o => World.grownBy_alloc w o none
  have HV := Hq0 (fun (w : World) => getValue_any b e w)
  unfold decV at *
  go_enter Tryz.func58, Tryz.ntmps58
  go_wp2_with (fail)
  refine (HV.out _).mono ?_
  rintro r w1 ⟨rfl, g1⟩
  have G1 := Hq0 (grown_trans (hg _) g1)
  clear g1
  go_wp2
  go_ret
  exact ⟨rfl, G1.out⟩
theorem NegD_any {w : World} {b : Nat} {x : Value} {n : Int} (e : Int) (hx : IntC w b 0 x n) :
    Calls Tryz.prog 65 #[decV b e] w fun r w' => DecNew w w' r (-n) e := by
  have HX := Hq0 hx
  have HV := Hq0 (fun (w : World) => getValue_any b e w)
  have hbl : b < w.heap.size := by obtain ⟨_, _, ho⟩ := hx.obj; exact (Array.getElem?_eq_some_iff.1 ho).1
  obtain ⟨W0, hW0, h0, hs0⟩ := dbx_new w b e
  have HB := Hq0 h0
  have e0 := h0.c0
  have e1 := h0.c1
  have HS0 := Hq0 hs0
  clear hx h0 hs0
  unfold decV at HV ⊢
  go_enter Tryz.func65, Tryz.ntmps65
  go_upto_region 1 with (fail)
  rw [← hW0]
  clear hW0
  have hnew : Hid ((W0.alloc (.cells #[.bool false, .slice none 0 0] 107)).heap[W0.heap.size]? = some (ibox false (.slice none 0 0))) := Hq0 (heap_new W0 (ibox false (.slice none 0 0)))
  have hga : Hid (W0.grownBy (W0.alloc (.cells #[.bool false, .slice none 0 0] 107)) none) := Hq0 (World.grownBy_alloc W0 (ibox false (.slice none 0 0)) none)
  have q0 := kpc hga.out e0
  have q1 := kpc hga.out e1
  go_wp2_with (fail)
  refine (HV.out _).mono ?_
  rintro r w2 ⟨rfl, g2⟩
  have G2 := Hq0 (grown_trans HB.out.g (grown_trans hga.out g2))
  have H2 : Hid (w2.heap[W0.heap.size]? = some (ibox false (.slice none 0 0))) := kpb g2 hnew.out
  have HB2 := Hq0 ((HB.out.same hga.out).same g2)
  clear g2 e0 e1 hnew hga q0 q1
  have HZB : IntBox w2 W0.heap.size (.slice none 0 0) 0 := IntBox.fresh H2.out rfl (IsNat.nil _) wfL_nil Nrm.nil rfl (by simp)
  have HNG := Hq0 (Neg_any HZB (HX.out.same G2.out) (by have := HS0.out; omega))
  clear HZB
  go_wp2_with (fail)
  refine HNG.out.mono ?_
  rintro r w4 ⟨rfl, v4, hb4, hg4, _⟩
  have HB4 : Hid (Dbx w w4 b e) := by
    have h3 := HB2.out
    have hs := HS0.out
    have k0 : w4.heap[w.heap.size]? = w2.heap[w.heap.size]? := hg4.block _ (World.block_lt_of_cell? _ _ h3.c0) (by omega) (by simp [Value.ownBlock])
    refine ⟨Grown2.new G2.out hg4 (by omega), ?_, ?_, ?_⟩
    · rw [World.cell?_of_block k0]; exact h3.c0
    · rw [World.cell?_of_block k0]; exact h3.c1
    · rw [hg4.block _ (Array.getElem?_eq_some_iff.1 h3.r).1 (by omega) (by simp [Value.ownBlock])]; exact h3.r
  have HD := Hq0 (df_of (e2 := e) HB4.out.r hb4 (by have := HS0.out; omega) HB4.out.g (by omega))
  obtain ⟨r0, r1, r2, r3⟩ := cell_dnil HB4.out.r
  have q1 := HB4.out.c1
  clear hb4 hg4 HNG
  go_wp2
  have hD := HD.out
  clear HD
  generalize (w4.setCell ⟨w.heap.size + 1, 0, none⟩ (.pointer (some ⟨W0.heap.size, 0, none⟩))).setCell ⟨w.heap.size + 1, 1, none⟩ (.int .i32 e) = w9 at *
  obtain ⟨s0, s1, hbx, hg5⟩ := hD
  have HF5 := Hq0 (show _ ∧ _ from ⟨hbx, hg5⟩)
  clear hbx hg5 r0 r1 r2 r3
  refine bodyPost_ret (v := decV W0.heap.size e) (by simp [results, Tryz.func65, go_sem, s0, s1, decV]; try rfl) rfl ?_
  exact ⟨W0.heap.size, v4, rfl, by have := HS0.out; omega, HF5.out.1, HF5.out.2⟩
end Go.Proofs.YtjcfacinlgogaaaGreatDoor
namespace Go.Proofs.YtjcfacinlgogaaaGreatDoor
open Go.RowKit
structure Dbr (w W : World) (b1 : Nat) (e1 : Int) (b2 : Nat) (e2 : Int) (R br : Nat) (v : Value) (n : Int) (e : Int) : Prop where
  d : Dby w W b1 e1 b2 e2
  box : W.heap[R]? = some (dobj br e)
  num : IntBox W br v n
  fr : ∀ k, v.ownBlock = some k → w.heap.size ≤ k
  lr : w.heap.size ≤ br
  ne : br ≠ R ∧ br ≠ w.heap.size ∧ br ≠ w.heap.size + 1 ∧ br ≠ w.heap.size + 2
  rn : R ≠ w.heap.size ∧ R ≠ w.heap.size + 1 ∧ R ≠ w.heap.size + 2
  rs : w.heap.size ≤ R
theorem Dbr.same {w W W1 : World} {b1 : Nat} {e1 : Int} {b2 : Nat} {e2 : Int} {R br : Nat} {v : Value} {n e : Int} (h : Dbr w W b1 e1 b2 e2 R br v n e) (g : W.grownBy W1 none) : Dbr w W1 b1 e1 b2 e2 R br v n e :=
  ⟨h.d.same g, kpb g h.box, h.num.same0 g, h.fr, h.lr, h.ne, h.rn, h.rs⟩
theorem dbr_new {w W0 w1 : World} {b1 : Nat} {e1 : Int} {b2 : Nat} {e2 : Int} {br : Nat} {v : Value} {n e : Int} (h : Dby w W0 b1 e1 b2 e2) (g : W0.grownBy w1 none) (hb : W0.heap.size ≤ br) (hx : IntBox w1 br v n) (hf : ∀ k, v.ownBlock = some k → W0.heap.size ≤ k) :
    Dbr w (w1.alloc (dobj br e)) b1 e1 b2 e2 w1.heap.size br v n e := by
  have ga := World.grownBy_alloc w1 (dobj br e) none
  have hl : br < w1.heap.size := (Array.getElem?_eq_some_iff.1 hx.here).1
  have hr := (Array.getElem?_eq_some_iff.1 h.r).1
  have hs := g.size
  have hs0 := h.g.size
  exact ⟨(h.same g).same ga, heap_new w1 _, hx.same0 ga, fun k hk => Nat.le_trans hs0 (hf k hk), by omega, ⟨by omega, by omega, by omega, by omega⟩, ⟨by omega, by omega, by omega⟩, by omega⟩
theorem Dbr.next {w W W1 : World} {b1 : Nat} {e1 : Int} {b2 : Nat} {e2 : Int} {R br : Nat} {v v1 : Value} {n n1 e : Int} (h : Dbr w W b1 e1 b2 e2 R br v n e) (hb : IntBox W1 br v1 n1) (g : Grown2 W W1 br v.ownBlock) (hf : ∀ k, v1.ownBlock = some k → some k = v.ownBlock ∨ W.heap.size ≤ k) :
    Dbr w W1 b1 e1 b2 e2 R br v1 n1 e := by
  obtain ⟨h1, l, hn, _⟩ := h.num
  have k0 := isNat_cells (w := W) (cs := #[.pointer (some ⟨b1, 0, none⟩), .int .i32 e1]) h.d.p hn
  have k1 := isNat_cells (w := W) (cs := #[.pointer (some ⟨b2, 0, none⟩), .int .i32 e2]) h.d.q hn
  have k2 := isNat_cells (w := W) (cs := #[.pointer none, .int .i32 0]) h.d.r hn
  have k3 := isNat_cells (w := W) (cs := #[.pointer (some ⟨br, 0, none⟩), .int .i32 e]) h.box hn
  have keep : ∀ {b : Nat} {o : Obj}, W.heap[b]? = some o → b ≠ br → v.ownBlock ≠ some b → W1.heap[b]? = some o := fun ho hne hv =>
    (g.block _ (Array.getElem?_eq_some_iff.1 ho).1 hne (fun e => hv e.symm)).trans ho
  have gw : w.grownBy W1 none := by
    refine ⟨g.os.trans h.d.g.os, g.tape.trans h.d.g.tape, g.output.trans h.d.g.output, Nat.le_trans h.d.g.size g.size, fun i hi _ => ?_⟩
    rw [g.block i (Nat.lt_of_lt_of_le hi h.d.g.size) (by have := h.lr; omega) (fun e => by have := h.fr i e.symm; omega)]
    exact h.d.g.block i hi (by simp)
  exact ⟨⟨gw, keep h.d.p (fun e => h.ne.2.1 e.symm) k0, keep h.d.q (fun e => h.ne.2.2.1 e.symm) k1, keep h.d.r (fun e => h.ne.2.2.2 e.symm) k2⟩, keep h.box (fun e => h.ne.1 e.symm) k3, hb,
    fun k hk => (hf k hk).elim (fun e => h.fr k e.symm) (fun e => Nat.le_trans h.d.g.size e), h.lr, h.ne, h.rn, h.rs⟩
theorem Dbr.sd {w W : World} {b1 : Nat} {e1 : Int} {b2 : Nat} {e2 : Int} {R br : Nat} {v : Value} {n e : Int} (h : Dbr w W b1 e1 b2 e2 R br v n e) :
    w.grownBy W none ∧ W.cell? ⟨w.heap.size, 0, none⟩ = some (.pointer (some ⟨b1, 0, none⟩)) ∧ W.cell? ⟨w.heap.size, 1, none⟩ = some (.int .i32 e1) ∧ W.cell? ⟨w.heap.size + 1, 0, none⟩ = some (.pointer (some ⟨b2, 0, none⟩)) ∧ W.cell? ⟨w.heap.size + 1, 1, none⟩ = some (.int .i32 e2) ∧ W.cell? ⟨R, 0, none⟩ = some (.pointer (some ⟨br, 0, none⟩)) :=
  ⟨h.d.g, (cell_dobj h.d.p).1, (cell_dobj h.d.p).2.1, (cell_dobj h.d.q).1, (cell_dobj h.d.q).2.1, (cell_dobj h.box).1⟩
theorem Dbr.fin {w W : World} {b1 : Nat} {e1 : Int} {b2 : Nat} {e2 : Int} {R br : Nat} {v : Value} {n e : Int} (h : Dbr w W b1 e1 b2 e2 R br v n e) (e3 : Int) :
    DfRes w ((W.setCell ⟨w.heap.size + 2, 0, none⟩ (.pointer (some ⟨br, 0, none⟩))).setCell ⟨w.heap.size + 2, 1, none⟩ (.int .i32 e3)) (w.heap.size + 2) br v n e3 :=
  fin_of h.d.r h.num h.ne.2.2.2 h.d.g (by omega)
theorem M1000.raw {n : Int} (h : M1000 n) : (n.natAbs : Int) < B64 ^ 1000 := by unfold M1000 at h; exact h
theorem addD_lt {w : World} {b1 b2 : Nat} {x y : Value} {n1 n2 e1 e2 : Int} (hx : IntC w b1 0 x n1) (hy : IntC w b2 0 y n2) (hlt : e1 < e2) (he1 : e1.natAbs ≤ 2000) (he2 : e2.natAbs ≤ 2000) (hd : e2 - e1 ≤ 423) (hK : TabK w) (hn : (n2.natAbs : Int) < B64 ^ 39)
    (h7 : M1000 (n1 + n2 * 10 ^ (e2 - e1).toNat)) :
    Calls Tryz.prog 69 #[decV b1 e1, decV b2 e2] w fun r w' => DecNew w w' r (n1 + n2 * 10 ^ (e2 - e1).toNat) e1 := by
  have HX := Hq0 hx; have HY := Hq0 hy; have HK := Hq0 hK; have HN := Hq0 hn; have H7 := Hq0 h7
  have HV1 := Hq0 (fun (w : World) => getValue_any b1 e1 w)
  have HRS := Hq0 (fun (wz : World) (g : w.grownBy wz none) => rescale_down (hy.same g) hlt he2 he1 hd (hK.same g) hn)
  unfold decV at HV1 HRS ⊢
  obtain ⟨W0, hW0, h0⟩ := dby_new w b1 e1 b2 e2
  unfold dobj dnil at hW0
  have HB := Hq0 h0
  obtain ⟨a0, a1, _, _⟩ := cell_dobj h0.p
  obtain ⟨c0, c1, _, _⟩ := cell_dobj h0.q
  have hdec : decide (e1 < e2) = true := by simpa using hlt
  generalize n2 * 10 ^ (e2 - e1).toNat = n2' at *
  clear hx hy h0 he1 he2 hd hK hn hlt h7
  go_enter Tryz.func69, Tryz.ntmps69
  go_upto_region 1 with (fail)
  rw [← hW0]
  clear hW0
  go_upto_if 12 with (fail)
  try rw [hdec]
  clear hdec
  go_wp2_with (fail)
  refine (HRS.out _ HB.out.g).mono ?_
  rintro r w1 ⟨br, v, rfl, hb, hbx, g1, hf⟩
  unfold decV
  have HR := Hq0 (dbr_new (e := e1) HB.out g1 hb hbx hf)
  obtain ⟨a2, a3, _, _⟩ := cell_dobj (HB.out.same g1).p
  clear hb hbx g1 hf a0 a1 c0 c1
  go_wp2_with (fail)
  have HR' : Hid (Dbr w (w1.alloc (.cells #[.pointer (some ⟨br, 0, none⟩), .int .i32 e1] 56)) b1 e1 b2 e2 w1.heap.size br v n2' e1) := HR
  clear HR a2 a3
  generalize w1.alloc (.cells #[.pointer (some ⟨br, 0, none⟩), .int .i32 e1] 56) = W2 at *
  generalize w1.heap.size = R at *
  have HRD := Hq0 (HR'.out.same (grown_dw W2))
  go_region_held3 (fun w' => w.grownBy w' none ∧ w'.cell? ⟨w.heap.size, 0, none⟩ = some (.pointer (some ⟨b1, 0, none⟩)) ∧ w'.cell? ⟨w.heap.size, 1, none⟩ = some (.int .i32 e1) ∧ w'.cell? ⟨w.heap.size + 1, 0, none⟩ = some (.pointer (some ⟨b2, 0, none⟩)) ∧ w'.cell? ⟨w.heap.size + 1, 1, none⟩ = some (.int .i32 e2) ∧ w'.cell? ⟨R, 0, none⟩ = some (.pointer (some ⟨br, 0, none⟩)))
    (first | exact KM.out.sd | exact KV1.out.sd | exact HRD.out.sd)
    (first
      | (go_at_call 86; refine (HV1.out _).mono ?_; rintro r wv ⟨rfl, gv⟩; have KV1 : Hid (Dbr w wv b1 e1 b2 e2 R br v n2' e1) := HRD.out.same gv; clear gv)
      | (go_at_call 99; refine ((Add_any KV1.out.num (HX.out.same KV1.out.d.g) KV1.out.num.c (by exact M1000.raw H7.out))).mono ?_; rintro r wz ⟨rfl, vz, hxz, gz, fz⟩; have KM : Hid (Dbr w wz b1 e1 b2 e2 R br vz (n1 + n2') e1) := KV1.out.next hxz gz fz; clear gz hxz fz))
  all_goals
    have HD := Hq0 (KM.out.fin e1)
    obtain ⟨r0, r1, r2, r3⟩ := cell_dnil KM.out.d.r
    obtain ⟨j0, j1, j2, j3⟩ := cell_dobj KM.out.box
    go_wp2
    have hD : DfRes w ((wz.setCell ⟨w.heap.size + 1 + 1, 0, none⟩ (.pointer (some ⟨br, 0, none⟩))).setCell ⟨w.heap.size + 1 + 1, 1, none⟩ (.int .i32 e1)) (w.heap.size + 1 + 1) br vz (n1 + n2') e1 := HD.out
    clear HD
    generalize (wz.setCell ⟨w.heap.size + 1 + 1, 0, none⟩ (.pointer (some ⟨br, 0, none⟩))).setCell ⟨w.heap.size + 1 + 1, 1, none⟩ (.int .i32 e1) = w9 at *
    obtain ⟨s0, s1, hbx, hg5⟩ := hD
    have HF5 := Hq0 (show _ ∧ _ from ⟨hbx, hg5⟩)
    clear hbx hg5 r0 r1 r2 r3 j0 j1 j2 j3
    refine bodyPost_ret (v := decV br e1) (by simp [results, Tryz.func69, go_sem, s0, s1, decV]; try rfl) rfl ?_
    exact ⟨br, vz, rfl, KM.out.lr, HF5.out.1, HF5.out.2⟩
end Go.Proofs.YtjcfacinlgogaaaGreatDoor
