/- Decimals: the comparison with one of a greater exponent. Decimals: the comparison with one of a greater exponent, both not below zero. Decimals: the amount. -/
import Derived.Test.YtjcfacinlgogaaaGreatDoorQ22
set_option linter.all false
set_option maxHeartbeats 4000000
set_option maxRecDepth 100000
set_option exponentiation.threshold 2000
namespace Go.Proofs.YtjcfacinlgogaaaGreatDoor
open Go.RowKit
structure Dbc (w W : World) (b1 : Nat) (e1 : Int) (b2 : Nat) (e2 : Int) : Prop where
  g : w.grownBy W none
  p : W.heap[w.heap.size]? = some (dobj b1 e1)
  q : W.heap[w.heap.size + 1]? = some (dobj b2 e2)
theorem dbc_new (w : World) (b1 : Nat) (e1 : Int) (b2 : Nat) (e2 : Int) : ∃ W0, W0 = (w.alloc (dobj b1 e1)).alloc (dobj b2 e2) ∧ Dbc w W0 b1 e1 b2 e2 := by
  have h1 := heap_new w (dobj b1 e1)
  have s1 := size_alloc w (dobj b1 e1)
  have h2 := heap_new (w.alloc (dobj b1 e1)) (dobj b2 e2)
  have g1 := World.grownBy_alloc w (dobj b1 e1) none
  have g2 := World.grownBy_alloc (w.alloc (dobj b1 e1)) (dobj b2 e2) none
  rw [s1] at h2
  exact ⟨_, rfl, grown_trans g1 g2, kpb g2 h1, h2⟩
theorem Dbc.same {w W W1 : World} {b1 : Nat} {e1 : Int} {b2 : Nat} {e2 : Int} (h : Dbc w W b1 e1 b2 e2) (g : W.grownBy W1 none) : Dbc w W1 b1 e1 b2 e2 :=
  ⟨grown_trans h.g g, kpb g h.p, kpb g h.q⟩
theorem Dbc.sd {w W : World} {b1 : Nat} {e1 : Int} {b2 : Nat} {e2 : Int} (h : Dbc w W b1 e1 b2 e2) :
    w.grownBy W none ∧ W.cell? ⟨w.heap.size, 0, none⟩ = some (.pointer (some ⟨b1, 0, none⟩)) ∧ W.cell? ⟨w.heap.size, 1, none⟩ = some (.int .i32 e1) ∧ W.cell? ⟨w.heap.size + 1, 0, none⟩ = some (.pointer (some ⟨b2, 0, none⟩)) ∧ W.cell? ⟨w.heap.size + 1, 1, none⟩ = some (.int .i32 e2) :=
  ⟨h.g, (cell_dobj h.p).1, (cell_dobj h.p).2.1, (cell_dobj h.q).1, (cell_dobj h.q).2.1⟩
theorem isgn_pos {n : Int} (h : 0 < n) : isgn n = 1 := by
  unfold isgn; rw [if_neg (by omega), if_neg (by omega)]
theorem cmpD_eq {w : World} {b1 b2 : Nat} {x y : Value} {n1 n2 e : Int} (hx : IntC w b1 0 x n1) (hy : IntC w b2 0 y n2) (hne : b1 ≠ b2) :
    Calls Tryz.prog 55 #[decV b1 e, decV b2 e] w fun r w' => r = .returned (.int .i64 (icmp n1 n2)) ∧ w.grownBy w' none := by
  have HX := Hq0 hx; have HY := Hq0 hy
  have HV1 := Hq0 (fun (w : World) => getValue_any b1 e w)
  have HV2 := Hq0 (fun (w : World) => getValue_any b2 e w)
  unfold decV at HV1 HV2 ⊢
  obtain ⟨W0, hW0, h0⟩ := dbc_new w b1 e b2 e
  unfold dobj at hW0
  have HB := Hq0 h0
  obtain ⟨_, a0, a1, c0, c1⟩ := h0.sd
  have HRD := Hq0 (h0.same (grown_dw W0))
  clear hx hy h0
  go_enter Tryz.func55, Tryz.ntmps55
  go_upto_region 1 with (fail)
  rw [← hW0]
  clear hW0
  go_wp2_with (fail)
  clear a0 a1 c0 c1
  go_region_held3 (fun w' => w.grownBy w' none ∧ w'.cell? ⟨w.heap.size, 0, none⟩ = some (.pointer (some ⟨b1, 0, none⟩)) ∧ w'.cell? ⟨w.heap.size, 1, none⟩ = some (.int .i32 e) ∧ w'.cell? ⟨w.heap.size + 1, 0, none⟩ = some (.pointer (some ⟨b2, 0, none⟩)) ∧ w'.cell? ⟨w.heap.size + 1, 1, none⟩ = some (.int .i32 e))
    (first | exact KM.out.sd | exact KV2.out.sd | exact KV1.out.sd | exact HRD.out.sd)
    (first
      | (go_at_call 86; refine (HV1.out _).mono ?_; rintro r wv ⟨rfl, gv⟩; have KV1 : Hid (Dbc w wv b1 e b2 e) := HRD.out.same gv; clear gv)
      | (go_at_call 86; refine (HV2.out _).mono ?_; rintro r wu ⟨rfl, gu⟩; have KV2 : Hid (Dbc w wu b1 e b2 e) := KV1.out.same gu; clear gu)
      | (go_at_call 87; refine (Cmp_any (HX.out.same KV2.out.g) (HY.out.same KV2.out.g) (by intro h; injection h with h; exact hne h)).mono ?_; rintro r wz ⟨rfl, qz, hwz⟩; have KM : Hid (Dbc w wz b1 e b2 e) := KV2.out.same (by rw [hwz]; exact grown_drewN _ _); clear hwz))
  all_goals
    go_wp2
    go_ret
    exact ⟨rfl, KM.out.g⟩
end Go.Proofs.YtjcfacinlgogaaaGreatDoor
namespace Go.Proofs.YtjcfacinlgogaaaGreatDoor
open Go.RowKit
structure Dbz (w W : World) (b1 : Nat) (e1 : Int) (b2 : Nat) (e2 : Int) (bz : Nat) : Prop where
  d : Dbc w W b1 e1 b2 e2
  z : W.heap[bz]? = some (ibox false (.slice none 0 0))
  l : w.heap.size ≤ bz
theorem Dbz.same {w W W1 : World} {b1 : Nat} {e1 : Int} {b2 : Nat} {e2 : Int} {bz : Nat} (h : Dbz w W b1 e1 b2 e2 bz) (g : W.grownBy W1 none) : Dbz w W1 b1 e1 b2 e2 bz :=
  ⟨h.d.same g, kpb g h.z, h.l⟩
theorem Dbz.next {w W W1 : World} {b1 : Nat} {e1 : Int} {b2 : Nat} {e2 : Int} {bz : Nat} (h : Dbz w W b1 e1 b2 e2 bz) (g : Grown2 W W1 bz none) (n0 : bz ≠ w.heap.size) (n1 : bz ≠ w.heap.size + 1) : Dbc w W1 b1 e1 b2 e2 :=
  ⟨Grown2.new h.d.g g h.l, (g.block _ (Array.getElem?_eq_some_iff.1 h.d.p).1 (fun e => n0 e.symm) (by simp)).trans h.d.p, (g.block _ (Array.getElem?_eq_some_iff.1 h.d.q).1 (fun e => n1 e.symm) (by simp)).trans h.d.q⟩
theorem cmpD_lt {w : World} {b1 b2 : Nat} {x y : Value} {n1 n2 e1 e2 : Int} (hx : IntC w b1 0 x n1) (hy : IntC w b2 0 y n2) (hlt : e1 < e2) (he1 : e1.natAbs ≤ 2000) (he2 : e2.natAbs ≤ 2000) (hd : e2 - e1 ≤ 423) (h1 : 0 ≤ n1) (h2 : 0 < n2) (hK : TabK w) (hn : (n2.natAbs : Int) < B64 ^ 39) :
    Calls Tryz.prog 55 #[decV b1 e1, decV b2 e2] w fun r w' => r = .returned (.int .i64 (icmp n1 (n2 * 10 ^ (e2 - e1).toNat))) ∧ w.grownBy w' none := by
  have HX := Hq0 hx; have HY := Hq0 hy; have HK := Hq0 hK; have HN := Hq0 hn
  have HV1 := Hq0 (fun (w : World) => getValue_any b1 e1 w)
  have HV2 := Hq0 (fun (w : World) => getValue_any b2 e2 w)
  have HS1 := Hq0 (fun (wz : World) (g : w.grownBy wz none) => decSign_any e1 (hx.same g))
  have HS2 := Hq0 (fun (wz : World) (g : w.grownBy wz none) => decSign_any e2 (hy.same g))
  rw [isgn_pos h2] at HS2
  unfold decV at HV1 HV2 HS1 HS2 ⊢
  obtain ⟨W0, hW0, h0⟩ := dbc_new w b1 e1 b2 e2
  unfold dobj at hW0
  have HB := Hq0 h0
  obtain ⟨_, a0, a1, c0, c1⟩ := h0.sd
  have HRD := Hq0 (h0.same (grown_dw W0))
  have hbl1 : b1 < w.heap.size := by obtain ⟨_, _, ho⟩ := hx.obj; exact (Array.getElem?_eq_some_iff.1 ho).1
  have hbl2 : b2 < w.heap.size := by obtain ⟨_, _, ho⟩ := hy.obj; exact (Array.getElem?_eq_some_iff.1 ho).1
  have HE := Hq0 (And.intro hlt (And.intro he1 he2))
  have hne : (e1 == e2) = false := by simp; omega
  have hdec : decide (e1 < e2) = true := by simpa using hlt
  have HD := Hq0 (show (e2 - e1).toNat ≤ 423 by omega)
  clear hx hy h0 he1 he2 hd hK hn hlt
  go_enter Tryz.func55, Tryz.ntmps55
  go_upto_region 1 with (fail)
  rw [← hW0]
  clear hW0
  go_wp2_with (fail)
  clear a0 a1 c0 c1 hne
  by_cases h0 : n1 = 0
  · have e0 : isgn n1 = 0 := by rw [h0]; rfl
    have HF : Hid (icmp n1 (n2 * 10 ^ (e2 - e1).toNat) = -1) := by
      show _ = _
      have hp : (0 : Int) < 10 ^ (e2 - e1).toNat := Int.pow_pos (by decide)
      have := Int.mul_pos h2 hp
      unfold icmp
      rw [if_pos (by omega)]
    rw [e0] at HS1
    clear e0 h0 h1 h2 hdec
    go_region_held3 (fun w' => w.grownBy w' none ∧ w'.cell? ⟨w.heap.size, 0, none⟩ = some (.pointer (some ⟨b1, 0, none⟩)) ∧ w'.cell? ⟨w.heap.size, 1, none⟩ = some (.int .i32 e1) ∧ w'.cell? ⟨w.heap.size + 1, 0, none⟩ = some (.pointer (some ⟨b2, 0, none⟩)) ∧ w'.cell? ⟨w.heap.size + 1, 1, none⟩ = some (.int .i32 e2))
      (first | exact KV2.out.sd | exact KV1.out.sd | exact HRD.out.sd)
      (first
        | (go_at_call 88; refine (HS1.out _ HRD.out.g).mono ?_; rintro r wv ⟨rfl, gv⟩; have KV1 : Hid (Dbc w wv b1 e1 b2 e2) := HRD.out.same gv; clear gv)
        | (go_at_call 88; refine (HS2.out _ KV1.out.g).mono ?_; rintro r wu ⟨rfl, gu⟩; have KV2 : Hid (Dbc w wu b1 e1 b2 e2) := KV1.out.same gu; clear gu))
    all_goals
      go_wp2
      go_ret
      exact ⟨by rw [HF.out]; rfl, KV2.out.g⟩
  · have e0 : isgn n1 = 1 := isgn_pos (by omega)
    rw [e0] at HS1
    clear e0 h0 h1 h2
    go_region_held3 (fun w' => w.grownBy w' none ∧ w'.cell? ⟨w.heap.size, 0, none⟩ = some (.pointer (some ⟨b1, 0, none⟩)) ∧ w'.cell? ⟨w.heap.size, 1, none⟩ = some (.int .i32 e1) ∧ w'.cell? ⟨w.heap.size + 1, 0, none⟩ = some (.pointer (some ⟨b2, 0, none⟩)) ∧ w'.cell? ⟨w.heap.size + 1, 1, none⟩ = some (.int .i32 e2))
      (first | exact KV2.out.sd | exact KV1.out.sd | exact HRD.out.sd)
      (first
        | (go_at_call 88; refine (HS1.out _ HRD.out.g).mono ?_; rintro r wv ⟨rfl, gv⟩; have KV1 : Hid (Dbc w wv b1 e1 b2 e2) := HRD.out.same gv; clear gv)
        | (go_at_call 88; refine (HS2.out _ KV1.out.g).mono ?_; rintro r wu ⟨rfl, gu⟩; have KV2 : Hid (Dbc w wu b1 e1 b2 e2) := KV1.out.same gu; clear gu))
    all_goals
      have hz : Hid (Dbz w (wu.alloc (.cells #[.bool false, .slice none 0 0] 107)) b1 e1 b2 e2 wu.heap.size) := Hq0 ⟨KV2.out.same (World.grownBy_alloc _ _ _), heap_new wu (ibox false (.slice none 0 0)), KV2.out.g.size⟩
      have hnz : Hid (wu.heap.size ≠ w.heap.size ∧ wu.heap.size ≠ w.heap.size + 1) := Hq0 ⟨by have := (Array.getElem?_eq_some_iff.1 KV2.out.q).1; omega, by have := (Array.getElem?_eq_some_iff.1 KV2.out.q).1; omega⟩
      go_upto_region 11 with (fail)
      generalize wu.alloc (.cells #[.bool false, .slice none 0 0] 107) = W3 at *
      generalize wu.heap.size = bz at *
      obtain ⟨_, a0, a1, c0, c1⟩ := hz.out.d.sd
      go_upto_if 34 with (fail)
      try rw [hdec]
      clear hdec
      have hee := HE.out
      have ew1 : wrap64 e1 = e1 := by rw [← i64_left']; exact IntWalk.i64_in _ (by omega)
      have ew2 : wrap64 e2 = e2 := by rw [← i64_left']; exact IntWalk.i64_in _ (by omega)
      obtain ⟨k, hk⟩ : ∃ k, (e2 - e1).toNat = k := ⟨_, rfl⟩
      have ew3 : wrap64 (e2 - e1) = (k : Int) := by rw [← i64_left']; rw [IntWalk.i64_in _ (by omega)]; omega
      have ew1' : IntKind.i64.wrap e1 = e1 := (i64_left' _).trans ew1
      have ew2' : IntKind.i64.wrap e2 = e2 := (i64_left' _).trans ew2
      have ew3' : IntKind.i64.wrap (e2 - e1) = (k : Int) := (i64_left' _).trans ew3
      have HD2 : Hid (k ≤ 423) := by rw [← hk]; exact HD
      have HK2 := Hq0 hk
      have HZD := Hq0 (hz.out.same (grown_dw W3))
      clear hee HD hk a0 a1 c0 c1
      go_wp2_with (fail)
      go_region_held3 (fun w' => w.grownBy w' none ∧ w'.cell? ⟨w.heap.size, 0, none⟩ = some (.pointer (some ⟨b1, 0, none⟩)) ∧ w'.cell? ⟨w.heap.size, 1, none⟩ = some (.int .i32 e1) ∧ w'.cell? ⟨w.heap.size + 1, 0, none⟩ = some (.pointer (some ⟨b2, 0, none⟩)) ∧ w'.cell? ⟨w.heap.size + 1, 1, none⟩ = some (.int .i32 e2))
        (first | exact KC.out.sd | exact KM.out.sd | exact KP.out.d.sd | exact KW2.out.d.sd | exact KW1.out.d.sd | exact HZD.out.d.sd)
        (first
          | (go_at_call 86; refine (HV1.out _).mono ?_; rintro r wv1 ⟨rfl, gv⟩; have KW1 : Hid (Dbz w wv1 b1 e1 b2 e2 bz) := HZD.out.same gv; clear gv)
          | (go_at_call 86; refine (HV2.out _).mono ?_; rintro r wu1 ⟨rfl, gu⟩; have KW2 : Hid (Dbz w wu1 b1 e1 b2 e2 bz) := KW1.out.same gu; clear gu)
          | (go_at_call 90; refine (pow10_up k _ HD2.out (HK.out.same KW2.out.d.g)).mono ?_; rintro r wp ⟨bp, vp, rfl, hbp, hxp, gp⟩; have KP : Hid (Dbz w wp b1 e1 b2 e2 bz) := KW2.out.same gp; have KX := Hq0 hxp; have KB : Hid (bp ≠ bz ∧ bp ≠ b2) := Hq0 (by have h1 := (Array.getElem?_eq_some_iff.1 KW2.out.z).1; have h2 := KW2.out.d.g.size; exact ⟨by omega, by omega⟩); clear gp hxp hbp)
          | (go_at_call 89; refine (Mul_any KP.out.z (HY.out.same KP.out.d.g) KX.out.c (by have := KP.out.l; omega) (KB.out.1) (by intro h; injection h with h; exact KB.out.2 h.symm) (.inl HN.out) (HK.out.same KP.out.d.g) (rescale_fits HN.out HD2.out)).mono ?_; rintro r wm ⟨rfl, vm, hbm, gm⟩; have KM : Hid (Dbc w wm b1 e1 b2 e2) := KP.out.next gm.toGrown2 hnz.out.1 hnz.out.2; have KY := Hq0 hbm; clear gm hbm)
          | (go_at_call 87; refine (Cmp_any (HX.out.same KM.out.g) KY.out.c (by intro h; injection h with h; have := hz.out.l; omega)).mono ?_; rintro r wz ⟨rfl, qz, hwz⟩; have KC : Hid (Dbc w wz b1 e1 b2 e2) := KM.out.same (by rw [hwz]; exact grown_drewN _ _); clear hwz))
      all_goals
        go_wp2
        go_ret
        exact ⟨by rw [HK2.out]; rfl, KC.out.g⟩
end Go.Proofs.YtjcfacinlgogaaaGreatDoor
namespace Go.Proofs.YtjcfacinlgogaaaGreatDoor
open Go.RowKit
theorem AbsD_pos {w : World} {b : Nat} {x : Value} {n : Int} (e : Int) (hx : IntC w b 0 x n) (hn : ¬ n < 0) :
    Calls Tryz.prog 54 #[decV b e] w fun r w' => r = .returned (decV b e) ∧ w.grownBy w' none := by
  obtain ⟨W0, hW0, h0, hs0⟩ := dbx_new w b e
  have HB := Hq0 h0
  have HNG0 := Hq0 (fun (wz : World) (g : w.grownBy wz none) => IsNegative_any e (hx.same g))
  rw [show decide (n < 0) = false by simpa using hn] at HNG0
  have e0 := h0.c0
  have e1 := h0.c1
  clear h0 hs0 hx hn
  unfold decV at HNG0 ⊢
  go_enter Tryz.func54, Tryz.ntmps54
  go_upto_region 1 with (fail)
  rw [← hW0]
  clear hW0
  go_wp2_with (fail)
  refine (HNG0.out _ HB.out.g).mono ?_
  rintro r W1 ⟨rfl, g1⟩
  have HB1 := Hq0 (HB.out.same g1)
  clear e0 e1 g1
  have e0 := HB1.out.c0
  have e1 := HB1.out.c1
  obtain ⟨r0, r1, r2, r3⟩ := cell_dnil HB1.out.r
  have HG : Hid (w.grownBy ((W1.setCell ⟨w.heap.size + 1, 0, none⟩ (.pointer (some ⟨b, 0, none⟩))).setCell ⟨w.heap.size + 1, 1, none⟩ (.int .i32 e)) none) := by
    have g2 := (grown_set2 (b := w.heap.size + 1) HB1.out.g 0 (.pointer (some ⟨b, 0, none⟩))).set 1 (.int .i32 e)
    exact ⟨g2.os, g2.tape, g2.output, g2.size, fun i hi _ => g2.block i hi (by omega) (by simp)⟩
  have h2 : ((W1.setCell ⟨w.heap.size + 1, 0, none⟩ (.pointer (some ⟨b, 0, none⟩))).setCell ⟨w.heap.size + 1, 1, none⟩ (.int .i32 e)).heap[w.heap.size + 1]? = some (dobj b e) := by
    have hr := HB1.out.r
    have h1 : (W1.setCell ⟨w.heap.size + 1, 0, none⟩ (.pointer (some ⟨b, 0, none⟩))).heap[w.heap.size + 1]? = some (.cells #[.pointer (some ⟨b, 0, none⟩), .int .i32 0] 56) := by
      simp [World.setCell, Array.getElem?_modify, hr]
    rw [World.setCell]; simp [Array.getElem?_modify, h1, dobj]
  have H2 := Hq0 h2
  clear h2
  go_wp2
  have hh := H2.out
  clear H2
  generalize (W1.setCell ⟨w.heap.size + 1, 0, none⟩ (.pointer (some ⟨b, 0, none⟩))).setCell ⟨w.heap.size + 1, 1, none⟩ (.int .i32 e) = w9 at *
  obtain ⟨s0, s1, _, _⟩ := cell_dobj hh
  clear r0 r1 r2 r3 e0 e1 hh
  refine bodyPost_ret (v := decV b e) (by simp [results, Tryz.func54, go_sem, s0, s1, decV]; try rfl) rfl ?_
  exact ⟨rfl, HG.out⟩
theorem AbsD_neg {w : World} {b : Nat} {x : Value} {n : Int} (e : Int) (hx : IntC w b 0 x n) (hn : n < 0) :
    Calls Tryz.prog 54 #[decV b e] w fun r w' => DecNew w w' r n.natAbs e := by
  have HX := Hq0 hx
  have HV := Hq0 (fun (w : World) => getValue_any b e w)
  have hbl : b < w.heap.size := by obtain ⟨_, _, ho⟩ := hx.obj; exact (Array.getElem?_eq_some_iff.1 ho).1
  obtain ⟨W0, hW0, h0, hs0⟩ := dbx_new w b e
  have HB := Hq0 h0
  have e0 := h0.c0
  have e1 := h0.c1
  have HS0 := Hq0 hs0
  have HNG0 := Hq0 (fun (wz : World) (g : w.grownBy wz none) => IsNegative_any e (hx.same g))
  rw [show decide (n < 0) = true by simpa using hn] at HNG0
  clear hx h0 hs0 hn
  unfold decV at HV HNG0 ⊢
  go_enter Tryz.func54, Tryz.ntmps54
  go_upto_region 1 with (fail)
  rw [← hW0]
  clear hW0
  go_wp2_with (fail)
  refine (HNG0.out _ HB.out.g).mono ?_
  rintro r W1 ⟨rfl, g1⟩
  have HB1 := Hq0 (HB.out.same g1)
  have hsz1 := g1.size
  clear e0 e1 g1 HB
  have HB := HB1
  clear HB1
  have e0 := HB.out.c0
  have e1 := HB.out.c1
  have HS1 : Hid (w.heap.size + 2 ≤ W1.heap.size) := Hq0 (by have := HS0.out; omega)
  clear HS0 hsz1
  have HS0 := HS1
  clear HS1
  generalize hW : W1 = W0 at *
  go_upto_region 3 with (fail)
  have hnew : Hid ((W0.alloc (.cells #[.bool false, .slice none 0 0] 107)).heap[W0.heap.size]? = some (ibox false (.slice none 0 0))) := Hq0 (heap_new W0 (ibox false (.slice none 0 0)))
  have hga : Hid (W0.grownBy (W0.alloc (.cells #[.bool false, .slice none 0 0] 107)) none) := Hq0 (World.grownBy_alloc W0 (ibox false (.slice none 0 0)) none)
  have q0 := kpc hga.out e0
  have q1 := kpc hga.out e1
  go_wp2_with (fail)
  refine (HV.out _).mono ?_
  rintro r w2 ⟨rfl, g2⟩
  have G2 := Hq0 (grown_trans HB.out.g (grown_trans hga.out g2))
  have H2 : Hid (w2.heap[W0.heap.size]? = some (ibox false (.slice none 0 0))) := kpb g2 hnew.out
  have HB2 := Hq0 ((HB.out.same hga.out).same g2)
  clear g2 e0 e1 hnew hga q0 q1
  have HZB : IntBox w2 W0.heap.size (.slice none 0 0) 0 := IntBox.fresh H2.out rfl (IsNat.nil _) wfL_nil Nrm.nil rfl (by simp)
  have HNG := Hq0 (Abs_any HZB (HX.out.same G2.out) (by have := HS0.out; omega))
  clear HZB
  go_wp2_with (fail)
  refine HNG.out.mono ?_
  rintro r w4 ⟨rfl, v4, hb4, hg4, _⟩
  have HB4 : Hid (Dbx w w4 b e) := by
    have h3 := HB2.out
    have hs := HS0.out
    have k0 : w4.heap[w.heap.size]? = w2.heap[w.heap.size]? := hg4.block _ (World.block_lt_of_cell? _ _ h3.c0) (by omega) (by simp [Value.ownBlock])
    refine ⟨Grown2.new G2.out hg4 (by omega), ?_, ?_, ?_⟩
    · rw [World.cell?_of_block k0]; exact h3.c0
    · rw [World.cell?_of_block k0]; exact h3.c1
    · rw [hg4.block _ (Array.getElem?_eq_some_iff.1 h3.r).1 (by omega) (by simp [Value.ownBlock])]; exact h3.r
  have HD := Hq0 (df_of (e2 := e) HB4.out.r hb4 (by have := HS0.out; omega) HB4.out.g (by omega))
  obtain ⟨r0, r1, r2, r3⟩ := cell_dnil HB4.out.r
  have q1 := HB4.out.c1
  clear hb4 hg4 HNG
  go_wp2
  have hD := HD.out
  clear HD
  generalize (w4.setCell ⟨w.heap.size + 1, 0, none⟩ (.pointer (some ⟨W0.heap.size, 0, none⟩))).setCell ⟨w.heap.size + 1, 1, none⟩ (.int .i32 e) = w9 at *
  obtain ⟨s0, s1, hbx, hg5⟩ := hD
  have HF5 := Hq0 (show _ ∧ _ from ⟨hbx, hg5⟩)
  clear hbx hg5 r0 r1 r2 r3
  refine bodyPost_ret (v := decV W0.heap.size e) (by simp [results, Tryz.func54, go_sem, s0, s1, decV]; try rfl) rfl ?_
  exact ⟨W0.heap.size, v4, rfl, by have := HS0.out; omega, HF5.out.1, HF5.out.2⟩
end Go.Proofs.YtjcfacinlgogaaaGreatDoor
