/- Sums of the cosine's and the sine's series. Conditions: at most 10, forty places. -/
import Derived.Test.YtjcfacinlgogaaaGreatDoorQ46
import Derived.Test.YtjcfacinlgogaaaGreatDoorQ47
set_option linter.all false
set_option maxHeartbeats 4000000
set_option maxRecDepth 100000
set_option exponentiation.threshold 10000
open Go.RowKit
namespace Go.Proofs.YtjcfacinlgogaaaGreatDoor
def WVar (w : World) (b : Nat) (n : Int) : Prop := ∃ v t, w.heap[b]? = some (.cells #[.bool (decide (n < 0)), v] 28) ∧ NatOf w 0 v n.natAbs t
theorem WVar.same {w w' : World} {b : Nat} {n : Int} (h : WVar w b n) (g : w.grownBy w' none) : WVar w' b n := by
  obtain ⟨v, t, h1, h2⟩ := h; exact ⟨v, t, kpb g h1, h2.same g⟩
theorem WVar.lt {w : World} {b : Nat} {n : Int} (h : WVar w b n) : b < w.heap.size := by
  obtain ⟨v, t, h1, h2⟩ := h; exact (Array.getElem?_eq_some_iff.1 h1).1
theorem WVar.put {w : World} {b t : Nat} {n : Int} {bz : Bool} {u0 u1 v : Value} (h : w.heap[b]? = some (.cells #[u0, u1] 28)) (hz : decide (n < 0) = bz) (hv : NatOf w 0 v n.natAbs t) :
    ∃ w9, (w.setCell ⟨b, 0, none⟩ (.bool bz)).setCell ⟨b, 1, none⟩ v = w9 ∧ WVar w9 b n ∧ (∀ b' m, b' ≠ b → WVar w b' m → WVar w9 b' m) ∧ (∀ w0 : World, w0.grownBy w none → w0.heap.size ≤ b → w0.grownBy w9 none) := by
  subst hz
  obtain ⟨o1, o2⟩ := st_var h (.bool (decide (n < 0))) v
  refine ⟨_, rfl, ⟨v, t, o2, own_wh hv h o1⟩, fun b' m hb hm => ?_, fun w0 g0 hb => grown_own g0 o1 (.inr hb)⟩
  obtain ⟨v', t', h1, h2⟩ := hm
  exact ⟨v', t', by rw [o1.block b' (Array.getElem?_eq_some_iff.1 h1).1 (by simpa using hb)]; exact h1, own_wh h2 h o1⟩
theorem run_fld (b : Bool) (v e : Value) (w : World) : (Instr.field 37 (.agg #[.bool b, v, e]) 0).run Tryz.prog w = .ok (.agg #[.bool b, v]) w := by kernel_rfl
theorem pt_zero (X : Int) : decide (CosM.pt X 0 < 0) = false ∧ (CosM.pt X 0).natAbs = 10 ^ 40 := by
  have h : CosM.pt X 0 = ((10 ^ 40 : Nat) : Int) := by show (10 : Int) ^ 40 = _; rw [Int.natCast_pow]; rfl
  rw [h]
  exact ⟨decide_eq_false (by omega), rfl⟩
theorem setCell_id {w : World} {b i : Nat} {cs : Array Value} {t : TypeId} {v : Value} (h : w.heap[b]? = some (.cells cs t)) (hv : cs[i]? = some v) : w.setCell ⟨b, i, none⟩ v = w := by
  have hlt : b < w.heap.size := (Array.getElem?_eq_some_iff.1 h).1
  have hb : w.heap[b] = .cells cs t := (Array.getElem?_eq_some_iff.1 h).2
  have hc : cs.setIfInBounds i v = cs := by
    obtain ⟨h1, h2⟩ := Array.getElem?_eq_some_iff.1 hv
    apply Array.ext
    · simp
    · intro k h3 h4
      rw [Array.getElem_setIfInBounds]
      split
      · next e => subst e; exact h2.symm
      · rfl
  rw [setCell_eq_setRow w b i cs t (0, 0) v h, hc]
  unfold World.setRow
  have : w.heap.modify b (fun o => match o with | .cells _ t fr => .cells cs t fr | o => o) = w.heap := by
    apply Array.ext
    · simp
    · intro k h3 h4
      rw [Array.getElem_modify]
      split
      · next e => subst e; rw [hb]
      · rfl
  exact congrArg (fun h => ({ w with heap := h } : World)) this
theorem wcmp_zero (n : Int) : wcmp n 0 = 0 ↔ n = 0 := by
  unfold wcmp; split
  · omega
  · split <;> omega
structure ScI (w wx : World) (xa pa : Nat) (X s c p : Int) : Prop where
  s : WVar wx (w.heap.size + 1) s
  c : WVar wx (w.heap.size + 1 + 1) c
  x : WVar wx xa X
  p : WVar wx pa p
  g : w.grownBy wx none
theorem ScI.same {w wx wy : World} {xa pa : Nat} {X s c p : Int} (h : ScI w wx xa pa X s c p) (g : wx.grownBy wy none) : ScI w wy xa pa X s c p := ⟨h.s.same g, h.c.same g, h.x.same g, h.p.same g, grown_trans h.g g⟩
theorem SinCos_any {w : World} {base d tn td : Nat} {x : Value} {n X : Int} (h : FrV w base x n d tn td) (hd : 0 < d) (hn : n.natAbs * 10 ^ 40 < 10 ^ 3600) (hX : (n * ((10 ^ 40 : Nat) : Int)).tdiv d = X) (hX4 : X.natAbs ≤ 10 ^ 41) : Calls Tryz.prog 11 #[x, .int .i64 40] w fun r w' => ∃ b1 a1 t1 cap1 v2 t, r = .returned (.tuple #[.agg #[.bool b1, .slice a1 t1 cap1], v2]) ∧ WhV w' 0 v2 (CosM.cosS X 100) t ∧ w.grownBy w' none := by
  have HR := Hq0 (fun (wx : World) (g : w.grownBy wx none) => Round_any 40 (h.same g) (by decide) hn hd)
  rw [hX] at HR
  obtain ⟨v, u, rfl, hv, hu⟩ := h
  generalize decide (n < 0) = bs at *
  clear hv hu hn hX hd
  obtain ⟨WB, hW0, g0, ha, hb, hc⟩ := box3 w (.cells #[.bool bs, v, u] 30) (.cells #[.bool false, .slice none 0 0] 28) (.cells #[.bool false, .slice none 0 0] 28)
  obtain ⟨x0, x1, x2, _, _, _⟩ := cell_three ha
  have HB1 : Hid (WVar WB (w.heap.size + 1) 0) := Hq0 ⟨_, 0, hb, natOf_nil _ _⟩
  have HC1 : Hid (WVar WB (w.heap.size + 1 + 1) 0) := Hq0 ⟨_, 0, hc, natOf_nil _ _⟩
  have G0 := Hq0 g0
  clear ha hb hc g0
  have hfld := run_fld
  go_enter Tryz.func11, Tryz.ntmps11
  go_upto_region 1 with (fail)
  rw [← hW0]
  clear hW0
  go_wp2_with (fail)
  refine (HR.out _ G0.out).mono ?_
  rintro r w2 ⟨x', t, rfl, ⟨vx, rfl, hvx⟩, g2⟩
  obtain ⟨ax, capx, rfl, _⟩ := hvx.own.slice
  generalize hbx : decide (X < 0) = bx at *
  have HVX := Hq0 hvx
  have HX := Hq0 (heap_new w2 (.cells #[.bool bx, .slice ax t capx] 28))
  have G2 := Hq0 (grown_trans G0.out g2)
  have G2X := Hq0 g2
  have GA := Hq0 (grown_new w2 (.cells #[.bool bx, .slice ax t capx] 28))
  clear hvx g2 x0 x1 x2
  go_upto_region 2 with (fail)
  obtain ⟨xa, hxa⟩ : ∃ xa, w2.heap.size = xa := ⟨_, rfl⟩
  rw [hxa] at HX ⊢
  have HL1 := Hq0 (hxa ▸ Nat.lt_of_lt_of_le HC1.out.lt G2X.out.size : w.heap.size + 1 + 1 < xa)
  have HVX3 := Hq0 (HVX.out.same GA.out)
  have G3 := Hq0 (grown_trans G2.out GA.out)
  have G3X := Hq0 (grown_trans G2X.out GA.out)
  generalize w2.alloc (.cells #[.bool bx, .slice ax t capx] 28) = w3 at *
  have HXV : Hid (WVar w3 xa X) := Hq0 ⟨_, t, by rw [hbx]; exact HX.out, HVX3.out⟩
  clear HX hxa HVX HVX3 hbx
  have HP := Hq0 (fun wx => Pow10_any 40 wx (by decide))
  go_wp2_with (fail)
  refine (HP.out _).mono ?_
  rintro r w4 ⟨vp, tp, rfl, hvp, g4⟩
  obtain ⟨ap, capp, rfl, _⟩ := hvp.own.slice
  have HVP := Hq0 (hvp.base (Nat.zero_le _))
  have G4X := Hq0 (grown_trans G3X.out g4)
  have HXV := Hq0 (HXV.out.same g4)
  have G4 := Hq0 (grown_trans G3.out g4)
  have GB := Hq0 (grown_new w4 (.cells #[.bool false, .slice ap tp capp] 28))
  have HX := Hq0 (heap_new w4 (.cells #[.bool false, .slice ap tp capp] 28))
  clear hvp g4
  go_upto_region 3 with (fail)
  obtain ⟨pa, hpa⟩ : ∃ pa, w4.heap.size = pa := ⟨_, rfl⟩
  rw [hpa] at HX ⊢
  have HL2 := Hq0 (hpa ▸ HXV.out.lt : xa < pa)
  have HI : Hid (ScI w (w4.alloc (.cells #[.bool false, .slice ap tp capp] 28)) xa pa X (CosM.sinS X 0) (CosM.cosS X 0) (CosM.pt X 0)) := Hq0 ⟨HB1.out.same (grown_trans G4X.out GB.out), HC1.out.same (grown_trans G4X.out GB.out), HXV.out.same GB.out, ⟨_, tp, by rw [(pt_zero X).1]; exact HX.out, by rw [(pt_zero X).2]; exact HVP.out.same GB.out⟩, grown_trans G4.out GB.out⟩
  generalize w4.alloc (.cells #[.bool false, .slice ap tp capp] 28) = w5 at *
  clear HX hpa HVP HXV G4 G4X GB G3 G3X GA G2 G2X G0 HB1 HC1 HR
  go_wp2_with (fail)
  go_loopw [8] (fun s8 wx => ∃ k : Nat, s8 = .int .i64 (k + 1 : Nat) ∧ k ≤ 90 ∧ ScI w wx xa pa X (CosM.sinS X k) (CosM.cosS X k) (CosM.pt X k)) (fun s8 _ => 100 - (intOf s8).toNat)
  case atStart => exact ⟨0, rfl, by omega, HI.out⟩
  case round =>
    obtain ⟨k, rfl, hk, hi⟩ := hrel
    have HK := Hq0 hi
    obtain ⟨vp, tp, hp1, hp2⟩ := hi.p
    obtain ⟨ap, capp, rfl, _⟩ := hp2.own.slice
    obtain ⟨x0, x1, _, _⟩ := cell_two hp1
    have HS := Hq0 (fun (wx : World) (g : wr.grownBy wx none) => WSign_any (x := .agg #[.bool (decide (CosM.pt X k < 0)), .slice ap tp capp]) (n := CosM.pt X k) ⟨_, rfl, hp2.same g⟩)
    obtain ⟨P, hP⟩ : ∃ P, CosM.pt X k = P := ⟨_, rfl⟩
    obtain ⟨C, hC⟩ : ∃ C, CosM.cosS X k = C := ⟨_, rfl⟩
    obtain ⟨S, hS⟩ : ∃ S, CosM.sinS X k = S := ⟨_, rfl⟩
    rw [hP, hC, hS] at HK
    rw [hP] at HS x0
    obtain ⟨bp, hbp⟩ : ∃ bp, decide (P < 0) = bp := ⟨_, rfl⟩
    obtain ⟨cz, hcz⟩ : ∃ cz, wcmp P 0 = cz := ⟨_, rfl⟩
    rw [hbp] at HS x0
    rw [hcz] at HS
    have HP2 := Hq0 (show NatOf wr 0 (.slice ap tp capp) P.natAbs tp by rw [← hP]; exact hp2)
    have HBP := Hq0 hbp
    have HPE := Hq0 hP; have HCE := Hq0 hC; have HSE := Hq0 hS
    clear hi hp1 hp2 hbp hP hC hS
    by_cases hP0 : P = 0
    · have hc0 : cz = 0 := by rw [← hcz]; exact (wcmp_zero P).2 hP0
      subst hc0
      have HP0 := Hq0 hP0
      obtain ⟨v1, t1, s1, s2⟩ := HK.out.s
      obtain ⟨v2, t2, c1, c2⟩ := HK.out.c
      clear hcz hP0
      go_wp2_with (fail)
      refine (HS.out _ (grown_refl _ _)).mono ?_
      rintro r w6 ⟨rfl, g6⟩
      have e1 := kpb g6 s1
      have e2 := kpb g6 c1
      have HC2 := Hq0 (c2.same g6)
      obtain ⟨a1, cap1, rfl, _⟩ := s2.own.slice
      obtain ⟨a2, cap2, rfl, _⟩ := c2.own.slice
      clear s1 c1 s2 c2 x0 x1
      go_upto_region 15 with (fail)
      have z0 := cell_two e1
      have z1 := cell_two e2
      generalize decide (S < 0) = bsn at *
      generalize hbc : decide (C < 0) = bcn at *
      have HBC := Hq0 hbc
      have E1 := Hq0 e1
      have E2 := Hq0 e2
      obtain ⟨q0, q1, q2, q3⟩ := z0
      obtain ⟨r0, r1, r2, r3⟩ := z1
      have i0 : w6.setCell ⟨w.heap.size + 1, 0, none⟩ (.bool bsn) = w6 := setCell_id e1 rfl
      have i1 : w6.setCell ⟨w.heap.size + 1, 1, none⟩ (.slice a1 t1 cap1) = w6 := setCell_id e1 rfl
      have i2 : w6.setCell ⟨w.heap.size + 1 + 1, 0, none⟩ (.bool bcn) = w6 := setCell_id e2 rfl
      have i3 : w6.setCell ⟨w.heap.size + 1 + 1, 1, none⟩ (.slice a2 t2 cap2) = w6 := setCell_id e2 rfl
      have I := Hq0 (And.intro i0 (And.intro i1 (And.intro i2 i3)))
      have GE := Hq0 (grown_trans HK.out.g (grown_trans g6 (grown_drew w6)))
      have HC3 := Hq0 (HC2.out.same (grown_drew w6))
      clear hbc e1 e2 i0 i1 i2 i3 g6
      go_region
      rw [I.out.1, I.out.2.1, I.out.2.2.1, I.out.2.2.2]
      go_wp2
      have hd : ∀ p, w6.drew.cell? p = w6.cell? p := fun _ => rfl
      refine bodyPost_ret (v := .tuple #[.agg #[.bool bsn, .slice a1 t1 cap1], .agg #[.bool bcn, .slice a2 t2 cap2]]) (by simp [results, Tryz.func11, go_sem, hd, q0, q1, r0, r1]; try rfl) rfl ?_
      have e := CosM.cosS_100 X k (by rw [HPE.out, HP0.out]) (by omega)
      rw [HCE.out] at e
      exact ⟨bsn, a1, t1, cap1, _, t2, rfl, ⟨_, by rw [← e, HBC.out], by rw [← e]; exact HC3.out⟩, GE.out⟩
    · have hk90 : k < 90 := CosM.pt_ne X hX4 k (by rw [HPE.out]; exact hP0)
      have hcb : (cz == 0) = false := by
        have : cz ≠ 0 := fun e => hP0 ((wcmp_zero P).1 (by rw [hcz]; exact e))
        simpa using this
      have HX4 := Hq0 hX4
      clear hcz hP0 hX4
      go_wp2_with (fail)
      refine (HS.out _ (grown_refl _ _)).mono ?_
      rintro r w6 ⟨rfl, g6⟩
      have HK6 := Hq0 (HK.out.same g6)
      have HP6 := Hq0 (HP2.out.same g6)
      clear g6 HK HP2 HS x0 x1
      go_upto_block 2 with (fail)
      have HBC : Hid (C.natAbs < 10 ^ (9 * 6)) := Hq0 (by have := CosM.cosS_abs X HX4.out k; rw [HCE.out] at this; omega)
      have HBS : Hid (S.natAbs < 10 ^ (9 * 6)) := Hq0 (by have := CosM.sinS_abs X HX4.out k; rw [HSE.out] at this; omega)
      have HBP : Hid (P.natAbs < 10 ^ (9 * 6)) := Hq0 (by have := CosM.pt_abs X HX4.out k; rw [HPE.out] at this; omega)
      have HKK := Hq0 hk90
      go_cut [] from 18 to 42 (fun wx => ScI w wx xa pa X (S + CosM.sgS k * P) (C + CosM.sg k * P) P)
      case first =>
        obtain ⟨j, hj⟩ : ∃ j : Int, ((k : Int) + 1) % 4 = j := ⟨_, rfl⟩
        rw [hj]
        have hjj : j = 0 ∨ j = 1 ∨ j = 2 ∨ j = 3 := by omega
        rcases hjj with rfl | rfl | rfl | rfl
        · have hk4 : k % 4 = 3 := by omega
          have e1 : C + CosM.sg k * P = C := by unfold CosM.sg; rw [hk4]; simp
          have e2 : S + CosM.sgS k * P = S + -P := by unfold CosM.sgS; rw [hk4]; simp
          have E1 := Hq0 e1
          have E2 := Hq0 e2
          clear e1 e2 hk4 hj
          obtain ⟨v2, t2, c1, c2⟩ := HK6.out.s
          obtain ⟨v3, t3, p1, p2⟩ := HK6.out.p
          obtain ⟨a2, cap2, rfl, _⟩ := c2.own.slice
          obtain ⟨a3, cap3, rfl, _⟩ := p2.own.slice
          have ht2 : t2 ≤ 1000 := Nat.le_trans (c2.tk 6 (HBS.out)) (by decide)
          have ht3 : t3 ≤ 1000 := Nat.le_trans (p2.tk 6 (HBP.out)) (by decide)
          have HMI := Hq0 (fun (wx : World) (g : w6.grownBy wx none) => Minus_any (x := .agg #[.bool (decide (P < 0)), .slice a3 t3 cap3]) (n := P) ⟨_, rfl, p2.same g⟩)
          have HA := Hq0 (fun (wx : World) (g : w6.grownBy wx none) (y : Value) (b : Nat) (h : WhV wx b y (-P) t3) => WAdd_any (x := .agg #[.bool (decide (S < 0)), .slice a2 t2 cap2]) (n := S) (m := -P) ⟨_, rfl, c2.same g⟩ h ht2 ht3)
          obtain ⟨x0, x1, x2, x3⟩ := cell_two c1
          obtain ⟨z0, z1, _, _⟩ := cell_two p1
          generalize decide (S < 0) = bc at *
          generalize decide (P < 0) = bp at *
          have HC1 := Hq0 c1
          have HZ1 := Hq0 p1
          clear c2 p2 c1 p1 ht2 ht3
          go_upto_region 7 with (fail)
          go_region_with (first
            | (go_at_call 10; refine (HMI.out _ (grown_drew _)).mono ?_; rintro r w7 ⟨y, rfl, h7, g7⟩; have G7 := Hq0 (grown_trans (grown_drew w6) g7); have H7 := Hq0 h7; have k7 := kpb G7.out HC1.out; obtain ⟨k0, k1, _, _⟩ := cell_two k7; clear k7 h7 g7)
            | (go_at_call 40; refine (HA.out _ G7.out _ _ H7.out).mono ?_; rintro r w8 ⟨y, t8, rfl, ⟨v8, rfl, h8⟩, g8⟩; obtain ⟨a8, cap8, rfl, _⟩ := h8.own.slice; generalize hbz : decide (S + -P < 0) = bz at *; have e8 := kpb (grown_trans G7.out g8) HC1.out; have HBZ := Hq0 hbz; have HE8 := Hq0 e8; have H8 := Hq0 h8; have G8 := Hq0 (grown_trans G7.out g8); obtain ⟨y0, y1, y2, y3⟩ := cell_two e8; clear hbz h8 g8 e8))
          all_goals
            obtain ⟨w9, hw9, n1, n2, n3⟩ := WVar.put HE8.out HBZ.out (H8.out.base (Nat.zero_le _))
            have HW9 := Hq0 hw9
            have HN := Hq0 (And.intro n1 (And.intro n2 n3))
            have G7 := G8
            clear hw9 n1 n2 n3
            go_wp2_with (fail)
            (try rw [HW9.out])
            go_meet
            rw [E1.out, E2.out]
            refine ⟨HN.out.1, HN.out.2.1 _ _ (by omega) (HK6.out.c.same G7.out), HN.out.2.1 _ _ (by have := HL1.out; omega) (HK6.out.x.same G7.out), HN.out.2.1 _ _ (by have := HL1.out; have := HL2.out; omega) (HK6.out.p.same G7.out), HN.out.2.2 _ (grown_trans HK6.out.g G7.out) (by omega)⟩
        · have hk4 : k % 4 = 0 := by omega
          have e1 : C + CosM.sg k * P = C + P := by unfold CosM.sg; rw [hk4]; simp
          have e2 : S + CosM.sgS k * P = S := by unfold CosM.sgS; rw [hk4]; simp
          have E1 := Hq0 e1
          have E2 := Hq0 e2
          clear e1 e2 hk4 hj
          obtain ⟨v2, t2, c1, c2⟩ := HK6.out.c
          obtain ⟨v3, t3, p1, p2⟩ := HK6.out.p
          obtain ⟨a2, cap2, rfl, _⟩ := c2.own.slice
          obtain ⟨a3, cap3, rfl, _⟩ := p2.own.slice
          have ht2 : t2 ≤ 1000 := Nat.le_trans (c2.tk 6 (HBC.out)) (by decide)
          have ht3 : t3 ≤ 1000 := Nat.le_trans (p2.tk 6 (HBP.out)) (by decide)
          have HA := Hq0 (fun (wx : World) (g : w6.grownBy wx none) => WAdd_any (x := .agg #[.bool (decide (C < 0)), .slice a2 t2 cap2]) (y := .agg #[.bool (decide (P < 0)), .slice a3 t3 cap3]) (n := C) (m := P) ⟨_, rfl, c2.same g⟩ ⟨_, rfl, p2.same g⟩ ht2 ht3)
          obtain ⟨x0, x1, x2, x3⟩ := cell_two c1
          obtain ⟨z0, z1, _, _⟩ := cell_two p1
          generalize decide (C < 0) = bc at *
          generalize decide (P < 0) = bp at *
          have HC1 := Hq0 c1
          have HZ1 := Hq0 p1
          clear c2 p2 c1 p1 ht2 ht3
          go_wp2_with (fail)
          refine (HA.out _ (grown_refl _ _)).mono ?_
          rintro r w7 ⟨y, t7, rfl, ⟨v7, rfl, h7⟩, g7⟩
          obtain ⟨a7, cap7, rfl, _⟩ := h7.own.slice
          generalize hbz : decide (C + P < 0) = bz at *
          have e7 := kpb g7 HC1.out
          have HBZ := Hq0 hbz
          have H7 := Hq0 h7
          have G7 := Hq0 g7
          obtain ⟨y0, y1, y2, y3⟩ := cell_two e7
          obtain ⟨w9, hw9, n1, n2, n3⟩ := WVar.put e7 hbz (h7.base (Nat.zero_le _))
          have HW9 := Hq0 hw9
          have HN := Hq0 (And.intro n1 (And.intro n2 n3))
          clear hbz h7 g7 e7 hw9 n1 n2 n3 x0 x1 z0 z1
          go_wp2_with (fail)
          (try rw [HW9.out])
          go_meet
          rw [E1.out, E2.out]
          refine ⟨HN.out.2.1 _ _ (by omega) (HK6.out.s.same G7.out), HN.out.1, HN.out.2.1 _ _ (by have := HL1.out; omega) (HK6.out.x.same G7.out), HN.out.2.1 _ _ (by have := HL1.out; have := HL2.out; omega) (HK6.out.p.same G7.out), HN.out.2.2 _ (grown_trans HK6.out.g G7.out) (by omega)⟩
        · have hk4 : k % 4 = 1 := by omega
          have e1 : C + CosM.sg k * P = C := by unfold CosM.sg; rw [hk4]; simp
          have e2 : S + CosM.sgS k * P = S + P := by unfold CosM.sgS; rw [hk4]; simp
          have E1 := Hq0 e1
          have E2 := Hq0 e2
          clear e1 e2 hk4 hj
          obtain ⟨v2, t2, c1, c2⟩ := HK6.out.s
          obtain ⟨v3, t3, p1, p2⟩ := HK6.out.p
          obtain ⟨a2, cap2, rfl, _⟩ := c2.own.slice
          obtain ⟨a3, cap3, rfl, _⟩ := p2.own.slice
          have ht2 : t2 ≤ 1000 := Nat.le_trans (c2.tk 6 (HBS.out)) (by decide)
          have ht3 : t3 ≤ 1000 := Nat.le_trans (p2.tk 6 (HBP.out)) (by decide)
          have HA := Hq0 (fun (wx : World) (g : w6.grownBy wx none) => WAdd_any (x := .agg #[.bool (decide (S < 0)), .slice a2 t2 cap2]) (y := .agg #[.bool (decide (P < 0)), .slice a3 t3 cap3]) (n := S) (m := P) ⟨_, rfl, c2.same g⟩ ⟨_, rfl, p2.same g⟩ ht2 ht3)
          obtain ⟨x0, x1, x2, x3⟩ := cell_two c1
          obtain ⟨z0, z1, _, _⟩ := cell_two p1
          generalize decide (S < 0) = bc at *
          generalize decide (P < 0) = bp at *
          have HC1 := Hq0 c1
          have HZ1 := Hq0 p1
          clear c2 p2 c1 p1 ht2 ht3
          go_wp2_with (fail)
          refine (HA.out _ (grown_refl _ _)).mono ?_
          rintro r w7 ⟨y, t7, rfl, ⟨v7, rfl, h7⟩, g7⟩
          obtain ⟨a7, cap7, rfl, _⟩ := h7.own.slice
          generalize hbz : decide (S + P < 0) = bz at *
          have e7 := kpb g7 HC1.out
          have HBZ := Hq0 hbz
          have H7 := Hq0 h7
          have G7 := Hq0 g7
          obtain ⟨y0, y1, y2, y3⟩ := cell_two e7
          obtain ⟨w9, hw9, n1, n2, n3⟩ := WVar.put e7 hbz (h7.base (Nat.zero_le _))
          have HW9 := Hq0 hw9
          have HN := Hq0 (And.intro n1 (And.intro n2 n3))
          clear hbz h7 g7 e7 hw9 n1 n2 n3 x0 x1 z0 z1
          go_wp2_with (fail)
          (try rw [HW9.out])
          go_meet
          rw [E1.out, E2.out]
          refine ⟨HN.out.1, HN.out.2.1 _ _ (by omega) (HK6.out.c.same G7.out), HN.out.2.1 _ _ (by have := HL1.out; omega) (HK6.out.x.same G7.out), HN.out.2.1 _ _ (by have := HL1.out; have := HL2.out; omega) (HK6.out.p.same G7.out), HN.out.2.2 _ (grown_trans HK6.out.g G7.out) (by omega)⟩
        · have hk4 : k % 4 = 2 := by omega
          have e1 : C + CosM.sg k * P = C + -P := by unfold CosM.sg; rw [hk4]; simp
          have e2 : S + CosM.sgS k * P = S := by unfold CosM.sgS; rw [hk4]; simp
          have E1 := Hq0 e1
          have E2 := Hq0 e2
          clear e1 e2 hk4 hj
          obtain ⟨v2, t2, c1, c2⟩ := HK6.out.c
          obtain ⟨v3, t3, p1, p2⟩ := HK6.out.p
          obtain ⟨a2, cap2, rfl, _⟩ := c2.own.slice
          obtain ⟨a3, cap3, rfl, _⟩ := p2.own.slice
          have ht2 : t2 ≤ 1000 := Nat.le_trans (c2.tk 6 (HBC.out)) (by decide)
          have ht3 : t3 ≤ 1000 := Nat.le_trans (p2.tk 6 (HBP.out)) (by decide)
          have HMI := Hq0 (fun (wx : World) (g : w6.grownBy wx none) => Minus_any (x := .agg #[.bool (decide (P < 0)), .slice a3 t3 cap3]) (n := P) ⟨_, rfl, p2.same g⟩)
          have HA := Hq0 (fun (wx : World) (g : w6.grownBy wx none) (y : Value) (b : Nat) (h : WhV wx b y (-P) t3) => WAdd_any (x := .agg #[.bool (decide (C < 0)), .slice a2 t2 cap2]) (n := C) (m := -P) ⟨_, rfl, c2.same g⟩ h ht2 ht3)
          obtain ⟨x0, x1, x2, x3⟩ := cell_two c1
          obtain ⟨z0, z1, _, _⟩ := cell_two p1
          generalize decide (C < 0) = bc at *
          generalize decide (P < 0) = bp at *
          have HC1 := Hq0 c1
          have HZ1 := Hq0 p1
          clear c2 p2 c1 p1 ht2 ht3
          go_upto_region 13 with (fail)
          go_region_with (first
            | (go_at_call 10; refine (HMI.out _ (grown_drew _)).mono ?_; rintro r w7 ⟨y, rfl, h7, g7⟩; have G7 := Hq0 (grown_trans (grown_drew w6) g7); have H7 := Hq0 h7; have k7 := kpb G7.out HC1.out; obtain ⟨k0, k1, _, _⟩ := cell_two k7; clear k7 h7 g7)
            | (go_at_call 40; refine (HA.out _ G7.out _ _ H7.out).mono ?_; rintro r w8 ⟨y, t8, rfl, ⟨v8, rfl, h8⟩, g8⟩; obtain ⟨a8, cap8, rfl, _⟩ := h8.own.slice; generalize hbz : decide (C + -P < 0) = bz at *; have e8 := kpb (grown_trans G7.out g8) HC1.out; have HBZ := Hq0 hbz; have HE8 := Hq0 e8; have H8 := Hq0 h8; have G8 := Hq0 (grown_trans G7.out g8); obtain ⟨y0, y1, y2, y3⟩ := cell_two e8; clear hbz h8 g8 e8))
          all_goals
            obtain ⟨w9, hw9, n1, n2, n3⟩ := WVar.put HE8.out HBZ.out (H8.out.base (Nat.zero_le _))
            have HW9 := Hq0 hw9
            have HN := Hq0 (And.intro n1 (And.intro n2 n3))
            have G7 := G8
            clear hw9 n1 n2 n3
            go_wp2_with (fail)
            (try rw [HW9.out])
            go_meet
            rw [E1.out, E2.out]
            refine ⟨HN.out.2.1 _ _ (by omega) (HK6.out.s.same G7.out), HN.out.1, HN.out.2.1 _ _ (by have := HL1.out; omega) (HK6.out.x.same G7.out), HN.out.2.1 _ _ (by have := HL1.out; have := HL2.out; omega) (HK6.out.p.same G7.out), HN.out.2.2 _ (grown_trans HK6.out.g G7.out) (by omega)⟩
      case rest =>
        have HK9 := Hq0 hcut
        obtain ⟨v2, t2, c1, c2⟩ := hcut.p
        obtain ⟨v3, t3, p1, p2⟩ := hcut.x
        obtain ⟨a2, cap2, rfl, _⟩ := c2.own.slice
        obtain ⟨a3, cap3, rfl, _⟩ := p2.own.slice
        have ht2 : t2 ≤ 1000 := Nat.le_trans (c2.tk 6 HBP.out) (by decide)
        have ht3 : t3 ≤ 1000 := Nat.le_trans (p2.tk 5 (by have := HX4.out; omega)) (by decide)
        have HM := Hq0 (WMul_any (x := .agg #[.bool (decide (P < 0)), .slice a2 t2 cap2]) (y := .agg #[.bool (decide (X < 0)), .slice a3 t3 cap3]) (n := P) (m := X) ⟨_, rfl, c2⟩ ⟨_, rfl, p2⟩ ht2 ht3)
        have HC1 := Hq0 c1
        obtain ⟨x0, x1, _, _⟩ := cell_two c1
        obtain ⟨z0, z1, _, _⟩ := cell_two p1
        generalize decide (P < 0) = bp at *
        generalize decide (X < 0) = bx at *
        clear hcut c1 c2 p1 p2 ht2 ht3 HP6 HBP HBC HBS hcb
        have hu : IntKind.u64.wrap ((k : Int) + 1) = (k : Int) + 1 := by rw [IntKind.wrap_u64]; omega
        have HPW := Hq0 (fun wx => Pow10_any 40 wx (by decide))
        have HNF : Hid (∀ wx, Calls Tryz.prog 43 #[.int .u64 ((k : Int) + 1)] wx fun e w' => NfRes wx (k + 1) e w') := Hq0 (fun wx => NatFrom_any (k + 1) wx (by omega))
        have hpos : 0 < 10 ^ 40 * (k + 1) := Nat.mul_pos (by decide) (by omega)
        have hbd : (P * X).natAbs * 10 ^ 0 < 10 ^ 3600 := by
          have h1 := CosM.pt_abs X HX4.out k
          rw [HPE.out] at h1
          rw [Int.natAbs_mul, Nat.pow_zero, Nat.mul_one]
          exact Nat.lt_of_le_of_lt (Nat.mul_le_mul h1 HX4.out) (by rw [← Nat.pow_add]; exact Nat.pow_lt_pow_right (by decide) (by decide))
        have hnx : ((P * X) * ((10 ^ 0 : Nat) : Int)).tdiv ((10 ^ 40 * (k + 1) : Nat) : Int) = CosM.pt X (k + 1) := by
          show _ = (CosM.pt X k * X).tdiv (10 ^ 40 * ((k + 1 : Nat) : Int))
          rw [HPE.out, Nat.pow_zero, Int.natCast_mul, Int.natCast_pow, Int.natCast_one, Int.mul_one]; rfl
        have HRO := Hq0 (fun (wx : World) (b td : Nat) (v u : Value) (tn : Nat) (bb : Bool) (hb : decide (P * X < 0) = bb) (hv : NatOf wx b v (P * X).natAbs tn) (hu : NatOf wx b u (10 ^ 40 * (k + 1)) td) => Round_any (x := .agg #[.bool bb, v, u]) (n := P * X) 0 ⟨v, u, by rw [hb], hv, hu⟩ (by decide) hbd hpos)
        rw [hnx] at HRO
        have HK1 := Hq0 (show k < 90 from hk90)
        clear hpos hbd hnx hk90 hk
        go_wp2_with (fail)
        refine HM.out.mono ?_
        rintro r w7 ⟨y, t7, rfl, ⟨v7, rfl, h7⟩, g7⟩
        obtain ⟨a7, cap7, rfl, _⟩ := h7.own.slice
        generalize hb7 : decide (P * X < 0) = b7 at *
        have HB7 := Hq0 hb7
        have H7 := Hq0 (h7.base (Nat.zero_le _))
        have G7 := Hq0 g7
        clear h7 g7 hb7 x0 x1 z0 z1
        go_wp2_with (fail)
        refine (HPW.out _).mono ?_
        rintro r w8 ⟨v8, t8, rfl, h8, g8⟩
        have H8 := Hq0 (h8.base (Nat.zero_le _))
        have H7 := Hq0 (H7.out.same g8)
        have G8 := Hq0 (grown_trans G7.out g8)
        clear h8 g8
        go_wp2_with (fail)
        refine (HNF.out _).mono ?_
        rintro r w9 ⟨v9, t9, rfl, h9, g9⟩
        have ht8 : t8 ≤ 1000 := Nat.le_trans (H8.out.tk 5 (by decide)) (by decide)
        have ht9 : t9 ≤ 1000 := Nat.le_trans (h9.tk 5 (by have := HK1.out; omega)) (by decide)
        have HMU := Hq0 (NatMul_any (H8.out.same g9) h9 ht8 ht9)
        have H7 := Hq0 (H7.out.same g9)
        have G9 := Hq0 (grown_trans G8.out g9)
        clear h9 g9 ht8 ht9 H8
        go_wp2_with (fail)
        refine HMU.out.mono ?_
        rintro r w10 ⟨v10, t10, rfl, h10, g10⟩
        obtain ⟨a10, cap10, rfl, _⟩ := h10.own.slice
        have HRR := Hq0 (HRO.out _ _ _ _ _ _ _ rfl (H7.out.same g10) (h10.base (Nat.zero_le _)))
        have G10 := Hq0 (grown_trans G9.out g10)
        clear h10 g10
        go_wp2_with (fail)
        refine HRR.out.mono ?_
        rintro r w11 ⟨y, t11, rfl, ⟨v11, rfl, h11⟩, g11⟩
        obtain ⟨a11, cap11, rfl, _⟩ := h11.own.slice
        have e11 := kpb (grown_trans G10.out g11) HC1.out
        have G11 := Hq0 (grown_trans G10.out g11)
        generalize hbz : decide (CosM.pt X (k + 1) < 0) = bz at *
        obtain ⟨y0, y1, y2, y3⟩ := cell_two e11
        obtain ⟨w12, hw12, n1, n2, n3⟩ := WVar.put e11 hbz h11
        have HW12 := Hq0 hw12
        have HN := Hq0 (And.intro n1 (And.intro n2 n3))
        clear hw12 n1 n2 n3 h11 g11 e11 hbz
        go_wp2_with (fail)
        rw [HW12.out, show wrap64 ((k : Int) + 1 + 1) = (k : Int) + 1 + 1 from by have := HK1.out; unfold wrap64; omega]
        have hk := HK1.out
        have l1 := HL1.out
        have l2 := HL2.out
        refine ⟨⟨k + 1, rfl, by omega, ?_⟩, by simp only [intOf]; omega⟩
        have eC : CosM.cosS X (k + 1) = C + CosM.sg k * P := by show CosM.cosS X k + CosM.sg k * CosM.pt X k = _; rw [HCE.out, HPE.out]
        have eS : CosM.sinS X (k + 1) = S + CosM.sgS k * P := by show CosM.sinS X k + CosM.sgS k * CosM.pt X k = _; rw [HSE.out, HPE.out]
        rw [eC, eS]
        exact ⟨HN.out.2.1 _ _ (by omega) (HK9.out.s.same G11.out), HN.out.2.1 _ _ (by omega) (HK9.out.c.same G11.out), HN.out.2.1 _ _ (by omega) (HK9.out.x.same G11.out), HN.out.1, HN.out.2.2 _ (grown_trans HK9.out.g G11.out) (by omega)⟩
end Go.Proofs.YtjcfacinlgogaaaGreatDoor
