/- The quotient of numbers in limbs, the long way. Conditions: at most 400 limbs each; the divisor of two limbs at least, not the greater. -/
import Derived.Test.YtjcfacinlgogaaaGreatDoorQ39
import Derived.Test.YtjcfacinlgogaaaGreatDoorQ40
import Derived.Test.YtjcfacinlgogaaaGreatDoorQ41
set_option linter.all false
set_option maxHeartbeats 4000000
set_option maxRecDepth 100000
set_option exponentiation.threshold 3000
namespace Go.Proofs.YtjcfacinlgogaaaGreatDoor
open Go.RowKit
theorem NatOf.tle {w : World} {b c t m : Nat} {v : Value} (h : NatOf w b v c t) (hc : c < 10 ^ (9 * m)) : t ≤ m := by
  rcases h.top with e | e
  · omega
  · have := (Nat.pow_lt_pow_iff_right (by decide : 1 < 10)).1 (Nat.lt_of_le_of_lt e hc); omega
theorem NatOf.kept {w w' : World} {b g c t : Nat} {v : Value} (h : NatOf w b v c t) (k : w.grownBy w' (some g)) (hv : v.ownBlock ≠ some g) : NatOf w' b v c t := ⟨h.own.kept k (.inr hv), h.lt, h.top⟩
theorem NatOf.one (w : World) {c : Nat} (hc : c < 1000000000) (h0 : 0 < c) : NatOf (w.alloc (.cells #[.int .u32 (c : Nat)] 73)) w.heap.size (.slice (some ⟨w.heap.size, 0, none⟩) 1 1) c 1 := by
  refine ⟨⟨rfl, .inr ⟨_, 1, _, rfl, Nat.le_refl _, heap_new _ _, Nat.le_refl _, by simp only [maxLen]; omega, rfl, ?_⟩⟩, by simpa using hc, .inr (by simp; omega)⟩
  unfold lim9
  simp
  omega
theorem row_one (w : World) (x : Nat) : (w.alloc (.cells #[.int .u32 (x : Nat)] 73)).ownsRow w.heap.size 73 1 (.slice (some ⟨w.heap.size, 0, none⟩) 1 1) 1 [.int .u32 (x : Nat)] :=
  ⟨rfl, .inr ⟨_, 1, _, rfl, Nat.le_refl _, heap_new _ _, Nat.le_refl _, by simp only [maxLen]; omega, rfl, rfl⟩⟩
theorem lim9_cons {r x t : Nat} (hx : x < 1000000000) : lim9 (r * 1000000000 + x) (t + 1) = .int .u32 (x : Nat) :: lim9 r t := by
  unfold lim9
  apply List.ext_getElem?
  intro j
  cases j with
  | zero =>
    rw [List.getElem?_map, List.getElem?_range (by omega)]
    simp only [Option.map_some, List.getElem?_cons_zero, Nat.mul_zero, Nat.pow_zero, Nat.div_one]
    rw [show (r * 1000000000 + x) % 1000000000 = x by omega]
  | succ j =>
    rw [List.getElem?_cons_succ, List.getElem?_map, List.getElem?_map]
    by_cases hj : j < t
    · rw [List.getElem?_range (by omega), List.getElem?_range hj]
      simp only [Option.map_some]
      rw [lim_next, Nat.div_div_eq_div_mul, Nat.mul_comm (10 ^ (9 * j)), ← Nat.div_div_eq_div_mul, show (r * 1000000000 + x) / 1000000000 = r by omega]
    · rw [List.getElem?_eq_none (by rw [List.length_range]; omega)]
      simp only [Option.map_none]
      rw [List.getElem?_eq_none (by rw [List.length_range]; omega)]
      simp only [Option.map_none]
theorem digit_done {r y d : Nat} (h1 : r / y ≤ d) (h2 : ¬ r < y * d) (hy : 0 < y) : d = r / y := by
  have : d ≤ r / y := by rw [Nat.le_div_iff_mul_le hy, Nat.mul_comm]; omega
  omega
theorem digit_down {r y d : Nat} (h1 : r / y ≤ d) (h2 : r < y * d) : r / y ≤ d - 1 ∧ 0 < d := by
  have : r / y < d := by
    rcases Nat.eq_zero_or_pos y with h0 | h0
    · subst h0; simp at h2
    · rw [Nat.div_lt_iff_lt_mul h0, Nat.mul_comm]; exact h2
  clear h1
  generalize r / y = q at *
  omega
def byOf (t : Nat) : Nat := 1000000000 / (t + 1)
theorem byOf_in {t : Nat} (h : t < 1000000000) (h0 : 0 < t) : 0 < byOf t ∧ byOf t < 1000000000 := by
  unfold byOf
  refine ⟨Nat.div_pos (by omega) (by omega), ?_⟩
  rw [Nat.div_lt_iff_lt_mul (by omega)]; omega
structure DvI (w wx : World) (X Y B gq g8 tx ty k : Nat) (xv yv rv : Value) : Prop where
  x : NatOf wx w.heap.size xv X tx
  y : NatOf wx w.heap.size yv Y ty
  c : wx.cell? ⟨g8, 0, none⟩ = some (.int .u32 (B : Nat))
  q : wx.ownsRow w.heap.size 73 1 (.slice (some ⟨gq, 0, none⟩) tx tx) tx (Q9 (X / Y) k tx)
  r : ∃ tr, NatOf wx (gq + 1) rv (X / 10 ^ (9 * k) % Y) tr
  g : w.grownBy wx none
  hx : xv.ownBlock ≠ some gq
  hy : yv.ownBlock ≠ some gq
  h8 : g8 ≠ gq
  hq : w.heap.size ≤ gq ∧ gq < wx.heap.size
theorem hX_slice {w : World} {b c t : Nat} {v : Value} (h : NatOf w b v c t) : ∃ a cap, v = .slice a t cap ∧ ((a = none ∧ t = 0) ∨ ∃ g, a = some ⟨g, 0, none⟩ ∧ b ≤ g) := h.own.slice
theorem by_eq {t : Nat} (h : t < 1000000000) : IntKind.u64.wrap (Int.tdiv 1000000000 (IntKind.u64.wrap (IntKind.u64.wrap (t : Int) + 1))) % 4294967296 = (byOf t : Int) ∧ ¬ IntKind.u64.wrap (IntKind.u64.wrap (t : Int) + 1) = 0 := by
  have e1 : IntKind.u64.wrap (t : Int) = t := by rw [IntKind.wrap_u64]; omega
  have e2 : IntKind.u64.wrap ((t : Int) + 1) = ((t + 1 : Nat) : Int) := by rw [IntKind.wrap_u64]; omega
  rw [e1, e2]
  refine ⟨?_, by omega⟩
  rw [Int.tdiv_eq_ediv_of_nonneg (by omega)]
  unfold byOf
  rw [show (1000000000 : Int) / ((t + 1 : Nat) : Int) = ((1000000000 / (t + 1) : Nat) : Int) from rfl, IntKind.wrap_u64]
  have : 1000000000 / (t + 1) ≤ 1000000000 := Nat.div_le_self _ _
  generalize 1000000000 / (t + 1) = q at *
  omega
theorem NatDiv_long {w : World} {base1 base2 a b ta n : Nat} {u v : Value} (ha : NatOf w base1 u a ta) (hb : NatOf w base2 v b (n + 1)) (hn : 1 ≤ n) (hta : ta ≤ 400) (hle : b ≤ a) : Calls Tryz.prog 74 #[u, v] w fun e w' => DvR9 w a b e w' := by
  obtain ⟨i0, hi0, hz0, hz1, hz2⟩ := info_parts inf79
  have hn4 : n + 1 ≤ ta := by
    rcases Nat.lt_or_ge ta (n + 1) with h | h
    · exact absurd (lim_lt ha hb h) (by omega)
    · exact h
  have HC := Hq0 (NatCmp_any ha hb)
  have hnc := ncmp_ge hle
  have hytop : 10 ^ (9 * n) ≤ b := by have := hb.top.resolve_left (by omega); simpa using this
  have hb0 : 0 < b := Nat.lt_of_lt_of_le (Nat.pow_pos (by decide)) hytop
  obtain ⟨a2, cap2, rfl, hac2⟩ := hb.own.slice
  rcases hac2 with ⟨_, h2⟩ | ⟨g2, rfl, _⟩
  · omega
  have hx := hb.own.cellAt n (by omega)
  rw [lim9_at (by omega)] at hx
  obtain ⟨yt, hyt⟩ : ∃ yt, b / 10 ^ (9 * n) % 1000000000 = yt := ⟨_, rfl⟩
  have hytl : yt < 1000000000 := by rw [← hyt]; exact Nat.mod_lt _ (by decide)
  have hyt0 : 0 < yt := by
    have h1 := lm9_top hb.lt
    unfold lm9 at h1
    rw [hyt] at h1
    rw [h1]; exact Nat.div_pos hytop (Nat.pow_pos (by decide))
  rw [hyt] at hx
  have hby := byOf_in hytl hyt0
  have HA := Hq0 ha; have HB := Hq0 hb; have HX := Hq0 hx; have HYT := Hq0 hytl; have HBY := Hq0 hby
  have HTT := Hq0 (And.intro hta (And.intro hn4 (And.intro hn hb0)))
  have hlen1 : (((n + 1 : Nat) : Int) == 1) = false := by simp; omega
  have hn9 : (n : Int) ≤ 400 := by omega
  generalize ncmp a b = nc at *
  obtain ⟨ebq, hbz⟩ := by_eq hytl
  have EBQ := Hq0 ebq
  clear ha hb hta hle hb0 hn4 hytop hyt hytl hyt0 hby hn ebq
  go_enter Tryz.func74, Tryz.ntmps74
  go_wp2_with (fail)
  refine HC.out.mono ?_
  rintro r w1 ⟨rfl, g1⟩
  have G1 := Hq0 g1
  have hx1 := keepc g1 HX.out
  clear g1 HC HX hx
  go_upto_region 7 with (fail)
  rw [EBQ.out]
  obtain ⟨by', hby'⟩ : ∃ z, byOf yt = z := ⟨_, rfl⟩
  rw [hby'] at HBY ⊢
  have HB1 := Hq0 (NatOf.one w1 HBY.out.2 HBY.out.1)
  have GW := Hq0 (grown_trans G1.out (grown_new w1 (.cells #[.int .u32 (by' : Nat)] 73)))
  have HCE := Hq0 (show (w1.alloc (.cells #[.int .u32 (by' : Nat)] 73)).cell? ⟨w1.heap.size, 0, none⟩ = some (.int .u32 (by' : Nat)) by unfold World.cell?; rw [heap_new]; rfl)
  have HG1 := Hq0 (show w.heap.size ≤ w1.heap.size from G1.out.size)
  generalize w1.alloc (.cells #[.int .u32 (by' : Nat)] 73) = w2 at *
  obtain ⟨g8, hg8⟩ : ∃ g, g = w1.heap.size := ⟨_, rfl⟩
  rw [← hg8] at HB1 HCE HG1 ⊢
  have M1 := Hq0 (NatMul_any (HA.out.same GW.out) HB1.out (by have := HTT.out.1; omega) (by decide))
  clear hx1 hbz hg8 hby' G1 EBQ hnc hlen1
  go_wp2_with (fail)
  refine M1.out.mono ?_
  rintro r w3 ⟨xv, tx, rfl, hX, g3⟩
  have htx : tx ≤ ta + 1 := hX.tle (by
    rw [show 9 * (ta + 1) = 9 * ta + 9 by omega, Nat.pow_add, show (10 : Nat) ^ 9 = 1000000000 by decide]
    exact Nat.mul_lt_mul'' HA.out.lt HBY.out.2)
  have HXX := Hq0 (hX.base GW.out.size)
  have G3 := Hq0 (grown_trans GW.out g3)
  have M2 := Hq0 (NatMul_any (HB.out.same G3.out) (HB1.out.same g3) (by have := HTT.out; omega) (by decide))
  have HB3 := Hq0 (HB1.out.same g3); have HCE := Hq0 (keepc g3 HCE.out)
  have HTX := Hq0 htx
  clear hX g3 htx M1 HB1 GW
  go_wp2_with (fail)
  refine M2.out.mono ?_
  rintro r w4 ⟨yv, ty, rfl, hY, g4⟩
  have hty : ty ≤ n + 2 := hY.tle (by
    rw [show 9 * (n + 2) = 9 * (n + 1) + 9 by omega, Nat.pow_add, show (10 : Nat) ^ 9 = 1000000000 by decide]
    exact Nat.mul_lt_mul'' HB.out.lt HBY.out.2)
  have HYY := Hq0 (hY.base G3.out.size)
  have G4 := Hq0 (grown_trans G3.out g4)
  have HXX := Hq0 (HXX.out.same g4); have HB3 := Hq0 (HB3.out.same g4); have HCE := Hq0 (keepc g4 HCE.out)
  have HTY := Hq0 hty
  have hmk := mk32 tx (by have := HTX.out; have := HTT.out.1; omega)
  obtain ⟨ax, capx, hxs, hacx⟩ := hX_slice HXX.out
  obtain ⟨ay, capy, hys, hacy⟩ := hX_slice HYY.out
  subst hxs hys
  have HZ := Hq0 (z32_row w4 tx (by have := HTX.out; have := HTT.out.1; omega))
  have GZ := Hq0 (grown_new w4 (z32 tx))
  clear hY g4 hty M2 G3
  go_upto_region 9 with (fail)
  obtain ⟨X, hXe⟩ : ∃ X, a * by' = X := ⟨_, rfl⟩
  obtain ⟨Y, hYe⟩ : ∃ Y, b * by' = Y := ⟨_, rfl⟩
  rw [hXe] at HXX
  rw [hYe] at HYY
  have HXE := Hq0 hXe; have HYE := Hq0 hYe
  have hY0 : 0 < Y := by rw [← hYe]; exact Nat.mul_pos HTT.out.2.2.2 HBY.out.1
  have HY0 := Hq0 hY0
  have hbx : ∀ (z : Option Addr) (t cap : Nat) (c : Nat), NatOf w4 w.heap.size (.slice z t cap) c t → (Value.slice z t cap).ownBlock ≠ some w4.heap.size := by
    intro z t cap c h e
    have := (h.own.lt w4.heap.size e).2
    omega
  have g8lt : g8 < w4.heap.size := by
    have := HB3.out.own.lt g8 rfl
    exact this.2
  have HI0 : Hid (DvI w (w4.alloc (z32 tx)) X Y by' w4.heap.size g8 tx ty tx (.slice ax tx capx) (.slice ay ty capy) (.slice none 0 0)) := Hq0
    ⟨HXX.out.same GZ.out, HYY.out.same GZ.out, keepc GZ.out HCE.out, by rw [Q9_all]; exact ⟨HZ.out.1, HZ.out.2.imp id (fun ⟨g, cap, cur, h1, h2, h3⟩ => ⟨g, cap, cur, h1, Nat.le_trans G4.out.size h2, h3⟩)⟩, ⟨0, by rw [Nat.div_eq_of_lt HXX.out.lt, Nat.zero_mod]; exact natOf_nil _ _⟩, grown_trans G4.out GZ.out, hbx _ _ _ _ HXX.out, hbx _ _ _ _ HYY.out, by omega, G4.out.size, by rw [size_alloc]; omega⟩
  generalize w4.alloc (z32 tx) = W5 at *
  generalize w4.heap.size = gq at *
  have htx4 : (tx : Int) ≤ 401 := by have := HTX.out; have := HTT.out.1; omega
  clear hmk HZ GZ HXX HYY HB3 HCE G4 hXe hYe hY0 hbx g8lt hacx
  go_wp2_with (fail)
  go_loopw [5, 11] (fun s5 s11 wx => ∃ k : Nat, k ≤ tx ∧ s11 = .int .i64 ((k : Int) - 1) ∧ DvI w wx X Y by' gq g8 tx ty k (.slice ax tx capx) (.slice ay ty capy) s5) (fun _ s11 _ => (intOf s11 + 1).toNat)
  case atStart => exact ⟨tx, Nat.le_refl _, rfl, HI0.out⟩
  case round =>
    obtain ⟨k, hk, rfl, hI⟩ := hrel
    have HI := Hq0 hI
    cases k with
    | zero =>
      obtain ⟨tr, hr⟩ := hI.r
      have e0 : X / 10 ^ (9 * 0) % Y = X % Y := by simp
      rw [e0] at hr
      have HR := Hq0 hr
      have htr : tr ≤ 1000 := by
        have h1 : X % Y < 10 ^ (9 * ty) := Nat.lt_trans (Nat.mod_lt _ HY0.out) hI.y.lt
        have := hr.tle h1; have := HTY.out; have := HTT.out; omega
      have HSH := Hq0 (natShort_any (b := by') hr htr HBY.out.1 HBY.out.2)
      have hc := hI.c
      have hqr := hI.q
      rw [Q9_zero] at hqr
      have HQR := Hq0 hqr
      clear hI hr htr e0 hk hqr
      go_wp2_with (fail)
      refine HSH.out.mono ?_
      rintro rr w6 ⟨qv, tq, rfl, hq6, g6⟩
      have HQ6 := Hq0 hq6
      have HQR6 := Hq0 (HQR.out.kept g6 (own_any _))
      have G6 := Hq0 (grown_trans HI.out.g g6)
      have hlt : X / Y < 10 ^ (9 * tx) := Nat.lt_of_le_of_lt (Nat.div_le_self _ _) HI.out.x.lt
      have HTR := Hq0 (natTrim_any HQR6.out hlt)
      have HGS := Hq0 (show w.heap.size ≤ wr.heap.size from HI.out.g.size)
      clear hq6 g6 hlt hc HSH
      go_wp2_with (fail)
      refine HTR.out.mono ?_
      rintro rr w7 ⟨a9, cap9, t9, rfl, -, hn9', -, rfl⟩
      have HN9 := Hq0 hn9'
      clear hn9' HTR
      go_wp2_with (fail)
      refine bodyPost_ret (v := .tuple #[.slice a9 t9 cap9, qv]) (by simp [results, Tryz.func74, go_sem]; try rfl) rfl ?_
      have e1 : X / Y = a / b := by rw [← HXE.out, ← HYE.out]; exact Nat.mul_div_mul_right _ _ HBY.out.1
      have e2 : X % Y / by' = a % b := by rw [← HXE.out, ← HYE.out, Nat.mul_mod_mul_right]; exact Nat.mul_div_cancel _ HBY.out.1
      exact ⟨_, _, t9, tq, rfl, by rw [← e1]; exact HN9.out, by rw [← e2]; exact HQ6.out.base HGS.out, G6.out⟩
    | succ kk =>
      rw [show ((kk + 1 : Nat) : Int) - 1 = (kk : Int) by omega]
      obtain ⟨tr, hr⟩ := hI.r
      obtain ⟨R, hR⟩ : ∃ R, X / 10 ^ (9 * (kk + 1)) % Y = R := ⟨_, rfl⟩
      rw [hR] at hr
      have hRY : R < Y := by rw [← hR]; exact Nat.mod_lt _ HY0.out
      have htr : tr ≤ ty := hr.tle (Nat.lt_trans hRY hI.y.lt)
      have hx := hI.x.own.slice
      obtain ⟨xi, hxi⟩ : ∃ xi, X / 10 ^ (9 * kk) % 1000000000 = xi := ⟨_, rfl⟩
      have hxil : xi < 1000000000 := by rw [← hxi]; exact Nat.mod_lt _ (by decide)
      obtain ⟨s1, s2⟩ := short_step (a := X) (k := kk) HY0.out
      rw [hR, hxi] at s1 s2
      have S1 := Hq0 s1; have S2 := Hq0 s2
      obtain ⟨azx, cpx, ezx, hacx⟩ := hI.x.own.slice
      injection ezx with ezx1 _ ezx3
      subst ezx1 ezx3
      rcases hacx with ⟨_, h2⟩ | ⟨gx, rfl, _⟩
      · omega
      have hxc := hI.x.own.cellAt kk (by omega)
      rw [lim9_at (by omega), hxi] at hxc
      have hkt : (kk : Int) < tx := by omega
      have HR := Hq0 hr; have HRY := Hq0 hRY; have HTR := Hq0 htr; have HXI := Hq0 hxil; have HKT := Hq0 hk
      obtain ⟨ar, capr, hrs, hacr⟩ := hr.own.slice
      subst hrs
      clear hI hr hR hRY htr hx hxi s1 s2 hk
      go_upto_region 12 with (fail)
      go_cut [5] from 63 to 70 (fun s5 wx => (∃ t', NatOf wx (gq + 1) s5 (R * 1000000000 + xi) t') ∧ wr.grownBy wx none)
      case first =>
        have hlim := lim9_cons (r := R) (t := tr) HXI.out
        have HLIM := Hq0 hlim
        have h2lt : R * 1000000000 + xi < 10 ^ (9 * (tr + 1)) := by
          rw [show 9 * (tr + 1) = 9 * tr + 9 by omega, Nat.pow_add, show (10 : Nat) ^ 9 = 1000000000 by decide]
          have h1 := HR.out.lt
          have h2 : (R + 1) * 1000000000 ≤ 10 ^ (9 * tr) * 1000000000 := Nat.mul_le_mul_right _ h1
          have h3 := HXI.out
          omega
        have H2LT := Hq0 h2lt
        have HE := Hq0 (row_one wr xi)
        have HGN := Hq0 (grown_new wr (.cells #[.int .u32 (xi : Nat)] 73))
        have HGQ := Hq0 HI.out.hq
        clear hlim h2lt
        rcases hacr with ⟨rfl, h2⟩ | ⟨gr, rfl, hgr⟩
        · subst h2
          have hrow : (wr.alloc (.cells #[.int .u32 (xi : Nat)] 73)).ownsRow (gq + 1) 73 1 (.slice (some ⟨wr.heap.size, 0, none⟩) 1 1) (0 + 1) (lim9 (R * 1000000000 + xi) (0 + 1)) := by
            rw [HLIM.out]; exact HE.out.mono HGQ.out.2
          have HTM := Hq0 (natTrim_any hrow H2LT.out)
          clear hrow
          go_wp2_with (fail)
          refine HTM.out.mono ?_
          rintro rr w7 ⟨a9, cap9, t9, rfl, -, hn9', -, rfl⟩
          have HN9 := Hq0 hn9'
          clear hn9' HTM
          go_wp2_with (fail)
          go_meet
          case rel => exact ⟨⟨t9, HN9.out⟩, HGN.out⟩
        · have hcells : ∀ j u, (lim9 R tr)[j]? = some u → (wr.alloc (.cells #[.int .u32 (xi : Nat)] 73)).cell? ((⟨gr, 0, none⟩ : Addr).add j) = some u := by
            intro j u hju
            have hj : j < tr := by
              rcases Nat.lt_or_ge j tr with h | h
              · exact h
              · rw [List.getElem?_eq_none (by rw [lim9_len]; exact h)] at hju; cases hju
            have := (HR.out.same HGN.out).own.cellAt j (by omega)
            rw [hju] at this
            rw [add_none, Nat.zero_add]; exact this
          have hone : ∀ u ∈ lim9 R tr, u.oneCell' = true := by
            intro u hu
            unfold lim9 at hu
            obtain ⟨_, _, rfl⟩ := List.mem_map.1 hu
            rfl
          have ht5 : tr ≤ 500 := by have := HTR.out; have := HTY.out; have := HTT.out; omega
          have HCL := Hq0 hcells; have HON := Hq0 hone
          clear hcells hone
          go_wp2_with (at_builtin; refine wpList_append_own _ rfl (.tmp 67) (.tmp 68) 26 rfl wr.heap.size 73 i0 _ 1 4 und35 hi0 hz0 hz1 hz2 rfl (by decide) _ 1 [.int .u32 (xi : Nat)] rfl HE.out ⟨gr, 0, none⟩ tr capr (lim9 R tr) rfl (by rw [lim9_len]; omega) HCL.out HON.out (by simp only [maxLen]; omega) (by omega) (HGN.out.size) ?_; intro v' w' hown' hg' hv')
          have hrow : w'.ownsRow (gq + 1) 73 1 v' (tr + 1) (lim9 (R * 1000000000 + xi) (tr + 1)) := by
            rw [HLIM.out]
            have := hown'.mono HGQ.out.2
            rw [Nat.add_comm 1 tr] at this
            exact this
          have HTM := Hq0 (natTrim_any hrow H2LT.out)
          have HGW := Hq0 (grown_ownb HGN.out hg' (by intro b hb; cases hb; exact Nat.le_refl _))
          clear hrow hown' hg' hv'
          refine HTM.out.mono ?_
          rintro rr w7 ⟨a9, cap9, t9, rfl, -, hn9', -, rfl⟩
          have HN9 := Hq0 hn9'
          clear hn9' HTM
          go_wp2_with (fail)
          go_meet
          case rel => exact ⟨⟨t9, HN9.out⟩, HGW.out⟩
      case rest =>
        obtain ⟨⟨t', hr2⟩, hg2⟩ := hcut
        obtain ⟨R2, hR2⟩ : ∃ R2, R * 1000000000 + xi = R2 := ⟨_, rfl⟩
        rw [hR2] at hr2 S1 S2
        have hR2Y : R2 < Y * 1000000000 := by
          have h1 := HRY.out; have h2 := HXI.out
          have : (R + 1) * 1000000000 ≤ Y * 1000000000 := Nat.mul_le_mul_right _ h1
          omega
        have hR2l : R2 < 10 ^ (9 * (ty + 1)) := by
          refine Nat.lt_trans hR2Y ?_
          rw [show 9 * (ty + 1) = 9 * ty + 9 by omega, Nat.pow_add, show (10 : Nat) ^ 9 = 1000000000 by decide]
          exact Nat.mul_lt_mul_of_pos_right HI.out.y.lt (by decide)
        have ht' : t' ≤ ty + 1 := hr2.tle hR2l
        have hty0 : 0 < ty := by
          rcases Nat.eq_zero_or_pos ty with h | h
          · have h1 := HI.out.y.lt; have h2 := HY0.out
            rw [h] at h1; simp at h1; omega
          · exact h
        have hty4 : ty ≤ 402 := by have := HTY.out; have := HTT.out; omega
        have HTB := Hq0 (And.intro ht' (And.intro hty0 hty4))
        have HGS := Hq0 (natGuess_any hr2 (HI.out.y.same hg2) hty0 (by omega) (by omega) hR2Y)
        have HR2 := Hq0 hr2; have HG2 := Hq0 hg2; have HR2Y := Hq0 hR2Y; have HR2L := Hq0 hR2l
        clear hr2 hg2 hR2 hR2Y hR2l ht' hty0 hty4 hxc
        go_wp2_with (fail)
        refine HGS.out.mono ?_
        rintro rr w8 ⟨d, rfl, hd1, hd2, rfl⟩
        have HD := Hq0 (And.intro hd1 hd2)
        have HNF := Hq0 (fun wx => NatFrom_any d wx (by omega))
        clear hd1 hd2 HGS
        go_wp2_with (fail)
        refine (HNF.out _).mono ?_
        rintro rr w9 ⟨dv, td, rfl, hdv, g9⟩
        have htd : td ≤ 1 := hdv.tle (by have := HD.out.2; simpa using this)
        have HMU := Hq0 (NatMul_any ((HI.out.y.same HG2.out).same g9) hdv (by have := HTB.out; omega) (by omega))
        have HG9 := Hq0 (grown_trans HG2.out g9)
        have HR9 := Hq0 (HR2.out.same g9)
        clear hdv g9 htd HNF HR2
        go_wp2_with (fail)
        refine HMU.out.mono ?_
        rintro rr w10 ⟨pv, tp, rfl, hp, g10⟩
        have HGT := Hq0 (grown_trans HG9.out g10)
        have HR10 := Hq0 (HR9.out.same g10)
        have hbase : gq + 1 ≤ w9.heap.size := Nat.le_trans HI.out.hq.2 HG9.out.size
        have HP := Hq0 (hp.base hbase)
        clear hp g10 HMU HR9 HG9 HG2 hbase
        go_upto_block 2 with (fail)
        go_cut [12, 13] from 78 to 86 (fun s12 s13 wx => s12 = .int .u64 ((R2 / Y : Nat) : Int) ∧ (∃ tp', NatOf wx (gq + 1) s13 (Y * (R2 / Y)) tp') ∧ w10.grownBy wx none)
        case first =>
          go_wp2_with (fail)
          go_loopw [12, 13] (fun s12 s13 wx => ∃ d' : Nat, s12 = .int .u64 (d' : Nat) ∧ R2 / Y ≤ d' ∧ d' ≤ d ∧ (∃ tp', NatOf wx (gq + 1) s13 (Y * d') tp') ∧ w10.grownBy wx none) (fun s12 _ _ => (intOf s12).toNat)
          case atStart => exact ⟨d, rfl, HD.out.1, Nat.le_refl _, ⟨tp, HP.out⟩, grown_refl _ _⟩
          case round =>
            obtain ⟨d', rfl, hd1, hd2, ⟨tp', hp'⟩, hg'⟩ := hrel
            have hyl : NatOf _ w.heap.size (.slice ay ty capy) Y ty := (HI.out.y.same HGT.out).same hg'
            have hrl := HR10.out.same hg'
            have hpl : tp' ≤ ty + 1 := hp'.tle (by
              rw [show 9 * (ty + 1) = 9 * ty + 9 by omega, Nat.pow_add, show (10 : Nat) ^ 9 = 1000000000 by decide]
              exact Nat.mul_lt_mul'' HI.out.y.lt (by have := HD.out.2; omega))
            have HCM := Hq0 (NatCmp_any hp' hrl)
            have HPP := Hq0 hp'; have HYL := Hq0 hyl; have HGL := Hq0 hg'; have HPL := Hq0 hpl; have HDD := Hq0 (And.intro hd1 hd2)
            clear hp' hyl hrl hg' hpl
            by_cases hlt : R2 < Y * d'
            · rw [ncmp_gt hlt] at HCM
              obtain ⟨q1, q2⟩ := digit_down hd1 hlt
              have hle2 : Y ≤ Y * d' := Nat.le_mul_of_pos_right _ q2
              have HQ12 := Hq0 (And.intro q1 q2)
              have HLE2 := Hq0 hle2
              have ed : IntKind.u64.wrap ((d' : Int) - 1) = ((d' - 1 : Nat) : Int) := by have := HD.out.2; rw [IntKind.wrap_u64]; omega
              have ed2 : (d' : Int) - 1 = ((d' - 1 : Nat) : Int) := by omega
              have ED := Hq0 ed; have ED2 := Hq0 ed2
              clear hlt q1 hle2 hd1 hd2 ed ed2
              go_wp2_with (fail)
              refine HCM.out.mono ?_
              rintro rr w11 ⟨rfl, g11⟩
              have HSB := Hq0 (NatSub_any (HPP.out.same g11) (HYL.out.same g11) (by have := HPL.out; have := HTB.out; omega) HLE2.out)
              have HG11 := Hq0 (grown_trans HGL.out g11)
              clear g11 HCM
              go_wp2_with (fail)
              refine HSB.out.mono ?_
              rintro rr w12 ⟨pv2, tp2, rfl, hp2, g12⟩
              have HP2 := Hq0 hp2; have HG12 := Hq0 (grown_trans HG11.out g12)
              have hbase : gq + 1 ≤ w11.heap.size := Nat.le_trans HI.out.hq.2 (grown_trans HGT.out HG11.out).size
              have HBS := Hq0 hbase
              clear hp2 g12 HSB hbase
              go_wp2_with (fail)
              refine ⟨⟨d' - 1, congrArg (Value.int .u64) (by first | exact ED.out | exact ED2.out), HQ12.out.1, by have := HDD.out.2; omega, ⟨tp2, ?_⟩, HG12.out⟩, ?_⟩
              · have e : Y * d' - Y = Y * (d' - 1) := by rw [Nat.mul_sub, Nat.mul_one]
                rw [← e]; exact HP2.out.base HBS.out
              · first | rw [ED.out] | rw [ED2.out]
                have := HQ12.out.2
                show ((d' - 1 : Nat) : Int).toNat < ((d' : Nat) : Int).toNat
                omega
            · have hnc2 : ¬ 0 < ncmp (Y * d') R2 := by unfold ncmp; split <;> (try split) <;> omega
              have hde := digit_done hd1 hlt HY0.out
              have HDE := Hq0 hde
              generalize ncmp (Y * d') R2 = nc2 at *
              clear hlt hd1 hd2 hde
              go_wp2_with (fail)
              refine HCM.out.mono ?_
              rintro rr w11 ⟨rfl, g11⟩
              have HG11 := Hq0 (grown_trans HGL.out g11); have HPP := Hq0 (HPP.out.same g11)
              clear g11 HCM
              go_wp2_with (fail)
              go_meet
              case rel => exact ⟨by rw [← HDE.out], ⟨tp', by rw [← HDE.out]; exact HPP.out⟩, HG11.out⟩
        case rest =>
          obtain ⟨rfl, ⟨tp', hp'⟩, hg'⟩ := hcut
          have hsub : Y * (R2 / Y) ≤ R2 := Nat.mul_div_le _ _
          have HSB := Hq0 (NatSub_any (HR10.out.same hg') hp' (by have := HTB.out; omega) hsub)
          have HGC := Hq0 (grown_trans HGT.out hg')
          have hdl : R2 / Y < 1000000000 := by rw [Nat.div_lt_iff_lt_mul HY0.out, Nat.mul_comm]; exact HR2Y.out
          obtain ⟨dd, hdd⟩ : ∃ dd, R2 / Y = dd := ⟨_, rfl⟩
          rw [hdd] at hdl ⊢
          have em : (dd : Int) % 4294967296 = dd := by omega
          have EM := Hq0 em; have HDD := Hq0 hdd
          have hrem : R2 - Y * (R2 / Y) = R2 % Y := by have := Nat.div_add_mod R2 Y; omega
          have HREM := Hq0 hrem
          clear hp' hg' hsub hdl hdd em hrem
          go_wp2_with (fail)
          refine HSB.out.mono ?_
          rintro rr w13 ⟨rv, tr3, rfl, hr3, g13⟩
          have HR3 := Hq0 hr3
          have HG13 := Hq0 (grown_trans HGC.out g13)
          have HLO := Hq0 (show gq + 1 ≤ wc.heap.size from Nat.le_trans HI.out.hq.2 HGC.out.size)
          have hq13 := HI.out.q.kept HG13.out (own_any _)
          have hqc := hq13.cellAt kk (by have := HKT.out; omega)
          rw [Q9_at (by have := HKT.out; omega)] at hqc
          have hfz := hq13.frozenAt kk
          have HQ13 := Hq0 hq13
          have hk0 : (0 : Int) ≤ kk := by omega
          have ekk : wrap64 ((kk : Int) - 1) = (kk : Int) - 1 := by rw [← i64_left']; exact IntWalk.i64_in _ (by have := HKT.out; omega)
          have EKK := Hq0 ekk
          clear hr3 g13 HSB hq13 ekk
          go_wp2_with (fail)
          try rw [EM.out]
          have hst := (HQ13.out.stored kk (.int .u32 ((X / Y / 10 ^ (9 * kk) % 1000000000 : Nat) : Int))).1
          rw [Q9_set (by have := HKT.out; omega), ← S1.out, HDD.out] at hst
          have hgs := grown_set1 w13 gq kk (.int .u32 (dd : Int))
          refine ⟨⟨kk, by have := HKT.out; omega, congrArg (Value.int .i64) (by first | rfl | exact EKK.out), ⟨(HI.out.x.same HG13.out).kept hgs HI.out.hx, (HI.out.y.same HG13.out).kept hgs HI.out.hy, keepo hgs (keepc HG13.out HI.out.c) HI.out.h8, hst, ⟨tr3, ?_⟩, grown_own (grown_trans HI.out.g HG13.out) hgs (.inr HI.out.hq.1), HI.out.hx, HI.out.hy, HI.out.h8, HI.out.hq.1, Nat.lt_of_lt_of_le (Nat.lt_of_lt_of_le HI.out.hq.2 HG13.out.size) hgs.size⟩⟩, ?_⟩
          · rw [← S2.out, ← HREM.out]
            refine (HR3.out.base HLO.out).kept hgs ?_
            intro e
            have h1 := (HR3.out.own.lt gq e).1
            have h2 := HLO.out
            omega
          · try rw [EKK.out]
            show ((kk : Int) - 1 + 1).toNat < ((kk : Int) + 1).toNat
            omega
theorem NatDiv_any {w : World} {base1 base2 a b ta tb : Nat} {u v : Value} (ha : NatOf w base1 u a ta) (hb : NatOf w base2 v b tb) (hta : ta ≤ 400) (hb0 : 0 < b) : Calls Tryz.prog 74 #[u, v] w fun e w' => DvR9 w a b e w' := by
  rcases Nat.lt_or_ge a b with h | h
  · exact NatDiv_small ha hb hta h
  · match tb, hb with
    | 0, hb => have := hb.lt; simp at this; omega
    | 1, hb => exact NatDiv_one ha hb hta h hb0
    | n + 2, hb => exact NatDiv_long (n := n + 1) ha hb (by omega) hta h
end Go.Proofs.YtjcfacinlgogaaaGreatDoor
