/- A number in limbs of nine digits. No condition beyond 64 bits. The text of a number in limbs. Conditions: at most 2000 digits. Limbs of nine digits: no needless ones; which number is greater. Which of two numbers in limbs is greater. No condition. -/
import Derived.Recover
import Derived.Test.YtjcfacinlgogaaaGreatDoorQ33
import Derived.Test.YtjcfacinlgogaaaGreatDoorQ36
set_option linter.all false
set_option maxHeartbeats 4000000
set_option maxRecDepth 100000
set_option exponentiation.threshold 3000
namespace Go.Proofs.YtjcfacinlgogaaaGreatDoor
open Go.RowKit
def lim9 (c t : Nat) : List Value := (List.range t).map fun i => .int .u32 ((c / 10 ^ (9 * i) % 1000000000 : Nat) : Int)
theorem lim9_len (c t : Nat) : (lim9 c t).length = t := by simp [lim9]
theorem lim9_succ (c t : Nat) : lim9 c (t + 1) = lim9 c t ++ [.int .u32 ((c / 10 ^ (9 * t) % 1000000000 : Nat) : Int)] := by
  unfold lim9; rw [List.range_succ, List.map_append]; rfl
theorem lim9_at {c t i : Nat} (h : i < t) : (lim9 c t)[i]? = some (.int .u32 ((c / 10 ^ (9 * i) % 1000000000 : Nat) : Int)) := by
  unfold lim9; simp [h]
theorem lim_next (c t : Nat) : c / 10 ^ (9 * (t + 1)) = c / 10 ^ (9 * t) / 1000000000 := by
  rw [show 9 * (t + 1) = 9 * t + 9 by omega, Nat.pow_add, ← Nat.div_div_eq_div_mul]
theorem lim_short {c t : Nat} (hc : c < 18446744073709551616) (h : 10 ^ (9 * t) ≤ c) : t ≤ 2 := by
  have h2 : 10 ^ (9 * t) < 10 ^ 27 := by
    have : (10 : Nat) ^ 27 = 1000000000000000000000000000 := by decide
    omega
  have := (Nat.pow_lt_pow_iff_right (by decide : 1 < 10)).1 h2
  omega
theorem und35 : Tryz.prog.underlying 26 = some (.slice 73) := by kernel_rfl
theorem inf79 : (Tryz.prog.info? 73).map (fun i => (i.zero, i.size, i.bytes)) = some (some (.int .u32 0), 1, 4) := by kernel_rfl
structure NatOf (w : World) (base : Nat) (v : Value) (c t : Nat) : Prop where
  own : w.ownsRow base 73 1 v t (lim9 c t)
  lt : c < 10 ^ (9 * t)
  top : t = 0 ∨ 10 ^ (9 * (t - 1)) ≤ c
theorem NatOf.same {w w' : World} {base : Nat} {v : Value} {c t : Nat} (h : NatOf w base v c t) (g : w.grownBy w' none) : NatOf w' base v c t := ⟨h.own.kept g (own_any _), h.lt, h.top⟩
theorem NatOf.t3 {w : World} {base : Nat} {v : Value} {c t : Nat} (h : NatOf w base v c t) (hc : c < 18446744073709551616) : t ≤ 3 := by
  rcases h.top with e | e
  · omega
  · have := lim_short hc e; omega
def NfRes (w : World) (c : Nat) (e : Ending) (w' : World) : Prop := ∃ v t, e = .returned v ∧ NatOf w' w.heap.size v c t ∧ w.grownBy w' none
theorem NatFrom_any (c : Nat) (w : World) (hc : c < 18446744073709551616) : Calls Tryz.prog 43 #[.int .u64 c] w fun e w' => NfRes w c e w' := by
  obtain ⟨i0, hi0, hz0, hz1, hz2⟩ := info_parts inf79
  go_enter Tryz.func43, Tryz.ntmps43
  go_wp2_with (fail)
  go_loopw [0, 3] (fun s0 s3 wx => ∃ t : Nat, s0 = .int .u64 ((c / 10 ^ (9 * t) : Nat) : Int) ∧ wx.ownsRow w.heap.size 73 1 s3 t (lim9 c t) ∧ (t = 0 ∨ 10 ^ (9 * (t - 1)) ≤ c) ∧ w.grownBy wx none) (fun s0 _ _ => (intOf s0).toNat)
  case atStart => exact ⟨0, by simp, World.ownsRow_nil _ _ _ _, .inl rfl, grown_refl _ _⟩
  case round =>
    obtain ⟨t, rfl, how, htop, hg⟩ := hrel
    have HW := Hq0 how; have HT := Hq0 htop; have HG := Hq0 hg
    obtain ⟨n, hn⟩ : ∃ n, c / 10 ^ (9 * t) = n := ⟨_, rfl⟩
    have hnc : n ≤ c := by rw [← hn]; exact Nat.div_le_self _ _
    have HN := Hq0 hn
    rw [hn]
    by_cases h0 : n = 0
    · subst h0
      clear how htop hg hn hnc
      go_wp2_with (fail)
      go_ret
      exact ⟨_, t, rfl, ⟨HW.out, div_zero_lt HN.out, HT.out⟩, HG.out⟩
    · have hp : (0 : Int) < n := by omega
      have ht2 := lim_short hc (pow_le_of_div (c := c) (n := 9 * t) (by rw [hn]; exact h0))
      have hsz := hg.size
      clear how htop hg hn
      have ew : IntKind.u64.wrap ((n : Int) / 1000000000) = (n : Int) / 1000000000 := by rw [IntKind.wrap_u64]; omega
      have HC := Hq0 hc
      clear hc
      have e32 : IntKind.u32.wrap ((n : Int) % 1000000000) = ((n % 1000000000 : Nat) : Int) := by rw [IntKind.wrap_u32]; omega
      go_wp2_with (at_builtin; refine wpList_append_own _ rfl (.tmp 8) (.tmp 12) 26 rfl w.heap.size 73 i0 _ 1 4 und35 hi0 hz0 hz1 hz2 rfl (by decide) _ t (lim9 c t) rfl (HW.out.alloc _) ⟨wr.heap.size, 0, none⟩ 1 1 [_] rfl rfl (cell_one_new _ _ _) (ints_oneCell .u32 [_]) (by simp only [maxLen]; omega) (by omega) (by simp; omega) ?_; intro v' w' hown' hg' hv')
      go_roundw
      case rel =>
        refine ⟨t + 1, congrArg (Value.int .u64) (by rw [lim_next, HN.out]; simp), ?_, .inr (pow_le_of_div (n := 9 * t) (by rw [HN.out]; exact h0)), grown_ownb (grown_trans HG.out (grown_new _ _)) hg' fun b hb => (HW.out.lt b hb).1⟩
        rw [lim9_succ, HN.out]; exact hown'
      case measure => simp [intOf]; omega
end Go.Proofs.YtjcfacinlgogaaaGreatDoor
namespace Go.Proofs.YtjcfacinlgogaaaGreatDoor
open Go.RowKit
def StB (w : World) (c : Nat) (e : Ending) (w' : World) : Prop := ∃ s q, e = .returned (.string s) ∧ TxtD s false c q ∧ w.grownBy w' none
theorem NatOf.t223 {w : World} {base : Nat} {v : Value} {c t : Nat} (h : NatOf w base v c t) (hc : c < 10 ^ 2000) : t ≤ 223 := by
  rcases h.top with e | e
  · omega
  · have h1 := Nat.lt_of_le_of_lt e hc
    have := (Nat.pow_lt_pow_iff_right (by decide : 1 < 10)).1 h1
    omega
theorem natString_any {w : World} {base c t : Nat} {v : Value} (h : NatOf w base v c t) (hc : c < 10 ^ 2000) : Calls Tryz.prog 46 #[v] w fun e w' => StB w c e w' := by
  obtain ⟨i0, hi0, hz0, hz1, hz2⟩ := info_parts siz8
  have ht3 := h.t223 hc
  obtain ⟨a, cap, rfl, hac⟩ := h.own.slice
  have HN := Hq0 h; have HA := Hq0 hac; have HC := Hq0 hc
  clear h hac hc
  go_enter Tryz.func46, Tryz.ntmps46
  go_wp2_with (fail)
  go_loopw [3, 11] (fun s3 s11 wx => ∃ i q : Nat, s11 = .int .i64 i ∧ i ≤ t ∧ q ≤ 9 * t ∧ wx.ownsRow w.heap.size 5 1 s3 q (outV c q) ∧ (i < t → q = 9 * i) ∧ (i = t → c / 10 ^ q = 0 ∧ (q = 0 ∨ c / 10 ^ (q - 1) ≠ 0)) ∧ w.grownBy wx none) (fun _ s11 _ => t - (intOf s11).toNat)
  case atStart =>
    refine ⟨0, 0, rfl, Nat.zero_le _, by omega, World.ownsRow_nil _ _ _ _, fun _ => rfl, fun e => ⟨?_, .inl rfl⟩, grown_refl _ _⟩
    have := HN.out.lt; rw [← e] at this; simpa using this
  case round =>
    obtain ⟨i, q, rfl, hi, hq27, how, hlt, heq, hg⟩ := hrel
    have HW := Hq0 how; have HL := Hq0 hlt; have HE := Hq0 heq; have HG := Hq0 hg
    clear how hlt heq hg
    by_cases hit : i < t
    · have hit2 : (i : Int) < t := by omega
      have hq := HL.out hit
      subst hq
      rcases HA.out with ⟨h1, h2⟩ | ⟨g, rfl, hgb⟩
      · omega
      · have hx := (HN.out.same HG.out).own.cellAt i (by omega)
        rw [lim9_at hit] at hx
        have hxl : c / 10 ^ (9 * i) % 1000000000 < 1000000000 := Nat.mod_lt _ (by decide)
        obtain ⟨x0, hx0⟩ : ∃ x0, c / 10 ^ (9 * i) % 1000000000 = x0 := ⟨_, rfl⟩
        rw [hx0] at hx hxl
        have HX0 := Hq0 hx0
        clear hx0
        go_upto_block 1 with (fail)
        go_cut [3] from 13 to 39 (fun s3 wx => ∃ k : Nat, k ≤ 9 ∧ wx.ownsRow w.heap.size 5 1 s3 (9 * i + k) (outV c (9 * i + k)) ∧ (i + 1 < t → k = 9) ∧ (i + 1 = t → c / 10 ^ (9 * i + k) = 0 ∧ (9 * i + k = 0 ∨ c / 10 ^ (9 * i + k - 1) ≠ 0)) ∧ w.grownBy wx none)
        case first =>
          go_wp2_with (fail)
          go_loopw [3, 5, 6] (fun s3 s5 s6 wx => ∃ k : Nat, k ≤ 9 ∧ s6 = .int .i64 k ∧ s5 = .int .u32 ((x0 / 10 ^ k : Nat) : Int) ∧ wx.ownsRow w.heap.size 5 1 s3 (9 * i + k) (outV c (9 * i + k)) ∧ (9 * i + k = 0 ∨ c / 10 ^ (9 * i + k - 1) ≠ 0) ∧ w.grownBy wx none) (fun _ _ s6 _ => 9 - (intOf s6).toNat)
          case atStart =>
            refine ⟨0, by omega, rfl, by simp, HW.out, ?_, HG.out⟩
            by_cases hi0' : i = 0
            · left; omega
            · right
              rcases HN.out.top with e | e
              · omega
              · exact pos_of_le e (by omega)
          case round =>
            obtain ⟨k, hk9, rfl, rfl, how, hpos, hg⟩ := hrel
            obtain ⟨x, hxx⟩ : ∃ x, x0 / 10 ^ k = x := ⟨_, rfl⟩
            have hxle : x ≤ x0 := by rw [← hxx]; exact Nat.div_le_self _ _
            have HXX := Hq0 hxx; have HWK := Hq0 how; have HPK := Hq0 hpos; have HGK := Hq0 hg
            rw [hxx]
            clear how hpos hg hxx hx
            go_upto_region 6 with (fail)
            go_cut [28] from 16 to 28 (fun s28 wx => s28 = .bool (decide (k < 9) && (decide (0 < x) || decide (i + 1 < t))) ∧ wr = wx)
            case first =>
              by_cases c1 : k < 9
              · have d1 : (k : Int) < 9 := by omega
                by_cases c2 : 0 < x
                · have d2 : (0 : Int) < x := by omega
                  go_wp2_with (fail)
                  go_meet
                  exact ⟨congrArg Value.bool (by simp [c1, c2]), rfl⟩
                · have d2 : ¬ (0 : Int) < x := by omega
                  go_wp2_with (fail)
                  go_meet
                  exact ⟨congrArg Value.bool (by simp [c1, c2]; try omega), rfl⟩
              · have d1 : ¬ (k : Int) < 9 := by omega
                go_wp2_with (fail)
                go_meet
                exact ⟨congrArg Value.bool (by simp [c1]), rfl⟩
            case rest =>
              obtain ⟨rfl, rfl⟩ := hcut
              by_cases hb : (decide (k < 9) && (decide (0 < x) || decide (i + 1 < t))) = true
              · rw [hb]
                have hb2 : k < 9 ∧ (0 < x ∨ i + 1 < t) := by simpa using hb
                have HB := Hq0 hb2
                have hk9' := hb2.1
                clear hb hb2
                have hsz := HGK.out.size
                have e8 : IntKind.u8.wrap (48 + (x : Int) % 10) = ((48 + x % 10 : Nat) : Int) := by rw [IntKind.wrap_u8]; omega
                go_wp2_with (at_builtin; refine wpList_append_own _ rfl (.tmp 31) (.tmp 36) 77 rfl w.heap.size 5 i0 _ 1 1 und81 hi0 hz0 hz1 hz2 rfl (by decide) _ (9 * i + k) (outV c (9 * i + k)) rfl (HWK.out.alloc _) ⟨wr.heap.size, 0, none⟩ 1 1 [_] rfl rfl (cell_one_new _ _ _) (ints_oneCell .u8 [_]) (by simp only [maxLen]; omega) (by omega) (by simp; omega) ?_; intro v' w' hown' hg' hv')
                go_roundw
                case rel =>
                  have ed : x % 10 = c / 10 ^ (9 * i + k) % 10 := by rw [← HXX.out, ← HX0.out]; exact dig_limb c i k hk9'
                  refine ⟨k + 1, by omega, congrArg (Value.int .i64) (by omega), congrArg (Value.int .u32) (by rw [Nat.pow_succ, ← Nat.div_div_eq_div_mul, HXX.out]; simp), ?_, .inr ?_, grown_ownb (grown_trans HGK.out (grown_new _ _)) hg' fun b hb => (HWK.out.lt b hb).1⟩
                  · rw [← Nat.add_assoc, outV_succ, ← ed]; exact hown'
                  · rw [← Nat.add_assoc, Nat.add_sub_cancel]
                    rcases HB.out.2 with hx | hx
                    · exact limb_pos (by rw [HX0.out, HXX.out]; omega)
                    · exact pos_of_le (HN.out.top.resolve_left (by omega)) (by omega)
                case measure => simp [intOf]; omega
              · rw [Bool.eq_false_iff.2 hb]
                have hb2 : ¬ (k < 9 ∧ (0 < x ∨ i + 1 < t)) := by simpa using hb
                have HB := Hq0 hb2
                clear hb hb2
                go_wp2_with (fail)
                go_meet
                refine ⟨k, hk9, HWK.out, fun h => by have := HB.out; omega, fun h => ⟨limb_zero hk9 ?_ (by rw [h]; exact HN.out.lt), HPK.out⟩, HGK.out⟩
                rw [HX0.out]
                have hb := HB.out
                by_cases hk : k = 9
                · subst hk; exact Nat.div_eq_of_lt hxl
                · rw [HXX.out]; omega
        case rest =>
          obtain ⟨k, hk9, how, h1, h2, hg⟩ := hcut
          have HW2 := Hq0 how; have H1 := Hq0 h1; have H2 := Hq0 h2; have HG2 := Hq0 hg
          clear how h1 h2 hg
          go_wp2_with (fail)
          go_roundw
          case rel =>
            refine ⟨i + 1, 9 * i + k, congrArg (Value.int .i64) (by omega), hit, by omega, HW2.out, fun h => by have := H1.out h; omega, fun h => H2.out h, HG2.out⟩
          case measure => simp [intOf]; omega
    · have hie : i = t := by omega
      subst hie
      obtain ⟨hz, hnz⟩ := HE.out rfl
      obtain ⟨a3, cap3, hu3, hac3⟩ := HW.out.slice
      subst hu3
      have HA3 := Hq0 hac3
      by_cases hq0 : q = 0
      · subst hq0
        have hc0 : c = 0 := by simpa using hz
        clear hz hnz hac3 HE HL
        go_wp2_with (fail)
        go_ret
        subst hc0
        exact ⟨_, 1, rfl, txt0, HG.out⟩
      · have hc1 := hnz.resolve_left hq0
        have hq1 : ((q : Int) == 0) = false := by simp; omega
        have HZ := Hq0 hz; have HZ1 := Hq0 hc1
        clear hz hnz hac3 HE HL hc1
        rcases HA3.out with ⟨g1, g2⟩ | ⟨g3, rfl, hgb⟩
        · exact absurd g2 hq0
        · obtain ⟨L, hL⟩ : ∃ L, outV c q = L := ⟨_, rfl⟩
          have hLl : L.length = q := by rw [← hL]; simp [outV]
          have HOW := HW
          rw [hL] at HOW
          have HU8 : Hid (∀ j, j < q → ∃ z : Int, L[j]?.getD undef = .int .u8 z) := Hq0 (by have := out_u8 false c q; simp only [Bool.false_eq_true, if_false, List.append_nil] at this; rw [hL] at this; rw [← hLl]; exact this)
          have HLL := Hq0 hL; have HLN := Hq0 hLl
          have hQ0 : 0 < q := by omega
          have hQ7 : q ≤ 2007 := by omega
          have hQi : (q : Int) ≤ 2007 := by omega
          have hQi1 : (1 : Int) ≤ q := by omega
          clear hL hLl
          go_upto_block 4 with (fail)
          go_cut [] from 47 to 67 (fun wx => wx.ownsRow w.heap.size 5 1 (.slice (some ⟨g3, 0, none⟩) q cap3) q L.reverse ∧ w.grownBy wx none)
          case first =>
            go_wp2_with (fail)
            go_loopw [7, 8] (fun s7 s8 wx => ∃ p p2 : Nat, s7 = .int .i64 p ∧ s8 = .int .i64 p2 ∧ p + p2 + 1 = q ∧ p ≤ p2 + 1 ∧ wx.ownsRow w.heap.size 5 1 (.slice (some ⟨g3, 0, none⟩) q cap3) q (revP L p) ∧ w.grownBy wx none) (fun _ s8 _ => (intOf s8).toNat)
            case atStart =>
              exact ⟨0, q - 1, rfl, congrArg (Value.int .i64) (by omega), by omega, by omega, by rw [revP_zero]; exact HOW.out, HG.out⟩
            case round =>
              obtain ⟨p, p2, rfl, rfl, hpq, hpp, how, hg⟩ := hrel
              have HWR := Hq0 how; have HGR := Hq0 hg
              by_cases hlt : p < p2
              · have hlt2 : (p : Int) < p2 := by omega
                have x1 := how.cellAt p (by omega)
                have x2 := how.cellAt p2 (by omega)
                rw [revP_get (by have := HLN.out; omega), if_neg (by have := HLN.out; omega)] at x1
                rw [revP_get (by have := HLN.out; omega), if_neg (by have := HLN.out; omega)] at x2
                have f1 := how.frozenAt p
                have f2 := how.frozenAt p2
                have hpq1 : (p : Int) < q := by omega
                have hpq2 : (p2 : Int) < q := by omega
                obtain ⟨v1, hv1⟩ := HU8.out p (by omega)
                obtain ⟨v2, hv2⟩ := HU8.out p2 (by omega)
                rw [hv1] at x1
                rw [hv2] at x2
                have HV1 := Hq0 hv1; have HV2 := Hq0 hv2; have HPQ := Hq0 hpq
                have hne : p ≠ p2 := by omega
                clear how hg hv1 hv2
                go_upto_region 16 with (fail)
                go_region
                all_goals
                  go_wp2_with (fail)
                  go_roundw
                case rel =>
                  have s2 := ((HWR.out.stored p (.int .u8 v2)).1.stored p2 (.int .u8 v1)).1
                  rw [← HV1.out, ← HV2.out, revP_step (by rw [HLN.out]; exact HPQ.out) hlt] at s2
                  rw [← HV1.out, ← HV2.out]
                  exact ⟨p + 1, p2 - 1, congrArg (Value.int .i64) (by omega), congrArg (Value.int .i64) (by omega), by have := HPQ.out; omega, by omega, s2.kept (grown_drew _) (own_any _), grown_trans (gset hgb _ _ (gset hgb _ _ HGR.out)) (grown_drew _)⟩
                case measure => simp [intOf]; omega
              · have hlt2 : ¬ (p : Int) < p2 := by omega
                rw [revP_done (by have := HLN.out; omega) hpp hlt] at how
                have HWR := Hq0 how
                clear how hg
                go_wp2_with (fail)
                go_meet
                exact ⟨HWR.out, HGR.out⟩
          case rest =>
            obtain ⟨how, hg⟩ := hcut
            have ho := out_rev false c q
            simp only [Bool.false_eq_true, if_false, List.append_nil] at ho
            rw [← HLL.out, ho] at how
            have HGC := Hq0 hg
            have hsz : (mkS (digB false c q)).size = q := by rw [← txtV_len, ← ho, List.length_reverse, HLL.out]; exact HLN.out
            have hcv := fun cap => Lib.run_convert_whole (P := Tryz.prog) wc 77 5 9 und81 (by kernel_rfl) (by kernel_rfl) g3 0 (mkS (digB false c q)) (bytes_own how) cap
            rw [hsz] at hcv
            clear how hg hsz ho
            go_wp2_with (fail)
            go_ret
            exact ⟨_, q, rfl, ⟨rfl, by omega, div_zero_lt HZ.out, .inr (pow_le_of_div HZ1.out)⟩, HGC.out⟩
end Go.Proofs.YtjcfacinlgogaaaGreatDoor
namespace Go.Proofs.YtjcfacinlgogaaaGreatDoor
open Go.RowKit
theorem top_zero9 {m t : Nat} (h : m < 10 ^ (9 * (t + 1))) : m / 10 ^ (9 * t) % 1000000000 = 0 ↔ m < 10 ^ (9 * t) := by
  have h1 : m / 10 ^ (9 * t) < 1000000000 := by
    rw [Nat.div_lt_iff_lt_mul (Nat.pow_pos (by decide)), Nat.mul_comm, show 1000000000 = 10 ^ 9 by decide, ← Nat.pow_add]
    exact h
  rw [Nat.mod_eq_of_lt h1, Nat.div_eq_zero_iff]
  have : 10 ^ (9 * t) ≠ 0 := Nat.pos_iff_ne_zero.1 (Nat.pow_pos (by decide))
  omega
theorem lim9_take {c t m : Nat} (h : m ≤ t) : (lim9 c t).take m = lim9 c m := by
  unfold lim9
  rw [← List.map_take, List.take_range]
  congr 2; omega
def TrR (w : World) (base c t : Nat) (v : Value) (r : Ending) (w' : World) : Prop := ∃ a cap t', r = .returned (.slice a t' cap) ∧ v = .slice a t cap ∧ NatOf w base (.slice a t' cap) c t' ∧ t' ≤ t ∧ w = w'
theorem natTrim_any {w : World} {base c t : Nat} {v : Value} (h : w.ownsRow base 73 1 v t (lim9 c t)) (hc : c < 10 ^ (9 * t)) : Calls Tryz.prog 79 #[v] w fun r w' => TrR w base c t v r w' := by
  obtain ⟨a, cap, rfl, hac⟩ := h.slice
  have HA := Hq0 hac; have HH := Hq0 h; have HC := Hq0 hc
  have hlen := owns_le h
  have HLEN := Hq0 hlen
  clear h hc hac hlen
  go_enter Tryz.func79, Tryz.ntmps79
  go_wp2_with (fail)
  go_loopw [0] (fun s0 wx => ∃ t2 : Nat, t2 ≤ t ∧ s0 = .slice a t2 cap ∧ c < 10 ^ (9 * t2) ∧ w = wx) (fun s0 _ => sLen s0)
  case atStart => exact ⟨t, Nat.le_refl _, rfl, HC.out, rfl⟩
  case round =>
    obtain ⟨t2, ht2, rfl, hlt, rfl⟩ := hrel
    have HLT := Hq0 hlt; have HT2 := Hq0 ht2
    clear hlt
    cases t2 with
    | zero =>
      have hz : c = 0 := by have := HLT.out; simp at this; exact this
      have HZ := Hq0 hz
      clear ht2 hz
      go_wp2_with (fail)
      go_ret
      have hs := HH.out
      refine ⟨a, cap, 0, rfl, rfl, ⟨?_, HLT.out, .inl rfl⟩, Nat.zero_le _, rfl⟩
      rcases HA.out with ⟨rfl, h2⟩ | ⟨g, rfl, _⟩
      · subst h2; exact hs
      · have := shorter hs (Nat.zero_le t); rw [lim9_take (Nat.zero_le _)] at this; exact this
    | succ tt =>
      rcases HA.out with ⟨rfl, h2⟩ | ⟨g, rfl, hgb⟩
      · omega
      have hx := HH.out.cellAt tt (by omega)
      rw [lim9_at (by omega)] at hx
      have hxl : c / 10 ^ (9 * tt) % 1000000000 < 1000000000 := Nat.mod_lt _ (by decide)
      have htz := top_zero9 HLT.out
      have HTZ := Hq0 htz
      obtain ⟨x, hxx⟩ : ∃ x, c / 10 ^ (9 * tt) % 1000000000 = x := ⟨_, rfl⟩
      rw [hxx] at hx hxl
      have HXX := Hq0 hxx
      have hcap := owns_cap HH.out
      have hlen : ((tt + 1 : Nat) : Int) ≤ 9223372036854775807 := by have := HLEN.out; omega
      have hcc : ((tt + 1 : Nat) : Int) ≤ cap := by omega
      clear htz hxx ht2 hcap
      go_upto_region 1 with (fail)
      go_cut [14] from 3 to 14 (fun s14 wx => s14 = .bool (decide (x = 0)) ∧ w = wx)
      case first =>
        by_cases hx0 : x = 0
        · subst hx0
          go_wp2_with (fail)
          go_meet
          exact ⟨rfl, rfl⟩
        · have hxe : ((x : Int) == 0) = false := by simp; exact hx0
          have HX0 := Hq0 hx0
          clear hx0
          go_wp2_with (fail)
          go_meet
          exact ⟨by rw [decide_eq_false HX0.out], rfl⟩
      case rest =>
        obtain ⟨rfl, rfl⟩ := hcut
        by_cases hx0 : x = 0
        · rw [decide_eq_true hx0]
          have HX0 := Hq0 hx0
          clear hx0 hx hxl
          go_wp2_with (fail)
          go_roundw
          case rel => exact ⟨tt, by have := HT2.out; omega, by first | rfl | (congr 1), HTZ.out.1 (by rw [HXX.out]; exact HX0.out), trivial⟩
          case measure => show tt < tt + 1; omega
        · rw [decide_eq_false hx0]
          have HX0 := Hq0 hx0
          clear hx0 hx hxl
          go_wp2_with (fail)
          go_ret
          refine ⟨_, cap, tt + 1, rfl, rfl, ⟨by have := shorter HH.out HT2.out; rw [lim9_take HT2.out] at this; exact this, HLT.out, .inr ?_⟩, HT2.out, rfl⟩
          rcases Nat.lt_or_ge c (10 ^ (9 * (tt + 1 - 1))) with h5 | h5
          · exact absurd (HTZ.out.2 (by simpa using h5)) (by rw [HXX.out]; exact HX0.out)
          · exact h5
end Go.Proofs.YtjcfacinlgogaaaGreatDoor
namespace Go.Proofs.YtjcfacinlgogaaaGreatDoor
open Go.RowKit
def ncmp (a b : Nat) : Int := if a < b then -1 else if a = b then 0 else 1
theorem ncmp_lt {a b : Nat} (h : a < b) : ncmp a b = -1 := by unfold ncmp; rw [if_pos h]
theorem ncmp_gt {a b : Nat} (h : b < a) : ncmp a b = 1 := by unfold ncmp; rw [if_neg (by omega), if_neg (by omega)]
theorem ncmp_eq {a b : Nat} (h : a = b) : ncmp a b = 0 := by unfold ncmp; rw [if_neg (by omega), if_pos h]
theorem lim_lt {w1 w2 : World} {b1 b2 : Nat} {u v : Value} {a b ta tb : Nat} (ha : NatOf w1 b1 u a ta) (hb : NatOf w2 b2 v b tb) (h : ta < tb) : a < b := by
  rcases hb.top with e | e
  · omega
  · exact Nat.lt_of_lt_of_le ha.lt (Nat.le_trans (Nat.pow_le_pow_right (by decide) (by omega)) e)
theorem limb_step {a b i : Nat} (h : a / 10 ^ (9 * (i + 1)) = b / 10 ^ (9 * (i + 1))) :
    (a / 10 ^ (9 * i) % 1000000000 = b / 10 ^ (9 * i) % 1000000000 → a / 10 ^ (9 * i) = b / 10 ^ (9 * i)) ∧ (a / 10 ^ (9 * i) % 1000000000 < b / 10 ^ (9 * i) % 1000000000 → a < b) ∧ (b / 10 ^ (9 * i) % 1000000000 < a / 10 ^ (9 * i) % 1000000000 → b < a) := by
  rw [lim_next, lim_next] at h
  have key : ∀ x y : Nat, x / 10 ^ (9 * i) < y / 10 ^ (9 * i) → x < y := by
    intro x y hxy
    rcases Nat.lt_or_ge x y with h1 | h1
    · exact h1
    · have := Nat.div_le_div_right (c := 10 ^ (9 * i)) h1; omega
  refine ⟨fun h1 => by omega, fun h1 => key _ _ (by omega), fun h1 => key _ _ (by omega)⟩
theorem NatCmp_any {w : World} {base1 base2 a b ta tb : Nat} {u v : Value} (ha : NatOf w base1 u a ta) (hb : NatOf w base2 v b tb) : Calls Tryz.prog 76 #[u, v] w fun r w' => r = .returned (.int .i64 (ncmp a b)) ∧ w.grownBy w' none := by
  obtain ⟨a1, cap1, rfl, hac1⟩ := ha.own.slice
  obtain ⟨a2, cap2, rfl, hac2⟩ := hb.own.slice
  have HA := Hq0 ha; have HB := Hq0 hb; have H1 := Hq0 hac1; have H2 := Hq0 hac2
  have hl := owns_le ha.own
  have HL := Hq0 hl
  clear ha hb hac1 hac2
  go_enter Tryz.func76, Tryz.ntmps76
  by_cases hne : ta = tb
  · subst hne
    have hne2 : ((ta : Int) != ta) = false := by simp
    have hl2 : (ta : Int) ≤ 9223372036854775807 := by omega
    clear hl
    go_wp2_with (fail)
    go_loopw [5] (fun s5 wx => ∃ i : Nat, i ≤ ta ∧ s5 = .int .i64 ((i : Int) - 1) ∧ a / 10 ^ (9 * i) = b / 10 ^ (9 * i) ∧ w.grownBy wx none) (fun s5 _ => (intOf s5 + 1).toNat)
    case atStart => exact ⟨ta, Nat.le_refl _, rfl, by rw [Nat.div_eq_of_lt HA.out.lt, Nat.div_eq_of_lt HB.out.lt], grown_refl _ _⟩
    case round =>
      obtain ⟨i, hi, rfl, heq, hg⟩ := hrel
      have HE := Hq0 heq; have HG := Hq0 hg
      clear heq
      cases i with
      | zero =>
        clear hg hi
        go_wp2_with (fail)
        go_ret
        exact ⟨by rw [ncmp_eq (by have := HE.out; simpa using this)]; rfl, HG.out⟩
      | succ ii =>
        rw [show ((ii + 1 : Nat) : Int) - 1 = (ii : Int) by omega]
        rcases H1.out with ⟨rfl, h2⟩ | ⟨g1, rfl, _⟩
        · omega
        rcases H2.out with ⟨rfl, h2⟩ | ⟨g2, rfl, _⟩
        · omega
        have hx := (HA.out.same hg).own.cellAt ii (by omega)
        have hy := (HB.out.same hg).own.cellAt ii (by omega)
        rw [lim9_at (by omega)] at hx hy
        obtain ⟨l1, l2, l3⟩ := limb_step HE.out
        generalize a / 10 ^ (9 * ii) % 1000000000 = x at *
        generalize b / 10 ^ (9 * ii) % 1000000000 = y at *
        have L1 := Hq0 l1; have L2 := Hq0 l2; have L3 := Hq0 l3
        have hit : (ii : Int) < ta := by omega
        have hi0 : (0 : Int) ≤ ii := by omega
        have ek : wrap64 ((ii : Int) - 1) = (ii : Int) - 1 := by rw [← i64_left']; exact IntWalk.i64_in _ (by omega)
        have EK := Hq0 ek; have HI := Hq0 hi
        have hx' := keepc (grown_drew wr) hx
        have hy' := keepc (grown_drew wr) hy
        clear l1 l2 l3 hg ek hi
        go_upto_region 8 with (fail)
        go_region
        by_cases hxy : x = y
        · have hxe : ((x : Int) != y) = false := by simp; omega
          have HXY := Hq0 hxy
          clear hxy
          go_wp2_with (fail)
          refine ⟨⟨ii, by have := HI.out; omega, congrArg (Value.int .i64) (by first | exact EK.out | rfl), L1.out HXY.out, grown_trans HG.out (grown_drew _)⟩, ?_⟩
          try rw [EK.out]
          show ((ii : Int) - 1 + 1).toNat < ((ii : Int) + 1).toNat
          omega
        · have hxe : ((x : Int) != y) = true := by simp; omega
          go_upto_region 9 with (fail)
          have hx2 := keepc (grown_drew wr.drew) hx'
          have hy2 := keepc (grown_drew wr.drew) hy'
          go_region
          by_cases hlt : x < y
          · have hlt2 : (x : Int) < y := by omega
            have HLT := Hq0 hlt
            clear hxy hlt
            go_wp2_with (fail)
            go_ret
            exact ⟨by rw [ncmp_lt (L2.out HLT.out)]; rfl, grown_trans HG.out (grown_trans (grown_drew _) (grown_drew _))⟩
          · have hlt2 : ¬ (x : Int) < y := by omega
            have HLT := Hq0 (show y < x by omega)
            clear hxy hlt
            go_wp2_with (fail)
            go_ret
            exact ⟨by rw [ncmp_gt (L3.out HLT.out)]; rfl, grown_trans HG.out (grown_trans (grown_drew _) (grown_drew _))⟩
  · have hne2 : ((ta : Int) != tb) = true := by simp; omega
    by_cases hlt : ta < tb
    · have hlt2 : (ta : Int) < tb := by omega
      have HLT := Hq0 hlt
      clear hne hlt hl
      go_wp2_with (fail)
      go_ret
      exact ⟨by rw [ncmp_lt (lim_lt HA.out HB.out HLT.out)]; rfl, grown_refl _ _⟩
    · have hlt2 : ¬ (ta : Int) < tb := by omega
      have HLT := Hq0 (show tb < ta by omega)
      clear hne hlt hl
      go_wp2_with (fail)
      go_ret
      exact ⟨by rw [ncmp_gt (lim_lt HB.out HA.out HLT.out)]; rfl, grown_refl _ _⟩
end Go.Proofs.YtjcfacinlgogaaaGreatDoor
