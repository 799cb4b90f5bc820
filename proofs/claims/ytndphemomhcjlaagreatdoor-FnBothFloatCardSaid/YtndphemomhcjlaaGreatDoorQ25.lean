/- The text of a number in limbs. Conditions: below 64 bits. The parts of a decimal in the laws' own form: digits, sign, text. -/
import Derived.Test.YtndphemomhcjlaaGreatDoorQ24
set_option linter.all false

namespace Go.Proofs.YtndphemomhcjlaaGreatDoor
open Go.RowKit

def outV (c q : Nat) : List Value := (List.range q).map fun j => .int .u8 ((48 + c / 10 ^ j % 10 : Nat) : Int)
theorem outV_succ (c q : Nat) : outV c (q + 1) = outV c q ++ [.int .u8 ((48 + c / 10 ^ q % 10 : Nat) : Int)] := by
  unfold outV; rw [List.range_succ, List.map_append]; rfl
theorem dig_limb (c i k : Nat) (hk : k < 9) : c / 10 ^ (9 * i) % 1000000000 / 10 ^ k % 10 = c / 10 ^ (9 * i + k) % 10 := by
  rw [Nat.pow_add, ← Nat.div_div_eq_div_mul]
  generalize c / 10 ^ (9 * i) = y
  have : ∀ k, k < 9 → ∃ r, 1000000000 = 10 ^ k * (10 * r) := by
    intro k hk
    exact ⟨10 ^ (8 - k), by rw [← Nat.pow_succ', ← Nat.pow_add, show k + (8 - k).succ = 9 by omega]⟩
  obtain ⟨r, hr⟩ := this k hk
  rw [hr, Nat.mod_mul_right_div_self, Nat.mod_mul_right_mod]
theorem limb_zero {c i k : Nat} (hk : k ≤ 9) (h : c / 10 ^ (9 * i) % 1000000000 / 10 ^ k = 0) (hc : c < 10 ^ (9 * (i + 1))) : c / 10 ^ (9 * i + k) = 0 := by
  rw [Nat.pow_add, ← Nat.div_div_eq_div_mul]
  have : c / 10 ^ (9 * i) < 1000000000 := by
    rw [Nat.div_lt_iff_lt_mul (Nat.pow_pos (by decide)), Nat.mul_comm, show 1000000000 = 10 ^ 9 by decide, ← Nat.pow_add]; exact hc
  rwa [Nat.mod_eq_of_lt this] at h
theorem limb_pos {c i k : Nat} (h : c / 10 ^ (9 * i) % 1000000000 / 10 ^ k ≠ 0) : c / 10 ^ (9 * i + k) ≠ 0 := by
  intro e
  rw [Nat.pow_add, ← Nat.div_div_eq_div_mul] at e
  apply h
  have h1 : c / 10 ^ (9 * i) % 1000000000 / 10 ^ k ≤ c / 10 ^ (9 * i) / 10 ^ k := Nat.div_le_div_right (Nat.mod_le _ _)
  rw [e] at h1
  exact Nat.le_zero.1 h1
theorem pos_of_le {c a b : Nat} (h : 10 ^ b ≤ c) (hab : a ≤ b) : c / 10 ^ a ≠ 0 := by
  have : 0 < c / 10 ^ a := Nat.div_pos (Nat.le_trans (Nat.pow_le_pow_right (by decide) hab) h) (Nat.pow_pos (by decide))
  omega

def StRes (w : World) (c : Nat) (e : Ending) (w' : World) : Prop := ∃ s m, e = .returned (.string s) ∧ IsTxt s false c 0 m ∧ ((c = 0 ∧ m = 1) ∨ 10 ^ (m - 1) ≤ c) ∧ w.grownBy w' none
theorem und81b : Tryz.prog.underlying 81 = some (.slice 5) := und81

theorem q_le20 {c q : Nat} (h : 10 ^ (q - 1) ≤ c) (hc : c < 18446744073709551616) : q ≤ 20 := by
  have h2 : 10 ^ (q - 1) < 10 ^ 20 := by
    have : (10 : Nat) ^ 20 = 100000000000000000000 := by decide
    omega
  have := (Nat.pow_lt_pow_iff_right (by decide : 1 < 10)).1 h2
  omega
theorem txt_zero : IsTxt ⟨#[48]⟩ false 0 0 1 := by
  refine ⟨rfl, by simp, fun i hi h => ?_, by decide, by decide, by decide⟩
  have hi' : i < 1 := hi
  have : i = 0 := by omega
  subst this; rfl
def revV (c q p : Nat) : List Value := (List.range q).map fun j => .int .u8 ((48 + c / 10 ^ (if j < p ∨ q ≤ p + j then q - 1 - j else j) % 10 : Nat) : Int)
theorem rev_get {c q p j : Nat} (h : j < q) : (revV c q p)[j]? = some (.int .u8 ((48 + c / 10 ^ (if j < p ∨ q ≤ p + j then q - 1 - j else j) % 10 : Nat) : Int)) := by
  unfold revV; simp [h]
theorem rev_zero (c q : Nat) : revV c q 0 = outV c q := by
  unfold revV outV
  apply List.map_congr_left
  intro j hj
  have := List.mem_range.1 hj
  rw [if_neg (by omega)]
theorem rev_at1 {c q p p2 : Nat} (h : p + p2 + 1 = q) (h2 : p < p2) : (revV c q p)[p]? = some (.int .u8 ((48 + c / 10 ^ p % 10 : Nat) : Int)) := by
  rw [rev_get (by omega), if_neg (by omega)]
theorem rev_at2 {c q p p2 : Nat} (h : p + p2 + 1 = q) (h2 : p < p2) : (revV c q p)[p2]? = some (.int .u8 ((48 + c / 10 ^ p2 % 10 : Nat) : Int)) := by
  rw [rev_get (by omega), if_neg (by omega)]
theorem rev_step {c q p p2 : Nat} (h : p + p2 + 1 = q) (h2 : p < p2) : ((revV c q p).set p (.int .u8 ((48 + c / 10 ^ p2 % 10 : Nat) : Int))).set p2 (.int .u8 ((48 + c / 10 ^ p % 10 : Nat) : Int)) = revV c q (p + 1) := by
  apply List.ext_getElem?
  intro j
  have hl : (revV c q p).length = q := by simp [revV]
  by_cases hj : j < q
  · by_cases e1 : j = p2
    · subst e1
      rw [List.getElem?_set_self (by rw [List.length_set, hl]; exact hj), rev_get hj, if_pos (by omega), show q - 1 - j = p by omega]
    · rw [List.getElem?_set_ne (by omega)]
      by_cases e2 : j = p
      · subst e2
        rw [List.getElem?_set_self (by rw [hl]; exact hj), rev_get hj, if_pos (by omega), show q - 1 - j = p2 by omega]
      · rw [List.getElem?_set_ne (by omega), rev_get hj, rev_get hj]
        by_cases e3 : j < p ∨ q ≤ p + j
        · rw [if_pos e3, if_pos (by omega)]
        · rw [if_neg e3, if_neg (by omega)]
  · rw [List.getElem?_eq_none (by rw [List.length_set, List.length_set, hl]; omega), List.getElem?_eq_none (by simp [revV]; omega)]
theorem txtV_get {s : ByteArray} {j : Nat} (h : j < s.size) : (txtV s)[j]? = some (.int .u8 ((s[j]'h).toNat : Int)) := by
  unfold txtV
  rw [List.getElem?_map, byte_at s j h]; rfl
theorem rev_done {c q p p2 : Nat} (h : p + p2 + 1 = q) (h1 : p ≤ p2 + 1) (h2 : ¬ p < p2) : revV c q p = txtV (mkTxt false c 0 q) := by
  have hsz : (mkTxt false c 0 q).size = q := by rw [mkTxt_size]; simp [sgn, pnt]
  apply List.ext_getElem?
  intro j
  by_cases hj : j < q
  · have hj2 : j < (mkTxt false c 0 q).size := by omega
    have e := mkTxt_get false c 0 q j hj2
    rw [if_neg (by simp [sgn])] at e
    have e2 : tb c q 0 (j - sgn false) = 48 + c / 10 ^ (q - 1 - j) % 10 := by
      show tb c q 0 j = _
      unfold tb dgs
      rw [if_neg (by omega), if_neg (by omega)]
    rw [rev_get hj, txtV_get hj2, e, e2]
    by_cases e : j < p ∨ q ≤ p + j
    · rw [if_pos e]
    · rw [if_neg e, show q - 1 - j = j by omega]
  · rw [List.getElem?_eq_none (by simp [revV]; omega), List.getElem?_eq_none (by rw [txtV_length]; omega)]

set_option maxHeartbeats 4000000 in
set_option maxRecDepth 100000 in
theorem natString_any {w : World} {base c t : Nat} {v : Value} (h : NatOf w base v c t) (hc : c < 18446744073709551616) : Calls Tryz.prog 35 #[v] w fun e w' => StRes w c e w' := by
  obtain ⟨i0, hi0, hz0, hz1, hz2⟩ := info_parts siz8
  have ht3 := h.t3 hc
  obtain ⟨a, cap, rfl, hac⟩ := h.own.slice
  have HN := Lib.hid h; have HA := Lib.hid hac; have HC := Lib.hid hc
  clear h hac hc
  go_enter Tryz.func35, Tryz.ntmps35
  go_wp2_with (fail)
  go_loopw [3, 11] (fun s3 s11 wx => ∃ i q : Nat, s11 = .int .i64 i ∧ i ≤ t ∧ q ≤ 27 ∧ wx.ownsRow w.heap.size 5 1 s3 q (outV c q) ∧ (i < t → q = 9 * i) ∧ (i = t → c / 10 ^ q = 0 ∧ (q = 0 ∨ c / 10 ^ (q - 1) ≠ 0)) ∧ w.grownBy wx none) (fun _ s11 _ => t - (intOf s11).toNat)
  case atStart =>
    refine ⟨0, 0, rfl, Nat.zero_le _, by omega, World.ownsRow_nil _ _ _ _, fun _ => rfl, fun e => ⟨?_, .inl rfl⟩, grown_refl _ _⟩
    have := HN.out.lt; rw [← e] at this; simpa using this
  case round =>
    obtain ⟨i, q, rfl, hi, hq27, how, hlt, heq, hg⟩ := hrel
    have HW := Lib.hid how; have HL := Lib.hid hlt; have HE := Lib.hid heq; have HG := Lib.hid hg
    clear how hlt heq hg
    by_cases hit : i < t
    · have hit2 : (i : Int) < t := by omega
      have hq := HL.out hit
      subst hq
      rcases HA.out with ⟨h1, h2⟩ | ⟨g, rfl, hgb⟩
      · omega
      · have hx := (HN.out.same HG.out).own.cellAt i (by omega)
        rw [lim9_at hit] at hx
        have hxl : c / 10 ^ (9 * i) % 1000000000 < 1000000000 := Nat.mod_lt _ (by decide)
        obtain ⟨x0, hx0⟩ : ∃ x0, c / 10 ^ (9 * i) % 1000000000 = x0 := ⟨_, rfl⟩
        rw [hx0] at hx hxl
        have HX0 := Lib.hid hx0
        clear hx0
        go_upto_block 1 with (fail)
        go_cut [3] from 13 to 39 (fun s3 wx => ∃ k : Nat, k ≤ 9 ∧ wx.ownsRow w.heap.size 5 1 s3 (9 * i + k) (outV c (9 * i + k)) ∧ (i + 1 < t → k = 9) ∧ (i + 1 = t → c / 10 ^ (9 * i + k) = 0 ∧ (9 * i + k = 0 ∨ c / 10 ^ (9 * i + k - 1) ≠ 0)) ∧ w.grownBy wx none)
        case first =>
          go_wp2_with (fail)
          go_loopw [3, 5, 6] (fun s3 s5 s6 wx => ∃ k : Nat, k ≤ 9 ∧ s6 = .int .i64 k ∧ s5 = .int .u32 ((x0 / 10 ^ k : Nat) : Int) ∧ wx.ownsRow w.heap.size 5 1 s3 (9 * i + k) (outV c (9 * i + k)) ∧ (9 * i + k = 0 ∨ c / 10 ^ (9 * i + k - 1) ≠ 0) ∧ w.grownBy wx none) (fun _ _ s6 _ => 9 - (intOf s6).toNat)
          case atStart =>
            refine ⟨0, by omega, rfl, by simp, HW.out, ?_, HG.out⟩
            by_cases hi0' : i = 0
            · left; omega
            · right
              rcases HN.out.top with e | e
              · omega
              · exact pos_of_le e (by omega)
          case round =>
            obtain ⟨k, hk9, rfl, rfl, how, hpos, hg⟩ := hrel
            obtain ⟨x, hxx⟩ : ∃ x, x0 / 10 ^ k = x := ⟨_, rfl⟩
            have hxle : x ≤ x0 := by rw [← hxx]; exact Nat.div_le_self _ _
            have HXX := Lib.hid hxx; have HWK := Lib.hid how; have HPK := Lib.hid hpos; have HGK := Lib.hid hg
            rw [hxx]
            clear how hpos hg hxx hx
            go_upto_region 6 with (fail)
            go_cut [28] from 16 to 28 (fun s28 wx => s28 = .bool (decide (k < 9) && (decide (0 < x) || decide (i + 1 < t))) ∧ wr = wx)
            case first =>
              by_cases c1 : k < 9
              · have d1 : (k : Int) < 9 := by omega
                by_cases c2 : 0 < x
                · have d2 : (0 : Int) < x := by omega
                  go_wp2_with (fail)
                  go_meet
                  exact ⟨congrArg Value.bool (by simp [c1, c2]), rfl⟩
                · have d2 : ¬ (0 : Int) < x := by omega
                  go_wp2_with (fail)
                  go_meet
                  exact ⟨congrArg Value.bool (by simp [c1, c2]; try omega), rfl⟩
              · have d1 : ¬ (k : Int) < 9 := by omega
                go_wp2_with (fail)
                go_meet
                exact ⟨congrArg Value.bool (by simp [c1]), rfl⟩
            case rest =>
              obtain ⟨rfl, rfl⟩ := hcut
              by_cases hb : (decide (k < 9) && (decide (0 < x) || decide (i + 1 < t))) = true
              · rw [hb]
                have hb2 : k < 9 ∧ (0 < x ∨ i + 1 < t) := by simpa using hb
                have HB := Lib.hid hb2
                have hk9' := hb2.1
                clear hb hb2
                have hsz := HGK.out.size
                have e8 : IntKind.u8.wrap (48 + (x : Int) % 10) = ((48 + x % 10 : Nat) : Int) := by rw [IntKind.wrap_u8]; omega
                go_wp2_with (at_builtin; refine wpList_append_own _ rfl (.tmp 31) (.tmp 36) 81 rfl w.heap.size 5 i0 _ 1 1 und81 hi0 hz0 hz1 hz2 rfl (by decide) _ (9 * i + k) (outV c (9 * i + k)) rfl (HWK.out.alloc _) ⟨wr.heap.size, 0, none⟩ 1 1 [_] rfl rfl (cell_one_new _ _ _) (ints_oneCell .u8 [_]) (by simp only [maxLen]; omega) (by omega) (by simp; omega) ?_; intro v' w' hown' hg' hv')
                go_roundw
                case rel =>
                  have ed : x % 10 = c / 10 ^ (9 * i + k) % 10 := by rw [← HXX.out, ← HX0.out]; exact dig_limb c i k hk9'
                  refine ⟨k + 1, by omega, congrArg (Value.int .i64) (by omega), congrArg (Value.int .u32) (by rw [Nat.pow_succ, ← Nat.div_div_eq_div_mul, HXX.out]; simp), ?_, .inr ?_, grown_ownb (grown_trans HGK.out (grown_new _ _)) hg' fun b hb => (HWK.out.lt b hb).1⟩
                  · rw [← Nat.add_assoc, outV_succ, ← ed]; exact hown'
                  · rw [← Nat.add_assoc, Nat.add_sub_cancel]
                    rcases HB.out.2 with hx | hx
                    · exact limb_pos (by rw [HX0.out, HXX.out]; omega)
                    · exact pos_of_le (HN.out.top.resolve_left (by omega)) (by omega)
                case measure => simp [intOf]; omega
              · rw [Bool.eq_false_iff.2 hb]
                have hb2 : ¬ (k < 9 ∧ (0 < x ∨ i + 1 < t)) := by simpa using hb
                have HB := Lib.hid hb2
                clear hb hb2
                go_wp2_with (fail)
                go_meet
                refine ⟨k, hk9, HWK.out, fun h => by have := HB.out; omega, fun h => ⟨limb_zero hk9 ?_ (by rw [h]; exact HN.out.lt), HPK.out⟩, HGK.out⟩
                rw [HX0.out]
                have hb := HB.out
                by_cases hk : k = 9
                · subst hk; exact Nat.div_eq_of_lt hxl
                · rw [HXX.out]; omega
        case rest =>
          obtain ⟨k, hk9, how, h1, h2, hg⟩ := hcut
          have HW2 := Lib.hid how; have H1 := Lib.hid h1; have H2 := Lib.hid h2; have HG2 := Lib.hid hg
          clear how h1 h2 hg
          go_wp2_with (fail)
          go_roundw
          case rel =>
            refine ⟨i + 1, 9 * i + k, congrArg (Value.int .i64) (by omega), hit, by omega, HW2.out, fun h => by have := H1.out h; omega, fun h => H2.out h, HG2.out⟩
          case measure => simp [intOf]; omega
    · have hie : i = t := by omega
      subst hie
      obtain ⟨hz, hnz⟩ := HE.out rfl
      obtain ⟨a3, cap3, hu3, hac3⟩ := HW.out.slice
      subst hu3
      have HA3 := Lib.hid hac3
      by_cases hq0 : q = 0
      · subst hq0
        have hc0 : c = 0 := by simpa using hz
        clear hz hnz hac3 HE HL
        go_wp2_with (fail)
        go_ret
        subst hc0
        exact ⟨_, 1, rfl, txt_zero, .inl ⟨rfl, rfl⟩, HG.out⟩
      · have hc1 := hnz.resolve_left hq0
        have hq1 : ((q : Int) == 0) = false := by simp; omega
        have HZ := Lib.hid hz; have HZ1 := Lib.hid hc1
        clear hz hnz hac3 HE HL hc1
        rcases HA3.out with ⟨g1, g2⟩ | ⟨g3, rfl, hgb⟩
        · exact absurd g2 hq0
        · go_upto_block 4 with (fail)
          go_cut [] from 47 to 67 (fun wx => wx.ownsRow w.heap.size 5 1 (.slice (some ⟨g3, 0, none⟩) q cap3) q (txtV (mkTxt false c 0 q)) ∧ w.grownBy wx none)
          case first =>
            go_wp2_with (fail)
            go_loopw [7, 8] (fun s7 s8 wx => ∃ p p2 : Nat, s7 = .int .i64 p ∧ s8 = .int .i64 p2 ∧ p + p2 + 1 = q ∧ p ≤ p2 + 1 ∧ wx.ownsRow w.heap.size 5 1 (.slice (some ⟨g3, 0, none⟩) q cap3) q (revV c q p) ∧ w.grownBy wx none) (fun _ s8 _ => (intOf s8).toNat)
            case atStart =>
              exact ⟨0, q - 1, rfl, congrArg (Value.int .i64) (by omega), by omega, by omega, by rw [rev_zero]; exact HW.out, HG.out⟩
            case round =>
              obtain ⟨p, p2, rfl, rfl, hpq, hpp, how, hg⟩ := hrel
              have HWR := Lib.hid how; have HGR := Lib.hid hg
              by_cases hlt : p < p2
              · have hlt2 : (p : Int) < p2 := by omega
                have x1 := how.cellAt p (by omega)
                have x2 := how.cellAt p2 (by omega)
                rw [rev_at1 hpq hlt] at x1
                rw [rev_at2 hpq hlt] at x2
                have f1 := how.frozenAt p
                have f2 := how.frozenAt p2
                have hpq1 : (p : Int) < q := by omega
                have hpq2 : (p2 : Int) < q := by omega
                generalize hv1 : 48 + c / 10 ^ p % 10 = v1 at x1
                generalize hv2 : 48 + c / 10 ^ p2 % 10 = v2 at x2
                have HV1 := Lib.hid hv1; have HV2 := Lib.hid hv2; have HPQ := Lib.hid hpq
                have hne : p ≠ p2 := by omega
                clear how hg hv1 hv2
                go_upto_region 16 with (fail)
                go_region
                all_goals
                  go_wp2_with (fail)
                  go_roundw
                case rel =>
                  have s2 := ((HWR.out.stored p (.int .u8 v2)).1.stored p2 (.int .u8 v1)).1
                  rw [← HV1.out, ← HV2.out, rev_step HPQ.out hlt] at s2
                  rw [← HV1.out, ← HV2.out]
                  exact ⟨p + 1, p2 - 1, congrArg (Value.int .i64) (by omega), congrArg (Value.int .i64) (by omega), by have := HPQ.out; omega, by omega, s2.kept (grown_drew _) (own_any _), grown_trans (gset hgb _ _ (gset hgb _ _ HGR.out)) (grown_drew _)⟩
                case measure => simp [intOf]; omega
              · have hlt2 : ¬ (p : Int) < p2 := by omega
                rw [rev_done hpq hpp hlt] at how
                have HWR := Lib.hid how
                clear how hg
                go_wp2_with (fail)
                go_meet
                exact ⟨HWR.out, HGR.out⟩
          case rest =>
            obtain ⟨how, hg⟩ := hcut
            have HWC := Lib.hid how; have HGC := Lib.hid hg
            have hsz : (mkTxt false c 0 q).size = q := by rw [mkTxt_size]; simp [sgn, pnt]
            have hcv := fun cap => Lib.run_convert_whole (P := Tryz.prog) wc 81 5 9 und81 (by kernel_rfl) (by kernel_rfl) g3 0 (mkTxt false c 0 q) (bytes_own how) cap
            rw [hsz] at hcv
            clear how hg hsz
            go_wp2_with (fail)
            go_ret
            exact ⟨_, q, rfl, mkTxt_is (by omega) (q_le20 (pow_le_of_div HZ1.out) HC.out) (div_zero_lt HZ.out), .inr (pow_le_of_div HZ1.out), HGC.out⟩
end Go.Proofs.YtndphemomhcjlaaGreatDoor

namespace Go.Proofs.YtndphemomhcjlaaGreatDoor
open Go.RowKit

theorem le19_iff {c m : Nat} (h1 : (c = 0 ∧ m = 1) ∨ 10 ^ (m - 1) ≤ c) (h2 : c < 10 ^ m) : m ≤ 19 ↔ c < 10000000000000000000 := by
  have e : (10 : Nat) ^ 19 = 10000000000000000000 := by decide
  constructor
  · intro h
    have := Nat.pow_le_pow_right (n := 10) (by decide) h
    omega
  · intro h
    rcases h1 with h1 | h1
    · omega
    · have h3 : 10 ^ (m - 1) < 10 ^ 19 := by omega
      have := (Nat.pow_lt_pow_iff_right (by decide : 1 < 10)).1 h3
      omega
def DgRes (w : World) (c : Nat) (e : Ending) (w' : World) : Prop := ∃ d : Nat, e = .returned (.int .i64 d) ∧ (d ≤ 19 ↔ c < 10000000000000000000) ∧ d ≤ 20 ∧ w.grownBy w' none
set_option maxRecDepth 100000 in
theorem digits_any {w : World} {base c t : Nat} {v : Value} (h : NatOf w base v c t) (hc : c < 18446744073709551616) : Calls Tryz.prog 17 #[v] w fun e w' => DgRes w c e w' := by
  have hs := natString_any h hc
  have ht3 := h.t3 hc
  obtain ⟨a, cap, rfl, hac⟩ := h.own.slice
  have HN := Lib.hid h; have HS := Lib.hid hs
  clear h hac hc hs
  by_cases h0 : t = 0
  · subst h0
    go_enter Tryz.func17, Tryz.ntmps17
    go_wp2_with (fail)
    go_ret
    have := HN.out.lt
    exact ⟨0, rfl, ⟨fun _ => by simp at this; omega, fun _ => by omega⟩, by omega, grown_refl _ _⟩
  · have ht0 : ((t : Int) == 0) = false := by simp; omega
    clear h0
    go_enter Tryz.func17, Tryz.ntmps17
    go_wp2_with (fail)
    refine HS.out.mono ?_
    rintro e w1 ⟨s, m, rfl, ht, hn, hg⟩
    have HT := Lib.hid ht; have HNN := Lib.hid hn; have HG := Lib.hid hg
    clear ht hn hg
    go_wp2_with (fail)
    go_ret
    have hsz : s.size = m := by have := HT.out.size; simp [sgn, pnt] at this; exact this
    exact ⟨m, by rw [← hsz]; rfl, le19_iff HNN.out HT.out.cm, HT.out.m20, HG.out⟩

def wholeV (neg : Bool) (v : Value) : Value := .agg #[.bool neg, v]
set_option maxRecDepth 100000 in
theorem wholeOf_any {w : World} {base c t : Nat} {v : Value} (neg : Bool) (h : NatOf w base v c t) : Calls Tryz.prog 15 #[.bool neg, v] w fun e w' => e = .returned (wholeV (neg && !decide (c = 0)) v) ∧ w.grownBy w' none := by
  obtain ⟨a, cap, rfl, hac⟩ := h.own.slice
  have hiff : t = 0 ↔ c = 0 := by
    constructor
    · intro e; have := h.lt; rw [e] at this; simpa using this
    · intro e
      rcases h.top with e2 | e2
      · exact e2
      · rw [e] at e2; have := Nat.pow_pos (n := 9 * (t - 1)) (show 0 < 10 by decide); omega
  obtain ⟨b, hb⟩ : ∃ b, (neg && !decide (c = 0)) = b := ⟨_, rfl⟩
  rw [hb]
  clear h hac
  have HI := Lib.hid hiff
  unfold wholeV
  have fin : ∀ x : Bool, x = b → Calls Tryz.prog 15 #[.bool neg, .slice a t cap] w (fun e w' => e = .returned (.agg #[.bool x, .slice a t cap]) ∧ w.grownBy w' none) → Calls Tryz.prog 15 #[.bool neg, .slice a t cap] w (fun e w' => e = .returned (.agg #[.bool b, .slice a t cap]) ∧ w.grownBy w' none) := fun x hx h => by rw [← hx]; exact h
  cases neg with
  | false =>
    refine fin false (by rw [← hb]; rfl) ?_
    clear hb fin hiff
    go_enter Tryz.func15, Tryz.ntmps15
    go_wp2_with (fail)
    refine bodyPost_ret (v := .agg #[.bool false, .slice a t cap]) (by simp [results, Tryz.func15, go_sem]; try rfl) rfl ?_
    exact ⟨rfl, grown_new _ _⟩
  | true =>
    by_cases h0 : t = 0
    · refine fin false (by rw [← hb, (HI.out.1 h0)]; rfl) ?_
      subst h0
      clear hb fin hiff HI
      go_enter Tryz.func15, Tryz.ntmps15
      go_wp2_with (fail)
      refine bodyPost_ret (v := .agg #[.bool false, .slice a 0 cap]) (by simp [results, Tryz.func15, go_sem]; try rfl) rfl ?_
      exact ⟨rfl, grown_new _ _⟩
    · refine fin true (by rw [← hb, decide_eq_false (fun e => h0 (HI.out.2 e))]; rfl) ?_
      have ht : (0 : Int) < t := by omega
      clear hb fin hiff HI h0
      go_enter Tryz.func15, Tryz.ntmps15
      go_wp2_with (fail)
      refine bodyPost_ret (v := .agg #[.bool true, .slice a t cap]) (by simp [results, Tryz.func15, go_sem]; omega) rfl ?_
      exact ⟨rfl, grown_new _ _⟩

def WsRes (w : World) (neg : Bool) (c : Nat) (e : Ending) (w' : World) : Prop := ∃ s m, e = .returned (.string s) ∧ IsTxt s neg c 0 m ∧ ((c = 0 ∧ m = 1) ∨ 10 ^ (m - 1) ≤ c) ∧ w.grownBy w' none
theorem txt_neg {s : ByteArray} {c m : Nat} (h : IsTxt s false c 0 m) : IsTxt ((⟨#[45]⟩ : ByteArray) ++ s) true c 0 m := by
  have hz : s.size = m := by have := h.size; simp [sgn, pnt] at this; exact this
  have h1 : (⟨#[45]⟩ : ByteArray).size = 1 := rfl
  refine ⟨by rw [ByteArray.size_append, h1, hz]; simp [sgn, pnt], fun h0 _ => ?_, fun i hi hle => ?_, h.km, h.m20, h.cm⟩
  · rw [ByteArray.getElem_append_left (by decide)]; rfl
  · have hle : 1 ≤ i := hle
    rw [ByteArray.getElem_append_right (by rw [h1]; omega)]
    have hi2 : i - 1 < s.size := by rw [ByteArray.size_append, h1] at hi; omega
    exact h.byte (i - 1) hi2 (Nat.zero_le _)
set_option maxRecDepth 100000 in
theorem wholeString_any {w : World} {base c t : Nat} {v : Value} (neg : Bool) (h : NatOf w base v c t) (hc : c < 18446744073709551616) : Calls Tryz.prog 18 #[wholeV neg v] w fun e w' => WsRes w neg c e w' := by
  obtain ⟨a, cap, rfl, hac⟩ := h.own.slice
  have HN := Lib.hid h; have HC := Lib.hid hc
  clear h hac hc
  unfold wholeV
  go_enter Tryz.func18, Tryz.ntmps18
  go_upto_region 1 with (fail)
  obtain ⟨W1, hW1⟩ : ∃ W1, W1 = w.alloc (.cells #[.bool neg, .slice a t cap] 37) := ⟨_, rfl⟩
  rw [← hW1]
  have g1 : w.grownBy W1 none := by rw [hW1]; exact grown_new _ _
  have hx : W1.heap[w.heap.size]? = some (.cells #[.bool neg, .slice a t cap] 37) := by rw [hW1]; exact heap_new _ _
  have x0 : W1.cell? ⟨w.heap.size, 0, none⟩ = some (.bool neg) := by unfold World.cell?; rw [hx]; rfl
  have x1 : W1.cell? ⟨w.heap.size, 1, none⟩ = some (.slice a t cap) := by unfold World.cell?; rw [hx]; rfl
  have G1 := Lib.hid g1
  clear hW1 g1 hx
  cases neg with
  | false =>
    go_wp2_with (fail)
    refine (natString_any (HN.out.same G1.out) HC.out).mono ?_
    rintro e w2 ⟨s, m, rfl, ht, hn, hg⟩
    have HT := Lib.hid ht; have HNN := Lib.hid hn; have HG := Lib.hid (grown_trans G1.out hg)
    clear ht hn hg x0 x1
    go_wp2_with (fail)
    go_ret
    exact ⟨s, m, rfl, HT.out, HNN.out, HG.out⟩
  | true =>
    go_wp2_with (fail)
    refine (natString_any (HN.out.same G1.out) HC.out).mono ?_
    rintro e w2 ⟨s, m, rfl, ht, hn, hg⟩
    have HT := Lib.hid ht; have HNN := Lib.hid hn; have HG := Lib.hid (grown_trans G1.out hg)
    have hsz : s.size ≤ 20 := by have := HT.out.size; have := HT.out.m20; simp [sgn, pnt] at *; omega
    have h45 : (⟨#[45]⟩ : ByteArray).size = 1 := rfl
    clear ht hn hg x0 x1
    go_wp2_with (fail)
    go_ret
    exact ⟨_, m, rfl, txt_neg HT.out, HNN.out, HG.out⟩
end Go.Proofs.YtndphemomhcjlaaGreatDoor
