/- The product of two numbers in limbs. Conditions: at most a thousand limbs each. The product of two numbers in limbs, walked. Conditions: at most a thousand limbs each. -/
import Derived.Test.YtjcfacinlgogaaaGreatDoorQ33
import Derived.Test.YtjcfacinlgogaaaGreatDoorQ39
set_option linter.all false
set_option maxHeartbeats 4000000
set_option maxRecDepth 100000
set_option exponentiation.threshold 3000
namespace Go.Proofs.YtjcfacinlgogaaaGreatDoor
open Go.RowKit
def lm9 (c j : Nat) : Nat := c / 10 ^ (9 * j) % 1000000000
def M9 (U V m n : Nat) : List Value := (List.range n).map fun j => .int .u32 ((if j < m then lm9 V j else lm9 U j : Nat) : Int)
theorem M9_all (U n m : Nat) : M9 U U m n = lim9 U n := by
  unfold M9 lim9 lm9
  apply List.map_congr_left
  intro j _
  split <;> rfl
theorem M9_at {U V m n : Nat} (h : m < n) : (M9 U V m n)[m]? = some (.int .u32 (lm9 U m : Nat)) := by unfold M9; simp [h]
theorem M9_set {U V V' m n : Nat} (h : m < n) (hV : ∀ j, j < m → lm9 V j = lm9 V' j) : (M9 U V m n).set m (.int .u32 (lm9 V' m : Nat)) = M9 U V' (m + 1) n := by
  apply List.ext_getElem?
  intro j
  by_cases hj : j = m
  · subst hj
    rw [List.getElem?_set_self (by simp [M9]; exact h)]
    unfold M9; simp [h]
  · rw [List.getElem?_set_ne (by omega)]
    unfold M9
    by_cases hjt : j < n
    · simp only [List.getElem?_map, List.getElem?_range hjt, Option.map_some]
      by_cases h1 : j < m
      · rw [if_pos h1, if_pos (by omega), hV j h1]
      · rw [if_neg h1, if_neg (by omega)]
    · rw [List.getElem?_eq_none (by simp; omega), List.getElem?_eq_none (by simp; omega)]
theorem M9_top {U V m n : Nat} (h : ∀ j, m ≤ j → j < n → lm9 U j = lm9 V j) : M9 U V m n = lim9 V n := by
  unfold M9 lim9
  apply List.map_congr_left
  intro j hj
  have := List.mem_range.1 hj
  by_cases h1 : j < m
  · rw [if_pos h1]; rfl
  · rw [if_neg h1, h j (by omega) this]; rfl
theorem low_same {V z m : Nat} : ∀ j, j < m → lm9 V j = lm9 (V + z * 10 ^ (9 * m)) j := by
  intro j hj
  unfold lm9
  obtain ⟨d, rfl⟩ : ∃ d, m = j + 1 + d := ⟨m - (j + 1), by omega⟩
  have hp : 0 < 10 ^ (9 * j) := Nat.pow_pos (by decide)
  rw [show z * 10 ^ (9 * (j + 1 + d)) = 10 ^ (9 * j) * (1000000000 * (z * 10 ^ (9 * d))) by
    rw [show 9 * (j + 1 + d) = 9 * j + (9 + 9 * d) by omega, Nat.pow_add, Nat.pow_add, show (10 : Nat) ^ 9 = 1000000000 by decide]
    rw [Nat.mul_left_comm, Nat.mul_left_comm z], Nat.add_mul_div_left _ _ hp, Nat.add_mul_mod_self_left]
theorem mul_step {U V c z m : Nat} (h : V / 10 ^ (9 * m) = U / 10 ^ (9 * m) + c) :
    lm9 (V + z * 10 ^ (9 * m)) m = (c + (lm9 U m + z)) % 1000000000 ∧ (V + z * 10 ^ (9 * m)) / 10 ^ (9 * (m + 1)) = U / 10 ^ (9 * (m + 1)) + (c + (lm9 U m + z)) / 1000000000 := by
  have hp : 0 < 10 ^ (9 * m) := Nat.pow_pos (by decide)
  have e : (V + z * 10 ^ (9 * m)) / 10 ^ (9 * m) = U / 10 ^ (9 * m) + c + z := by rw [Nat.add_mul_div_right _ _ hp, h]
  unfold lm9
  rw [lim_next, lim_next, e]
  generalize U / 10 ^ (9 * m) = q
  constructor <;> omega
theorem low_succ (b j : Nat) : b % 10 ^ (9 * (j + 1)) = lm9 b j * 10 ^ (9 * j) + b % 10 ^ (9 * j) := mod9_succ b j
def VV (a b i j : Nat) : Nat := a % 10 ^ (9 * i) * b + lm9 a i * 10 ^ (9 * i) * (b % 10 ^ (9 * j))
theorem VV_zero (a b i : Nat) : VV a b i 0 = a % 10 ^ (9 * i) * b := by unfold VV; simp [Nat.mod_one]
theorem VV_succ (a b i j : Nat) : VV a b i (j + 1) = VV a b i j + lm9 a i * lm9 b j * 10 ^ (9 * (i + j)) := by
  unfold VV
  rw [low_succ, show 9 * (i + j) = 9 * i + 9 * j by omega, Nat.pow_add]
  generalize 10 ^ (9 * i) = P
  generalize 10 ^ (9 * j) = R
  generalize lm9 a i = x
  generalize lm9 b j = y
  generalize b % R = z
  rw [Nat.mul_add]
  have : x * P * (y * R) = x * y * (P * R) := by rw [Nat.mul_mul_mul_comm]
  rw [this]; omega
theorem VV_end {a b i tb : Nat} (h : b < 10 ^ (9 * tb)) : VV a b i tb = a % 10 ^ (9 * (i + 1)) * b := by
  unfold VV
  rw [Nat.mod_eq_of_lt h, low_succ, Nat.add_mul]; omega
theorem lm9_high {c m j : Nat} (h : c < 10 ^ (9 * m)) (hj : m ≤ j) : lm9 c j = 0 := limb_none h hj
theorem AB_lt {a b i tb : Nat} (h : b < 10 ^ (9 * tb)) : a % 10 ^ (9 * i) * b < 10 ^ (9 * (i + tb)) := by
  rw [show 9 * (i + tb) = 9 * i + 9 * tb by omega, Nat.pow_add]
  exact Nat.mul_lt_mul'' (Nat.mod_lt _ (Nat.pow_pos (by decide))) h
end Go.Proofs.YtjcfacinlgogaaaGreatDoor
namespace Go.Proofs.YtjcfacinlgogaaaGreatDoor
open Go.RowKit
theorem mu_eq {c o x y : Nat} (hc : c < 1000000000) (ho : o < 1000000000) (hx : x < 1000000000) (hy : y < 1000000000) :
    IntKind.u64.wrap ((IntKind.u64.wrap ((c : Int) + IntKind.u64.wrap (IntKind.u64.wrap (o : Int) + IntKind.u64.wrap (IntKind.u64.wrap (x : Int) * IntKind.u64.wrap (y : Int))))).tdiv 1000000000) = (((c + (o + x * y)) / 1000000000 : Nat) : Int) ∧
    (IntKind.u64.wrap ((c : Int) + IntKind.u64.wrap (IntKind.u64.wrap (o : Int) + IntKind.u64.wrap (IntKind.u64.wrap (x : Int) * IntKind.u64.wrap (y : Int))))).tmod 1000000000 % 4294967296 = (((c + (o + x * y)) % 1000000000 : Nat) : Int) ∧ (c + (o + x * y)) / 1000000000 < 1000000000 := by
  have e1 : IntKind.u64.wrap (x : Int) = x := by rw [IntKind.wrap_u64]; omega
  have e2 : IntKind.u64.wrap (y : Int) = y := by rw [IntKind.wrap_u64]; omega
  have e3 : IntKind.u64.wrap (o : Int) = o := by rw [IntKind.wrap_u64]; omega
  have hxy : x * y ≤ 999999999 * 999999999 := Nat.mul_le_mul (by omega) (by omega)
  rw [e1, e2, e3, ← Int.natCast_mul]
  generalize x * y = z at *
  have e4 : IntKind.u64.wrap (z : Int) = z := by rw [IntKind.wrap_u64]; omega
  have e5 : IntKind.u64.wrap ((o : Int) + z) = ((o + z : Nat) : Int) := by rw [IntKind.wrap_u64]; omega
  have e6 : IntKind.u64.wrap ((c : Int) + ((o + z : Nat) : Int)) = ((c + (o + z) : Nat) : Int) := by rw [IntKind.wrap_u64]; omega
  rw [e4, e5, e6, Int.tdiv_eq_ediv_of_nonneg (by omega), Int.tmod_eq_emod_of_nonneg (by omega), IntKind.wrap_u64]
  refine ⟨by omega, by omega, by omega⟩
theorem NatMul_any {w : World} {base1 base2 a b ta tb : Nat} {u v : Value} (ha : NatOf w base1 u a ta) (hb : NatOf w base2 v b tb) (hta : ta ≤ 1000) (htb : tb ≤ 1000) : Calls Tryz.prog 42 #[u, v] w fun r w' => NwR w (a * b) r w' := by
  have hmk := mk32 (ta + tb) (by omega)
  rw [Int.natCast_add] at hmk
  obtain ⟨a1, cap1, rfl, hac1⟩ := ha.own.slice
  obtain ⟨a2, cap2, rfl, hac2⟩ := hb.own.slice
  have HA := Hq0 ha; have HB := Hq0 hb; have H1 := Hq0 hac1; have H2 := Hq0 hac2
  have HT := Hq0 (And.intro hta htb)
  have HZ := Hq0 (z32_row w (ta + tb) (by omega))
  have hG := Hq0 (grown_new w (z32 (ta + tb)))
  have h1i : (ta : Int) ≤ 1000 := by omega
  have h2i : (tb : Int) ≤ 1000 := by omega
  clear ha hb hac1 hac2 hta htb
  go_enter Tryz.func42, Tryz.ntmps42
  go_upto_region 2 with (fail)
  generalize w.alloc (z32 (ta + tb)) = W1 at *
  obtain ⟨g5, hg5⟩ : ∃ g, g = w.heap.size := ⟨_, rfl⟩
  obtain ⟨n, hn⟩ : ∃ n, ta + tb = n := ⟨_, rfl⟩
  rw [hn] at HZ ⊢
  rw [← hg5]
  have hZ := HZ.out
  have HZ2 : Hid (W1.ownsRow w.heap.size 73 1 (.slice (some ⟨g5, 0, none⟩) n n) n (lim9 0 n)) := Hq0 (by rw [← hg5] at hZ ⊢; exact hZ)
  have hgb : w.heap.size ≤ g5 := by omega
  have HN := Hq0 hn
  clear hmk HZ hg5 hZ hn
  go_wp2_with (fail)
  go_loopw [19] (fun s19 wx => ∃ i : Nat, i ≤ ta ∧ s19 = .int .i64 (i : Nat) ∧ wx.ownsRow w.heap.size 73 1 (.slice (some ⟨g5, 0, none⟩) n n) n (lim9 (a % 10 ^ (9 * i) * b) n) ∧ w.grownBy wx none) (fun s19 _ => ta - (intOf s19).toNat)
  case atStart => exact ⟨0, Nat.zero_le _, rfl, by have := HZ2.out; simpa [Nat.mod_one] using this, hG.out⟩
  case round =>
    obtain ⟨i, hi, rfl, how, hg⟩ := hrel
    have HO := Hq0 how; have HG := Hq0 hg
    by_cases hit : i < ta
    · have hit2 : (i : Int) < ta := by omega
      rcases H1.out with ⟨rfl, h2⟩ | ⟨g1, rfl, _⟩
      · omega
      have hxc := (HA.out.same hg).own.cellAt i (by omega)
      rw [lim9_at hit] at hxc
      obtain ⟨x, hx⟩ : ∃ x, a / 10 ^ (9 * i) % 1000000000 = x := ⟨_, rfl⟩
      have hxl : x < 1000000000 := by rw [← hx]; exact Nat.mod_lt _ (by decide)
      rw [hx] at hxc
      have HX : Hid (lm9 a i = x) := Hq0 hx
      have HXL := Hq0 hxl; have HIT := Hq0 hit
      clear how hg hx hxl hi hit
      go_upto_block 2 with (fail)
      go_cut [8] from 26 to 56 (fun s8 wx => (∃ c : Nat, c < 1000000000 ∧ s8 = .int .u64 (c : Nat) ∧ VV a b i tb / 10 ^ (9 * (i + tb)) = a % 10 ^ (9 * i) * b / 10 ^ (9 * (i + tb)) + c) ∧ wx.ownsRow w.heap.size 73 1 (.slice (some ⟨g5, 0, none⟩) n n) n (M9 (a % 10 ^ (9 * i) * b) (VV a b i tb) (i + tb) n) ∧ w.grownBy wx none)
      case first =>
        go_wp2_with (fail)
        go_loopw [8, 26] (fun s8 s26 wx => ∃ j c : Nat, j ≤ tb ∧ s26 = .int .i64 (j : Nat) ∧ c < 1000000000 ∧ s8 = .int .u64 (c : Nat) ∧ VV a b i j / 10 ^ (9 * (i + j)) = a % 10 ^ (9 * i) * b / 10 ^ (9 * (i + j)) + c ∧ wx.ownsRow w.heap.size 73 1 (.slice (some ⟨g5, 0, none⟩) n n) n (M9 (a % 10 ^ (9 * i) * b) (VV a b i j) (i + j) n) ∧ w.grownBy wx none) (fun _ s26 _ => tb - (intOf s26).toNat)
        case atStart => exact ⟨0, 0, Nat.zero_le _, rfl, by decide, rfl, by rw [VV_zero]; rfl, by rw [VV_zero, M9_all]; exact HO.out, HG.out⟩
        case round =>
          obtain ⟨j, c, hj, rfl, hc, rfl, hV, hrow, hg⟩ := hrel
          have HV := Hq0 hV; have HR := Hq0 hrow; have HGJ := Hq0 hg; have HCC := Hq0 hc
          by_cases hjt : j < tb
          · have hjt2 : (j : Int) < tb := by omega
            rcases H2.out with ⟨rfl, h2⟩ | ⟨g2, rfl, _⟩
            · omega
            have hyc := (HB.out.same hg).own.cellAt j (by omega)
            rw [lim9_at hjt] at hyc
            obtain ⟨y, hy⟩ : ∃ y, b / 10 ^ (9 * j) % 1000000000 = y := ⟨_, rfl⟩
            have hyl : y < 1000000000 := by rw [← hy]; exact Nat.mod_lt _ (by decide)
            rw [hy] at hyc
            have HY : Hid (lm9 b j = y) := Hq0 hy
            have hijn : i + j < n := by have := HN.out; have := HIT.out; omega
            have hoc := hrow.cellAt (i + j) (by omega)
            rw [M9_at hijn] at hoc
            have hfz := hrow.frozenAt (i + j)
            obtain ⟨o, ho⟩ : ∃ o, lm9 (a % 10 ^ (9 * i) * b) (i + j) = o := ⟨_, rfl⟩
            have hol : o < 1000000000 := by rw [← ho]; exact Nat.mod_lt _ (by decide)
            rw [ho] at hoc
            have HOO := Hq0 ho
            have hijn2 : (i : Int) + j < n := by omega
            have hi0 : (0 : Int) ≤ (i : Int) + j := by omega
            have hw64 : wrap64 ((i : Int) + j) = ((i + j : Nat) : Int) := by rw [← i64_left']; exact IntWalk.i64_in _ (by have := HT.out; omega)
            have hn2 : (n : Int) ≤ 2000 := by have := HN.out; omega
            have HBD := Hq0 (And.intro hyl hol); have HJT := Hq0 hjt; have HIJ := Hq0 hijn
            clear hV hrow hg hc hy ho hyl hol hj hjt hw64 hijn
            go_wp2_with (fail)
            obtain ⟨q1, q2, q3⟩ := mu_eq HCC.out HBD.out.2 HXL.out HBD.out.1
            obtain ⟨p1, p2⟩ := mul_step (z := x * y) HV.out
            have hvs := VV_succ a b i j
            rw [HX.out, HY.out] at hvs
            rw [← hvs, HOO.out] at p1
            rw [← hvs, HOO.out] at p2
            rw [q1, q2]
            refine ⟨⟨j + 1, _, HJT.out, rfl, q3, rfl, by rw [← Nat.add_assoc]; exact p2, ?_, grown_own HGJ.out (grown_set1 _ _ _ _) (.inr hgb)⟩, mea3 HJT.out⟩
            have hs := (HR.out.stored (i + j) (.int .u32 (lm9 (VV a b i (j + 1)) (i + j) : Nat))).1
            rw [M9_set HIJ.out (by rw [hvs]; exact low_same), p1] at hs
            rw [show i + (j + 1) = i + j + 1 from rfl]
            exact hs
          · have hje : j = tb := by omega
            subst hje
            clear hV hrow hg hj hjt
            go_wp2_with (fail)
            go_meet
            exact ⟨⟨c, HCC.out, rfl, HV.out⟩, HR.out, HGJ.out⟩
      case rest =>
        obtain ⟨⟨c, hc, rfl, hV⟩, hrow, hg⟩ := hcut
        have hin : i + tb < n := by have := HN.out; have := HIT.out; omega
        have hU := AB_lt (a := a) (i := i) HB.out.lt
        rw [Nat.div_eq_of_lt hU, Nat.zero_add] at hV
        have hlm : lm9 (VV a b i tb) (i + tb) = c := by unfold lm9; rw [hV, Nat.mod_eq_of_lt hc]
        have hend := VV_end (a := a) (i := i) HB.out.lt
        have hVlt : VV a b i tb < 10 ^ (9 * (i + tb + 1)) := by rw [hend, show i + tb + 1 = i + 1 + tb by omega]; exact AB_lt HB.out.lt
        have hset := (hrow.stored (i + tb) (.int .u32 (lm9 (VV a b i tb) (i + tb) : Nat))).1
        rw [M9_set hin (fun _ _ => rfl), M9_top (fun j h1 h2 => by rw [lm9_high hU (by omega), lm9_high hVlt h1]), hend, ← hend, hlm, hend] at hset
        have HSET := Hq0 hset; have HGR := Hq0 hg
        have hoc := hrow.cellAt (i + tb) (by omega)
        rw [M9_at hin] at hoc
        have hfz := hrow.frozenAt (i + tb)
        generalize lm9 (a % 10 ^ (9 * i) * b) (i + tb) = o at hoc
        have hijn2 : (i : Int) + tb < n := by omega
        have hi0 : (0 : Int) ≤ (i : Int) + tb := by omega
        have hn2 : (n : Int) ≤ 2000 := by have := HN.out; omega
        have ec : IntKind.u64.wrap (c : Int) % 4294967296 = (c : Int) := by rw [IntKind.wrap_u64]; omega
        have ec2 : (c : Int) % 4294967296 = (c : Int) := by omega
        have EC := Hq0 ec; have EC2 := Hq0 ec2
        clear hc hV hrow hg hin hU hlm hend hVlt hset ec ec2
        go_wp2_with (fail)
        first | rw [EC.out] | rw [EC2.out]
        refine ⟨⟨i + 1, HIT.out, rfl, HSET.out, grown_own HGR.out (grown_set1 _ _ _ _) (.inr hgb)⟩, mea3 HIT.out⟩
    · have hie : i = ta := by omega
      subst hie
      have hlt : a * b < 10 ^ (9 * n) := by
        rw [← HN.out, show 9 * (i + tb) = 9 * i + 9 * tb by omega, Nat.pow_add]
        exact Nat.mul_lt_mul'' HA.out.lt HB.out.lt
      rw [Nat.mod_eq_of_lt HA.out.lt] at how
      have HTR := Hq0 (natTrim_any how hlt)
      have hit2 : ¬ (i : Int) < i := by omega
      clear how hg hit hi hlt
      go_wp2_with (fail)
      refine HTR.out.mono ?_
      rintro rr w2 ⟨a9, cap9, t9, rfl, -, hn, -, rfl⟩
      have HNN := Hq0 hn
      clear hn HTR
      go_wp2_with (fail)
      go_ret
      exact ⟨_, t9, rfl, HNN.out, HG.out⟩
end Go.Proofs.YtjcfacinlgogaaaGreatDoor
