/- The sum of two numbers in limbs. Conditions: at most a thousand limbs each. The difference of two numbers in limbs. Conditions: the second one not greater; at most a thousand limbs. A number in limbs divided by a limb. Conditions: at most a thousand limbs. -/
import Derived.Test.YtjcfacinlgogaaaGreatDoorQ38
set_option linter.all false
set_option maxHeartbeats 4000000
set_option maxRecDepth 100000
set_option exponentiation.threshold 3000
namespace Go.Proofs.YtjcfacinlgogaaaGreatDoor
open Go.RowKit
theorem u32a {x y : Nat} (h : x + y < 4294967296) : ((x : Int) + y) % 4294967296 = ((x + y : Nat) : Int) := by omega
theorem u32c {x y : Nat} (h : x + y < 4294967296) : IntKind.u32.wrap ((x : Int) + y) = ((x + y : Nat) : Int) := by rw [IntKind.wrap_u32]; omega
theorem u32b (x y : Nat) : ((x : Int) + y) = ((x + y : Nat) : Int) := by omega
def car (a b i : Nat) : Nat := (a % 10 ^ (9 * i) + b % 10 ^ (9 * i)) / 10 ^ (9 * i)
theorem mod9_succ (a i : Nat) : a % 10 ^ (9 * (i + 1)) = a / 10 ^ (9 * i) % 1000000000 * 10 ^ (9 * i) + a % 10 ^ (9 * i) := by
  rw [show 9 * (i + 1) = 9 * i + 9 by omega, Nat.pow_add, Nat.mod_mul, show (10 : Nat) ^ 9 = 1000000000 by decide, Nat.add_comm, Nat.mul_comm]
theorem car_le (a b i : Nat) : car a b i ≤ 1 := by
  have hp : 0 < 10 ^ (9 * i) := Nat.pow_pos (by decide)
  have h1 := Nat.mod_lt a hp
  have h2 := Nat.mod_lt b hp
  unfold car
  have := (Nat.div_lt_iff_lt_mul hp (x := a % 10 ^ (9 * i) + b % 10 ^ (9 * i)) (y := 2)).2 (by omega)
  omega
theorem car_step (a b i : Nat) : (car a b i + a / 10 ^ (9 * i) % 1000000000 + b / 10 ^ (9 * i) % 1000000000) % 1000000000 = (a + b) / 10 ^ (9 * i) % 1000000000 ∧ (car a b i + a / 10 ^ (9 * i) % 1000000000 + b / 10 ^ (9 * i) % 1000000000) / 1000000000 = car a b (i + 1) := by
  have hp : 0 < 10 ^ (9 * i) := Nat.pow_pos (by decide)
  have e1 : (a + b) / 10 ^ (9 * i) = a / 10 ^ (9 * i) + b / 10 ^ (9 * i) + car a b i := by
    unfold car
    have h1 := Nat.div_add_mod a (10 ^ (9 * i))
    have h2 := Nat.div_add_mod b (10 ^ (9 * i))
    have h3 : a + b = (a % 10 ^ (9 * i) + b % 10 ^ (9 * i)) + 10 ^ (9 * i) * (a / 10 ^ (9 * i) + b / 10 ^ (9 * i)) := by rw [Nat.mul_add]; omega
    rw [h3, Nat.add_mul_div_left _ _ hp]; omega
  constructor
  · rw [e1]; omega
  · rw [show car a b (i + 1) = (a % 10 ^ (9 * (i + 1)) + b % 10 ^ (9 * (i + 1))) / 10 ^ (9 * (i + 1)) from rfl, mod9_succ, mod9_succ]
    rw [show 9 * (i + 1) = 9 * i + 9 by omega, Nat.pow_add, ← Nat.div_div_eq_div_mul, show (10 : Nat) ^ 9 = 1000000000 by decide]
    congr 1
    unfold car
    generalize a / 10 ^ (9 * i) % 1000000000 = x
    generalize b / 10 ^ (9 * i) % 1000000000 = y
    rw [show x * 10 ^ (9 * i) + a % 10 ^ (9 * i) + (y * 10 ^ (9 * i) + b % 10 ^ (9 * i)) = (a % 10 ^ (9 * i) + b % 10 ^ (9 * i)) + 10 ^ (9 * i) * (x + y) by rw [Nat.mul_add, Nat.mul_comm (10 ^ (9 * i)) x, Nat.mul_comm (10 ^ (9 * i)) y]; omega, Nat.add_mul_div_left _ _ hp]
    omega
theorem car_zero (a b : Nat) : car a b 0 = 0 := by unfold car; simp [Nat.mod_one]
theorem limb_none {a t i : Nat} (h : a < 10 ^ (9 * t)) (hi : t ≤ i) : a / 10 ^ (9 * i) % 1000000000 = 0 := by
  rw [Nat.div_eq_of_lt (Nat.lt_of_lt_of_le h (Nat.pow_le_pow_right (by decide) (by omega)))]
theorem car_end {a b t i : Nat} (ha : a < 10 ^ (9 * t)) (hb : b < 10 ^ (9 * t)) (hi : t < i) : car a b i = 0 := by
  unfold car
  have h1 : 10 ^ (9 * t) * 10 ^ 9 ≤ 10 ^ (9 * i) := by rw [← Nat.pow_add]; exact Nat.pow_le_pow_right (by decide) (by omega)
  have h2 := Nat.mod_le a (10 ^ (9 * i))
  have h3 := Nat.mod_le b (10 ^ (9 * i))
  apply Nat.div_eq_of_lt
  have : (10 : Nat) ^ 9 = 1000000000 := by decide
  omega
theorem sum_lt {a b t i : Nat} (ha : a < 10 ^ (9 * t)) (hb : b < 10 ^ (9 * t)) (hi : t ≤ i) (h : car a b i = 0) : a + b < 10 ^ (9 * i) := by
  have hp : 0 < 10 ^ (9 * i) := Nat.pow_pos (by decide)
  have h1 : 10 ^ (9 * t) ≤ 10 ^ (9 * i) := Nat.pow_le_pow_right (by decide) (by omega)
  unfold car at h
  rw [Nat.mod_eq_of_lt (by omega), Nat.mod_eq_of_lt (by omega), Nat.div_eq_zero_iff] at h
  omega
theorem car_pos {a b i : Nat} (h : car a b i ≠ 0) : 10 ^ (9 * i) ≤ a + b := by
  have hp : 0 < 10 ^ (9 * i) := Nat.pow_pos (by decide)
  rcases Nat.lt_or_ge (a + b) (10 ^ (9 * i)) with h1 | h1
  · exfalso; apply h
    unfold car
    have h2 := Nat.mod_le a (10 ^ (9 * i))
    have h3 := Nat.mod_le b (10 ^ (9 * i))
    exact Nat.div_eq_of_lt (by omega)
  · exact h1
def NwR (w : World) (c : Nat) (r : Ending) (w' : World) : Prop := ∃ v t, r = .returned v ∧ NatOf w' w.heap.size v c t ∧ w.grownBy w' none
structure AddI (w wx : World) (a b ta tb i : Nat) (s5 : Value) : Prop where
  row : wx.ownsRow w.heap.size 73 1 s5 i (lim9 (a + b) i)
  le : i ≤ max ta tb + 1
  top : i = 0 ∨ i ≤ max ta tb ∨ 10 ^ (9 * (i - 1)) ≤ a + b
  g : w.grownBy wx none
theorem NatAdd_any {w : World} {base1 base2 a b ta tb : Nat} {u v : Value} (ha : NatOf w base1 u a ta) (hb : NatOf w base2 v b tb) (hta : ta ≤ 1000) (htb : tb ≤ 1000) : Calls Tryz.prog 77 #[u, v] w fun r w' => NwR w (a + b) r w' := by
  obtain ⟨i0, hi0, hz0, hz1, hz2⟩ := info_parts inf79
  obtain ⟨a1, cap1, rfl, hac1⟩ := ha.own.slice
  obtain ⟨a2, cap2, rfl, hac2⟩ := hb.own.slice
  have HA := Hq0 ha; have HB := Hq0 hb; have H1 := Hq0 hac1; have H2 := Hq0 hac2
  have HT := Hq0 (And.intro hta htb)
  clear ha hb hac1 hac2 hta htb
  go_enter Tryz.func77, Tryz.ntmps77
  go_wp2_with (fail)
  go_loopw [5, 6, 7] (fun s5 s6 s7 wx => ∃ i : Nat, s7 = .int .i64 (i : Nat) ∧ s6 = .int .u32 (car a b i : Nat) ∧ AddI w wx a b ta tb i s5) (fun _ _ s7 _ => max ta tb + 2 - (intOf s7).toNat)
  case atStart => exact ⟨0, rfl, by rw [car_zero]; rfl, World.ownsRow_nil _ _ _ _, Nat.zero_le _, .inl rfl, grown_refl _ _⟩
  case round =>
    obtain ⟨i, rfl, rfl, hI⟩ := hrel
    have HI := Hq0 hI
    obtain ⟨c1, c2⟩ := car_step a b i
    have hcl := car_le a b i
    have C1 := Hq0 c1; have C2 := Hq0 c2
    obtain ⟨cr, hcr⟩ : ∃ cr, car a b i = cr := ⟨_, rfl⟩
    have HCR := Hq0 hcr
    rw [hcr] at C1 C2 hcl ⊢
    clear c1 c2 hI hcr
    go_upto_region 4 with (fail)
    go_cut [21] from 8 to 21 (fun s21 wx => s21 = .bool (decide (i < ta) || decide (i < tb) || decide (0 < cr)) ∧ wr = wx)
    case first =>
      by_cases d1 : i < ta
      · have e1 : (i : Int) < ta := by omega
        go_wp2_with (fail)
        go_meet
        exact ⟨congrArg Value.bool (by simp [d1]), rfl⟩
      · have e1 : ¬ (i : Int) < ta := by omega
        by_cases d2 : i < tb
        · have e2 : (i : Int) < tb := by omega
          go_wp2_with (fail)
          go_meet
          exact ⟨congrArg Value.bool (by simp [d1, d2]), rfl⟩
        · have e2 : ¬ (i : Int) < tb := by omega
          by_cases d3 : 0 < cr
          · have e3 : (0 : Int) < cr := by omega
            go_wp2_with (fail)
            go_meet
            exact ⟨congrArg Value.bool (by simp [d1, d2, d3]), rfl⟩
          · have e3 : ¬ (0 : Int) < cr := by omega
            go_wp2_with (fail)
            go_meet
            exact ⟨congrArg Value.bool (by simp [d1, d2, d3]), rfl⟩
    case rest =>
      obtain ⟨rfl, rfl⟩ := hcut
      by_cases hb : (decide (i < ta) || decide (i < tb) || decide (0 < cr)) = true
      · rw [hb]
        have hb2 : (i < ta ∨ i < tb) ∨ 0 < cr := by simpa using hb
        have HB2 := Hq0 hb2
        obtain ⟨x, hx⟩ : ∃ x, a / 10 ^ (9 * i) % 1000000000 = x := ⟨_, rfl⟩
        obtain ⟨y, hy⟩ : ∃ y, b / 10 ^ (9 * i) % 1000000000 = y := ⟨_, rfl⟩
        have hxl : x < 1000000000 := by rw [← hx]; exact Nat.mod_lt _ (by decide)
        have hyl : y < 1000000000 := by rw [← hy]; exact Nat.mod_lt _ (by decide)
        have HX := Hq0 hx; have HY := Hq0 hy
        have HBD := Hq0 (And.intro hxl (And.intro hyl hcl))
        rw [hx, hy] at C1 C2
        clear hb hb2 hx hy hxl hyl hcl
        go_upto_if 27 with (fail)
        go_cut [6] from 24 to 33 (fun s6 wx => s6 = .int .u32 ((cr + x : Nat) : Int) ∧ wr = wx)
        case first =>
          by_cases d1 : i < ta
          · have e1 : (i : Int) < ta := by omega
            rcases H1.out with ⟨rfl, h2⟩ | ⟨g1, rfl, _⟩
            · omega
            have hxc := (HA.out.same HI.out.g).own.cellAt i (by omega)
            rw [lim9_at d1, HX.out] at hxc
            go_wp2_with (fail)
            go_meet
            first | exact ⟨congrArg (Value.int .u32) (u32a (by have := HBD.out; omega)), rfl⟩ | exact ⟨congrArg (Value.int .u32) (u32c (by have := HBD.out; omega)), rfl⟩ | exact ⟨congrArg (Value.int .u32) (u32b _ _), rfl⟩
          · have e1 : ¬ (i : Int) < ta := by omega
            have hx0 : x = 0 := by rw [← HX.out]; exact limb_none HA.out.lt (by omega)
            subst hx0
            go_wp2_with (fail)
            go_meet
            exact ⟨by rw [Nat.add_zero], rfl⟩
        case rest =>
          obtain ⟨rfl, rfl⟩ := hcut
          go_upto_if 37 with (fail)
          go_cut [6] from 34 to 43 (fun s6 wx => s6 = .int .u32 ((cr + x + y : Nat) : Int) ∧ wr = wx)
          case first =>
            by_cases d1 : i < tb
            · have e1 : (i : Int) < tb := by omega
              rcases H2.out with ⟨rfl, h2⟩ | ⟨g2, rfl, _⟩
              · omega
              have hyc := (HB.out.same HI.out.g).own.cellAt i (by omega)
              rw [lim9_at d1, HY.out] at hyc
              go_wp2_with (fail)
              go_meet
              first | exact ⟨congrArg (Value.int .u32) (u32a (by have := HBD.out; omega)), rfl⟩ | exact ⟨congrArg (Value.int .u32) (u32c (by have := HBD.out; omega)), rfl⟩ | exact ⟨congrArg (Value.int .u32) (u32b _ _), rfl⟩
            · have e1 : ¬ (i : Int) < tb := by omega
              have hy0 : y = 0 := by rw [← HY.out]; exact limb_none HB.out.lt (by omega)
              subst hy0
              go_wp2_with (fail)
              go_meet
              exact ⟨congrArg (Value.int .u32) (by omega), rfl⟩
          case rest =>
            obtain ⟨rfl, rfl⟩ := hcut
            obtain ⟨zz, hzz⟩ : ∃ zz, cr + x + y = zz := ⟨_, rfl⟩
            rw [hzz] at C1 C2 ⊢
            have HZZ := Hq0 hzz
            have hsz := HI.out.g.size
            have hle := HI.out.le
            have hT := HT.out
            have hi7 : i ≤ 1001 := by omega
            have hi8 : (i : Int) ≤ 1001 := by omega
            have hLE := Hq0 hle
            have hbd := HBD.out
            have hzl : zz < 4294967296 := by omega
            have HZL := Hq0 hzl
            clear hzz hle hT hbd hzl
            go_wp2_with (at_builtin; refine wpList_append_own _ rfl (.tmp 44) (.tmp 47) 26 rfl w.heap.size 73 i0 _ 1 4 und35 hi0 hz0 hz1 hz2 rfl (by decide) _ i (lim9 (a + b) i) rfl (HI.out.row.alloc _) ⟨wr.heap.size, 0, none⟩ 1 1 [_] rfl rfl (cell_one_new _ _ _) (ints_oneCell .u32 [_]) (by simp only [maxLen]; omega) (by omega) (by simp; omega) ?_; intro v' w' hown' hg' hv')
            have hb2 := HB2.out
            have hC2 := C2.out
            refine ⟨⟨i + 1, rfl, congrArg (Value.int .u32) (by have := HZL.out; rw [← hC2]; omega), ⟨by rw [lim9_succ, ← C1.out]; exact hown', ?_, ?_, grown_ownb (grown_trans HI.out.g (grown_new _ _)) hg' fun b hb => (HI.out.row.lt b hb).1⟩⟩, ?_⟩
            · rcases hb2 with h | h
              · omega
              · have h1 : a < 10 ^ (9 * max ta tb) := Nat.lt_of_lt_of_le HA.out.lt (Nat.pow_le_pow_right (by decide) (by omega))
                have h2 : b < 10 ^ (9 * max ta tb) := Nat.lt_of_lt_of_le HB.out.lt (Nat.pow_le_pow_right (by decide) (by omega))
                rcases Nat.lt_or_ge (max ta tb) i with h3 | h3
                · have := car_end h1 h2 h3; rw [HCR.out] at this; omega
                · omega
            · rcases hb2 with h | h
              · exact .inr (.inl (by omega))
              · exact .inr (.inr (by rw [Nat.add_sub_cancel]; exact car_pos (by rw [HCR.out]; omega)))
            · show max ta tb + 2 - ((i : Int) + 1).toNat < max ta tb + 2 - ((i : Int)).toNat
              have := hLE.out
              omega
      · rw [Bool.eq_false_iff.2 hb]
        have hb2 : ¬ ((i < ta ∨ i < tb) ∨ 0 < cr) := by simpa using hb
        have HB2 := Hq0 hb2
        clear hb hb2
        go_wp2_with (fail)
        go_ret
        have hb2 := HB2.out
        have h1 : a < 10 ^ (9 * max ta tb) := Nat.lt_of_lt_of_le HA.out.lt (Nat.pow_le_pow_right (by decide) (by omega))
        have h2 : b < 10 ^ (9 * max ta tb) := Nat.lt_of_lt_of_le HB.out.lt (Nat.pow_le_pow_right (by decide) (by omega))
        refine ⟨_, i, rfl, ⟨HI.out.row, sum_lt h1 h2 (by omega) (by rw [HCR.out]; omega), ?_⟩, HI.out.g⟩
        rcases HI.out.top with h | h | h
        · exact .inl h
        · have hm : i = max ta tb := by omega
          rcases Nat.eq_zero_or_pos i with h0 | h0
          · exact .inl h0
          · right
            rcases Nat.le_total ta tb with h3 | h3
            · have := HB.out.top
              rw [show i = tb by omega] at h0 ⊢
              exact Nat.le_trans (this.resolve_left (by omega)) (Nat.le_add_left _ _)
            · have := HA.out.top
              rw [show i = ta by omega] at h0 ⊢
              exact Nat.le_trans (this.resolve_left (by omega)) (Nat.le_add_right _ _)
        · exact .inr h
end Go.Proofs.YtjcfacinlgogaaaGreatDoor
namespace Go.Proofs.YtjcfacinlgogaaaGreatDoor
open Go.RowKit
def bor (a b i : Nat) : Nat := if a % 10 ^ (9 * i) < b % 10 ^ (9 * i) then 1 else 0
theorem bor_le (a b i : Nat) : bor a b i ≤ 1 := by unfold bor; split <;> omega
theorem bor_zero (a b : Nat) : bor a b 0 = 0 := by unfold bor; simp [Nat.mod_one]
theorem sub_div {a b i : Nat} (h : b ≤ a) : a / 10 ^ (9 * i) = (a - b) / 10 ^ (9 * i) + b / 10 ^ (9 * i) + bor a b i := by
  have hp : 0 < 10 ^ (9 * i) := Nat.pow_pos (by decide)
  unfold bor
  generalize 10 ^ (9 * i) = P at *
  obtain ⟨D, rfl⟩ : ∃ D, a = D + b := ⟨a - b, by omega⟩
  rw [Nat.add_sub_cancel]
  have h3 := Nat.mod_lt D hp
  have h4 := Nat.mod_lt b hp
  have e : D + b = (D % P + b % P) + P * (D / P + b / P) := by
    have h1 := Nat.div_add_mod D P
    have h2 := Nat.div_add_mod b P
    rw [Nat.mul_add]; omega
  have hd : (D + b) / P = (D % P + b % P) / P + (D / P + b / P) := by
    conv => lhs; rw [e]
    rw [Nat.add_mul_div_left _ _ hp]
  have hm : (D + b) % P = (D % P + b % P) % P := by
    conv => lhs; rw [e]
    rw [Nat.add_mul_mod_self_left]
  rw [hd, hm]
  generalize D % P = u at *
  generalize b % P = v at *
  generalize D / P = x at *
  generalize b / P = y at *
  by_cases hs : u + v < P
  · rw [Nat.div_eq_of_lt hs, Nat.mod_eq_of_lt hs, if_neg (by omega)]; omega
  · rw [Nat.div_eq_sub_div hp (by omega), Nat.mod_eq_sub_mod (by omega), Nat.div_eq_of_lt (by omega), Nat.mod_eq_of_lt (by omega), if_pos (by omega)]; omega
theorem bor_succ (a b i : Nat) : bor a b (i + 1) = if a / 10 ^ (9 * i) % 1000000000 < b / 10 ^ (9 * i) % 1000000000 + bor a b i then 1 else 0 := by
  have hp : 0 < 10 ^ (9 * i) := Nat.pow_pos (by decide)
  unfold bor
  rw [mod9_succ, mod9_succ]
  generalize a / 10 ^ (9 * i) % 1000000000 = x
  generalize b / 10 ^ (9 * i) % 1000000000 = y
  have h3 := Nat.mod_lt a hp
  have h4 := Nat.mod_lt b hp
  generalize a % 10 ^ (9 * i) = u at *
  generalize b % 10 ^ (9 * i) = v at *
  generalize 10 ^ (9 * i) = P at *
  rcases Nat.lt_trichotomy x y with h | h | h
  · have : x * P + P ≤ y * P := by rw [← Nat.succ_mul]; exact Nat.mul_le_mul_right _ h
    rw [if_pos (by omega), if_pos (by split <;> omega)]
  · subst h
    by_cases huv : u < v
    · rw [if_pos (by omega), if_pos huv, if_pos (by omega)]
    · rw [if_neg (by omega), if_neg huv, if_neg (by omega)]
  · have : y * P + P ≤ x * P := by rw [← Nat.succ_mul]; exact Nat.mul_le_mul_right _ h
    rw [if_neg (by omega), if_neg (by split <;> omega)]
theorem sub_step {a b i : Nat} (h : b ≤ a) : (if a / 10 ^ (9 * i) % 1000000000 < b / 10 ^ (9 * i) % 1000000000 + bor a b i then a / 10 ^ (9 * i) % 1000000000 + 1000000000 - (b / 10 ^ (9 * i) % 1000000000 + bor a b i) else a / 10 ^ (9 * i) % 1000000000 - (b / 10 ^ (9 * i) % 1000000000 + bor a b i)) = (a - b) / 10 ^ (9 * i) % 1000000000 := by
  have h1 := sub_div (i := i) h
  have h2 := bor_le a b i
  generalize a / 10 ^ (9 * i) = A at *
  generalize b / 10 ^ (9 * i) = B at *
  generalize (a - b) / 10 ^ (9 * i) = d at *
  generalize bor a b i = r at *
  split <;> omega
theorem NatSub_any {w : World} {base1 base2 a b ta tb : Nat} {u v : Value} (ha : NatOf w base1 u a ta) (hb : NatOf w base2 v b tb) (hta : ta ≤ 1000) (hab : b ≤ a) : Calls Tryz.prog 78 #[u, v] w fun r w' => NwR w (a - b) r w' := by
  obtain ⟨i0, hi0, hz0, hz1, hz2⟩ := info_parts inf79
  obtain ⟨a1, cap1, rfl, hac1⟩ := ha.own.slice
  obtain ⟨a2, cap2, rfl, hac2⟩ := hb.own.slice
  have HA := Hq0 ha; have HB := Hq0 hb; have H1 := Hq0 hac1; have H2 := Hq0 hac2
  have HT := Hq0 hta; have HAB := Hq0 hab
  clear ha hb hac1 hac2 hta hab
  go_enter Tryz.func78, Tryz.ntmps78
  go_wp2_with (fail)
  go_loopw [5, 6, 12] (fun s5 s6 s12 wx => ∃ i : Nat, i ≤ ta ∧ s12 = .int .i64 (i : Nat) ∧ s6 = .int .u32 (bor a b i : Nat) ∧ wx.ownsRow w.heap.size 73 1 s5 i (lim9 (a - b) i) ∧ w.grownBy wx none) (fun _ _ s12 _ => ta - (intOf s12).toNat)
  case atStart => exact ⟨0, Nat.zero_le _, rfl, by rw [bor_zero]; rfl, World.ownsRow_nil _ _ _ _, grown_refl _ _⟩
  case round =>
    obtain ⟨i, hi, rfl, rfl, how, hg⟩ := hrel
    have HO := Hq0 how; have HG := Hq0 hg
    by_cases hit : i < ta
    · have hit2 : (i : Int) < ta := by omega
      rcases H1.out with ⟨rfl, h2⟩ | ⟨g1, rfl, _⟩
      · omega
      have hxc := (HA.out.same hg).own.cellAt i (by omega)
      rw [lim9_at hit] at hxc
      have hst := sub_step (i := i) HAB.out
      have hbs := bor_succ a b i
      have hbl := bor_le a b i
      obtain ⟨x, hx⟩ : ∃ x, a / 10 ^ (9 * i) % 1000000000 = x := ⟨_, rfl⟩
      obtain ⟨y, hy⟩ : ∃ y, b / 10 ^ (9 * i) % 1000000000 = y := ⟨_, rfl⟩
      obtain ⟨r, hr⟩ : ∃ r, bor a b i = r := ⟨_, rfl⟩
      have hxl : x < 1000000000 := by rw [← hx]; exact Nat.mod_lt _ (by decide)
      have hyl : y < 1000000000 := by rw [← hy]; exact Nat.mod_lt _ (by decide)
      rw [hx] at hxc
      rw [hx, hy, hr] at hst hbs
      rw [hr] at hbl ⊢
      have HST := Hq0 hst; have HBS := Hq0 hbs; have HY := Hq0 hy; have HBD := Hq0 (And.intro hxl (And.intro hyl hbl)); have HIT := Hq0 hit
      clear how hg hst hbs hbl hx hy hr hxl hyl hi
      go_upto_if 21 with (fail)
      go_cut [9] from 18 to 27 (fun s9 wx => s9 = .int .u32 ((y + r : Nat) : Int) ∧ wr = wx)
      case first =>
        by_cases d1 : i < tb
        · have e1 : (i : Int) < tb := by omega
          rcases H2.out with ⟨rfl, h2⟩ | ⟨g2, rfl, _⟩
          · omega
          have hyc := (HB.out.same HG.out).own.cellAt i (by omega)
          rw [lim9_at d1, HY.out] at hyc
          go_wp2_with (fail)
          go_meet
          first | exact ⟨congrArg (Value.int .u32) ((u32a (by have := HBD.out; omega)).trans (by rw [Nat.add_comm])), rfl⟩ | exact ⟨congrArg (Value.int .u32) ((u32c (by have := HBD.out; omega)).trans (by rw [Nat.add_comm])), rfl⟩ | exact ⟨congrArg (Value.int .u32) (by omega), rfl⟩
        · have e1 : ¬ (i : Int) < tb := by omega
          have hy0 : y = 0 := by rw [← HY.out]; exact limb_none HB.out.lt (by omega)
          subst hy0
          go_wp2_with (fail)
          go_meet
          exact ⟨congrArg (Value.int .u32) (by omega), rfl⟩
      case rest =>
        obtain ⟨rfl, rfl⟩ := hcut
        obtain ⟨y2, hy2⟩ : ∃ y2, y + r = y2 := ⟨_, rfl⟩
        rw [hy2] at HST HBS ⊢
        have hbd := HBD.out
        have hy2l : y2 ≤ 1000000000 := by omega
        have HY2 := Hq0 hy2l
        clear hy2 hy2l hbd
        go_upto_if 30 with (fail)
        go_cut [8, 6] from 28 to 32 (fun s8 s6 wx => (s8 = .int .u32 ((if x < y2 then x + 1000000000 else x : Nat) : Int) ∧ s6 = .int .u32 (bor a b (i + 1) : Nat)) ∧ wr = wx)
        case first =>
          have hbd := HBD.out
          by_cases d1 : x < y2
          · have e1 : (x : Int) < y2 := by omega
            have hxx := hbd.1
            have D1 := Hq0 d1
            clear d1 hbd
            go_wp2_with (fail)
            go_meet
            refine ⟨⟨congrArg (Value.int .u32) ?_, congrArg (Value.int .u32) (by rw [HBS.out, if_pos D1.out]; rfl)⟩, rfl⟩
            rw [if_pos D1.out]
            first | omega | (rw [IntKind.wrap_u32]; omega)
          · have e1 : ¬ (x : Int) < y2 := by omega
            have D1 := Hq0 d1
            clear d1 hbd
            go_wp2_with (fail)
            go_meet
            exact ⟨⟨by rw [if_neg D1.out], by rw [HBS.out, if_neg D1.out]; rfl⟩, rfl⟩
        case rest =>
          obtain ⟨⟨rfl, rfl⟩, rfl⟩ := hcut
          obtain ⟨x2, hx2⟩ : ∃ x2, (if x < y2 then x + 1000000000 else x) = x2 := ⟨_, rfl⟩
          have hlim : x2 - y2 = (a - b) / 10 ^ (9 * i) % 1000000000 ∧ y2 ≤ x2 ∧ x2 < 2000000000 := by
            have h1 := HST.out; have h2 := HBD.out; have h3 := HY2.out
            rw [← hx2]
            split at h1 <;> split <;> omega
          rw [hx2]
          have HLM := Hq0 hlim
          have e9 : ((x2 : Int) - y2) = ((x2 - y2 : Nat) : Int) := by omega
          have hsz := HG.out.size
          have hT := HT.out
          have hi7 : i ≤ 1000 := by omega
          have hi8 : (i : Int) ≤ 1000 := by omega
          have hyx : (y2 : Int) ≤ x2 := by omega
          have hx9 : (x2 : Int) < 2000000000 := by omega
          have E9 := Hq0 e9
          clear hx2 hlim hT e9
          go_wp2_with (at_builtin; refine wpList_append_own _ rfl (.tmp 33) (.tmp 37) 26 rfl w.heap.size 73 i0 _ 1 4 und35 hi0 hz0 hz1 hz2 rfl (by decide) _ i (lim9 (a - b) i) rfl (HO.out.alloc _) ⟨wr.heap.size, 0, none⟩ 1 1 [_] rfl rfl (cell_one_new _ _ _) (ints_oneCell .u32 [_]) (by simp only [maxLen]; omega) (by omega) (by simp; omega) ?_; intro v' w' hown' hg' hv')
          refine ⟨⟨i + 1, HIT.out, rfl, rfl, ?_, grown_ownb (grown_trans HG.out (grown_new _ _)) hg' fun b hb => (HO.out.lt b hb).1⟩, mea3 HIT.out⟩
          rw [lim9_succ, ← HLM.out.1, ← E9.out]
          exact hown'
    · have hie : i = ta := by omega
      subst hie
      have hit2 : ¬ (i : Int) < i := by omega
      have hlt : a - b < 10 ^ (9 * i) := Nat.lt_of_le_of_lt (Nat.sub_le _ _) HA.out.lt
      have HTR := Hq0 (natTrim_any HO.out hlt)
      clear how hg hit hi hlt
      go_wp2_with (fail)
      refine HTR.out.mono ?_
      rintro rr w2 ⟨a9, cap9, t9, rfl, -, hn, -, rfl⟩
      have HN := Hq0 hn
      clear hn HTR
      go_wp2_with (fail)
      go_ret
      exact ⟨_, t9, rfl, HN.out, HG.out⟩
end Go.Proofs.YtjcfacinlgogaaaGreatDoor
namespace Go.Proofs.YtjcfacinlgogaaaGreatDoor
open Go.RowKit
def z32 (n : Nat) : Obj := .cells (madeCells (Value.int .u32 0).cells n) 73
theorem z32_row (w : World) (n : Nat) (h : n ≤ 2000) : (w.alloc (z32 n)).ownsRow w.heap.size 73 1 (.slice (some ⟨w.heap.size, 0, none⟩) n n) n (lim9 0 n) := by
  refine ⟨by rw [lim9_len]; omega, .inr ⟨_, n, _, rfl, Nat.le_refl _, heap_new _ _, Nat.le_refl _, by simp only [maxLen]; omega, by rw [size_madeCells]; omega, ?_⟩⟩
  have hz : lim9 0 n = List.replicate n (Value.int .u32 0) := by
    unfold lim9
    apply List.ext_getElem?
    intro j
    by_cases hj : j < n
    · simp [hj]
    · simp [hj]
  rw [hz]
  apply List.ext_getElem?
  intro j
  by_cases hj : j < n
  · simp [madeCells, Value.cells, hj, Nat.mod_one]
  · simp [madeCells, Value.cells, hj]
theorem mk32 (n : Nat) (h : n ≤ 2000) (w : World) : (Instr.makeSlice 26 (.int .i64 (n : Int)) (.int .i64 (n : Int))).run Tryz.prog w = .ok (.slice (some ⟨w.heap.size, 0, none⟩) n n) (w.alloc (z32 n)) := by
  obtain ⟨i, hi, hz0, hz1, hz2⟩ := info_parts inf79
  rw [run_make w 26 73 i (.int .u32 0) und35 hi hz0 .i64 .i64 n n (by omega) (Int.le_refl _) (by rw [hz2]; omega) (by omega), hz1]
  simp only [Int.toNat_natCast, Nat.mul_one]
  rfl
theorem short_step {a b k : Nat} (hb : 0 < b) : (a / 10 ^ (9 * (k + 1)) % b * 1000000000 + a / 10 ^ (9 * k) % 1000000000) / b = a / b / 10 ^ (9 * k) % 1000000000 ∧ (a / 10 ^ (9 * (k + 1)) % b * 1000000000 + a / 10 ^ (9 * k) % 1000000000) % b = a / 10 ^ (9 * k) % b := by
  rw [lim_next, show a / b / 10 ^ (9 * k) = a / 10 ^ (9 * k) / b by rw [Nat.div_div_eq_div_mul, Nat.div_div_eq_div_mul, Nat.mul_comm]]
  generalize a / 10 ^ (9 * k) = y
  have h1 := Nat.div_add_mod (y / 1000000000) b
  have h2 := Nat.mod_lt (y / 1000000000) hb
  have h3 := Nat.div_add_mod y 1000000000
  have h4 := Nat.mod_lt y (show 0 < 1000000000 by decide)
  generalize y / 1000000000 / b = q at *
  generalize y / 1000000000 % b = r at *
  generalize y / 1000000000 = H at *
  generalize y % 1000000000 = x at *
  have e : y = (r * 1000000000 + x) + b * (q * 1000000000) := by
    have : b * (q * 1000000000) = b * q * 1000000000 := by rw [Nat.mul_assoc]
    rw [this]
    generalize b * q = z at *
    omega
  have hlt : (r * 1000000000 + x) / b < 1000000000 := by
    rw [Nat.div_lt_iff_lt_mul hb]
    have : (r + 1) * 1000000000 ≤ b * 1000000000 := Nat.mul_le_mul_right _ h2
    rw [Nat.mul_comm 1000000000 b]
    omega
  constructor
  · conv => rhs; rw [e, Nat.add_mul_div_left _ _ hb]
    generalize (r * 1000000000 + x) / b = z at *
    omega
  · conv => rhs; rw [e, Nat.add_mul_mod_self_left]
def Q9 (c k t : Nat) : List Value := (List.range t).map fun j => .int .u32 ((if j < k then 0 else c / 10 ^ (9 * j) % 1000000000 : Nat) : Int)
theorem Q9_zero (c t : Nat) : Q9 c 0 t = lim9 c t := by
  unfold Q9 lim9
  apply List.map_congr_left
  intro j hj
  rw [if_neg (by omega)]
theorem Q9_all (c t : Nat) : Q9 c t t = lim9 0 t := by
  unfold Q9 lim9
  apply List.map_congr_left
  intro j hj
  have := List.mem_range.1 hj
  rw [if_pos this]; simp
theorem Q9_set {c k t : Nat} (h : k < t) : (Q9 c (k + 1) t).set k (.int .u32 ((c / 10 ^ (9 * k) % 1000000000 : Nat) : Int)) = Q9 c k t := by
  apply List.ext_getElem?
  intro j
  by_cases hj : j = k
  · subst hj
    rw [List.getElem?_set_self (by simp [Q9]; exact h)]
    unfold Q9; simp [h]
  · rw [List.getElem?_set_ne (by omega)]
    unfold Q9
    by_cases hjt : j < t
    · simp only [List.getElem?_map, List.getElem?_range hjt, Option.map_some]
      have : (j < k + 1) = (j < k) := by apply propext; omega
      simp only [this]
    · rw [List.getElem?_eq_none (by simp; omega), List.getElem?_eq_none (by simp; omega)]
theorem Q9_at {c k t : Nat} (h : k < t) : (Q9 c (k + 1) t)[k]? = some (.int .u32 0) := by unfold Q9; simp [h]
theorem sh_eq {r x b : Nat} (hx : x < 1000000000) (hr : r < b) (hb : b < 1000000000) : (IntKind.u64.wrap (IntKind.u64.wrap ((r : Int) * 1000000000) + x)).tmod (IntKind.u64.wrap (b : Int)) = (((r * 1000000000 + x) % b : Nat) : Int) ∧
    IntKind.u64.wrap ((IntKind.u64.wrap (IntKind.u64.wrap ((r : Int) * 1000000000) + x)).tdiv (IntKind.u64.wrap (b : Int))) % 4294967296 = (((r * 1000000000 + x) / b : Nat) : Int) := by
  have e1 : IntKind.u64.wrap ((r : Int) * 1000000000) = (r : Int) * 1000000000 := by rw [IntKind.wrap_u64]; omega
  have e2 : IntKind.u64.wrap ((r : Int) * 1000000000 + x) = ((r * 1000000000 + x : Nat) : Int) := by rw [IntKind.wrap_u64]; omega
  have e3 : IntKind.u64.wrap (b : Int) = (b : Int) := by rw [IntKind.wrap_u64]; omega
  rw [e1, e2, e3]
  have h1 : (r * 1000000000 + x) / b < 1000000000 := by
    rw [Nat.div_lt_iff_lt_mul (by omega)]
    have : (r + 1) * 1000000000 ≤ b * 1000000000 := Nat.mul_le_mul_right _ hr
    rw [Nat.mul_comm 1000000000 b]
    omega
  constructor
  · rw [Int.tmod_eq_emod_of_nonneg (by omega)]; rfl
  · rw [Int.tdiv_eq_ediv_of_nonneg (by omega), show ((r * 1000000000 + x : Nat) : Int) / (b : Int) = (((r * 1000000000 + x) / b : Nat) : Int) from rfl, IntKind.wrap_u64]
    clear e1 e2 e3
    generalize (r * 1000000000 + x) / b = q at *
    omega
def ShR (w : World) (a b : Nat) (r : Ending) (w' : World) : Prop := ∃ v t, r = .returned (.tuple #[v, .int .u32 ((a % b : Nat) : Int)]) ∧ NatOf w' w.heap.size v (a / b) t ∧ w.grownBy w' none
theorem natShort_any {w : World} {base1 a b ta : Nat} {u : Value} (ha : NatOf w base1 u a ta) (hta : ta ≤ 1000) (hb : 0 < b) (hb9 : b < 1000000000) : Calls Tryz.prog 101 #[u, .int .u32 (b : Nat)] w fun r w' => ShR w a b r w' := by
  have hmk := mk32 ta (by omega)
  obtain ⟨a1, cap1, rfl, hac1⟩ := ha.own.slice
  have HA := Hq0 ha; have H1 := Hq0 hac1
  have HT := Hq0 hta; have HB := Hq0 (And.intro hb hb9)
  have HZ := Hq0 (z32_row w ta (by omega))
  have hG := Hq0 (grown_new w (z32 ta))
  have hbz : ((b : Int) == 0) = false := by simp; omega
  have hbz2 : ¬ IntKind.u64.wrap (b : Int) = 0 := by rw [IntKind.wrap_u64]; omega
  clear ha hac1 hta hb hb9
  go_enter Tryz.func101, Tryz.ntmps101
  go_upto_region 2 with (fail)
  generalize w.alloc (z32 ta) = W1 at *
  obtain ⟨g6, hg6⟩ : ∃ g, g = w.heap.size := ⟨_, rfl⟩
  rw [← hg6]
  have HG6 := Hq0 hg6
  have hZ := HZ.out
  rw [← hg6] at hZ
  have HZ2 : Hid (W1.ownsRow w.heap.size 73 1 (.slice (some ⟨g6, 0, none⟩) ta ta) ta (lim9 0 ta)) := Hq0 (by rw [← hg6]; exact hZ)
  have hgb : w.heap.size ≤ g6 := by omega
  have ht63 := owns_le HA.out.own
  have hta0 : (ta : Int) ≤ 1000 := by have := HT.out; omega
  clear hmk HZ hg6 hZ ht63
  have hstart : (0 : Int) = ((a / 10 ^ (9 * ta) % b : Nat) : Int) := by rw [Nat.div_eq_of_lt HA.out.lt]; simp
  have HST := Hq0 hstart
  clear hstart
  go_upto_block 0 with (fail)
  go_cut [7, 8] from 15 to 38 (fun s7 _ wx => s7 = .int .u64 ((a % b : Nat) : Int) ∧ wx.ownsRow w.heap.size 73 1 (.slice (some ⟨g6, 0, none⟩) ta ta) ta (lim9 (a / b) ta) ∧ w.grownBy wx none)
  case first =>
    go_wp2_with (fail)
    go_loopw [7, 8] (fun s7 s8 wx => ∃ k : Nat, k ≤ ta ∧ s7 = .int .u64 ((a / 10 ^ (9 * k) % b : Nat) : Int) ∧ s8 = .int .i64 ((k : Int) - 1) ∧ wx.ownsRow w.heap.size 73 1 (.slice (some ⟨g6, 0, none⟩) ta ta) ta (Q9 (a / b) k ta) ∧ w.grownBy wx none) (fun _ s8 _ => (intOf s8 + 1).toNat)
    case atStart => exact ⟨ta, Nat.le_refl _, congrArg (Value.int .u64) HST.out, rfl, by rw [Q9_all]; exact HZ2.out, hG.out⟩
    case round =>
      obtain ⟨k, hk, rfl, rfl, hl, hg⟩ := hrel
      have HLK := Hq0 hl; have HGK := Hq0 hg
      cases k with
      | zero =>
        rw [Q9_zero] at HLK
        have e0 : a / 10 ^ (9 * 0) = a := by simp
        rw [e0]
        clear hl hk e0 hg
        go_wp2_with (fail)
        go_meet
        exact ⟨rfl, HLK.out, HGK.out⟩
      | succ kk =>
        rw [show ((kk + 1 : Nat) : Int) - 1 = (kk : Int) by omega]
        rcases H1.out with ⟨rfl, h2⟩ | ⟨g1, rfl, _⟩
        · omega
        have hx := (HA.out.same hg).own.cellAt kk (by omega)
        rw [lim9_at (by omega)] at hx
        have hfz := hl.frozenAt kk
        have hcl := hl.cellAt kk (by omega)
        rw [Q9_at (by omega)] at hcl
        have hbp := HB.out
        obtain ⟨s1, s2⟩ := short_step (a := a) (k := kk) hbp.1
        have hset := (hl.stored kk (.int .u32 ((a / b / 10 ^ (9 * kk) % 1000000000 : Nat) : Int))).1
        rw [Q9_set (by omega)] at hset
        have HSET := Hq0 hset
        rw [← s1] at HSET
        have S2 := Hq0 s2
        have hxl : a / 10 ^ (9 * kk) % 1000000000 < 1000000000 := Nat.mod_lt _ (by decide)
        have hrl := Nat.mod_lt (a / 10 ^ (9 * (kk + 1))) hbp.1
        have hq9 : (a / 10 ^ (9 * (kk + 1)) % b * 1000000000 + a / 10 ^ (9 * kk) % 1000000000) / b < 1000000000 := by rw [s1]; exact Nat.mod_lt _ (by decide)
        clear s1 s2 hset hl hg
        generalize a / 10 ^ (9 * kk) % 1000000000 = x at *
        generalize a / 10 ^ (9 * (kk + 1)) % b = r at *
        have hkt : (kk : Int) < ta := by omega
        have hk0 : (0 : Int) ≤ kk := by omega
        have HBD := Hq0 (And.intro hxl hrl)
        have e9 : (((r * 1000000000 + x) / b : Nat) : Int) = ((r : Int) * 1000000000 + x) / b := by rw [Int.natCast_ediv]; simp
        have ek : wrap64 ((kk : Int) - 1) = (kk : Int) - 1 := by rw [← i64_left']; exact IntWalk.i64_in _ (by omega)
        have EK := Hq0 ek; have HKT := Hq0 hk; have HQ9 := Hq0 hq9; have E9 := Hq0 e9
        clear hk e9 ek hbp hq9
        go_wp2_with (fail)
        obtain ⟨q1, q2⟩ := sh_eq HBD.out.1 HBD.out.2 HB.out.2
        rw [q1, q2]
        refine ⟨⟨kk, by have := HKT.out; omega, congrArg (Value.int .u64) (by rw [S2.out]), rfl, HSET.out, grown_own HGK.out (grown_set1 _ _ _ _) (.inr hgb)⟩, ?_⟩
        show ((kk : Int) - 1 + 1).toNat < ((kk : Int) + 1).toNat
        omega
  case rest =>
    obtain ⟨rfl, how, hg⟩ := hcut
    have HG9 := Hq0 hg
    have hlt : a / b < 10 ^ (9 * ta) := Nat.lt_of_le_of_lt (Nat.div_le_self _ _) HA.out.lt
    have HTR := Hq0 (natTrim_any how hlt)
    have hm : a % b < 1000000000 := by have := HB.out; have := Nat.mod_lt a this.1; omega
    obtain ⟨m, hmm⟩ : ∃ m, a % b = m := ⟨_, rfl⟩
    rw [hmm] at hm ⊢
    have em : (m : Int) % 4294967296 = m := by omega
    have HMM := Hq0 hmm; have EM := Hq0 em
    clear how hg hlt hm hmm em
    go_wp2_with (fail)
    refine HTR.out.mono ?_
    rintro rr w2 ⟨a9, cap9, t9, rfl, -, hn, -, rfl⟩
    have HN := Hq0 hn
    clear hn HTR
    go_wp2_with (fail)
    try rw [EM.out]
    refine bodyPost_ret (v := .tuple #[.slice a9 t9 cap9, .int .u32 (m : Int)]) (by simp [results, Tryz.func101, go_sem]; try rfl) rfl ?_
    exact ⟨_, t9, by rw [HMM.out], HN.out, HG9.out⟩
end Go.Proofs.YtjcfacinlgogaaaGreatDoor
