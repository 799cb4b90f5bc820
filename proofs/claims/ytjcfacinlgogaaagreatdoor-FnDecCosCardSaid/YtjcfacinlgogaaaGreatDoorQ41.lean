/- The guess of a digit of a quotient in limbs. Conditions: the remainder below limb times the divisor. The quotient of two numbers in limbs. Conditions: at most 400 limbs each; the divisor above 0. The quotient of a number in limbs by one limb. Conditions: at most 400 limbs; the divisor above 0. -/
import Derived.Deep.Onto
import Derived.Test.YtjcfacinlgogaaaGreatDoorQ40
import Derived.Test.YtjcfacinlgogaaaGreatDoorQ38
import Derived.Test.YtjcfacinlgogaaaGreatDoorQ39
set_option linter.all false
set_option maxHeartbeats 4000000
set_option maxRecDepth 100000
set_option exponentiation.threshold 3000
namespace Go.Proofs.YtjcfacinlgogaaaGreatDoor
open Go.RowKit
theorem lm9_top {c t : Nat} (h : c < 10 ^ (9 * (t + 1))) : lm9 c t = c / 10 ^ (9 * t) := by
  unfold lm9
  apply Nat.mod_eq_of_lt
  rw [Nat.div_lt_iff_lt_mul (Nat.pow_pos (by decide)), Nat.mul_comm, show 1000000000 = 10 ^ 9 by decide, ← Nat.pow_add]
  exact h
theorem top_quot {r y P : Nat} (hP : 0 < P) (hy : 0 < y / P) : r / y ≤ r / P / (y / P) := by
  rw [Nat.le_div_iff_mul_le hy, Nat.le_div_iff_mul_le hP]
  calc r / y * (y / P) * P = r / y * (y / P * P) := Nat.mul_assoc _ _ _
    _ ≤ r / y * y := Nat.mul_le_mul_left _ (Nat.div_mul_le_self y P)
    _ ≤ r := Nat.div_mul_le_self r y
theorem two_limbs {r n : Nat} (h : r < 10 ^ (9 * (n + 1 + 1))) : r / 10 ^ (9 * n) = lm9 r n + lm9 r (n + 1) * 1000000000 := by
  rw [lm9_top h]
  unfold lm9
  rw [lim_next]
  omega
theorem min_eq9 {tp yt : Nat} (h : tp < 1000000000000000000) (hy : yt < 1000000000) : min (IntKind.u64.wrap ((tp : Int) / IntKind.u64.wrap (yt : Int))) 999999999 = ((min (tp / yt) 999999999 : Nat) : Int) := by
  have e1 : IntKind.u64.wrap (yt : Int) = yt := by rw [IntKind.wrap_u64]; omega
  have h2 : tp / yt ≤ tp := Nat.div_le_self _ _
  rw [e1, show (tp : Int) / (yt : Int) = ((tp / yt : Nat) : Int) from rfl, IntKind.wrap_u64]
  generalize tp / yt = q at *
  omega
def GsR9 (w : World) (r y : Nat) (e : Ending) (w' : World) : Prop := ∃ d : Nat, e = .returned (.int .u64 (d : Nat)) ∧ r / y ≤ d ∧ d < 1000000000 ∧ w' = w
theorem natGuess_any {w : World} {base1 base2 r y tr ty : Nat} {u v : Value} (hr : NatOf w base1 u r tr) (hy : NatOf w base2 v y ty) (hty : 0 < ty) (htr : tr ≤ 1000) (hty2 : ty ≤ 1000) (hlt : r < y * 1000000000) : Calls Tryz.prog 102 #[u, v] w fun e w' => GsR9 w r y e w' := by
  obtain ⟨a1, cap1, rfl, hac1⟩ := hr.own.slice
  obtain ⟨a2, cap2, rfl, hac2⟩ := hy.own.slice
  obtain ⟨n, rfl⟩ : ∃ n, ty = n + 1 := ⟨ty - 1, by omega⟩
  have hP : 0 < 10 ^ (9 * n) := Nat.pow_pos (by decide)
  have hytop : 10 ^ (9 * n) ≤ y := by have := hy.top.resolve_left (by omega); simpa using this
  have hyt : 0 < y / 10 ^ (9 * n) := Nat.div_pos hytop hP
  have hr2 : r < 10 ^ (9 * (n + 1 + 1)) := by
    refine Nat.lt_of_lt_of_le hlt ?_
    rw [show 9 * (n + 1 + 1) = 9 * (n + 1) + 9 by omega, Nat.pow_add, show (10 : Nat) ^ 9 = 1000000000 by decide]
    exact Nat.mul_le_mul_right _ (Nat.le_of_lt hy.lt)
  have htr2 : tr ≤ n + 2 := by
    rcases hr.top with h | h
    · omega
    · have := (Nat.pow_lt_pow_iff_right (by decide : 1 < 10)).1 (Nat.lt_of_le_of_lt h hr2)
      omega
  have hq := top_quot (r := r) hP hyt
  have hq9 : r / y < 1000000000 := by
    have hy0 : 0 < y := Nat.lt_of_lt_of_le hP hytop
    rw [Nat.div_lt_iff_lt_mul hy0, Nat.mul_comm]; exact hlt
  rw [two_limbs hr2, ← lm9_top hy.lt] at hq
  rw [← lm9_top hy.lt] at hyt
  rcases hac2 with ⟨_, h2⟩ | ⟨g2, rfl, _⟩
  · omega
  have hyc := hy.own.cellAt n (by omega)
  rw [lim9_at (by omega)] at hyc
  obtain ⟨yt, hyt2⟩ : ∃ yt, lm9 y n = yt := ⟨_, rfl⟩
  have hytl : yt < 1000000000 := by rw [← hyt2]; exact Nat.mod_lt _ (by decide)
  rw [hyt2] at hq hyt
  rw [show y / 10 ^ (9 * n) % 1000000000 = yt from hyt2] at hyc
  have HQ9 := Hq0 hq9
  by_cases hlen : tr < n + 1
  · have hrlt : r < y := Nat.lt_of_lt_of_le hr.lt (Nat.le_trans (Nat.pow_le_pow_right (by decide) (by omega)) hytop)
    have HR := Hq0 hrlt
    have hlen2 : (tr : Int) < ((n + 1 : Nat) : Int) := by omega
    clear hr hy hty htr hty2 hlt hP hytop hyt hr2 htr2 hq hq9 hyc hyt2 hytl hlen hrlt hac1
    go_enter Tryz.func102, Tryz.ntmps102
    go_wp2_with (fail)
    go_ret
    exact ⟨0, rfl, by rw [Nat.div_eq_of_lt HR.out]; exact Nat.le_refl _, by decide, rfl⟩
  · rcases hac1 with ⟨_, h2⟩ | ⟨g1, rfl, _⟩
    · omega
    have hrc := hr.own.cellAt n (by omega)
    rw [lim9_at (by omega)] at hrc
    obtain ⟨r0, hr0⟩ : ∃ r0, lm9 r n = r0 := ⟨_, rfl⟩
    obtain ⟨r1, hr1⟩ : ∃ r1, lm9 r (n + 1) = r1 := ⟨_, rfl⟩
    have hr0l : r0 < 1000000000 := by rw [← hr0]; exact Nat.mod_lt _ (by decide)
    have hr1l : r1 < 1000000000 := by rw [← hr1]; exact Nat.mod_lt _ (by decide)
    rw [show r / 10 ^ (9 * n) % 1000000000 = r0 from hr0] at hrc
    rw [hr0, hr1] at hq
    have HQ := Hq0 hq; have HB := Hq0 (And.intro hr0l (And.intro hr1l (And.intro hytl hyt)))
    have hnlen : ¬ (tr : Int) < ((n + 1 : Nat) : Int) := by omega
    have hnt : (n : Int) < tr := by omega
    have hn9 : (n : Int) ≤ 1000 := by omega
    have hne : ((yt : Int) == 0) = false := by simp; omega
    have hne2 : ¬ IntKind.u64.wrap (yt : Int) = 0 := by rw [IntKind.wrap_u64]; omega
    have HR1 := Hq0 hr1; have HRR := Hq0 hr; have HTT := Hq0 (And.intro hlen htr2)
    clear hr hy hty htr hty2 hlt hP hytop hyt hr2 htr2 hq hq9 hyt2 hytl hlen hr0 hr1 hr0l hr1l
    go_enter Tryz.func102, Tryz.ntmps102
    go_upto_if 22 with (fail)
    go_cut [6] from 19 to 30 (fun s6 wx => s6 = .int .u64 ((r0 + r1 * 1000000000 : Nat) : Int) ∧ w = wx)
    case first =>
      by_cases h2 : tr = n + 1
      · have hr10 : r1 = 0 := by rw [← HR1.out]; exact limb_none HRR.out.lt (by omega)
        have hgt : ¬ ((n + 1 : Nat) : Int) < tr := by omega
        have HR10 := Hq0 hr10
        clear h2 hr10
        go_wp2_with (fail)
        go_meet
        refine ⟨congrArg (Value.int .u64) ?_, rfl⟩
        rw [HR10.out]
        have := HB.out
        first | (rw [IntKind.wrap_u64]; omega) | omega
      · have hgt : ((n + 1 : Nat) : Int) < tr := by omega
        have hrc2 := HRR.out.own.cellAt (n + 1) (by omega)
        rw [lim9_at (by omega), show r / 10 ^ (9 * (n + 1)) % 1000000000 = r1 from HR1.out] at hrc2
        clear h2
        go_wp2_with (fail)
        go_meet
        refine ⟨congrArg (Value.int .u64) ?_, rfl⟩
        have := HB.out
        simp only [IntKind.wrap_u64]
        omega
    case rest =>
      obtain ⟨rfl, rfl⟩ := hcut
      obtain ⟨tp, htp⟩ : ∃ tp, r0 + r1 * 1000000000 = tp := ⟨_, rfl⟩
      rw [htp] at HQ ⊢
      have htpl : tp < 1000000000000000000 := by have := HB.out; omega
      have HTP := Hq0 htpl
      clear htp htpl hnt hnlen
      go_wp2_with (fail)
      go_ret
      have hb := HB.out
      have hm := min_eq9 (tp := tp) (yt := yt) HTP.out hb.2.2.1
      refine ⟨min (tp / yt) 999999999, congrArg (fun z => Ending.returned (Value.int .u64 z)) hm, ?_, by omega, rfl⟩
      have h1 := HQ.out; have h2 := HQ9.out
      omega
end Go.Proofs.YtjcfacinlgogaaaGreatDoor
namespace Go.Proofs.YtjcfacinlgogaaaGreatDoor
open Go.RowKit
def DvR9 (w : World) (a b : Nat) (e : Ending) (w' : World) : Prop := ∃ q r tq tr, e = .returned (.tuple #[q, r]) ∧ NatOf w' w.heap.size q (a / b) tq ∧ NatOf w' w.heap.size r (a % b) tr ∧ w.grownBy w' none
theorem natOf_nil (w : World) (base : Nat) : NatOf w base (.slice none 0 0) 0 0 := ⟨World.ownsRow_nil _ _ _ _, by decide, .inl rfl⟩
theorem row_empty (w : World) : (w.alloc (.cells #[] 73)).ownsRow w.heap.size 73 1 (.slice (some ⟨w.heap.size, 0, none⟩) 0 0) 0 [] :=
  ⟨rfl, .inr ⟨_, 0, _, rfl, Nat.le_refl _, heap_new _ _, Nat.le_refl _, by simp only [maxLen]; omega, rfl, rfl⟩⟩
theorem NatDiv_small {w : World} {base1 base2 a b ta tb : Nat} {u v : Value} (ha : NatOf w base1 u a ta) (hb : NatOf w base2 v b tb) (hta : ta ≤ 400) (hlt : a < b) : Calls Tryz.prog 74 #[u, v] w fun e w' => DvR9 w a b e w' := by
  obtain ⟨i0, hi0, hz0, hz1, hz2⟩ := info_parts inf79
  have HC := Hq0 (NatCmp_any ha hb)
  rw [ncmp_lt hlt] at HC
  obtain ⟨a1, cap1, rfl, hac1⟩ := ha.own.slice
  obtain ⟨a2, cap2, rfl, hac2⟩ := hb.own.slice
  have HA := Hq0 ha; have HL := Hq0 hlt; have HT := Hq0 hta
  clear ha hb hlt hta hac2
  go_enter Tryz.func74, Tryz.ntmps74
  go_wp2_with (fail)
  refine HC.out.mono ?_
  rintro r w1 ⟨rfl, g1⟩
  have G1 := Hq0 g1
  clear g1 HC
  go_upto_region 2 with (fail)
  have hdm : a / b = 0 ∧ a % b = a := ⟨Nat.div_eq_of_lt HL.out, Nat.mod_eq_of_lt HL.out⟩
  have HDM := Hq0 hdm
  have HE := Hq0 (row_empty w1)
  have HG1 := Hq0 (grown_new w1 (.cells #[] 73))
  clear hdm
  rcases hac1 with ⟨rfl, h2⟩ | ⟨g, rfl, _⟩
  · subst h2
    have ha0 : a = 0 := by have := HA.out.lt; simpa using this
    have HA0 := Hq0 ha0
    clear ha0
    go_wp2_with (fail)
    refine bodyPost_ret (v := .tuple #[.slice none 0 0, .slice (some ⟨w1.heap.size, 0, none⟩) 0 0]) (by simp [results, Tryz.func74, go_sem]; try rfl) rfl ?_
    refine ⟨_, _, 0, 0, rfl, by rw [HDM.out.1]; exact natOf_nil _ _, ?_, grown_trans G1.out HG1.out⟩
    rw [HDM.out.2, HA0.out]
    exact ⟨HE.out.mono G1.out.size, by decide, .inl rfl⟩
  · have hcells : ∀ j u, (lim9 a ta)[j]? = some u → (w1.alloc (.cells #[] 73)).cell? ((⟨g, 0, none⟩ : Addr).add j) = some u := by
      intro j u hju
      have hj : j < ta := by
        rcases Nat.lt_or_ge j ta with h | h
        · exact h
        · rw [List.getElem?_eq_none (by rw [lim9_len]; exact h)] at hju; cases hju
      have := (HA.out.same (grown_trans G1.out HG1.out)).own.cellAt j (by omega)
      rw [hju] at this
      rw [add_none, Nat.zero_add]; exact this
    have hone : ∀ u ∈ lim9 a ta, u.oneCell' = true := by
      intro u hu
      unfold lim9 at hu
      obtain ⟨_, _, rfl⟩ := List.mem_map.1 hu
      rfl
    have hT := HT.out
    have HCE := Hq0 hcells; have HON := Hq0 hone
    clear hcells hone
    go_wp2_with (at_builtin; refine wpList_append_own _ rfl (.tmp 18) (.tmp 19) 26 rfl w1.heap.size 73 i0 _ 1 4 und35 hi0 hz0 hz1 hz2 rfl (by decide) _ 0 [] rfl HE.out ⟨g, 0, none⟩ ta cap1 (lim9 a ta) rfl (by rw [lim9_len]; omega) HCE.out HON.out (by simp only [maxLen]; omega) (by omega) (HG1.out.size) ?_; intro v' w' hown' hg' hv')
    refine bodyPost_ret (v := .tuple #[.slice none 0 0, v']) (by simp [results, Tryz.func74, go_sem]; try rfl) rfl ?_
    refine ⟨_, v', 0, ta, rfl, by rw [HDM.out.1]; exact natOf_nil _ _, ?_, grown_ownb (grown_trans G1.out HG1.out) hg' (by intro b hb; cases hb; exact G1.out.size)⟩
    rw [HDM.out.2]
    rw [Nat.zero_add, List.nil_append] at hown'
    exact ⟨hown'.mono G1.out.size, HA.out.lt, HA.out.top⟩
end Go.Proofs.YtjcfacinlgogaaaGreatDoor
namespace Go.Proofs.YtjcfacinlgogaaaGreatDoor
open Go.RowKit
theorem NatOf.base {w : World} {b b2 : Nat} {v : Value} {c t : Nat} (h : NatOf w b v c t) (hb : b2 ≤ b) : NatOf w b2 v c t := ⟨h.own.mono hb, h.lt, h.top⟩
theorem ncmp_ge {a b : Nat} (h : b ≤ a) : ¬ ncmp a b < 0 := by unfold ncmp; rw [if_neg (by omega)]; split <;> decide
theorem NatDiv_one {w : World} {base1 base2 a b ta : Nat} {u v : Value} (ha : NatOf w base1 u a ta) (hb : NatOf w base2 v b 1) (hta : ta ≤ 400) (hle : b ≤ a) (hb0 : 0 < b) : Calls Tryz.prog 74 #[u, v] w fun e w' => DvR9 w a b e w' := by
  have HC := Hq0 (NatCmp_any ha hb)
  have hnc := ncmp_ge hle
  have hb9 : b < 1000000000 := by have := hb.lt; simpa using this
  obtain ⟨a1, cap1, rfl, hac1⟩ := ha.own.slice
  obtain ⟨a2, cap2, rfl, hac2⟩ := hb.own.slice
  rcases hac2 with ⟨_, h2⟩ | ⟨g2, rfl, _⟩
  · omega
  have hx : w.cell? ⟨g2, 0, none⟩ = some (.int .u32 (b : Nat)) := by
    have := hb.own.cellAt 0 (by omega)
    rw [lim9_at (by omega)] at this
    rw [this]
    simp only [Nat.mul_zero, Nat.pow_zero, Nat.div_one]
    rw [Nat.mod_eq_of_lt hb9]
  have HX := Hq0 hx
  have HSH := Hq0 (fun (wx : World) (g : w.grownBy wx none) => natShort_any (ha.same g) (by omega) hb0 hb9)
  have HM := Hq0 (show a % b < 1000000000 by have := Nat.mod_lt a hb0; omega)
  generalize ncmp a b = nc at *
  clear ha hb hta hle hb0 hb9 hac1 hx
  go_enter Tryz.func74, Tryz.ntmps74
  go_wp2_with (fail)
  refine HC.out.mono ?_
  rintro r w1 ⟨rfl, g1⟩
  have G1 := Hq0 g1
  have hx1 := keepc g1 HX.out
  clear g1 HC HX
  go_wp2_with (fail)
  refine (HSH.out _ G1.out).mono ?_
  rintro r w2 ⟨q, tq, rfl, hq, g2'⟩
  have HQ := Hq0 (hq.base G1.out.size)
  have G2 := Hq0 (grown_trans G1.out g2')
  obtain ⟨m, hm⟩ : ∃ m, a % b = m := ⟨_, rfl⟩
  rw [hm] at HM ⊢
  have HMM := Hq0 hm
  have em : IntKind.u64.wrap (m : Int) = m := by have := HM.out; rw [IntKind.wrap_u64]; omega
  have HNF := Hq0 (fun wx => NatFrom_any m wx (by have := HM.out; omega))
  have EM := Hq0 em
  clear hq g2' hm em hx1 HSH G1
  go_wp2_with (fail)
  try rw [EM.out]
  refine (HNF.out _).mono ?_
  rintro r w3 ⟨rv, tr, rfl, hr, g3⟩
  have HR := Hq0 hr; have G3 := Hq0 g3
  clear hr g3 HNF
  go_wp2_with (fail)
  refine bodyPost_ret (v := .tuple #[q, rv]) (by simp [results, Tryz.func74, go_sem]; try rfl) rfl ?_
  exact ⟨q, rv, tq, tr, rfl, HQ.out.same G3.out, by rw [HMM.out]; exact HR.out.base G2.out.size, grown_trans G2.out G3.out⟩
end Go.Proofs.YtjcfacinlgogaaaGreatDoor
