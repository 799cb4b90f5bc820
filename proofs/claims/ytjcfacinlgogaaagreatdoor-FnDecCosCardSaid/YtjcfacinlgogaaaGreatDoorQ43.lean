/- Powers of ten in limbs. Conditions: exponents up to 1000. Whole numbers of limbs: their sign set, turned. No condition. -/
import Derived.Test.YtjcfacinlgogaaaGreatDoorQ39
import Derived.Test.YtjcfacinlgogaaaGreatDoorQ42
set_option linter.all false
set_option maxHeartbeats 4000000
set_option maxRecDepth 100000
set_option exponentiation.threshold 3000
namespace Go.Proofs.YtjcfacinlgogaaaGreatDoor
open Go.RowKit
theorem ten_row (q r : Nat) (hr : r < 9) : (lim9 0 (q + 1)).set q (.int .u32 ((10 ^ r : Nat) : Int)) = lim9 (10 ^ (9 * q + r)) (q + 1) := by
  have hlt : (10 : Nat) ^ r < 1000000000 := by
    have := Nat.pow_lt_pow_right (a := 10) (by decide) hr
    simpa using this
  apply List.ext_getElem?
  intro j
  by_cases hj : j = q
  · subst hj
    rw [List.getElem?_set_self (by rw [lim9_len]; omega), lim9_at (by omega), Nat.pow_add, Nat.mul_div_cancel_left _ (Nat.pow_pos (by decide)), Nat.mod_eq_of_lt hlt]
  · rw [List.getElem?_set_ne (by omega)]
    by_cases hjt : j < q + 1
    · rw [lim9_at hjt, lim9_at hjt]
      have e : 10 ^ (9 * q + r) = 10 ^ (9 * j) * (1000000000 * 10 ^ (9 * (q - j - 1) + r)) := by
        rw [show (1000000000 : Nat) = 10 ^ 9 by decide, ← Nat.pow_add, ← Nat.pow_add]
        congr 1; omega
      rw [e, Nat.mul_div_cancel_left _ (Nat.pow_pos (by decide)), Nat.mul_mod_right, Nat.zero_div, Nat.zero_mod]
    · rw [List.getElem?_eq_none (by rw [lim9_len]; omega), List.getElem?_eq_none (by rw [lim9_len]; omega)]
theorem ten_nat (w : World) (b : Nat) (v : Value) (q r : Nat) (hr : r < 9) (h : w.ownsRow b 73 1 v (q + 1) (lim9 (10 ^ (9 * q + r)) (q + 1))) : NatOf w b v (10 ^ (9 * q + r)) (q + 1) :=
  ⟨h, Nat.pow_lt_pow_right (by decide) (by omega), .inr (Nat.pow_le_pow_right (by decide) (by omega))⟩
theorem ten10 (x : Nat) (h : x < 400000000) : IntKind.u32.wrap ((x : Int) * 10) = ((x * 10 : Nat) : Int) := by rw [IntKind.wrap_u32]; omega
theorem Pow10_any (n : Nat) (w : World) (hn : n ≤ 1000) : Calls Tryz.prog 16 #[.int .i64 (n : Nat)] w fun e w' => NwR w (10 ^ n) e w' := by
  obtain ⟨q, hq⟩ : ∃ q, n / 9 = q := ⟨_, rfl⟩
  obtain ⟨r, hr⟩ : ∃ r, n % 9 = r := ⟨_, rfl⟩
  have hr9 : r < 9 := by omega
  have hnq : n = 9 * q + r := by omega
  have hmk := mk32 (q + 1) (by omega)
  rw [Int.natCast_add] at hmk
  have eq1 : (n : Int) / 9 = q := by omega
  have eq2 : (n : Int) % 9 = r := by omega
  have eq3 : Int.tdiv (n : Int) 9 = q := by rw [Int.tdiv_eq_ediv_of_nonneg (by omega)]; omega
  have eq4 : Int.tmod (n : Int) 9 = r := by rw [Int.tmod_eq_emod_of_nonneg (by omega)]; omega
  have HZ := Hq0 (z32_row w (q + 1) (by omega))
  have hG := Hq0 (grown_new w (z32 (q + 1)))
  have hn0 : (0 : Int) ≤ n := by omega
  have hn9 : (n : Int) ≤ 1000 := by omega
  have HN := Hq0 (And.intro hr9 hnq)
  have HE := Hq0 (And.intro eq1 (And.intro eq2 (And.intro eq3 eq4)))
  clear hq hr hnq eq1 eq2 eq3 eq4 hr9
  go_enter Tryz.func16, Tryz.ntmps16
  have hmkA : ∀ w, (Instr.makeSlice 26 (.int .i64 ((n : Int) / 9 + 1)) (.int .i64 ((n : Int) / 9 + 1))).run Tryz.prog w = .ok (.slice (some ⟨w.heap.size, 0, none⟩) (q + 1) (q + 1)) (w.alloc (z32 (q + 1))) := by rw [HE.out.1]; exact hmk
  have hmkB : ∀ w, (Instr.makeSlice 26 (.int .i64 (Int.tdiv (n : Int) 9 + 1)) (.int .i64 (Int.tdiv (n : Int) 9 + 1))).run Tryz.prog w = .ok (.slice (some ⟨w.heap.size, 0, none⟩) (q + 1) (q + 1)) (w.alloc (z32 (q + 1))) := by rw [HE.out.2.2.1]; exact hmk
  go_upto_region 4 with (fail)
  generalize w.alloc (z32 (q + 1)) = W1 at *
  obtain ⟨g3, hg3⟩ : ∃ g, g = w.heap.size := ⟨_, rfl⟩
  rw [← hg3]
  have hZ := HZ.out
  have HZ2 : Hid (W1.ownsRow w.heap.size 73 1 (.slice (some ⟨g3, 0, none⟩) (q + 1) (q + 1)) (q + 1) (lim9 0 (q + 1))) := Hq0 (by rw [← hg3] at hZ ⊢; exact hZ)
  have hgb : w.heap.size ≤ g3 := by omega
  clear hmk hmkA hmkB HZ hZ hg3
  go_upto_block 0 with (fail)
  go_cut [4, 5] from 12 to 19 (fun s4 _ wx => s4 = .int .u32 ((10 ^ r : Nat) : Int) ∧ W1 = wx)
  case first =>
    go_wp2_with (fail)
    go_loopw [4, 5] (fun s4 s5 wx => ∃ i : Nat, i ≤ r ∧ s5 = .int .i64 (i : Nat) ∧ s4 = .int .u32 ((10 ^ i : Nat) : Int) ∧ W1 = wx) (fun _ s5 _ => r - (intOf s5).toNat)
    case atStart => exact ⟨0, Nat.zero_le _, rfl, rfl, rfl⟩
    case round =>
      obtain ⟨i, hi, rfl, rfl, rfl⟩ := hrel
      have hE2 := HE.out.2.1
      have hE4 := HE.out.2.2.2
      by_cases hir : i < r
      · have hlt : (i : Int) < (n : Int) % 9 := by rw [hE2]; omega
        have hlt2 : (i : Int) < Int.tmod (n : Int) 9 := by rw [hE4]; omega
        have hx : 10 ^ i < 400000000 := by
          have h1 := HN.out.1
          have : 10 ^ i ≤ 10 ^ 8 := Nat.pow_le_pow_right (by decide) (by omega)
          have : (10 : Nat) ^ 8 = 100000000 := by decide
          omega
        have hx10 := ten10 _ hx
        have hps : 10 ^ (i + 1) = 10 ^ i * 10 := Nat.pow_succ _ _
        obtain ⟨x, hxx⟩ : ∃ x, 10 ^ i = x := ⟨_, rfl⟩
        rw [hxx] at hx10 hps ⊢
        have HX10 := Hq0 hx10; have HPS := Hq0 hps; have HIR := Hq0 hir
        clear hi hx hx10 hps hxx hir hE2 hE4
        go_wp2_with (fail)
        refine ⟨⟨i + 1, HIR.out, rfl, congrArg (Value.int .u32) (by rw [HPS.out]; first | exact HX10.out | (have := HX10.out; rw [IntKind.wrap_u32] at this; exact this)), trivial⟩, mea3 HIR.out⟩
      · have hlt : ¬ (i : Int) < (n : Int) % 9 := by rw [hE2]; omega
        have hlt2 : ¬ (i : Int) < Int.tmod (n : Int) 9 := by rw [hE4]; omega
        have hie : i = r := by omega
        have HIE := Hq0 hie
        clear hi hir hE2 hE4 hie
        go_wp2_with (fail)
        go_meet
        exact ⟨by rw [HIE.out]; simp, rfl⟩
  case rest =>
    obtain ⟨rfl, rfl⟩ := hcut
    have hst := (HZ2.out.stored q (.int .u32 ((10 ^ r : Nat) : Int))).1
    rw [ten_row q r HN.out.1] at hst
    have HST := Hq0 hst
    have hc := HZ2.out.cellAt q (by omega)
    rw [lim9_at (by omega)] at hc
    have hfz := HZ2.out.frozenAt q
    have hE1 := HE.out.1
    have hE3 := HE.out.2.2.1
    obtain ⟨x, hxx⟩ : ∃ x, 10 ^ r = x := ⟨_, rfl⟩
    rw [hxx] at HST ⊢
    have hqt : n / 9 = q := by omega
    have hc2 : W1.cell? ⟨g3, n / 9, none⟩ = some (.int .u32 ((0 / 10 ^ (9 * q) % 1000000000 : Nat) : Int)) := by rw [hqt]; exact hc
    have hfz2 : W1.frozen? ⟨g3, n / 9, none⟩ = false := by rw [hqt]; exact hfz
    have hqn : (n : Int) / 9 < ((q + 1 : Nat) : Int) := by omega
    have hqn0 : (0 : Int) ≤ (n : Int) / 9 := by omega
    have HQT := Hq0 hqt
    generalize 0 / 10 ^ (9 * q) % 1000000000 = z0 at hc2
    clear hst hxx hc hfz hE1 hE3 hqt
    go_wp2_with (fail)
    go_ret
    rw [HQT.out]
    have hNN := ten_nat _ _ _ q r HN.out.1 HST.out
    rw [← HN.out.2] at hNN
    exact ⟨_, q + 1, rfl, hNN, grown_own hG.out (grown_set1 _ _ _ _) (.inr hgb)⟩
end Go.Proofs.YtjcfacinlgogaaaGreatDoor
namespace Go.Proofs.YtjcfacinlgogaaaGreatDoor
open Go.RowKit
def wholeV (neg : Bool) (v : Value) : Value := .agg #[.bool neg, v]
theorem wholeOf_any {w : World} {base c t : Nat} {v : Value} (neg : Bool) (h : NatOf w base v c t) : Calls Tryz.prog 37 #[.bool neg, v] w fun e w' => e = .returned (wholeV (neg && !decide (c = 0)) v) ∧ w.grownBy w' none := by
  obtain ⟨a, cap, rfl, hac⟩ := h.own.slice
  have hiff : t = 0 ↔ c = 0 := by
    constructor
    · intro e; have := h.lt; rw [e] at this; simpa using this
    · intro e
      rcases h.top with e2 | e2
      · exact e2
      · rw [e] at e2; have := Nat.pow_pos (n := 9 * (t - 1)) (show 0 < 10 by decide); omega
  obtain ⟨b, hb⟩ : ∃ b, (neg && !decide (c = 0)) = b := ⟨_, rfl⟩
  rw [hb]
  clear h hac
  have HI := Hq0 hiff
  unfold wholeV
  have fin : ∀ x : Bool, x = b → Calls Tryz.prog 37 #[.bool neg, .slice a t cap] w (fun e w' => e = .returned (.agg #[.bool x, .slice a t cap]) ∧ w.grownBy w' none) → Calls Tryz.prog 37 #[.bool neg, .slice a t cap] w (fun e w' => e = .returned (.agg #[.bool b, .slice a t cap]) ∧ w.grownBy w' none) := fun x hx h => by rw [← hx]; exact h
  cases neg with
  | false =>
    refine fin false (by rw [← hb]; rfl) ?_
    clear hb fin hiff
    go_enter Tryz.func37, Tryz.ntmps37
    go_wp2_with (fail)
    refine bodyPost_ret (v := .agg #[.bool false, .slice a t cap]) (by simp [results, Tryz.func37, go_sem]; try rfl) rfl ?_
    exact ⟨rfl, grown_new _ _⟩
  | true =>
    by_cases h0 : t = 0
    · refine fin false (by rw [← hb, (HI.out.1 h0)]; rfl) ?_
      subst h0
      clear hb fin hiff HI
      go_enter Tryz.func37, Tryz.ntmps37
      go_wp2_with (fail)
      refine bodyPost_ret (v := .agg #[.bool false, .slice a 0 cap]) (by simp [results, Tryz.func37, go_sem]; try rfl) rfl ?_
      exact ⟨rfl, grown_new _ _⟩
    · refine fin true (by rw [← hb, decide_eq_false (fun e => h0 (HI.out.2 e))]; rfl) ?_
      have ht : (0 : Int) < t := by omega
      clear hb fin hiff HI h0
      go_enter Tryz.func37, Tryz.ntmps37
      go_wp2_with (fail)
      refine bodyPost_ret (v := .agg #[.bool true, .slice a t cap]) (by simp [results, Tryz.func37, go_sem]; omega) rfl ?_
      exact ⟨rfl, grown_new _ _⟩
def WhV (w : World) (base : Nat) (x : Value) (n : Int) (t : Nat) : Prop := ∃ v, x = .agg #[.bool (decide (n < 0)), v] ∧ NatOf w base v n.natAbs t
theorem WhV.same {w w' : World} {base t : Nat} {x : Value} {n : Int} (h : WhV w base x n t) (g : w.grownBy w' none) : WhV w' base x n t := by
  obtain ⟨v, h1, h2⟩ := h; exact ⟨v, h1, h2.same g⟩
def WhR (w : World) (n : Int) (e : Ending) (w' : World) : Prop := ∃ x t, e = .returned x ∧ WhV w' w.heap.size x n t ∧ w.grownBy w' none
theorem sgn_whole {neg : Bool} {c : Nat} {n : Int} (h : n = if neg then -(c : Int) else c) : (neg && !decide (c = 0)) = decide (n < 0) ∧ n.natAbs = c := by
  subst h
  cases neg
  · simp
  · simp
    by_cases h0 : c = 0
    · simp [h0]
    · simp [h0]; omega
theorem wh_cells {w : World} {b : Nat} {u v : Value} (h : w.heap[b]? = some (.cells #[u, v] 28)) : w.cell? ⟨b, 0, none⟩ = some u ∧ w.cell? ⟨b, 1, none⟩ = some v ∧ w.frozen? ⟨b, 0, none⟩ = false ∧ w.frozen? ⟨b, 1, none⟩ = false := by
  refine ⟨?_, ?_, ?_, ?_⟩ <;> simp [World.cell?, World.frozen?, h]
theorem own_wh {w w' : World} {base g c t : Nat} {v u0 u1 : Value} (h : NatOf w base v c t) (ho : w.heap[g]? = some (.cells #[u0, u1] 28)) (k : w.grownBy w' (some g)) : NatOf w' base v c t := by
  refine h.kept k ?_
  intro e
  rcases h.own.2 with ⟨rfl, _⟩ | ⟨g', cap, cur, rfl, _, h3, _⟩
  · simp [Value.ownBlock] at e
  · simp only [Value.ownBlock, Option.some.injEq] at e
    subst e
    rw [h3] at ho
    simp at ho
theorem Minus_any {w : World} {base t : Nat} {x : Value} {n : Int} (h : WhV w base x n t) : Calls Tryz.prog 10 #[x] w fun e w' => ∃ x', e = .returned x' ∧ WhV w' base x' (-n) t ∧ w.grownBy w' none := by
  obtain ⟨v, rfl, hv⟩ := h
  obtain ⟨W1, hW1⟩ : ∃ W1, W1 = (w.alloc (.cells #[.bool (decide (n < 0)), v] 28)).alloc (.cells #[.bool false, .slice none 0 0] 28) := ⟨_, rfl⟩
  have g1 : w.grownBy W1 none := by rw [hW1]; exact grown_trans (grown_new _ _) (grown_new _ _)
  have hsz := size_alloc w (.cells #[.bool (decide (n < 0)), v] 28)
  have hb : W1.heap[w.heap.size]? = some (.cells #[.bool (decide (n < 0)), v] 28) := by rw [hW1]; exact kpb (grown_new _ _) (heap_new _ _)
  have hr : W1.heap[w.heap.size + 1]? = some (.cells #[.bool false, .slice none 0 0] 28) := by rw [hW1, ← hsz]; exact heap_new _ _
  have HV := Hq0 hv; have G1 := Hq0 g1; have HR := Hq0 hr
  have HW := Hq0 (wholeOf_any (!decide (n < 0)) (hv.same g1))
  obtain ⟨x0, x1, _, _⟩ := wh_cells hb
  obtain ⟨a, cap, rfl, _⟩ := hv.own.slice
  obtain ⟨b, hbb⟩ : ∃ b, decide (n < 0) = b := ⟨_, rfl⟩
  rw [hbb] at x0 HW hW1 hb ⊢
  have HBB := Hq0 hbb
  clear hv g1 hsz hb hr hbb
  go_enter Tryz.func10, Tryz.ntmps10
  go_upto_region 1 with (fail)
  rw [← hW1]
  clear hW1
  go_wp2_with (fail)
  refine HW.out.mono ?_
  rintro r w2 ⟨rfl, g2⟩
  have hr2 := kpb g2 HR.out
  have HR2 := Hq0 hr2
  obtain ⟨y0, y1, y2, y3⟩ := wh_cells hr2
  have G2 := Hq0 (grown_trans G1.out g2)
  have hs : (!b && !decide (n.natAbs = 0)) = decide (-n < 0) := by
    rw [← HBB.out]
    rcases Int.lt_trichotomy n 0 with h1 | h1 | h1
    · rw [decide_eq_true h1, decide_eq_false (show ¬ -n < 0 by omega)]; rfl
    · subst h1; rfl
    · rw [decide_eq_false (show ¬ n < 0 by omega), decide_eq_true (show -n < 0 by omega), decide_eq_false (show ¬ n.natAbs = 0 by omega)]; rfl
  rw [hs]
  obtain ⟨b2, hb2⟩ : ∃ b2, decide (-n < 0) = b2 := ⟨_, rfl⟩
  rw [hb2]
  have HB2 := Hq0 hb2
  unfold wholeV
  clear x0 x1 g2 hr2 HW hs hb2
  go_wp2
  obtain ⟨o1, o2⟩ := st_var HR2.out (.bool b2) (.slice a t cap)
  have HN := Hq0 (own_wh (HV.out.same G2.out) HR2.out o1)
  have G9 := Hq0 (grown_own G2.out o1 (.inr (Nat.le_succ _)))
  clear y0 y1 y2 y3
  generalize (w2.setCell ⟨w.heap.size + 1, 0, none⟩ (.bool b2)).setCell ⟨w.heap.size + 1, 1, none⟩ (.slice a t cap) = w9 at *
  obtain ⟨s0, s1, _, _⟩ := wh_cells o2
  refine bodyPost_ret (v := .agg #[.bool b2, .slice a t cap]) (by simp [results, Tryz.func10, go_sem, s0, s1]; try rfl) rfl ?_
  exact ⟨_, rfl, ⟨_, by rw [HB2.out], by rw [Int.natAbs_neg]; exact HN.out⟩, G9.out⟩
end Go.Proofs.YtjcfacinlgogaaaGreatDoor
open Go.RowKit
namespace Go.Proofs.YtjcfacinlgogaaaGreatDoor
theorem NatOf.tk {w : World} {base c t : Nat} {v : Value} (h : NatOf w base v c t) (k : Nat) (hc : c < 10 ^ (9 * k)) : t ≤ k := by
  rcases h.top with e | e
  · omega
  · refine Classical.byContradiction fun h2 => ?_
    have : 10 ^ (9 * k) ≤ 10 ^ (9 * (t - 1)) := Nat.pow_le_pow_right (by decide) (by omega)
    omega
theorem box3 (w : World) (oa ob oc : Obj) : ∃ W0, W0 = ((w.alloc oa).alloc ob).alloc oc ∧ w.grownBy W0 none ∧ W0.heap[w.heap.size]? = some oa ∧ W0.heap[w.heap.size + 1]? = some ob ∧ W0.heap[w.heap.size + 1 + 1]? = some oc := by
  refine ⟨_, rfl, grown_trans (grown_new _ _) (grown_trans (grown_new _ _) (grown_new _ _)), ?_, ?_, ?_⟩
  · exact kpb (grown_trans (grown_new _ _) (grown_new _ _)) (heap_new _ _)
  · have := kpb (grown_new ((w.alloc oa).alloc ob) oc) (heap_new (w.alloc oa) ob)
    rwa [size_alloc] at this
  · have := heap_new ((w.alloc oa).alloc ob) oc
    rwa [size_alloc, size_alloc] at this
theorem box2 (w : World) (oa ob : Obj) : ∃ W0, W0 = (w.alloc oa).alloc ob ∧ w.grownBy W0 none ∧ W0.heap[w.heap.size]? = some oa ∧ W0.heap[w.heap.size + 1]? = some ob := by
  refine ⟨_, rfl, grown_trans (grown_new _ _) (grown_new _ _), ?_, ?_⟩
  · exact kpb (grown_new _ _) (heap_new _ _)
  · have := heap_new (w.alloc oa) ob
    rwa [size_alloc] at this
theorem cell_two {w : World} {b : Nat} {u v : Value} {t : TypeId} (h : w.heap[b]? = some (.cells #[u, v] t)) : w.cell? ⟨b, 0, none⟩ = some u ∧ w.cell? ⟨b, 1, none⟩ = some v ∧ w.frozen? ⟨b, 0, none⟩ = false ∧ w.frozen? ⟨b, 1, none⟩ = false := by
  refine ⟨?_, ?_, ?_, ?_⟩ <;> simp [World.cell?, World.frozen?, h]
theorem cell_three {w : World} {b : Nat} {u v x : Value} {t : TypeId} (h : w.heap[b]? = some (.cells #[u, v, x] t)) : w.cell? ⟨b, 0, none⟩ = some u ∧ w.cell? ⟨b, 1, none⟩ = some v ∧ w.cell? ⟨b, 2, none⟩ = some x ∧ w.frozen? ⟨b, 0, none⟩ = false ∧ w.frozen? ⟨b, 1, none⟩ = false ∧ w.frozen? ⟨b, 2, none⟩ = false := by
  refine ⟨?_, ?_, ?_, ?_, ?_, ?_⟩ <;> simp [World.cell?, World.frozen?, h]
def S4 (w0 : World) (R A B : Nat) (a0 a1 b0 b1 : Value) (w' : World) : Prop :=
  w0.grownBy w' (some R) ∧ w'.cell? ⟨A, 0, none⟩ = some a0 ∧ w'.cell? ⟨A, 1, none⟩ = some a1 ∧ w'.cell? ⟨B, 0, none⟩ = some b0 ∧ w'.cell? ⟨B, 1, none⟩ = some b1
theorem S4.keep {w0 w' w2 : World} {R A B : Nat} {a0 a1 b0 b1 : Value} (g : w'.grownBy w2 none) (h : S4 w0 R A B a0 a1 b0 b1 w') : S4 w0 R A B a0 a1 b0 b1 w2 := by
  obtain ⟨h0, h1, h2, h3, h4⟩ := h
  exact ⟨grown_trans h0 (grown_weak g), keepc g h1, keepc g h2, keepc g h3, keepc g h4⟩
theorem S4.st {w0 w' : World} {R A B : Nat} {a0 a1 b0 b1 : Value} (h : S4 w0 R A B a0 a1 b0 b1 w') (hA : A ≠ R) (hB : B ≠ R) (u v : Value) : S4 w0 R A B a0 a1 b0 b1 ((w'.setCell ⟨R, 0, none⟩ u).setCell ⟨R, 1, none⟩ v) := by
  obtain ⟨h0, h1, h2, h3, h4⟩ := h
  have g : w'.grownBy ((w'.setCell ⟨R, 0, none⟩ u).setCell ⟨R, 1, none⟩ v) (some R) := grown_setb (grown_setb (grown_refl _ _) 0 u) 1 v
  exact ⟨grown_trans h0 g, keepo g h1 hA, keepo g h2 hA, keepo g h3 hB, keepo g h4 hB⟩
theorem sgn_mul (n m : Int) : ((decide (n < 0) != decide (m < 0)) && !decide (n.natAbs * m.natAbs = 0)) = decide (n * m < 0) := by
  have h1 : n.natAbs * m.natAbs = (n * m).natAbs := (Int.natAbs_mul n m).symm
  rw [h1]
  rcases Int.lt_trichotomy n 0 with hn | hn | hn
  · rcases Int.lt_trichotomy m 0 with hm | hm | hm
    · have : 0 < n * m := Int.mul_pos_of_neg_of_neg hn hm
      rw [decide_eq_true hn, decide_eq_true hm, decide_eq_false (show ¬ n * m < 0 by omega)]; rfl
    · subst hm; simp
    · have : n * m < 0 := Int.mul_neg_of_neg_of_pos hn hm
      rw [decide_eq_true hn, decide_eq_false (show ¬ m < 0 by omega), decide_eq_true this, decide_eq_false (show ¬ (n * m).natAbs = 0 by omega)]; rfl
  · subst hn; simp
  · rcases Int.lt_trichotomy m 0 with hm | hm | hm
    · have : n * m < 0 := Int.mul_neg_of_pos_of_neg hn hm
      rw [decide_eq_false (show ¬ n < 0 by omega), decide_eq_true hm, decide_eq_true this, decide_eq_false (show ¬ (n * m).natAbs = 0 by omega)]; rfl
    · subst hm; simp
    · have : 0 < n * m := Int.mul_pos hn hm
      rw [decide_eq_false (show ¬ n < 0 by omega), decide_eq_false (show ¬ m < 0 by omega), decide_eq_false (show ¬ n * m < 0 by omega)]; rfl
theorem WMul_any {w : World} {base1 base2 tn tm : Nat} {x y : Value} {n m : Int} (hx : WhV w base1 x n tn) (hy : WhV w base2 y m tm) (h1 : tn ≤ 1000) (h2 : tm ≤ 1000) : Calls Tryz.prog 41 #[x, y] w fun e w' => WhR w (n * m) e w' := by
  obtain ⟨xv, rfl, hxv⟩ := hx
  obtain ⟨yv, rfl, hyv⟩ := hy
  have HM := Hq0 (fun (wx : World) (g : w.grownBy wx none) => NatMul_any (hxv.same g) (hyv.same g) h1 h2)
  have HS := Hq0 (sgn_mul n m)
  have HA := Hq0 (Int.natAbs_mul n m)
  obtain ⟨a1, cap1, rfl, _⟩ := hxv.own.slice
  obtain ⟨a2, cap2, rfl, _⟩ := hyv.own.slice
  generalize hbs : decide (n * m < 0) = bs at *
  have HBS := Hq0 hbs
  have HW := Hq0 (fun (wx : World) (base c t : Nat) (v : Value) (neg : Bool) (h : NatOf wx base v c t) => wholeOf_any neg h)
  unfold wholeV at HW
  generalize hbx : decide (n < 0) = bx at *
  generalize hby : decide (m < 0) = bb at *
  clear hbx hby hbs hxv hyv h1 h2
  obtain ⟨WB, hW0, g0, ha, hb, hr⟩ := box3 w (.cells #[.bool bx, .slice a1 tn cap1] 28) (.cells #[.bool bb, .slice a2 tm cap2] 28) (.cells #[.bool false, .slice none 0 0] 28)
  obtain ⟨x0, x1, _, _⟩ := cell_two ha
  obtain ⟨z0, z1, _, _⟩ := cell_two hb
  have HR := Hq0 hr
  have G0 := Hq0 g0
  have HSZ : Hid (S4 WB (w.heap.size + 1 + 1) (w.heap.size) (w.heap.size + 1) (.bool bx) (.slice a1 tn cap1) (.bool bb) (.slice a2 tm cap2) WB) := Hq0 ⟨grown_refl _ _, x0, x1, z0, z1⟩
  have GG : Hid (WB.grownBy WB none) := Hq0 (grown_refl _ _)
  clear ha hb hr g0 x0 x1 z0 z1
  go_enter Tryz.func41, Tryz.ntmps41
  go_upto_region 1 with (fail)
  rw [← hW0]
  clear hW0
  go_region_held3 (fun w' => WB.grownBy w' (some (w.heap.size + 1 + 1)) ∧ w'.cell? ⟨w.heap.size, 0, none⟩ = some (.bool bx) ∧ w'.cell? ⟨w.heap.size, 1, none⟩ = some (.slice a1 tn cap1) ∧ w'.cell? ⟨w.heap.size + 1, 0, none⟩ = some (.bool bb) ∧ w'.cell? ⟨w.heap.size + 1, 1, none⟩ = some (.slice a2 tm cap2))
    (first | exact KS.out | exact S4.keep (grown_dw _) HSZ.out | exact S4.st KS.out (by omega) (by omega) _ _)
    (first
      | (go_at_call 42; refine (HM.out _ (grown_trans G0.out (grown_trans GG.out (grown_drew _)))).mono ?_; rintro r wk ⟨v, t, rfl, hv, gk⟩; obtain ⟨a3, cap3, rfl, _⟩ := hv.own.slice; have KS : Hid (S4 WB (w.heap.size + 1 + 1) (w.heap.size) (w.heap.size + 1) (.bool bx) (.slice a1 tn cap1) (.bool bb) (.slice a2 tm cap2) wk) := Hq0 (S4.keep gk (by assumption)); have HV := Hq0 hv; clear hv; have GG := Hq0 (grown_trans (grown_drew WB) gk); clear gk)
      | (go_at_call 37; have hW := HW.out _ _ _ _ _ (bx != bb) HV.out; rw [HS.out] at hW; refine hW.mono ?_; rintro r wk2 ⟨rfl, gk⟩; clear hW; have KS : Hid (S4 WB (w.heap.size + 1 + 1) (w.heap.size) (w.heap.size + 1) (.bool bx) (.slice a1 tn cap1) (.bool bb) (.slice a2 tm cap2) wk2) := Hq0 (S4.keep gk (by assumption)); have HV := Hq0 (HV.out.same gk); have GG := Hq0 (grown_trans GG.out gk); have HRR := Hq0 (kpb GG.out HR.out); obtain ⟨y0, y1, y2, y3⟩ := cell_two HRR.out; clear gk))
  all_goals
    obtain ⟨o1, o2⟩ := st_var HRR.out (.bool bs) (.slice a3 t cap3)
    have HN := Hq0 (own_wh HV.out HRR.out o1)
    have G9 := Hq0 (grown_own (grown_trans G0.out GG.out) o1 (.inr (Nat.le_trans (Nat.le_succ _) (Nat.le_succ _))))
    have HLE := Hq0 (Nat.le_trans G0.out.size (grown_drew WB).size)
    clear y0 y1 y2 y3
    go_wp2
    generalize (wk2.setCell ⟨w.heap.size + 1 + 1, 0, none⟩ (.bool bs)).setCell ⟨w.heap.size + 1 + 1, 1, none⟩ (.slice a3 t cap3) = w9 at *
    obtain ⟨s0, s1, _, _⟩ := cell_two o2
    refine bodyPost_ret (v := .agg #[.bool bs, .slice a3 t cap3]) (by simp [results, Tryz.func41, go_sem, s0, s1]; try rfl) rfl ?_
    exact ⟨_, _, rfl, ⟨_, by rw [HBS.out], by rw [HA.out]; exact HN.out.base HLE.out⟩, G9.out⟩
theorem sgn_add1 {n m : Int} (h : decide (n < 0) = decide (m < 0)) : (decide (n < 0) && !decide (n.natAbs + m.natAbs = 0)) = decide (n + m < 0) ∧ (n + m).natAbs = n.natAbs + m.natAbs := by
  have h2 : n < 0 ↔ m < 0 := decide_eq_decide.1 h
  refine ⟨?_, by omega⟩
  rw [show (decide (n < 0) && !decide (n.natAbs + m.natAbs = 0)) = decide (n < 0 ∧ ¬ n.natAbs + m.natAbs = 0) by simp, decide_eq_decide]
  omega
theorem sgn_add2 {n m : Int} (h : ¬ decide (n < 0) = decide (m < 0)) (k : m.natAbs ≤ n.natAbs) : (decide (n < 0) && !decide (n.natAbs - m.natAbs = 0)) = decide (n + m < 0) ∧ (n + m).natAbs = n.natAbs - m.natAbs := by
  have h2 : ¬ (n < 0 ↔ m < 0) := fun e => h (decide_eq_decide.2 e)
  refine ⟨?_, by omega⟩
  rw [show (decide (n < 0) && !decide (n.natAbs - m.natAbs = 0)) = decide (n < 0 ∧ ¬ n.natAbs - m.natAbs = 0) by simp, decide_eq_decide]
  omega
theorem WAdd_one {w : World} {base1 base2 tn tm : Nat} {x y : Value} {n m : Int} (hx : WhV w base1 x n tn) (hy : WhV w base2 y m tm) (h1 : tn ≤ 1000) (h2 : tm ≤ 1000) (h : decide (n < 0) = decide (m < 0)) : Calls Tryz.prog 40 #[x, y] w fun e w' => WhR w (n + m) e w' := by
  obtain ⟨xv, rfl, hxv⟩ := hx
  obtain ⟨yv, rfl, hyv⟩ := hy
  have HM := Hq0 (fun (wx : World) (g : w.grownBy wx none) => NatAdd_any (hxv.same g) (hyv.same g) h1 h2)
  have HS := Hq0 (sgn_add1 h).1
  have HA := Hq0 (sgn_add1 h).2
  have HW := Hq0 (fun (wx : World) (base c t : Nat) (v : Value) (neg : Bool) (h : NatOf wx base v c t) => wholeOf_any neg h)
  unfold wholeV at HW
  obtain ⟨a1, cap1, rfl, _⟩ := hxv.own.slice
  obtain ⟨a2, cap2, rfl, _⟩ := hyv.own.slice
  generalize hbs : decide (n + m < 0) = bs at *
  have HBS := Hq0 hbs
  generalize hbx : decide (n < 0) = bx at *
  generalize hby : decide (m < 0) = bb at *
  have ht : (bx == bb) = true := by rw [h]; simp
  clear hbx hby hbs hxv hyv h1 h2 h
  obtain ⟨WB, hW0, g0, ha, hb, hr⟩ := box3 w (.cells #[.bool bx, .slice a1 tn cap1] 28) (.cells #[.bool bb, .slice a2 tm cap2] 28) (.cells #[.bool false, .slice none 0 0] 28)
  obtain ⟨x0, x1, _, _⟩ := cell_two ha
  obtain ⟨z0, z1, _, _⟩ := cell_two hb
  have HR := Hq0 hr
  have G0 := Hq0 g0
  have HSZ : Hid (S4 WB (w.heap.size + 1 + 1) (w.heap.size) (w.heap.size + 1) (.bool bx) (.slice a1 tn cap1) (.bool bb) (.slice a2 tm cap2) WB) := Hq0 ⟨grown_refl _ _, x0, x1, z0, z1⟩
  have GG : Hid (WB.grownBy WB none) := Hq0 (grown_refl _ _)
  have x0 := x0; have x1 := x1; have z0 := z0; have z1 := z1
  clear ha hb hr g0
  go_enter Tryz.func40, Tryz.ntmps40
  go_upto_region 1 with (fail)
  rw [← hW0]
  clear hW0
  go_upto_region 2 with (fail)
  clear x0 x1 z0 z1
  go_region_held3 (fun w' => WB.grownBy w' (some (w.heap.size + 1 + 1)) ∧ w'.cell? ⟨w.heap.size, 0, none⟩ = some (.bool bx) ∧ w'.cell? ⟨w.heap.size, 1, none⟩ = some (.slice a1 tn cap1) ∧ w'.cell? ⟨w.heap.size + 1, 0, none⟩ = some (.bool bb) ∧ w'.cell? ⟨w.heap.size + 1, 1, none⟩ = some (.slice a2 tm cap2))
    (first | exact KS.out | exact S4.keep (grown_dw _) HSZ.out | exact S4.st KS.out (by omega) (by omega) _ _)
    (first
      | (go_at_call 77; refine (HM.out _ (grown_trans G0.out (grown_trans GG.out (grown_drew _)))).mono ?_; rintro r wk ⟨v, t, rfl, hv, gk⟩; obtain ⟨a3, cap3, rfl, _⟩ := hv.own.slice; have KS : Hid (S4 WB (w.heap.size + 1 + 1) (w.heap.size) (w.heap.size + 1) (.bool bx) (.slice a1 tn cap1) (.bool bb) (.slice a2 tm cap2) wk) := Hq0 (S4.keep gk (by assumption)); have HV := Hq0 hv; clear hv; have GG := Hq0 (grown_trans (grown_drew WB) gk); clear gk)
      | (go_at_call 37; have hW := HW.out _ _ _ _ _ (bx) HV.out; rw [HS.out] at hW; refine hW.mono ?_; rintro r wk2 ⟨rfl, gk⟩; clear hW; have KS : Hid (S4 WB (w.heap.size + 1 + 1) (w.heap.size) (w.heap.size + 1) (.bool bx) (.slice a1 tn cap1) (.bool bb) (.slice a2 tm cap2) wk2) := Hq0 (S4.keep gk (by assumption)); have HV := Hq0 (HV.out.same gk); have GG := Hq0 (grown_trans GG.out gk); have HRR := Hq0 (kpb GG.out HR.out); obtain ⟨y0, y1, y2, y3⟩ := cell_two HRR.out; clear gk))
  all_goals
    obtain ⟨o1, o2⟩ := st_var HRR.out (.bool bs) (.slice a3 t cap3)
    have HN := Hq0 (own_wh HV.out HRR.out o1)
    have G9 := Hq0 (grown_own (grown_trans G0.out GG.out) o1 (.inr (Nat.le_trans (Nat.le_succ _) (Nat.le_succ _))))
    have HLE := Hq0 (Nat.le_trans G0.out.size (grown_drew WB).size)
    clear y0 y1 y2 y3
    go_wp2
    generalize (wk2.setCell ⟨w.heap.size + 1 + 1, 0, none⟩ (.bool bs)).setCell ⟨w.heap.size + 1 + 1, 1, none⟩ (.slice a3 t cap3) = w9 at *
    obtain ⟨s0, s1, _, _⟩ := cell_two o2
    refine bodyPost_ret (v := .agg #[.bool bs, .slice a3 t cap3]) (by simp [results, Tryz.func40, go_sem, s0, s1]; try rfl) rfl ?_
    exact ⟨_, _, rfl, ⟨_, by rw [HBS.out], by rw [HA.out]; exact HN.out.base HLE.out⟩, G9.out⟩
theorem WAdd_two {w : World} {base1 base2 tn tm : Nat} {x y : Value} {n m : Int} (hx : WhV w base1 x n tn) (hy : WhV w base2 y m tm) (h1 : tn ≤ 1000) (h2 : tm ≤ 1000) (h : ¬ decide (n < 0) = decide (m < 0)) (hc : m.natAbs ≤ n.natAbs) : Calls Tryz.prog 40 #[x, y] w fun e w' => WhR w (n + m) e w' := by
  obtain ⟨xv, rfl, hxv⟩ := hx
  obtain ⟨yv, rfl, hyv⟩ := hy
  have HM := Hq0 (fun (wx : World) (g : w.grownBy wx none) => NatSub_any (hxv.same g) (hyv.same g) h1 hc)
  have HC := Hq0 (fun (wx : World) (g : w.grownBy wx none) => NatCmp_any (hxv.same g) (hyv.same g))
  have HS := Hq0 (sgn_add2 h hc).1
  have HA := Hq0 (sgn_add2 h hc).2
  have hc' : 0 ≤ ncmp n.natAbs m.natAbs := by unfold ncmp; split; omega; split <;> decide
  generalize ncmp n.natAbs m.natAbs = cm at *
  have HW := Hq0 (fun (wx : World) (base c t : Nat) (v : Value) (neg : Bool) (h : NatOf wx base v c t) => wholeOf_any neg h)
  unfold wholeV at HW
  obtain ⟨a1, cap1, rfl, _⟩ := hxv.own.slice
  obtain ⟨a2, cap2, rfl, _⟩ := hyv.own.slice
  try rw [Int.add_comm m n] at HS
  try rw [Int.add_comm m n] at HA
  generalize hbs : decide (n + m < 0) = bs at *
  have HBS := Hq0 hbs
  generalize hbx : decide (n < 0) = bx at *
  generalize hby : decide (m < 0) = bb at *
  have ht : (bx == bb) = false := by cases bx <;> cases bb <;> simp_all
  clear hbx hby hbs hxv hyv h1 h2 h hc
  obtain ⟨WB, hW0, g0, ha, hb, hr⟩ := box3 w (.cells #[.bool bx, .slice a1 tn cap1] 28) (.cells #[.bool bb, .slice a2 tm cap2] 28) (.cells #[.bool false, .slice none 0 0] 28)
  obtain ⟨x0, x1, _, _⟩ := cell_two ha
  obtain ⟨z0, z1, _, _⟩ := cell_two hb
  have HR := Hq0 hr
  have G0 := Hq0 g0
  have HSZ : Hid (S4 WB (w.heap.size + 1 + 1) (w.heap.size) (w.heap.size + 1) (.bool bx) (.slice a1 tn cap1) (.bool bb) (.slice a2 tm cap2) WB) := Hq0 ⟨grown_refl _ _, x0, x1, z0, z1⟩
  have GG : Hid (WB.grownBy WB none) := Hq0 (grown_refl _ _)
  clear ha hb hr g0
  go_enter Tryz.func40, Tryz.ntmps40
  go_upto_region 1 with (fail)
  rw [← hW0]
  clear hW0
  go_wp2_with (fail)
  refine (HC.out _ G0.out).mono ?_
  rintro r wc ⟨rfl, gc⟩
  have x0 := keepc gc x0; have x1 := keepc gc x1; have z0 := keepc gc z0; have z1 := keepc gc z1
  have HR := Hq0 (kpb gc HR.out)
  have G0 := Hq0 (grown_trans G0.out gc)
  clear HSZ GG gc
  go_upto_region 4 with (fail)
  have HSZ : Hid (S4 wc (w.heap.size + 1 + 1) (w.heap.size) (w.heap.size + 1) (.bool bx) (.slice a1 tn cap1) (.bool bb) (.slice a2 tm cap2) wc) := Hq0 ⟨grown_refl _ _, x0, x1, z0, z1⟩
  have GG : Hid (wc.grownBy wc none) := Hq0 (grown_refl _ _)
  clear x0 x1 z0 z1
  go_region_held3 (fun w' => wc.grownBy w' (some (w.heap.size + 1 + 1)) ∧ w'.cell? ⟨w.heap.size, 0, none⟩ = some (.bool bx) ∧ w'.cell? ⟨w.heap.size, 1, none⟩ = some (.slice a1 tn cap1) ∧ w'.cell? ⟨w.heap.size + 1, 0, none⟩ = some (.bool bb) ∧ w'.cell? ⟨w.heap.size + 1, 1, none⟩ = some (.slice a2 tm cap2))
    (first | exact KS.out | exact S4.keep (grown_dw _) HSZ.out | exact S4.st KS.out (by omega) (by omega) _ _)
    (first
      | (go_at_call 78; refine (HM.out _ (grown_trans G0.out (grown_trans GG.out (grown_drew _)))).mono ?_; rintro r wk ⟨v, t, rfl, hv, gk⟩; obtain ⟨a3, cap3, rfl, _⟩ := hv.own.slice; have KS : Hid (S4 wc (w.heap.size + 1 + 1) (w.heap.size) (w.heap.size + 1) (.bool bx) (.slice a1 tn cap1) (.bool bb) (.slice a2 tm cap2) wk) := Hq0 (S4.keep gk (by assumption)); have HV := Hq0 hv; clear hv; have GG := Hq0 (grown_trans (grown_drew wc) gk); clear gk)
      | (go_at_call 37; have hW := HW.out _ _ _ _ _ (bx) HV.out; rw [HS.out] at hW; refine hW.mono ?_; rintro r wk2 ⟨rfl, gk⟩; clear hW; have KS : Hid (S4 wc (w.heap.size + 1 + 1) (w.heap.size) (w.heap.size + 1) (.bool bx) (.slice a1 tn cap1) (.bool bb) (.slice a2 tm cap2) wk2) := Hq0 (S4.keep gk (by assumption)); have HV := Hq0 (HV.out.same gk); have GG := Hq0 (grown_trans GG.out gk); have HRR := Hq0 (kpb GG.out HR.out); obtain ⟨y0, y1, y2, y3⟩ := cell_two HRR.out; clear gk))
  all_goals
    obtain ⟨o1, o2⟩ := st_var HRR.out (.bool bs) (.slice a3 t cap3)
    have HN := Hq0 (own_wh HV.out HRR.out o1)
    have G9 := Hq0 (grown_own (grown_trans G0.out GG.out) o1 (.inr (Nat.le_trans (Nat.le_succ _) (Nat.le_succ _))))
    have HLE := Hq0 (Nat.le_trans G0.out.size (grown_drew wc).size)
    clear y0 y1 y2 y3
    go_wp2
    generalize (wk2.setCell ⟨w.heap.size + 1 + 1, 0, none⟩ (.bool bs)).setCell ⟨w.heap.size + 1 + 1, 1, none⟩ (.slice a3 t cap3) = w9 at *
    obtain ⟨s0, s1, _, _⟩ := cell_two o2
    refine bodyPost_ret (v := .agg #[.bool bs, .slice a3 t cap3]) (by simp [results, Tryz.func40, go_sem, s0, s1]; try rfl) rfl ?_
    exact ⟨_, _, rfl, ⟨_, by rw [HBS.out], by rw [HA.out]; exact HN.out.base HLE.out⟩, G9.out⟩
theorem WAdd_three {w : World} {base1 base2 tn tm : Nat} {x y : Value} {n m : Int} (hx : WhV w base1 x n tn) (hy : WhV w base2 y m tm) (h1 : tn ≤ 1000) (h2 : tm ≤ 1000) (h : ¬ decide (n < 0) = decide (m < 0)) (hc : n.natAbs < m.natAbs) : Calls Tryz.prog 40 #[x, y] w fun e w' => WhR w (n + m) e w' := by
  obtain ⟨xv, rfl, hxv⟩ := hx
  obtain ⟨yv, rfl, hyv⟩ := hy
  have HM := Hq0 (fun (wx : World) (g : w.grownBy wx none) => NatSub_any (hyv.same g) (hxv.same g) h2 (Nat.le_of_lt hc))
  have HC := Hq0 (fun (wx : World) (g : w.grownBy wx none) => NatCmp_any (hxv.same g) (hyv.same g))
  have HS := Hq0 (sgn_add2 (fun e => h e.symm) (Nat.le_of_lt hc)).1
  have HA := Hq0 (sgn_add2 (fun e => h e.symm) (Nat.le_of_lt hc)).2
  have hc' : ncmp n.natAbs m.natAbs < 0 := by rw [ncmp_lt hc]; decide
  generalize ncmp n.natAbs m.natAbs = cm at *
  have HW := Hq0 (fun (wx : World) (base c t : Nat) (v : Value) (neg : Bool) (h : NatOf wx base v c t) => wholeOf_any neg h)
  unfold wholeV at HW
  obtain ⟨a1, cap1, rfl, _⟩ := hxv.own.slice
  obtain ⟨a2, cap2, rfl, _⟩ := hyv.own.slice
  try rw [Int.add_comm m n] at HS
  try rw [Int.add_comm m n] at HA
  generalize hbs : decide (n + m < 0) = bs at *
  have HBS := Hq0 hbs
  generalize hbx : decide (n < 0) = bx at *
  generalize hby : decide (m < 0) = bb at *
  have ht : (bx == bb) = false := by cases bx <;> cases bb <;> simp_all
  clear hbx hby hbs hxv hyv h1 h2 h hc
  obtain ⟨WB, hW0, g0, ha, hb, hr⟩ := box3 w (.cells #[.bool bx, .slice a1 tn cap1] 28) (.cells #[.bool bb, .slice a2 tm cap2] 28) (.cells #[.bool false, .slice none 0 0] 28)
  obtain ⟨x0, x1, _, _⟩ := cell_two ha
  obtain ⟨z0, z1, _, _⟩ := cell_two hb
  have HR := Hq0 hr
  have G0 := Hq0 g0
  have HSZ : Hid (S4 WB (w.heap.size + 1 + 1) (w.heap.size) (w.heap.size + 1) (.bool bx) (.slice a1 tn cap1) (.bool bb) (.slice a2 tm cap2) WB) := Hq0 ⟨grown_refl _ _, x0, x1, z0, z1⟩
  have GG : Hid (WB.grownBy WB none) := Hq0 (grown_refl _ _)
  clear ha hb hr g0
  go_enter Tryz.func40, Tryz.ntmps40
  go_upto_region 1 with (fail)
  rw [← hW0]
  clear hW0
  go_wp2_with (fail)
  refine (HC.out _ G0.out).mono ?_
  rintro r wc ⟨rfl, gc⟩
  have x0 := keepc gc x0; have x1 := keepc gc x1; have z0 := keepc gc z0; have z1 := keepc gc z1
  have HR := Hq0 (kpb gc HR.out)
  have G0 := Hq0 (grown_trans G0.out gc)
  clear HSZ GG gc
  go_upto_region 5 with (fail)
  have HSZ : Hid (S4 wc (w.heap.size + 1 + 1) (w.heap.size) (w.heap.size + 1) (.bool bx) (.slice a1 tn cap1) (.bool bb) (.slice a2 tm cap2) wc) := Hq0 ⟨grown_refl _ _, x0, x1, z0, z1⟩
  have GG : Hid (wc.grownBy wc none) := Hq0 (grown_refl _ _)
  clear x0 x1 z0 z1
  go_region_held3 (fun w' => wc.grownBy w' (some (w.heap.size + 1 + 1)) ∧ w'.cell? ⟨w.heap.size, 0, none⟩ = some (.bool bx) ∧ w'.cell? ⟨w.heap.size, 1, none⟩ = some (.slice a1 tn cap1) ∧ w'.cell? ⟨w.heap.size + 1, 0, none⟩ = some (.bool bb) ∧ w'.cell? ⟨w.heap.size + 1, 1, none⟩ = some (.slice a2 tm cap2))
    (first | exact KS.out | exact S4.keep (grown_dw _) HSZ.out | exact S4.st KS.out (by omega) (by omega) _ _)
    (first
      | (go_at_call 78; refine (HM.out _ (grown_trans G0.out (grown_trans GG.out (grown_drew _)))).mono ?_; rintro r wk ⟨v, t, rfl, hv, gk⟩; obtain ⟨a3, cap3, rfl, _⟩ := hv.own.slice; have KS : Hid (S4 wc (w.heap.size + 1 + 1) (w.heap.size) (w.heap.size + 1) (.bool bx) (.slice a1 tn cap1) (.bool bb) (.slice a2 tm cap2) wk) := Hq0 (S4.keep gk (by assumption)); have HV := Hq0 hv; clear hv; have GG := Hq0 (grown_trans (grown_drew wc) gk); clear gk)
      | (go_at_call 37; have hW := HW.out _ _ _ _ _ (bb) HV.out; rw [HS.out] at hW; refine hW.mono ?_; rintro r wk2 ⟨rfl, gk⟩; clear hW; have KS : Hid (S4 wc (w.heap.size + 1 + 1) (w.heap.size) (w.heap.size + 1) (.bool bx) (.slice a1 tn cap1) (.bool bb) (.slice a2 tm cap2) wk2) := Hq0 (S4.keep gk (by assumption)); have HV := Hq0 (HV.out.same gk); have GG := Hq0 (grown_trans GG.out gk); have HRR := Hq0 (kpb GG.out HR.out); obtain ⟨y0, y1, y2, y3⟩ := cell_two HRR.out; clear gk))
  all_goals
    obtain ⟨o1, o2⟩ := st_var HRR.out (.bool bs) (.slice a3 t cap3)
    have HN := Hq0 (own_wh HV.out HRR.out o1)
    have G9 := Hq0 (grown_own (grown_trans G0.out GG.out) o1 (.inr (Nat.le_trans (Nat.le_succ _) (Nat.le_succ _))))
    have HLE := Hq0 (Nat.le_trans G0.out.size (grown_drew wc).size)
    clear y0 y1 y2 y3
    go_wp2
    generalize (wk2.setCell ⟨w.heap.size + 1 + 1, 0, none⟩ (.bool bs)).setCell ⟨w.heap.size + 1 + 1, 1, none⟩ (.slice a3 t cap3) = w9 at *
    obtain ⟨s0, s1, _, _⟩ := cell_two o2
    refine bodyPost_ret (v := .agg #[.bool bs, .slice a3 t cap3]) (by simp [results, Tryz.func40, go_sem, s0, s1]; try rfl) rfl ?_
    exact ⟨_, _, rfl, ⟨_, by rw [HBS.out], by rw [HA.out]; exact HN.out.base HLE.out⟩, G9.out⟩
theorem WAdd_any {w : World} {base1 base2 tn tm : Nat} {x y : Value} {n m : Int} (hx : WhV w base1 x n tn) (hy : WhV w base2 y m tm) (h1 : tn ≤ 1000) (h2 : tm ≤ 1000) : Calls Tryz.prog 40 #[x, y] w fun e w' => WhR w (n + m) e w' := by
  by_cases h : decide (n < 0) = decide (m < 0)
  · exact WAdd_one hx hy h1 h2 h
  · by_cases hc : m.natAbs ≤ n.natAbs
    · exact WAdd_two hx hy h1 h2 h hc
    · exact WAdd_three hx hy h1 h2 h (by omega)
end Go.Proofs.YtjcfacinlgogaaaGreatDoor
