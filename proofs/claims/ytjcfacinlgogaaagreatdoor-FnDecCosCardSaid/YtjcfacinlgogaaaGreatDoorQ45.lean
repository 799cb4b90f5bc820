/- Decimals as data, in and out. Conditions: at most 1000 digits. Decimals as fractions. Conditions: at most 1000 places. Fractions: of a decimal, the opposite, the difference. Conditions: at most 1000 places. -/
import Derived.Test.YtjcfacinlgogaaaGreatDoorQ44
import Derived.Test.YtjcfacinlgogaaaGreatDoorQ43
set_option linter.all false
set_option maxHeartbeats 4000000
set_option maxRecDepth 100000
set_option exponentiation.threshold 3000
open Go.RowKit
namespace Go.Proofs.YtjcfacinlgogaaaGreatDoor
theorem st_var3 {w : World} {R : Nat} {u0 u1 u2 : Value} {t : TypeId} (h : w.heap[R]? = some (.cells #[u0, u1, u2] t)) (a b c : Value) :
    w.grownBy (((w.setCell ⟨R, 0, none⟩ a).setCell ⟨R, 1, none⟩ b).setCell ⟨R, 2, none⟩ c) (some R) ∧ (((w.setCell ⟨R, 0, none⟩ a).setCell ⟨R, 1, none⟩ b).setCell ⟨R, 2, none⟩ c).heap[R]? = some (.cells #[a, b, c] t) := by
  refine ⟨grown_setb (grown_setb (grown_setb (grown_refl w (some R)) 0 a) 1 b) 2 c, ?_⟩
  have := set_blk (set_blk (set_blk h 0 a) 1 b) 2 c
  simp only [List.setIfInBounds_toArray, List.set] at this
  exact this
theorem S4.st3 {w0 w' : World} {R A B : Nat} {a0 a1 b0 b1 : Value} (h : S4 w0 R A B a0 a1 b0 b1 w') (hA : A ≠ R) (hB : B ≠ R) (u v x : Value) : S4 w0 R A B a0 a1 b0 b1 (((w'.setCell ⟨R, 0, none⟩ u).setCell ⟨R, 1, none⟩ v).setCell ⟨R, 2, none⟩ x) := by
  obtain ⟨h0, h1, h2, h3, h4⟩ := h
  have g : w'.grownBy (((w'.setCell ⟨R, 0, none⟩ u).setCell ⟨R, 1, none⟩ v).setCell ⟨R, 2, none⟩ x) (some R) := grown_setb (grown_setb (grown_setb (grown_refl _ _) 0 u) 1 v) 2 x
  exact ⟨grown_trans h0 g, keepo g h1 hA, keepo g h2 hA, keepo g h3 hB, keepo g h4 hB⟩
def S6 (w0 : World) (R A B : Nat) (a0 a1 a2 b0 b1 b2 : Value) (w' : World) : Prop :=
  w0.grownBy w' (some R) ∧ w'.cell? ⟨A, 0, none⟩ = some a0 ∧ w'.cell? ⟨A, 1, none⟩ = some a1 ∧ w'.cell? ⟨A, 2, none⟩ = some a2 ∧ w'.cell? ⟨B, 0, none⟩ = some b0 ∧ w'.cell? ⟨B, 1, none⟩ = some b1 ∧ w'.cell? ⟨B, 2, none⟩ = some b2
theorem S6.keep {w0 w' w2 : World} {R A B : Nat} {a0 a1 a2 b0 b1 b2 : Value} (g : w'.grownBy w2 none) (h : S6 w0 R A B a0 a1 a2 b0 b1 b2 w') : S6 w0 R A B a0 a1 a2 b0 b1 b2 w2 := by
  obtain ⟨h0, h1, h2, h3, h4, h5, h6⟩ := h
  exact ⟨grown_trans h0 (grown_weak g), keepc g h1, keepc g h2, keepc g h3, keepc g h4, keepc g h5, keepc g h6⟩
theorem S6.st {w0 w' : World} {R A B : Nat} {a0 a1 a2 b0 b1 b2 : Value} (h : S6 w0 R A B a0 a1 a2 b0 b1 b2 w') (hA : A ≠ R) (hB : B ≠ R) (u v : Value) : S6 w0 R A B a0 a1 a2 b0 b1 b2 ((w'.setCell ⟨R, 0, none⟩ u).setCell ⟨R, 1, none⟩ v) := by
  obtain ⟨h0, h1, h2, h3, h4, h5, h6⟩ := h
  have g : w'.grownBy ((w'.setCell ⟨R, 0, none⟩ u).setCell ⟨R, 1, none⟩ v) (some R) := grown_setb (grown_setb (grown_refl _ _) 0 u) 1 v
  exact ⟨grown_trans h0 g, keepo g h1 hA, keepo g h2 hA, keepo g h3 hA, keepo g h4 hB, keepo g h5 hB, keepo g h6 hB⟩
theorem S6.st3 {w0 w' : World} {R A B : Nat} {a0 a1 a2 b0 b1 b2 : Value} (h : S6 w0 R A B a0 a1 a2 b0 b1 b2 w') (hA : A ≠ R) (hB : B ≠ R) (u v x : Value) : S6 w0 R A B a0 a1 a2 b0 b1 b2 (((w'.setCell ⟨R, 0, none⟩ u).setCell ⟨R, 1, none⟩ v).setCell ⟨R, 2, none⟩ x) := by
  obtain ⟨h0, h1, h2, h3, h4, h5, h6⟩ := h
  have g : w'.grownBy (((w'.setCell ⟨R, 0, none⟩ u).setCell ⟨R, 1, none⟩ v).setCell ⟨R, 2, none⟩ x) (some R) := grown_setb (grown_setb (grown_setb (grown_refl _ _) 0 u) 1 v) 2 x
  exact ⟨grown_trans h0 g, keepo g h1 hA, keepo g h2 hA, keepo g h3 hA, keepo g h4 hB, keepo g h5 hB, keepo g h6 hB⟩
theorem own_any3 {w w' : World} {base g c t : Nat} {v : Value} {cs : Array Value} {ty : TypeId} (h : NatOf w base v c t) (ho : w.heap[g]? = some (.cells cs ty)) (hty : ty ≠ 73) (k : w.grownBy w' (some g)) : NatOf w' base v c t := by
  refine h.kept k ?_
  intro e
  rcases h.own.2 with ⟨rfl, _⟩ | ⟨g', cap, cur, rfl, _, h3, _⟩
  · simp [Value.ownBlock] at e
  · simp only [Value.ownBlock, Option.some.injEq] at e
    subst e
    rw [h3] at ho
    simp at ho
    exact hty ho.2.symm
theorem WholeIn_any {s : ByteArray} {neg : Bool} {c m : Nat} (w : World) (h : SgT s neg c m) (hm : m ≤ 1000) (hm0 : 0 < m) : Calls Tryz.prog 36 #[.string s] w fun r w' => WhR w (if neg then -(c : Int) else c) r w' := by
  have HP := Hq0 (fun wx => ParseWhole_any wx h hm hm0)
  obtain ⟨n, hn⟩ : ∃ n : Int, (if neg then -(c : Int) else c) = n := ⟨_, rfl⟩
  rw [hn] at HP ⊢
  clear hn h
  obtain ⟨W0, hW0⟩ : ∃ W0, W0 = w.alloc (.cells #[.bool false, .slice none 0 0] 28) := ⟨_, rfl⟩
  have g0 : w.grownBy W0 none := by rw [hW0]; exact grown_new _ _
  have HR := Hq0 (hW0 ▸ heap_new w (.cells #[.bool false, .slice none 0 0] 28) : W0.heap[w.heap.size]? = some _)
  have G0 := Hq0 g0
  clear g0
  go_enter Tryz.func36, Tryz.ntmps36
  go_upto_region 1 with (fail)
  rw [← hW0]
  clear hW0
  go_wp2_with (fail)
  refine (HP.out _).mono ?_
  rintro r w2 ⟨x, t, rfl, ⟨v, rfl, hv⟩, g2⟩
  obtain ⟨a, cap, rfl, _⟩ := hv.own.slice
  generalize hbs : decide (n < 0) = bs at *
  have HBS := Hq0 hbs
  have HV := Hq0 hv
  have G2 := Hq0 (grown_trans G0.out g2)
  have HRR := Hq0 (kpb g2 HR.out)
  have HX := Hq0 (heap_new w2 (.cells #[.bool bs, .slice a t cap] 28))
  obtain ⟨x0, x1, x2, x3⟩ := cell_two HX.out
  have G3 := Hq0 (grown_new w2 (.cells #[.bool bs, .slice a t cap] 28))
  have HRR := Hq0 (kpb G3.out HRR.out)
  obtain ⟨y0, y1, y2, y3⟩ := cell_two HRR.out
  clear hv g2 hbs HP
  go_upto_region 2 with (fail)
  generalize w2.alloc (.cells #[.bool bs, .slice a t cap] 28) = w3 at *
  have HN0 := Hq0 (HV.out.same G3.out)
  obtain ⟨o1, o2⟩ := st_var HRR.out (.bool bs) (.slice a t cap)
  have HN := Hq0 (own_wh HN0.out HRR.out o1)
  have G9 := Hq0 (grown_own (grown_trans G2.out G3.out) o1 (.inr (Nat.le_refl _)))
  go_wp2
  generalize (w3.setCell ⟨w.heap.size, 0, none⟩ (.bool bs)).setCell ⟨w.heap.size, 1, none⟩ (.slice a t cap) = w9 at *
  clear y0 y1 y2 y3
  obtain ⟨s0, s1, _, _⟩ := cell_two o2
  refine bodyPost_ret (v := .agg #[.bool bs, .slice a t cap]) (by simp [results, Tryz.func36, go_sem, s0, s1]; try rfl) rfl ?_
  exact ⟨_, t, rfl, ⟨_, by rw [HBS.out], HN.out.base G0.out.size⟩, G9.out⟩
def DcV (w : World) (base : Nat) (x : Value) (n e : Int) (t : Nat) : Prop := ∃ v, x = .agg #[.bool (decide (n < 0)), v, .int .i64 e] ∧ NatOf w base v n.natAbs t
theorem DcV.same {w w' : World} {base t : Nat} {x : Value} {n e : Int} (h : DcV w base x n e t) (g : w.grownBy w' none) : DcV w' base x n e t := by
  obtain ⟨v, h1, h2⟩ := h; exact ⟨v, h1, h2.same g⟩
def DiR (w : World) (n e : Int) (r : Ending) (w' : World) : Prop := ∃ x t, r = .returned x ∧ DcV w' w.heap.size x n e t ∧ w.grownBy w' none
def DoR (w : World) (n e : Int) (r : Ending) (w' : World) : Prop := ∃ s q, r = .returned (.agg #[.string s, .int .i64 e]) ∧ TxtD s (decide (n < 0)) n.natAbs q ∧ w.grownBy w' none
theorem DecIn_any {s : ByteArray} {neg : Bool} {c m : Nat} (e : Int) (w : World) (h : SgT s neg c m) (hm : m ≤ 1000) (hm0 : 0 < m) : Calls Tryz.prog 9 #[.agg #[.string s, .int .i64 e]] w fun r w' => DiR w (if neg then -(c : Int) else c) e r w' := by
  have HP := Hq0 (fun wx => WholeIn_any wx h hm hm0)
  obtain ⟨n, hn⟩ : ∃ n : Int, (if neg then -(c : Int) else c) = n := ⟨_, rfl⟩
  rw [hn] at HP ⊢
  clear hn h
  obtain ⟨WB, hW0, g0, ha, hr⟩ := box2 w (.cells #[.string s, .int .i64 e] 23) (.cells #[.bool false, .slice none 0 0, .int .i64 0] 37)
  obtain ⟨x0, x1, _, _⟩ := cell_two ha
  have HR := Hq0 hr
  have G0 := Hq0 g0
  have HSZ : Hid (S4 WB (w.heap.size + 1) (w.heap.size) (w.heap.size) (.string s) (.int .i64 e) (.string s) (.int .i64 e) WB) := Hq0 ⟨grown_refl _ _, x0, x1, x0, x1⟩
  have GG : Hid (WB.grownBy WB none) := Hq0 (grown_refl _ _)
  clear ha hr g0 x0 x1
  go_enter Tryz.func9, Tryz.ntmps9
  go_upto_region 1 with (fail)
  rw [← hW0]
  clear hW0
  generalize hbs : decide (n < 0) = bs at *
  have HBS := Hq0 hbs
  clear hbs
  go_region_held3 (fun w' => WB.grownBy w' (some (w.heap.size + 1)) ∧ w'.cell? ⟨w.heap.size, 0, none⟩ = some (.string s) ∧ w'.cell? ⟨w.heap.size, 1, none⟩ = some (.int .i64 e) ∧ w'.cell? ⟨w.heap.size, 0, none⟩ = some (.string s) ∧ w'.cell? ⟨w.heap.size, 1, none⟩ = some (.int .i64 e))
    (first | exact KS.out | exact S4.keep (grown_dw _) HSZ.out | exact S4.st3 KS.out (by omega) (by omega) _ _ _)
    (first
      | (go_at_call 36; refine (HP.out _).mono ?_; rintro r wk ⟨x, t, rfl, ⟨v, rfl, hv⟩, gk⟩; obtain ⟨a, cap, rfl, _⟩ := hv.own.slice; rw [HBS.out]; have KS : Hid (S4 WB (w.heap.size + 1) (w.heap.size) (w.heap.size) (.string s) (.int .i64 e) (.string s) (.int .i64 e) wk) := Hq0 (S4.keep gk (by assumption)); have HV := Hq0 hv; clear hv; have GG := Hq0 (grown_trans (grown_drew WB) gk); have HRR := Hq0 (kpb GG.out HR.out); obtain ⟨y0, y1, y2, y3, y4, y5⟩ := cell_three HRR.out; clear gk))
  all_goals
    obtain ⟨o1, o2⟩ := st_var3 HRR.out (.bool bs) (.slice a t cap) (.int .i64 e)
    have HN := Hq0 (own_any3 HV.out HRR.out (by decide) o1)
    have G9 := Hq0 (grown_own (grown_trans G0.out GG.out) o1 (.inr (by omega)))
    have HLE := Hq0 (Nat.le_trans G0.out.size (grown_drew WB).size)
    clear y0 y1 y2 y3 y4 y5
    go_wp2
    generalize ((wk.setCell ⟨w.heap.size + 1, 0, none⟩ (.bool bs)).setCell ⟨w.heap.size + 1, 1, none⟩ (.slice a t cap)).setCell ⟨w.heap.size + 1, 2, none⟩ (.int .i64 e) = w9 at *
    obtain ⟨s0, s1, s2, _, _, _⟩ := cell_three o2
    refine bodyPost_ret (v := .agg #[.bool bs, .slice a t cap, .int .i64 e]) (by simp [results, Tryz.func9, go_sem, s0, s1, s2]; try rfl) rfl ?_
    exact ⟨_, t, rfl, ⟨_, by rw [HBS.out], HN.out.base HLE.out⟩, G9.out⟩
theorem DecOut_any {w : World} {base t : Nat} {x : Value} {n e : Int} (h : DcV w base x n e t) (hn : n.natAbs < 10 ^ 2000) : Calls Tryz.prog 8 #[x] w fun r w' => DoR w n e r w' := by
  obtain ⟨v, rfl, hv⟩ := h
  have HP := Hq0 (fun (wx : World) (g : w.grownBy wx none) => WString_any (n := n) (t := t) ⟨v, rfl, hv.same g⟩ hn)
  obtain ⟨a, cap, rfl, _⟩ := hv.own.slice
  unfold DoR
  generalize hbs : decide (n < 0) = bs at *
  have HBS := Hq0 hbs
  clear hbs hv hn
  obtain ⟨WB, hW0, g0, ha, hr⟩ := box2 w (.cells #[.bool bs, .slice a t cap, .int .i64 e] 37) (.cells #[.string ⟨#[]⟩, .int .i64 0] 23)
  obtain ⟨x0, x1, x2, _, _, _⟩ := cell_three ha
  have HR := Hq0 hr
  have G0 := Hq0 g0
  have HSZ : Hid (S6 WB (w.heap.size + 1) (w.heap.size) (w.heap.size) (.bool bs) (.slice a t cap) (.int .i64 e) (.bool bs) (.slice a t cap) (.int .i64 e) WB) := Hq0 ⟨grown_refl _ _, x0, x1, x2, x0, x1, x2⟩
  have GG : Hid (WB.grownBy WB none) := Hq0 (grown_refl _ _)
  clear ha hr g0 x0 x1 x2
  go_enter Tryz.func8, Tryz.ntmps8
  go_upto_region 1 with (fail)
  rw [← hW0]
  clear hW0
  go_region_held3 (fun w' => WB.grownBy w' (some (w.heap.size + 1)) ∧ w'.cell? ⟨w.heap.size, 0, none⟩ = some (.bool bs) ∧ w'.cell? ⟨w.heap.size, 1, none⟩ = some (.slice a t cap) ∧ w'.cell? ⟨w.heap.size, 2, none⟩ = some (.int .i64 e) ∧ w'.cell? ⟨w.heap.size, 0, none⟩ = some (.bool bs) ∧ w'.cell? ⟨w.heap.size, 1, none⟩ = some (.slice a t cap) ∧ w'.cell? ⟨w.heap.size, 2, none⟩ = some (.int .i64 e))
    (first | exact KS.out | exact S6.keep (grown_dw _) HSZ.out | exact S6.st KS.out (by omega) (by omega) _ _)
    (first
      | (go_at_call 35; refine (HP.out _ (grown_trans G0.out (grown_trans GG.out (grown_drew _)))).mono ?_; rintro r wk ⟨s, q, rfl, hs, gk⟩; rw [HBS.out] at hs; have KS : Hid (S6 WB (w.heap.size + 1) (w.heap.size) (w.heap.size) (.bool bs) (.slice a t cap) (.int .i64 e) (.bool bs) (.slice a t cap) (.int .i64 e) wk) := Hq0 (S6.keep gk (by assumption)); have HS := Hq0 hs; clear hs; have GG := Hq0 (grown_trans (grown_drew WB) gk); have HRR := Hq0 (kpb GG.out HR.out); obtain ⟨y0, y1, y2, y3⟩ := cell_two HRR.out; clear gk))
  all_goals
    obtain ⟨o1, o2⟩ := st_var HRR.out (.string s) (.int .i64 e)
    have G9 := Hq0 (grown_own (grown_trans G0.out GG.out) o1 (.inr (by omega)))
    have HLE := Hq0 (Nat.le_trans G0.out.size (grown_drew WB).size)
    clear y0 y1 y2 y3
    go_wp2
    generalize (wk.setCell ⟨w.heap.size + 1, 0, none⟩ (.string s)).setCell ⟨w.heap.size + 1, 1, none⟩ (.int .i64 e) = w9 at *
    obtain ⟨s0, s1, _, _⟩ := cell_two o2
    refine bodyPost_ret (v := .agg #[.string s, .int .i64 e]) (by simp [results, Tryz.func8, go_sem, s0, s1]; try rfl) rfl ?_
    exact ⟨s, q, rfl, HS.out, G9.out⟩
end Go.Proofs.YtjcfacinlgogaaaGreatDoor
open Go.RowKit
namespace Go.Proofs.YtjcfacinlgogaaaGreatDoor
theorem lim9_one : lim9 1 1 = [Value.int .u32 1] := by unfold lim9; simp
theorem one_any (w : World) : Calls Tryz.prog 50 #[] w fun r w' => NwR w 1 r w' := by
  go_enter Tryz.func50, Tryz.ntmps50
  go_wp2_with (fail)
  refine bodyPost_ret (v := .slice (some ⟨w.heap.size, 0, none⟩) 1 1) (by simp [results, Tryz.func50, go_sem]; try rfl) rfl ?_
  refine ⟨_, 1, rfl, ⟨?_, by decide, .inr (by decide)⟩, grown_new _ _⟩
  rw [lim9_one]
  refine ⟨rfl, .inr ⟨_, 1, _, rfl, Nat.le_refl _, heap_new _ _, Nat.le_refl _, by simp only [maxLen]; omega, rfl, ?_⟩⟩
  rfl
def FrV (w : World) (base : Nat) (x : Value) (n : Int) (d tn td : Nat) : Prop := ∃ v u, x = .agg #[.bool (decide (n < 0)), v, u] ∧ NatOf w base v n.natAbs tn ∧ NatOf w base u d td
theorem FrV.same {w w' : World} {base d tn td : Nat} {x : Value} {n : Int} (h : FrV w base x n d tn td) (g : w.grownBy w' none) : FrV w' base x n d tn td := by
  obtain ⟨v, u, h1, h2, h3⟩ := h; exact ⟨v, u, h1, h2.same g, h3.same g⟩
def FrR (w : World) (n : Int) (d : Nat) (r : Ending) (w' : World) : Prop := ∃ x tn td, r = .returned x ∧ FrV w' 0 x n d tn td ∧ w.grownBy w' none
theorem DecFrac_neg {w : World} {base t : Nat} {x : Value} {n : Int} {k : Nat} (h : DcV w base x n (-(k : Int)) t) (hk : k ≤ 1000) (hk0 : 1 ≤ k) : Calls Tryz.prog 25 #[x] w fun r w' => FrR w n (10 ^ k) r w' := by
  obtain ⟨v, rfl, hv⟩ := h
  obtain ⟨a, cap, rfl, _⟩ := hv.own.slice
  obtain ⟨e, he⟩ : ∃ e : Int, -(k : Int) = e := ⟨_, rfl⟩
  have hw : IntKind.i64.wrap (-e) = k := by rw [← he, Int.neg_neg]; exact IntWalk.i64_in _ (by omega)
  have hge : ¬ 0 ≤ e := by omega
  rw [he]
  have HP := Hq0 (fun wx => Pow10_any k wx hk)
  unfold FrR FrV
  generalize hbs : decide (n < 0) = bs at *
  have HV := Hq0 hv
  clear he hv hbs
  clear hk hk0
  obtain ⟨WB, hW0, g0, ha, hr⟩ := box2 w (.cells #[.bool bs, .slice a t cap, .int .i64 e] 37) (.cells #[.bool false, .slice none 0 0, .slice none 0 0] 30)
  obtain ⟨x0, x1, x2, _, _, _⟩ := cell_three ha
  have HR := Hq0 hr
  have G0 := Hq0 g0
  have HSZ : Hid (S6 WB (w.heap.size + 1) (w.heap.size) (w.heap.size) (.bool bs) (.slice a t cap) (.int .i64 e) (.bool bs) (.slice a t cap) (.int .i64 e) WB) := Hq0 ⟨grown_refl _ _, x0, x1, x2, x0, x1, x2⟩
  have GG : Hid (WB.grownBy WB none) := Hq0 (grown_refl _ _)
  clear ha hr g0
  go_enter Tryz.func25, Tryz.ntmps25
  go_upto_region 1 with (fail)
  rw [← hW0]
  clear hW0
  go_upto_region 3 with (fail)
  clear x0 x1 x2
  go_region_held3 (fun w' => WB.grownBy w' (some (w.heap.size + 1)) ∧ w'.cell? ⟨w.heap.size, 0, none⟩ = some (.bool bs) ∧ w'.cell? ⟨w.heap.size, 1, none⟩ = some (.slice a t cap) ∧ w'.cell? ⟨w.heap.size, 2, none⟩ = some (.int .i64 e) ∧ w'.cell? ⟨w.heap.size, 0, none⟩ = some (.bool bs) ∧ w'.cell? ⟨w.heap.size, 1, none⟩ = some (.slice a t cap) ∧ w'.cell? ⟨w.heap.size, 2, none⟩ = some (.int .i64 e))
    (first | exact KS.out | exact S6.keep (grown_dw _) HSZ.out | exact S6.st3 KS.out (by omega) (by omega) _ _ _)
    (first
      | (go_at_call 16; (try rw [hw]); refine (HP.out _).mono ?_; rintro r wk ⟨u, tu, rfl, hu, gk⟩; obtain ⟨a2, cap2, rfl, _⟩ := hu.own.slice; have KS : Hid (S6 WB (w.heap.size + 1) (w.heap.size) (w.heap.size) (.bool bs) (.slice a t cap) (.int .i64 e) (.bool bs) (.slice a t cap) (.int .i64 e) wk) := Hq0 (S6.keep gk (by assumption)); have HU := Hq0 hu; clear hu; have GG := Hq0 (grown_trans (grown_drew WB) gk); have HRR := Hq0 (kpb GG.out HR.out); obtain ⟨y0, y1, y2, y3, y4, y5⟩ := cell_three HRR.out; clear gk))
  all_goals
    obtain ⟨o1, o2⟩ := st_var3 HRR.out (.bool bs) (.slice a t cap) (.slice a2 tu cap2)
    have HM := Hq0 (own_any3 HU.out HRR.out (by decide) o1)
    have HN0 := Hq0 (HV.out.same (grown_trans G0.out GG.out))
    have HN := Hq0 (own_any3 HN0.out HRR.out (by decide) o1)
    have G9 := Hq0 (grown_own (grown_trans G0.out GG.out) o1 (.inr (by omega)))
    have HLE := Hq0 (Nat.le_trans G0.out.size (grown_drew WB).size)
    clear y0 y1 y2 y3 y4 y5
    go_wp2
    generalize ((wk.setCell ⟨w.heap.size + 1, 0, none⟩ (.bool bs)).setCell ⟨w.heap.size + 1, 1, none⟩ (.slice a t cap)).setCell ⟨w.heap.size + 1, 2, none⟩ (.slice a2 tu cap2) = w9 at *
    obtain ⟨s0, s1, s2, _, _, _⟩ := cell_three o2
    refine bodyPost_ret (v := .agg #[.bool bs, .slice a t cap, .slice a2 tu cap2]) (by simp [results, Tryz.func25, go_sem, s0, s1, s2]; try rfl) rfl ?_
    exact ⟨_, t, tu, rfl, ⟨_, _, rfl, HN.out.base (Nat.zero_le _), HM.out.base (Nat.zero_le _)⟩, G9.out⟩
theorem DecFrac_zero {w : World} {base t : Nat} {x : Value} {n : Int} (h : DcV w base x n 0 t) (ht : t ≤ 1000) : Calls Tryz.prog 25 #[x] w fun r w' => FrR w n 1 r w' := by
  obtain ⟨v, rfl, hv⟩ := h
  obtain ⟨a, cap, rfl, _⟩ := hv.own.slice
  obtain ⟨e, he⟩ : ∃ e : Int, (0 : Int) = e := ⟨_, rfl⟩
  have hge : 0 ≤ e := by omega
  have HE := Hq0 he
  have HP := Hq0 (fun wx => Pow10_any 0 wx (by decide))
  have HM := Hq0 (fun (wx : World) (g : w.grownBy wx none) (b : Nat) (u : Value) (tb : Nat) (h : NatOf wx b u (10 ^ 0) tb) => NatMul_any (hv.same g) h ht (Nat.le_trans (h.tk 1 (by decide)) (by decide)))
  have HW := Hq0 (fun (wx : World) (base c t : Nat) (v : Value) (neg : Bool) (h : NatOf wx base v c t) => wholeOf_any neg h)
  have HS := Hq0 (sgn_whole (n := n) (neg := decide (n < 0)) (c := n.natAbs) (by by_cases hn : n < 0 <;> simp [hn] <;> omega)).1
  rw [Nat.pow_zero] at HM HP
  rw [show n.natAbs = n.natAbs * 1 by omega] at HS
  unfold wholeV at HW
  unfold FrR FrV
  generalize hbs : decide (n < 0) = bs at *
  rw [he]
  have HV := Hq0 hv
  clear he hv hbs
  clear ht
  obtain ⟨WB, hW0, g0, ha, hr⟩ := box2 w (.cells #[.bool bs, .slice a t cap, .int .i64 e] 37) (.cells #[.bool false, .slice none 0 0, .slice none 0 0] 30)
  obtain ⟨x0, x1, x2, _, _, _⟩ := cell_three ha
  have HR := Hq0 hr
  have G0 := Hq0 g0
  have HSZ : Hid (S6 WB (w.heap.size + 1) (w.heap.size) (w.heap.size) (.bool bs) (.slice a t cap) (.int .i64 e) (.bool bs) (.slice a t cap) (.int .i64 e) WB) := Hq0 ⟨grown_refl _ _, x0, x1, x2, x0, x1, x2⟩
  have GG : Hid (WB.grownBy WB none) := Hq0 (grown_refl _ _)
  clear ha hr g0
  go_enter Tryz.func25, Tryz.ntmps25
  go_upto_region 1 with (fail)
  rw [← hW0]
  clear hW0
  go_upto_region 2 with (fail)
  clear x0 x1 x2
  go_region_held3 (fun w' => WB.grownBy w' (some (w.heap.size + 1)) ∧ w'.cell? ⟨w.heap.size, 0, none⟩ = some (.bool bs) ∧ w'.cell? ⟨w.heap.size, 1, none⟩ = some (.slice a t cap) ∧ w'.cell? ⟨w.heap.size, 2, none⟩ = some (.int .i64 e) ∧ w'.cell? ⟨w.heap.size, 0, none⟩ = some (.bool bs) ∧ w'.cell? ⟨w.heap.size, 1, none⟩ = some (.slice a t cap) ∧ w'.cell? ⟨w.heap.size, 2, none⟩ = some (.int .i64 e))
    (first | exact KS.out | exact S6.keep (grown_dw _) HSZ.out | exact S6.st3 KS.out (by omega) (by omega) _ _ _)
    (first
      | (go_at_call 16; (try rw [← HE.out]); refine (HP.out _).mono ?_; rintro r wk ⟨u, tu, rfl, hu, gk⟩; have KS : Hid (S6 WB (w.heap.size + 1) (w.heap.size) (w.heap.size) (.bool bs) (.slice a t cap) (.int .i64 e) (.bool bs) (.slice a t cap) (.int .i64 e) wk) := Hq0 (S6.keep gk (by assumption)); have HU := Hq0 hu; clear hu; have GG := Hq0 (grown_trans (grown_drew WB) gk); clear gk)
      | (go_at_call 42; refine (HM.out _ (grown_trans G0.out GG.out) _ _ _ HU.out).mono ?_; rintro r wk2 ⟨u2, tu2, rfl, hu2, gk⟩; obtain ⟨a2, cap2, rfl, _⟩ := hu2.own.slice; have HB2 := Hq0 (Nat.le_trans G0.out.size GG.out.size); have KS : Hid (S6 WB (w.heap.size + 1) (w.heap.size) (w.heap.size) (.bool bs) (.slice a t cap) (.int .i64 e) (.bool bs) (.slice a t cap) (.int .i64 e) wk2) := Hq0 (S6.keep gk (by assumption)); have HV := Hq0 hu2; clear hu2 HU; have GG := Hq0 (grown_trans GG.out gk); clear gk)
      | (go_at_call 37; have hW := HW.out _ _ _ _ _ bs HV.out; rw [HS.out] at hW; refine hW.mono ?_; rintro r wk3 ⟨rfl, gk⟩; clear hW; have KS : Hid (S6 WB (w.heap.size + 1) (w.heap.size) (w.heap.size) (.bool bs) (.slice a t cap) (.int .i64 e) (.bool bs) (.slice a t cap) (.int .i64 e) wk3) := Hq0 (S6.keep gk (by assumption)); have HV := Hq0 (HV.out.same gk); have GG := Hq0 (grown_trans GG.out gk); clear gk)
      | (go_at_call 50; refine (one_any _).mono ?_; rintro r wk4 ⟨u, tu, rfl, hu, gk⟩; obtain ⟨a3, cap3, rfl, _⟩ := hu.own.slice; have HB3 := Hq0 (Nat.le_trans G0.out.size GG.out.size); have KS : Hid (S6 WB (w.heap.size + 1) (w.heap.size) (w.heap.size) (.bool bs) (.slice a t cap) (.int .i64 e) (.bool bs) (.slice a t cap) (.int .i64 e) wk4) := Hq0 (S6.keep gk (by assumption)); have HU := Hq0 hu; have HV := Hq0 (HV.out.same gk); clear hu; have GG := Hq0 (grown_trans GG.out gk); have HRR := Hq0 (kpb GG.out HR.out); obtain ⟨y0, y1, y2, y3, y4, y5⟩ := cell_three HRR.out; clear gk))
  all_goals
    obtain ⟨o1, o2⟩ := st_var3 HRR.out (.bool bs) (.slice a2 tu2 cap2) (.slice a3 tu cap3)
    have HM := Hq0 (own_any3 HU.out HRR.out (by decide) o1)
    have HN := Hq0 (own_any3 HV.out HRR.out (by decide) o1)
    have G9 := Hq0 (grown_own (grown_trans G0.out GG.out) o1 (.inr (by omega)))
    have HLE := Hq0 (Nat.le_trans G0.out.size (grown_drew WB).size)
    clear y0 y1 y2 y3 y4 y5
    go_wp2
    generalize ((wk4.setCell ⟨w.heap.size + 1, 0, none⟩ (.bool bs)).setCell ⟨w.heap.size + 1, 1, none⟩ (.slice a2 tu2 cap2)).setCell ⟨w.heap.size + 1, 2, none⟩ (.slice a3 tu cap3) = w9 at *
    obtain ⟨s0, s1, s2, _, _, _⟩ := cell_three o2
    refine bodyPost_ret (v := .agg #[.bool bs, .slice a2 tu2 cap2, .slice a3 tu cap3]) (by simp [results, Tryz.func25, go_sem, s0, s1, s2]; try rfl) rfl ?_
    exact ⟨_, tu2, tu, rfl, ⟨_, _, rfl, by have := HN.out.base (Nat.zero_le _); rwa [Nat.mul_one] at this, HM.out.base (Nat.zero_le _)⟩, G9.out⟩
end Go.Proofs.YtjcfacinlgogaaaGreatDoor
open Go.RowKit
namespace Go.Proofs.YtjcfacinlgogaaaGreatDoor
theorem DecFrac_any {w : World} {base t : Nat} {x : Value} {n : Int} {k : Nat} (h : DcV w base x n (-(k : Int)) t) (hk : k ≤ 1000) (ht : t ≤ 1000) : Calls Tryz.prog 25 #[x] w fun r w' => FrR w n (10 ^ k) r w' := by
  by_cases h0 : k = 0
  · subst h0; exact DecFrac_zero h ht
  · exact DecFrac_neg h hk (by omega)
theorem FrV.tn {w : World} {base d tn td : Nat} {x : Value} {n : Int} (h : FrV w base x n d tn td) (k : Nat) (hc : n.natAbs < 10 ^ (9 * k)) : tn ≤ k := by
  obtain ⟨v, u, h1, h2, h3⟩ := h; exact h2.tk k hc
theorem FrV.td {w : World} {base d tn td : Nat} {x : Value} {n : Int} (h : FrV w base x n d tn td) (k : Nat) (hc : d < 10 ^ (9 * k)) : td ≤ k := by
  obtain ⟨v, u, h1, h2, h3⟩ := h; exact h3.tk k hc
theorem FrV.base {w : World} {b d tn td : Nat} {x : Value} {n : Int} (h : FrV w b x n d tn td) : FrV w 0 x n d tn td := by
  obtain ⟨v, u, h1, h2, h3⟩ := h; exact ⟨v, u, h1, h2.base (Nat.zero_le _), h3.base (Nat.zero_le _)⟩
theorem FracOf_any {s : ByteArray} {neg : Bool} {c m : Nat} (k : Nat) (w : World) (h : SgT s neg c m) (hm : m ≤ 1000) (hm0 : 0 < m) (hk : k ≤ 1000) : Calls Tryz.prog 14 #[.agg #[.string s, .int .i64 (-(k : Int))]] w fun r w' => FrR w (if neg then -(c : Int) else c) (10 ^ k) r w' := by
  have hc : c < 10 ^ 1008 := by
    have : c < 10 ^ m := by
      cases neg
      · exact (h.1 rfl).lt
      · obtain ⟨_, _, q⟩ := h.2 rfl; exact q.lt
    exact Nat.lt_of_lt_of_le this (Nat.pow_le_pow_right (by decide) (by omega))
  have HP := Hq0 (fun wx => DecIn_any (-(k : Int)) wx h hm hm0)
  have HQ := Hq0 (fun (wx : World) (base t : Nat) (x : Value) (n : Int) (h : DcV wx base x n (-(k : Int)) t) (ht : t ≤ 1000) => DecFrac_any h hk ht)
  obtain ⟨n, hn⟩ : ∃ n : Int, (if neg then -(c : Int) else c) = n := ⟨_, rfl⟩
  have hcn : n.natAbs < 10 ^ (9 * 112) := by
    rw [← hn]
    cases neg
    · simpa using hc
    · simpa using hc
  have HC := Hq0 hcn
  rw [hn] at HP ⊢
  obtain ⟨e, he⟩ : ∃ e : Int, -(k : Int) = e := ⟨_, rfl⟩
  rw [he] at HP HQ ⊢
  clear hn h hc hcn he
  obtain ⟨WB, hW0, g0, ha, hr⟩ := box2 w (.cells #[.string s, .int .i64 e] 23) (.cells #[.bool false, .slice none 0 0, .slice none 0 0] 30)
  obtain ⟨x0, x1, _, _⟩ := cell_two ha
  have HR := Hq0 hr
  have G0 := Hq0 g0
  clear ha hr g0
  go_enter Tryz.func14, Tryz.ntmps14
  go_upto_region 1 with (fail)
  rw [← hW0]
  clear hW0
  go_wp2_with (fail)
  refine (HP.out _).mono ?_
  rintro r w2 ⟨x, t, rfl, hx, g2⟩
  have ht : t ≤ 1000 := by obtain ⟨v, _, hv⟩ := hx; exact Nat.le_trans (hv.tk 112 HC.out) (by decide)
  have HX := Hq0 hx; have HT := Hq0 ht
  have G2 := Hq0 (grown_trans G0.out g2)
  have HR2 := Hq0 (kpb g2 HR.out)
  clear hx ht g2 x0 x1
  go_wp2_with (fail)
  refine (HQ.out _ _ _ _ _ HX.out HT.out).mono ?_
  rintro r w3 ⟨y, tn, td, rfl, ⟨v, u, rfl, hv, hu⟩, g3⟩
  obtain ⟨a2, cap2, rfl, _⟩ := hv.own.slice
  obtain ⟨a3, cap3, rfl, _⟩ := hu.own.slice
  have HRR := Hq0 (kpb g3 HR2.out)
  have G3 := Hq0 (grown_trans G2.out g3)
  obtain ⟨y0, y1, y2, y3, y4, y5⟩ := cell_three HRR.out
  generalize hbs : decide (n < 0) = bs at *
  have HBS := Hq0 hbs
  obtain ⟨o1, o2⟩ := st_var3 HRR.out (.bool bs) (.slice a2 tn cap2) (.slice a3 td cap3)
  have HM := Hq0 (own_any3 hu HRR.out (by decide) o1)
  have HN := Hq0 (own_any3 hv HRR.out (by decide) o1)
  have G9 := Hq0 (grown_own G3.out o1 (.inr (by omega)))
  clear hu hv g3 hbs
  go_wp2
  clear y0 y1 y2 y3 y4 y5
  generalize ((w3.setCell ⟨w.heap.size + 1, 0, none⟩ (.bool bs)).setCell ⟨w.heap.size + 1, 1, none⟩ (.slice a2 tn cap2)).setCell ⟨w.heap.size + 1, 2, none⟩ (.slice a3 td cap3) = w9 at *
  obtain ⟨s0, s1, s2, _, _, _⟩ := cell_three o2
  refine bodyPost_ret (v := .agg #[.bool bs, .slice a2 tn cap2, .slice a3 td cap3]) (by simp [results, Tryz.func14, go_sem, s0, s1, s2]; try rfl) rfl ?_
  exact ⟨_, tn, td, rfl, ⟨_, _, by rw [HBS.out], HN.out, HM.out⟩, G9.out⟩
theorem FMinus_any {w : World} {base d tn td : Nat} {x : Value} {n : Int} (h : FrV w base x n d tn td) : Calls Tryz.prog 23 #[x] w fun r w' => ∃ x', r = .returned x' ∧ FrV w' 0 x' (-n) d tn td ∧ w.grownBy w' none := by
  obtain ⟨v, u, rfl, hv, hu⟩ := h
  obtain ⟨a, cap, rfl, _⟩ := hv.own.slice
  obtain ⟨a1, cap1, rfl, _⟩ := hu.own.slice
  have HM := Hq0 (fun (wx : World) (g : w.grownBy wx none) => Minus_any (x := .agg #[.bool (decide (n < 0)), .slice a tn cap]) (n := n) ⟨_, rfl, hv.same g⟩)
  unfold FrV
  generalize hbs : decide (n < 0) = bs at *
  have HU := Hq0 hu
  clear hv hbs hu
  obtain ⟨WB, hW0, g0, ha, hr⟩ := box2 w (.cells #[.bool bs, .slice a tn cap, .slice a1 td cap1] 30) (.cells #[.bool false, .slice none 0 0, .slice none 0 0] 30)
  obtain ⟨x0, x1, x2, _, _, _⟩ := cell_three ha
  have HR := Hq0 hr
  have G0 := Hq0 g0
  have HSZ : Hid (S6 WB (w.heap.size + 1) (w.heap.size) (w.heap.size) (.bool bs) (.slice a tn cap) (.slice a1 td cap1) (.bool bs) (.slice a tn cap) (.slice a1 td cap1) WB) := Hq0 ⟨grown_refl _ _, x0, x1, x2, x0, x1, x2⟩
  have GG : Hid (WB.grownBy WB none) := Hq0 (grown_refl _ _)
  clear ha hr g0
  go_enter Tryz.func23, Tryz.ntmps23
  go_upto_region 1 with (fail)
  rw [← hW0]
  clear hW0
  clear x0 x1 x2
  go_region_held3 (fun w' => WB.grownBy w' (some (w.heap.size + 1)) ∧ w'.cell? ⟨w.heap.size, 0, none⟩ = some (.bool bs) ∧ w'.cell? ⟨w.heap.size, 1, none⟩ = some (.slice a tn cap) ∧ w'.cell? ⟨w.heap.size, 2, none⟩ = some (.slice a1 td cap1) ∧ w'.cell? ⟨w.heap.size, 0, none⟩ = some (.bool bs) ∧ w'.cell? ⟨w.heap.size, 1, none⟩ = some (.slice a tn cap) ∧ w'.cell? ⟨w.heap.size, 2, none⟩ = some (.slice a1 td cap1))
    (first | exact KS.out | exact S6.keep (grown_dw _) HSZ.out | exact S6.st3 KS.out (by omega) (by omega) _ _ _)
    (first
      | (go_at_call 10; refine (HM.out _ (grown_trans G0.out (grown_trans GG.out (grown_drew _)))).mono ?_; rintro r wk ⟨x', rfl, ⟨v, rfl, hv⟩, gk⟩; obtain ⟨a2, cap2, rfl, _⟩ := hv.own.slice; generalize hbt : decide (-n < 0) = bt at *; have KS : Hid (S6 WB (w.heap.size + 1) (w.heap.size) (w.heap.size) (.bool bs) (.slice a tn cap) (.slice a1 td cap1) (.bool bs) (.slice a tn cap) (.slice a1 td cap1) wk) := Hq0 (S6.keep gk (by assumption)); have HV := Hq0 hv; have HBT := Hq0 hbt; clear hv hbt; have GG := Hq0 (grown_trans (grown_drew WB) gk); have HRR := Hq0 (kpb GG.out HR.out); obtain ⟨y0, y1, y2, y3, y4, y5⟩ := cell_three HRR.out; clear gk))
  all_goals
    obtain ⟨o1, o2⟩ := st_var3 HRR.out (.bool bt) (.slice a2 tn cap2) (.slice a1 td cap1)
    have HN := Hq0 (own_any3 HV.out HRR.out (by decide) o1)
    have HM2 := Hq0 (own_any3 (HU.out.same (grown_trans G0.out GG.out)) HRR.out (by decide) o1)
    have G9 := Hq0 (grown_own (grown_trans G0.out GG.out) o1 (.inr (by omega)))
    have HLE := Hq0 (Nat.le_trans G0.out.size (grown_drew WB).size)
    clear y0 y1 y2 y3 y4 y5
    go_wp2
    generalize ((wk.setCell ⟨w.heap.size + 1, 0, none⟩ (.bool bt)).setCell ⟨w.heap.size + 1, 1, none⟩ (.slice a2 tn cap2)).setCell ⟨w.heap.size + 1, 2, none⟩ (.slice a1 td cap1) = w9 at *
    obtain ⟨s0, s1, s2, _, _, _⟩ := cell_three o2
    refine bodyPost_ret (v := .agg #[.bool bt, .slice a2 tn cap2, .slice a1 td cap1]) (by simp [results, Tryz.func23, go_sem, s0, s1, s2]; try rfl) rfl ?_
    exact ⟨_, rfl, ⟨_, _, by rw [HBT.out], HN.out.base (Nat.zero_le _), HM2.out.base (Nat.zero_le _)⟩, G9.out⟩
end Go.Proofs.YtjcfacinlgogaaaGreatDoor
