/- Whether a decimal is sound; whether it says a fraction. Conditions: at most 1000 digits. Whether a decimal says a fraction. Conditions: at most 470 digits. A decimal of at most 20 digits out of any. Condition: texts shorter than 2^31. A decimal of a small amount out of any. Conditions: at most 20 digits, at most 18 places. -/
import Derived.Lib.BufferRead
import Derived.Test.YtjcfacinlgogaaaGreatDoorQ44
import Derived.Test.YtjcfacinlgogaaaGreatDoorQ47
import Derived.Test.YtjcfacinlgogaaaGreatDoorQ46
import Derived.Test.YtjcfacinlgogaaaGreatDoorQ45
set_option linter.all false
set_option maxHeartbeats 4000000
set_option maxRecDepth 100000
set_option exponentiation.threshold 10000
open Go.RowKit
namespace Go.Proofs.YtjcfacinlgogaaaGreatDoor
theorem zzFits1_yes (s : ByteArray) (e : Int) (w : World) (h : s.size ≤ 2147483647) : Calls Tryz.prog 5 #[.agg #[.string s, .int .i64 e]] w fun r w' => r = .returned (.bool true) ∧ w.grownBy w' none := by
  obtain ⟨W1, hW1⟩ : ∃ W1, W1 = w.alloc (.cells #[.string s, .int .i64 e] 23) := ⟨_, rfl⟩
  have g1 : w.grownBy W1 none := by rw [hW1]; exact grown_new _ _
  obtain ⟨x0, x1, _, _⟩ := cell_two (hW1 ▸ heap_new w (.cells #[.string s, .int .i64 e] 23) : W1.heap[w.heap.size]? = some _)
  have hn : ¬ 2147483647 < s.size := by omega
  have hn2 : ¬ (2147483647 : Int) < s.size := by omega
  clear h
  go_enter Tryz.func5, Tryz.ntmps5
  go_upto_region 1 with (fail)
  rw [← hW1]
  clear hW1
  go_wp2
  refine bodyPost_ret (v := .bool true) (by simp [results, Tryz.func5, go_sem]; try rfl) rfl ?_
  exact ⟨rfl, g1⟩
theorem zzFits1_no (s : ByteArray) (e : Int) (w : World) (h : ¬ s.size ≤ 2147483647) : Calls Tryz.prog 5 #[.agg #[.string s, .int .i64 e]] w fun r w' => r = .returned (.bool false) ∧ w.grownBy w' none := by
  obtain ⟨W1, hW1⟩ : ∃ W1, W1 = w.alloc (.cells #[.string s, .int .i64 e] 23) := ⟨_, rfl⟩
  have g1 : w.grownBy W1 none := by rw [hW1]; exact grown_new _ _
  obtain ⟨x0, x1, _, _⟩ := cell_two (hW1 ▸ heap_new w (.cells #[.string s, .int .i64 e] 23) : W1.heap[w.heap.size]? = some _)
  have hn : 2147483647 < s.size := by omega
  have hn2 : (2147483647 : Int) < s.size := by omega
  clear h
  go_enter Tryz.func5, Tryz.ntmps5
  go_upto_region 1 with (fail)
  rw [← hW1]
  clear hW1
  go_wp2
  refine bodyPost_ret (v := .bool false) (by simp [results, Tryz.func5, go_sem]; try rfl) rfl ?_
  exact ⟨rfl, g1⟩
theorem TxtD.uniq {s s' : ByteArray} {neg : Bool} {c q q' : Nat} (h : TxtD s neg c q) (h' : TxtD s' neg c q') : s' = s ∧ q' = q := by
  have hq : q' = q := by
    have a1 := h.lt; have a2 := h'.lt
    rcases h.top with ⟨rfl, rfl⟩ | e
    · rcases h'.top with ⟨_, rfl⟩ | e'
      · rfl
      · have := Nat.pow_pos (a := 10) (n := q' - 1) (by decide); omega
    · rcases h'.top with ⟨rfl, rfl⟩ | e'
      · have := Nat.pow_pos (a := 10) (n := q - 1) (by decide); omega
      · have b1 := (Nat.pow_lt_pow_iff_right (by decide : 1 < 10)).1 (Nat.lt_of_le_of_lt e a2)
        have b2 := (Nat.pow_lt_pow_iff_right (by decide : 1 < 10)).1 (Nat.lt_of_le_of_lt e' a1)
        have := h.q1; have := h'.q1; omega
  subst hq
  exact ⟨h'.here.trans h.here.symm, rfl⟩
theorem sgn_self (n : Int) : (if decide (n < 0) then -(n.natAbs : Int) else n.natAbs) = n := by
  by_cases h : n < 0
  · simp [h]; omega
  · simp [h]; omega
theorem Sound_any {s : ByteArray} {n e : Int} {q : Nat} (w : World) (h : TxtD s (decide (n < 0)) n.natAbs q) (hq : q ≤ 1000) (he : -3000 < e ∧ e < 3000) : Calls Tryz.prog 12 #[.agg #[.string s, .int .i64 e]] w fun r w' => r = .returned (.bool true) ∧ w.grownBy w' none := by
  have HP := Hq0 (fun wx => ParseWhole_any wx h.sg hq h.q1)
  rw [sgn_self] at HP
  have HT := Hq0 h
  have hn : n.natAbs < 10 ^ 2000 := Nat.lt_of_lt_of_le h.lt (Nat.pow_le_pow_right (by decide) (by omega))
  have HSS := Hq0 (fun (wx : World) (b t : Nat) (v : Value) (hv : NatOf wx b v n.natAbs t) => WString_any (n := n) ⟨v, rfl, hv⟩ hn)
  generalize hbs : decide (n < 0) = bs at *
  clear h hq hn
  obtain ⟨e1, e2⟩ := he
  have d1 : ¬ e ≤ -3000 := by omega
  obtain ⟨W1, hW1⟩ : ∃ W1, W1 = w.alloc (.cells #[.string s, .int .i64 e] 23) := ⟨_, rfl⟩
  have g1 : w.grownBy W1 none := by rw [hW1]; exact grown_new _ _
  have HX := Hq0 (hW1 ▸ heap_new w (.cells #[.string s, .int .i64 e] 23) : W1.heap[w.heap.size]? = some _)
  obtain ⟨x0, x1, _, _⟩ := cell_two HX.out
  have G1 := Hq0 g1
  clear g1
  go_enter Tryz.func12, Tryz.ntmps12
  go_upto_region 1 with (fail)
  rw [← hW1]
  clear hW1
  go_wp2_with (fail)
  refine (HP.out _).mono ?_
  rintro r w2 ⟨x, t, rfl, ⟨v, rfl, hv⟩, g2⟩
  obtain ⟨a, cap, rfl, _⟩ := hv.own.slice
  rw [hbs]
  have HV := Hq0 hv
  have G2 := Hq0 g2
  have GA := Hq0 (grown_new w2 (.cells #[.bool bs, .slice a t cap] 28))
  have HY := Hq0 (heap_new w2 (.cells #[.bool bs, .slice a t cap] 28))
  have HBS := Hq0 hbs
  clear hv g2 x0 x1 hbs
  go_upto_region 2 with (fail)
  generalize w2.alloc (.cells #[.bool bs, .slice a t cap] 28) = w3 at *
  obtain ⟨x0, x1, _, _⟩ := cell_two (kpb (grown_trans G2.out GA.out) HX.out)
  obtain ⟨z0, z1, _, _⟩ := cell_two HY.out
  have HSZ : Hid (S4 w3 (0) (w.heap.size) (w2.heap.size) (.string s) (.int .i64 e) (.bool bs) (.slice a t cap) w3) := Hq0 ⟨grown_refl _ _, x0, x1, z0, z1⟩
  have GG : Hid (w3.grownBy w3 none) := Hq0 (grown_refl _ _)
  clear x0 x1 z0 z1
  go_region_held3 (fun w' => w3.grownBy w' (some (0)) ∧ w'.cell? ⟨w.heap.size, 0, none⟩ = some (.string s) ∧ w'.cell? ⟨w.heap.size, 1, none⟩ = some (.int .i64 e) ∧ w'.cell? ⟨w2.heap.size, 0, none⟩ = some (.bool bs) ∧ w'.cell? ⟨w2.heap.size, 1, none⟩ = some (.slice a t cap))
    (first | exact KS.out | exact S4.keep (grown_dw _) HSZ.out | exact S4.st KS.out (by omega) (by omega) _ _)
    (first
      | (go_at_call 35; refine (HSS.out _ _ _ _ (HV.out.same (grown_trans GA.out (grown_trans GG.out (grown_drew _))))).mono ?_; rintro r wk ⟨s', q', rfl, hs, gk⟩; rw [HBS.out] at hs; have hse := (HT.out.uniq hs).1.symm; subst hse; have KS : Hid (S4 w3 (0) (w.heap.size) (w2.heap.size) (.string s) (.int .i64 e) (.bool bs) (.slice a t cap) wk) := Hq0 (S4.keep gk (by assumption)); clear hs; have GG := Hq0 (grown_trans (grown_drew w3) gk); clear gk))
  all_goals
    go_wp2
    refine bodyPost_ret (v := .bool true) (by simp [results, Tryz.func12, go_sem]; try rfl) rfl ?_
    exact ⟨rfl, grown_trans G1.out (grown_trans G2.out (grown_trans GA.out GG.out))⟩
end Go.Proofs.YtjcfacinlgogaaaGreatDoor
open Go.RowKit
namespace Go.Proofs.YtjcfacinlgogaaaGreatDoor
def S5 (w0 : World) (A B : Nat) (a0 a1 b0 b1 b2 : Value) (w' : World) : Prop :=
  w0.grownBy w' none ∧ w'.cell? ⟨A, 0, none⟩ = some a0 ∧ w'.cell? ⟨A, 1, none⟩ = some a1 ∧ w'.cell? ⟨B, 0, none⟩ = some b0 ∧ w'.cell? ⟨B, 1, none⟩ = some b1 ∧ w'.cell? ⟨B, 2, none⟩ = some b2
theorem S5.keep {w0 w' w2 : World} {A B : Nat} {a0 a1 b0 b1 b2 : Value} (g : w'.grownBy w2 none) (h : S5 w0 A B a0 a1 b0 b1 b2 w') : S5 w0 A B a0 a1 b0 b1 b2 w2 := by
  obtain ⟨h0, h1, h2, h4, h5, h6⟩ := h
  exact ⟨grown_trans h0 g, keepc g h1, keepc g h2, keepc g h4, keepc g h5, keepc g h6⟩
theorem wcmp_same (n : Int) : wcmp n n = 0 := by unfold wcmp; rw [if_neg (by omega), if_pos rfl]
theorem Says_any {w : World} {base d2 tn2 td2 q k : Nat} {y : Value} {s : ByteArray} {n n2 : Int} (h : TxtD s (decide (n < 0)) n.natAbs q) (hq : q ≤ 470) (hk : k ≤ 470) (hy : FrV w base y n2 d2 tn2 td2) (h1 : tn2 ≤ 900) (h2 : td2 ≤ 900) (he : n * d2 = n2 * ((10 ^ k : Nat) : Int)) : Calls Tryz.prog 13 #[.agg #[.string s, .int .i64 (-(k : Int))], y] w fun r w' => r = .returned (.bool true) ∧ w.grownBy w' none := by
  obtain ⟨v2, u2, rfl, hv2, hu2⟩ := hy
  obtain ⟨b, dap, rfl, _⟩ := hv2.own.slice
  obtain ⟨b1, dap1, rfl, _⟩ := hu2.own.slice
  have hnq : n.natAbs < 10 ^ (9 * 53) := Nat.lt_of_lt_of_le h.lt (Nat.pow_le_pow_right (by decide) (by omega))
  have hkq : 10 ^ k < 10 ^ (9 * 53) := Nat.pow_lt_pow_right (by decide) (by omega)
  have HSO := Hq0 (fun wx => Sound_any (e := -(k : Int)) wx h (by omega) (by omega))
  have HDI := Hq0 (fun wx => DecIn_any (-(k : Int)) wx h.sg (by omega) h.q1)
  rw [sgn_self] at HDI
  have HDF := Hq0 (fun (wx : World) (bb t : Nat) (x : Value) (hx : DcV wx bb x n (-(k : Int)) t) => DecFrac_any hx (by omega) (by obtain ⟨v, _, hv⟩ := hx; exact Nat.le_trans (hv.tk 53 hnq) (by decide)))
  have HCM := Hq0 (fun (wx : World) (bb tn td : Nat) (x : Value) (g : w.grownBy wx none) (hx : FrV wx bb x n (10 ^ k) tn td) => FCmp_any hx (⟨_, _, rfl, hv2.same g, hu2.same g⟩ : FrV wx base (.agg #[.bool (decide (n2 < 0)), .slice b tn2 dap, .slice b1 td2 dap1]) n2 d2 tn2 td2) (by have := hx.tn 53 hnq; omega) (by have := hx.td 53 hkq; omega))
  rw [he, wcmp_same] at HCM
  obtain ⟨e, hee⟩ : ∃ e : Int, -(k : Int) = e := ⟨_, rfl⟩
  rw [hee] at HSO HDI HDF ⊢
  generalize hbt : decide (n2 < 0) = bt at *
  generalize hT : 10 ^ k = T at *
  clear h hnq hkq hq hk hv2 hu2 h1 h2 he hee hbt hT
  obtain ⟨WB, hW0, g0, ha, hb⟩ := box2 w (.cells #[.string s, .int .i64 e] 23) (.cells #[.bool bt, .slice b tn2 dap, .slice b1 td2 dap1] 30)
  obtain ⟨x0, x1, _, _⟩ := cell_two ha
  obtain ⟨z0, z1, z2, _, _, _⟩ := cell_three hb
  have G0 := Hq0 g0
  have HSZ : Hid (S5 WB (w.heap.size) (w.heap.size + 1) (.string s) (.int .i64 e) (.bool bt) (.slice b tn2 dap) (.slice b1 td2 dap1) WB) := Hq0 ⟨grown_refl _ _, x0, x1, z0, z1, z2⟩
  have GG : Hid (WB.grownBy WB none) := Hq0 (grown_refl _ _)
  clear ha hb g0
  go_enter Tryz.func13, Tryz.ntmps13
  go_upto_region 1 with (fail)
  rw [← hW0]
  clear hW0
  clear x0 x1 z0 z1 z2
  go_region_held3 (fun w' => WB.grownBy w' none ∧ w'.cell? ⟨w.heap.size, 0, none⟩ = some (.string s) ∧ w'.cell? ⟨w.heap.size, 1, none⟩ = some (.int .i64 e) ∧ w'.cell? ⟨w.heap.size + 1, 0, none⟩ = some (.bool bt) ∧ w'.cell? ⟨w.heap.size + 1, 1, none⟩ = some (.slice b tn2 dap) ∧ w'.cell? ⟨w.heap.size + 1, 2, none⟩ = some (.slice b1 td2 dap1))
    (first | exact KS.out | exact S5.keep (grown_dw _) HSZ.out)
    (first
      | (go_at_call 12; refine (HSO.out _).mono ?_; rintro r wk ⟨rfl, gk⟩; have KS : Hid (S5 WB (w.heap.size) (w.heap.size + 1) (.string s) (.int .i64 e) (.bool bt) (.slice b tn2 dap) (.slice b1 td2 dap1) wk) := Hq0 (S5.keep gk (by assumption)); have GG := Hq0 (grown_trans (grown_drew WB) gk); clear gk)
      | (go_at_call 9; refine (HDI.out _).mono ?_; rintro r wk2 ⟨x, t, rfl, hx, gk⟩; have KS : Hid (S5 WB (w.heap.size) (w.heap.size + 1) (.string s) (.int .i64 e) (.bool bt) (.slice b tn2 dap) (.slice b1 td2 dap1) wk2) := Hq0 (S5.keep gk (by assumption)); have HX := Hq0 hx; clear hx; have GG := Hq0 (grown_trans GG.out gk); clear gk)
      | (go_at_call 25; refine (HDF.out _ _ _ _ HX.out).mono ?_; rintro r wk3 ⟨x3, t3, u3, rfl, hx, gk⟩; have KS : Hid (S5 WB (w.heap.size) (w.heap.size + 1) (.string s) (.int .i64 e) (.bool bt) (.slice b tn2 dap) (.slice b1 td2 dap1) wk3) := Hq0 (S5.keep gk (by assumption)); have HX3 := Hq0 hx; clear hx; have GG := Hq0 (grown_trans GG.out gk); clear gk)
      | (go_at_call 18; refine (HCM.out _ _ _ _ _ (grown_trans G0.out GG.out) HX3.out).mono ?_; rintro r wk4 ⟨rfl, gk⟩; have KS : Hid (S5 WB (w.heap.size) (w.heap.size + 1) (.string s) (.int .i64 e) (.bool bt) (.slice b tn2 dap) (.slice b1 td2 dap1) wk4) := Hq0 (S5.keep gk (by assumption)); have GG := Hq0 (grown_trans GG.out gk); clear gk))
  all_goals
    go_wp2
    refine bodyPost_ret (v := .bool true) (by simp [results, Tryz.func13, go_sem]; try rfl) rfl ?_
    exact ⟨rfl, grown_trans G0.out GG.out⟩
end Go.Proofs.YtjcfacinlgogaaaGreatDoor
open Go.RowKit
namespace Go.Proofs.YtjcfacinlgogaaaGreatDoor
theorem digB_step (c j d : Nat) (hd : d < 10) : digB false (10 * c + d) (j + 1) = digB false c j ++ [48 + d] := by
  unfold digB
  rw [List.range_succ, List.map_append]
  simp only [Bool.false_eq_true, if_false, List.nil_append]
  congr 1
  · refine List.map_congr_left fun i hi => ?_
    have hi := List.mem_range.1 hi
    rw [show j + 1 - 1 - i = (j - 1 - i) + 1 by omega, Nat.pow_succ, Nat.mul_comm (10 ^ _), ← Nat.div_div_eq_div_mul, show (10 * c + d) / 10 = c by omega]
  · simp; omega
theorem digT_step (c j d : Nat) (hd : d < 10) : txtV (mkS (digB false (10 * c + d) (j + 1))) = txtV (mkS (digB false c j)) ++ [Value.int .u8 ((48 + d : Nat) : Int)] := by
  rw [txtV_mk (digB_lt false _ _), txtV_mk (digB_lt false _ _), digB_step c j d hd, List.map_append]; rfl
theorem digT_len (c j : Nat) : (mkS (digB false c j)).size = j := by rw [mkS_size]; unfold digB; simp
def Tp (c j : Nat) : Prop := c < 10 ^ j ∧ ((c = 0 ∧ j = 0) ∨ 10 ^ (j - 1) ≤ c ∧ 1 ≤ j)
theorem Tp.step {c j d : Nat} (h : Tp c j) (hd : d < 10) (h0 : j = 0 → d ≠ 0) : Tp (10 * c + d) (j + 1) := by
  obtain ⟨h1, h2⟩ := h
  refine ⟨by rw [Nat.pow_succ]; omega, .inr ⟨?_, by omega⟩⟩
  rcases h2 with ⟨rfl, rfl⟩ | ⟨h2, h3⟩
  · have := h0 rfl; simp; omega
  · rw [show j + 1 - 1 = (j - 1) + 1 by omega, Nat.pow_succ]; omega
theorem put_one {w W : World} {o R : Nat} {u0 u1 v0 v1 : Value} {t1 t2 : TypeId} (v : Value) (g : w.grownBy W none) (ho : W.heap[o]? = some (.cells #[u0, u1] t1)) (hr : W.heap[R]? = some (.cells #[v0, v1] t2)) (h1 : w.heap.size ≤ o) (hne : R ≠ o) :
    ∃ W4, W.setCell ⟨o, 0, none⟩ v = W4 ∧ W4.heap[o]? = some (.cells #[v, u1] t1) ∧ W4.heap[R]? = some (.cells #[v0, v1] t2) ∧ w.grownBy W4 none := by
  have gs : W.grownBy (W.setCell ⟨o, 0, none⟩ v) (some o) := grown_setb (grown_refl W (some o)) 0 v
  refine ⟨_, rfl, ?_, ?_, grown_own g gs (.inr h1)⟩
  · have := set_blk ho 0 v
    simpa using this
  · rw [gs.block R (Array.getElem?_eq_some_iff.1 hr).1 (fun e => hne (Option.some.inj e))]; exact hr
def DfR (w : World) (e : Int) (r : Ending) (w' : World) : Prop := ∃ s neg c m, r = .returned (.agg #[.string s, .int .i64 (e.tmod 19)]) ∧ TxtD s neg c m ∧ m ≤ 20 ∧ w.grownBy w' none
theorem DecFit_any (s : ByteArray) (e : Int) (w : World) (hs : s.size ≤ 2147483647) : Calls Tryz.prog 21 #[.agg #[.string s, .int .i64 e], .int .i64 20, .int .i64 18] w fun r w' => DfR w e r w' := by
  obtain ⟨i0, hi0, hz0, hz1, hz2⟩ := info_parts siz8
  obtain ⟨WB, hW0, g0, ha, hr⟩ := box2 w (.cells #[.string s, .int .i64 e] 23) (.cells #[.string ⟨#[]⟩, .int .i64 0] 23)
  obtain ⟨x0, x1, _, _⟩ := cell_two ha
  have HA := Hq0 ha; have HR := Hq0 hr; have G0 := Hq0 g0
  clear ha hr g0
  go_enter Tryz.func21, Tryz.ntmps21
  go_upto_region 1 with (fail)
  rw [← hW0]
  clear hW0
  go_upto_block 0 with (fail)
  go_cut [7] from 8 to 46 (fun s7 wx => ∃ j c : Nat, j ≤ 20 ∧ Tp c j ∧ (j = 0 → s7 = .slice none 0 0) ∧ wx.ownsRow WB.heap.size 5 1 s7 j (txtV (mkS (digB false c j))) ∧ WB.grownBy wx none ∧ (j ≠ 0 → 0 < s.size))
  case first =>
    go_wp2_with (fail)
    go_loopw [7, 8] (fun s7 s8 wx => ∃ i j c : Nat, s8 = .int .i64 i ∧ i ≤ s.size ∧ j ≤ i ∧ j ≤ 20 ∧ Tp c j ∧ (j = 0 → s7 = .slice none 0 0) ∧ wx.ownsRow WB.heap.size 5 1 s7 j (txtV (mkS (digB false c j))) ∧ WB.grownBy wx none) (fun _ s8 _ => s.size - (intOf s8).toNat)
    case atStart => exact ⟨0, 0, 0, rfl, Nat.zero_le _, Nat.le_refl _, by omega, ⟨by decide, .inl ⟨rfl, rfl⟩⟩, fun _ => rfl, World.ownsRow_nil _ _ _ _, grown_refl _ _⟩
    case round =>
      obtain ⟨i, j, c, rfl, hi, hji, hj, hc, hnil, how, hg⟩ := hrel
      obtain ⟨a7, cap7, rfl, hac7⟩ := how.slice
      have HC := Hq0 hc; have HN := Hq0 hnil; have HO := Hq0 how; have HG := Hq0 hg; have HAC := Hq0 hac7
      have y0 := keepc hg x0
      have y1 := keepc hg x1
      clear x0 x1 hc hnil how hac7
      by_cases his : i < s.size
      · by_cases hj20 : j < 20
        · have hi2 : (i : Int) < s.size := by omega
          have hj2 : (j : Int) < 20 := by omega
          go_upto_region 6 with (fail)
          obtain ⟨x, hx⟩ : ∃ x : Nat, (s[i]'his).toNat = x := ⟨_, rfl⟩
          have hx256 : x < 256 := by rw [← hx]; exact UInt8.toNat_lt _
          rw [hx]
          clear hx
          go_cut [42] from 11 to 42 (fun s42 wx => s42 = .bool (decide (48 ≤ x) && (decide (x ≤ 57) && (decide (0 < j) || !decide (x = 48)))) ∧ wr = wx)
          case first =>
            by_cases c1 : 48 ≤ x
            · have d1 : (48 : Int) ≤ x := by omega
              by_cases c2 : x ≤ 57
              · have d2 : (x : Int) ≤ 57 := by omega
                by_cases c3 : 0 < j
                · have d3 : (0 : Int) < j := by omega
                  go_wp2_with (fail)
                  go_meet
                  exact ⟨congrArg Value.bool (by simp [c1, c2, c3]), rfl⟩
                · have d3 : ¬ (0 : Int) < j := by omega
                  have j0 : j = 0 := by omega
                  subst j0
                  by_cases c4 : x = 48
                  · subst c4
                    go_wp2_with (fail)
                    go_meet
                    exact ⟨rfl, rfl⟩
                  · have d4 : ((x : Int) != 48) = true := by simp; omega
                    go_wp2_with (fail)
                    go_meet
                    exact ⟨congrArg Value.bool (by first | simp [c1, c2, c4] | (simp [c1, c2, c4]; omega)), rfl⟩
              · have d2 : ¬ (x : Int) ≤ 57 := by omega
                go_wp2_with (fail)
                go_meet
                exact ⟨congrArg Value.bool (by simp [c1, c2]), rfl⟩
            · have d1 : ¬ (48 : Int) ≤ x := by omega
              go_wp2_with (fail)
              go_meet
              exact ⟨congrArg Value.bool (by simp [c1]), rfl⟩
          case rest =>
            obtain ⟨rfl, rfl⟩ := hcut
            by_cases hb : (decide (48 ≤ x) && (decide (x ≤ 57) && (decide (0 < j) || !decide (x = 48)))) = true
            · rw [hb]
              have hb2 : 48 ≤ x ∧ x ≤ 57 ∧ (0 < j ∨ x ≠ 48) := by simpa using hb
              have HB := Hq0 hb2
              have hgz := hg.size
              clear hb hb2
              go_wp2_with (at_builtin; refine wpList_append_own _ rfl (.tmp 43) (.tmp 45) 77 rfl WB.heap.size 5 i0 _ 1 1 und81 hi0 hz0 hz1 hz2 rfl (by decide) _ j (txtV (mkS (digB false c j))) rfl (HO.out.alloc _) ⟨wr.heap.size, 0, none⟩ 1 1 [_] rfl rfl (cell_one_new _ _ _) (ints_oneCell .u8 [_]) (by simp only [maxLen]; omega) (by omega) (by simp; omega) ?_; intro v' w' hown' hg' hv')
              refine ⟨⟨i + 1, j + 1, 10 * c + (x - 48), congrArg (Value.int .i64) (by omega), his, by omega, by omega, HC.out.step (by have := HB.out; omega) (by have := HB.out; omega), fun h => absurd h (by omega), ?_, grown_ownb (grown_trans HG.out (grown_new _ _)) hg' fun b hb => (HO.out.lt b hb).1⟩, by simp [intOf]; omega⟩
              rw [digT_step c j (x - 48) (by have := HB.out; omega), show 48 + (x - 48) = x by have := HB.out; omega]
              exact hown'
            · rw [Bool.eq_false_iff.2 hb]
              clear hb
              go_wp2_with (fail)
              go_roundw
              case rel => exact ⟨i + 1, j, c, congrArg (Value.int .i64) (by omega), by omega, by omega, hj, HC.out, fun h => HN.out h, HO.out, HG.out⟩
              case measure => simp [intOf]; omega
        · have hj2 : ¬ (j : Int) < 20 := by omega
          have hi2 : (i : Int) < s.size := by omega
          go_wp2_with (fail)
          go_meet
          exact ⟨j, c, hj, HC.out, HN.out, HO.out, HG.out, by omega⟩
      · have hi2 : ¬ (i : Int) < s.size := by omega
        go_wp2_with (fail)
        go_meet
        exact ⟨j, c, hj, HC.out, HN.out, HO.out, HG.out, by omega⟩
  case rest =>
    obtain ⟨j, c, hj, hc, hnil, how, hg, hpos⟩ := hcut
    obtain ⟨a7, cap7, rfl, hac7⟩ := how.slice
    by_cases j0 : j = 0
    · subst j0
      have e7 := hnil rfl
      simp only [Value.slice.injEq] at e7
      obtain ⟨rfl, _, rfl⟩ := e7
      have gA := grown_trans (grown_new wc (.cells #[.string ⟨#[]⟩, .int .i64 0] 23)) (grown_drew _)
      have y0 := keepc (grown_trans hg gA) x0
      have y1 := keepc (grown_trans hg gA) x1
      have GA := Hq0 gA
      have hcv := fun wx => Lib.run_convert_nil_bytes (P := Tryz.prog) wx 77 9 5 0 und81 (by kernel_rfl) (by kernel_rfl)
      have y2 := keepc (grown_trans hg (grown_drew _)) x0
      have y3 := keepc (grown_trans hg (grown_drew _)) x1
      clear x0 x1 hnil how hac7 gA
      go_upto_region 8 with (fail)
      go_region
      all_goals
        have e3 := heap_new wc (.cells #[.string ⟨#[]⟩, .int .i64 (e.tmod 19)] 23)
        have g3 := grown_trans (grown_new wc (.cells #[.string ⟨#[]⟩, .int .i64 (e.tmod 19)] 23)) (grown_drew _)
        obtain ⟨W3, hW3⟩ : ∃ W3, (wc.alloc (.cells #[.string ⟨#[]⟩, .int .i64 (e.tmod 19)] 23)).drew = W3 := ⟨_, rfl⟩
        have eo : W3.heap[wc.heap.size]? = some (.cells #[.string ⟨#[]⟩, .int .i64 (e.tmod 19)] 23) := by rw [← hW3]; exact e3
        rw [hW3] at g3 ⊢
        have hle := hg.size
        have hlt := (Array.getElem?_eq_some_iff.1 HR.out).1
        have EA := Hq0 (kpb (grown_trans hg g3) HA.out)
        have ER := Hq0 (kpb (grown_trans hg g3) HR.out)
        have EO := Hq0 eo
        have G3 := Hq0 (grown_trans G0.out (grown_trans hg g3))
        have HLE := Hq0 (And.intro hle hlt)
        have HOO := Hq0 (G0.out.size)
        generalize wc.heap.size = o at *
        clear e3 g3 hW3 eo y0 y1 y2 y3 hcv  hg
        obtain ⟨z0, z1, z2, z3⟩ := cell_two EO.out
        have hlo := HOO.out
        have hl2 := HLE.out
        obtain ⟨W4, hW4, e4, e5, g5⟩ := put_one (.string ⟨#[48]⟩) G3.out EO.out ER.out (by omega) (by omega)
        go_upto_region 13 with (fail)
        clear hW4
        clear z0 z1 z2 z3
        obtain ⟨z0, z1, _, _⟩ := cell_two e4
        obtain ⟨y0, y1, y2, y3⟩ := cell_two e5
        obtain ⟨o1, o2⟩ := st_var e5 (.string ⟨#[48]⟩) (.int .i64 (e.tmod 19))
        have G9 := Hq0 (grown_own g5 o1 (.inr (by omega)))
        clear e4 e5 g5
        go_wp2
        generalize (W4.setCell ⟨w.heap.size + 1, 0, none⟩ (.string ⟨#[48]⟩)).setCell ⟨w.heap.size + 1, 1, none⟩ (.int .i64 (e.tmod 19)) = w9 at *
        clear y0 y1 y2 y3 z0 z1
        obtain ⟨s0, s1, _, _⟩ := cell_two o2
        refine bodyPost_ret (v := .agg #[.string ⟨#[48]⟩, .int .i64 (e.tmod 19)]) (by simp [results, Tryz.func21, go_sem, s0, s1]; try rfl) rfl ?_
        exact ⟨_, false, 0, 1, rfl, txt0, by decide, G9.out⟩
    · rcases hac7 with ⟨_, h0⟩ | ⟨g7, rfl, hgb⟩
      · exact absurd h0 j0
      have gA := grown_trans (grown_new wc (.cells #[.string ⟨#[]⟩, .int .i64 0] 23)) (grown_drew _)
      have hcv := fun cap => Lib.run_convert_whole (P := Tryz.prog) (wc.alloc (.cells #[.string ⟨#[]⟩, .int .i64 0] 23)).drew 77 5 9 und81 (by kernel_rfl) (by kernel_rfl) g7 0 (mkS (digB false c j)) (bytes_own (how.kept gA (own_any _))) cap
      have hcv2 := fun cap => Lib.run_convert_whole (P := Tryz.prog) wc.drew 77 5 9 und81 (by kernel_rfl) (by kernel_rfl) g7 0 (mkS (digB false c j)) (bytes_own (how.kept (grown_drew _) (own_any _))) cap
      rw [digT_len] at hcv hcv2
      have y2 := keepc (grown_trans hg (grown_drew _)) x0
      have y3 := keepc (grown_trans hg (grown_drew _)) x1
      have y0 := keepc (grown_trans hg gA) x0
      have y1 := keepc (grown_trans hg gA) x1
      have GA := Hq0 gA
      clear x0 x1 hnil how gA
      go_upto_region 8 with (fail)
      go_region
      all_goals
        have e3 := heap_new wc (.cells #[.string (mkS (digB false c j)), .int .i64 (e.tmod 19)] 23)
        have g3 := grown_trans (grown_new wc (.cells #[.string (mkS (digB false c j)), .int .i64 (e.tmod 19)] 23)) (grown_drew _)
        obtain ⟨W3, hW3⟩ : ∃ W3, (wc.alloc (.cells #[.string (mkS (digB false c j)), .int .i64 (e.tmod 19)] 23)).drew = W3 := ⟨_, rfl⟩
        have eo : W3.heap[wc.heap.size]? = some (.cells #[.string (mkS (digB false c j)), .int .i64 (e.tmod 19)] 23) := by rw [← hW3]; exact e3
        rw [hW3] at g3 ⊢
        have hle := hg.size
        have hlt := (Array.getElem?_eq_some_iff.1 HR.out).1
        have EA := Hq0 (kpb (grown_trans hg g3) HA.out)
        have ER := Hq0 (kpb (grown_trans hg g3) HR.out)
        have EO := Hq0 eo
        have G3 := Hq0 (grown_trans G0.out (grown_trans hg g3))
        have HLE := Hq0 (And.intro hle hlt)
        have HOO := Hq0 (G0.out.size)
        generalize wc.heap.size = o at *
        clear e3 g3 hW3 eo y0 y1 y2 y3 hcv hcv2 hg
        obtain ⟨z0, z1, z2, z3⟩ := cell_two EO.out
        have hlo := HOO.out
        have hl2 := HLE.out
        have hj0 : ((j : Int) == 0) = false := by simp; exact j0
        have hp := hpos j0
        have hp2 : (0 : Int) < s.size := by omega
        obtain ⟨xa0, xa1, _, _⟩ := cell_two EA.out
        have HT : Hid (TxtD (mkS (digB false c j)) false c j) := Hq0 ⟨rfl, by omega, hc.1, .inr (by have := hc.2; omega)⟩
        obtain ⟨x, hx⟩ : ∃ x : Nat, (s[0]'hp).toNat = x := ⟨_, rfl⟩
        by_cases hx45 : x = 45
        · have hx46 : (s[0]'hp).toNat = 45 := by rw [hx, hx45]
          obtain ⟨W4, hW4, e4, e5, g5⟩ := put_one (.string (⟨#[45]⟩ ++ mkS (digB false c j))) G3.out EO.out ER.out (by omega) (by omega)
          have hcat : ¬ 9223372036854775807 < 1 + (mkS (digB false c j)).size := by rw [digT_len]; omega
          clear hx
          go_upto_region 13 with (fail)
          clear hW4 z0 z1 z2 z3 xa0 xa1
          obtain ⟨z0, z1, _, _⟩ := cell_two e4
          obtain ⟨y0, y1, y2, y3⟩ := cell_two e5
          obtain ⟨o1, o2⟩ := st_var e5 (.string (⟨#[45]⟩ ++ mkS (digB false c j))) (.int .i64 (e.tmod 19))
          have G9 := Hq0 (grown_own g5 o1 (.inr (by omega)))
          clear e4 e5 g5
          go_wp2
          generalize (W4.setCell ⟨w.heap.size + 1, 0, none⟩ (.string (⟨#[45]⟩ ++ mkS (digB false c j)))).setCell ⟨w.heap.size + 1, 1, none⟩ (.int .i64 (e.tmod 19)) = w9 at *
          clear y0 y1 y2 y3 z0 z1
          obtain ⟨s0, s1, _, _⟩ := cell_two o2
          refine bodyPost_ret (v := .agg #[.string (⟨#[45]⟩ ++ mkS (digB false c j)), .int .i64 (e.tmod 19)]) (by simp [results, Tryz.func21, go_sem, s0, s1]; try rfl) rfl ?_
          exact ⟨_, true, c, j, rfl, txt_neg HT.out, hj, G9.out⟩
        · have hx46 : ((((s[0]'hp).toNat : Nat) : Int) == 45) = false := by rw [hx]; simp; omega
          clear hx
          go_upto_region 13 with (fail)
          clear xa0 xa1
          obtain ⟨y0, y1, y2, y3⟩ := cell_two ER.out
          obtain ⟨o1, o2⟩ := st_var ER.out (.string (mkS (digB false c j))) (.int .i64 (e.tmod 19))
          have G9 := Hq0 (grown_own G3.out o1 (.inr (by omega)))
          go_wp2
          generalize (W3.setCell ⟨w.heap.size + 1, 0, none⟩ (.string (mkS (digB false c j)))).setCell ⟨w.heap.size + 1, 1, none⟩ (.int .i64 (e.tmod 19)) = w9 at *
          clear y0 y1 y2 y3 z0 z1
          obtain ⟨s0, s1, _, _⟩ := cell_two o2
          refine bodyPost_ret (v := .agg #[.string (mkS (digB false c j)), .int .i64 (e.tmod 19)]) (by simp [results, Tryz.func21, go_sem, s0, s1]; try rfl) rfl ?_
          exact ⟨_, false, c, j, rfl, HT.out, hj, G9.out⟩
end Go.Proofs.YtjcfacinlgogaaaGreatDoor
open Go.RowKit
namespace Go.Proofs.YtjcfacinlgogaaaGreatDoor
theorem DgT.cut {s : ByteArray} {c q : Nat} (h : DgT s c q) (x : Nat) (hx : x ≤ q) : DgT (s.extract x s.size) (c % 10 ^ (q - x)) (q - x) := by
  have hz := h.size
  have hs : (s.extract x s.size).size = q - x := by rw [ByteArray.size_extract]; omega
  refine ⟨hs, Nat.mod_lt _ (Nat.pow_pos (by decide)), fun i hi => ?_⟩
  rw [hs] at hi
  rw [ByteArray.getElem_extract, h.byte (x + i) (by omega)]
  rw [show q - 1 - (x + i) = q - x - 1 - i by omega]
  congr 1
  obtain ⟨y, hy⟩ : ∃ y, q - x - 1 - i = y := ⟨_, rfl⟩
  rw [hy, show q - x = y + (i + 1) by omega, Nat.pow_add, Nat.mod_mul_right_div_self, Nat.pow_succ, Nat.mod_mul_left_mod]
theorem DgT.zero {s : ByteArray} {c q : Nat} (h : DgT s c q) : DgT (⟨#[48]⟩ ++ s) c (q + 1) := by
  have hz := h.size
  have h1 : (⟨#[48]⟩ : ByteArray).size = 1 := rfl
  have hs : ((⟨#[48]⟩ : ByteArray) ++ s).size = q + 1 := by rw [ByteArray.size_append]; omega
  refine ⟨hs, Nat.lt_of_lt_of_le h.lt (Nat.pow_le_pow_right (by decide) (by omega)), fun i hi => ?_⟩
  rw [hs] at hi
  by_cases h0 : i = 0
  · subst h0
    rw [ByteArray.getElem_append_left (by rw [h1]; decide)]
    rw [show q + 1 - 1 - 0 = q by omega, Nat.div_eq_of_lt h.lt]; rfl
  · rw [ByteArray.getElem_append_right (by omega)]
    show (s[i - 1]'(by omega)).toNat = _
    rw [h.byte (i - 1) (by omega), show q + 1 - 1 - i = q - 1 - (i - 1) by omega]
def DsR (w : World) (k : Nat) (r : Ending) (w' : World) : Prop := ∃ (s : ByteArray) (n : Int) (q : Nat), r = .returned (.agg #[.string s, .int .i64 (-(k : Int))]) ∧ TxtD s (decide (n < 0)) n.natAbs q ∧ n.natAbs < 10 ^ (k + 1) ∧ w.grownBy w' none
theorem DecSmall_any {s : ByteArray} {neg : Bool} {c m : Nat} (k : Nat) (w : World) (h : TxtD s neg c m) (hm : m ≤ 20) (hk : k ≤ 18) : Calls Tryz.prog 20 #[.agg #[.string s, .int .i64 (-(k : Int))], .int .i64 1] w fun r w' => DsR w k r w' := by
  have HP := Hq0 (fun wx => WholeIn_any wx h.sg (by omega) h.q1)
  have hc := h.lt
  have hc20 : c < 10 ^ 2000 := Nat.lt_of_lt_of_le hc (Nat.pow_le_pow_right (by decide) (by omega))
  obtain ⟨n, hn⟩ : ∃ n : Int, (if neg then -(c : Int) else c) = n := ⟨_, rfl⟩
  have hnc : n.natAbs = c := by rw [← hn]; cases neg <;> simp
  rw [hn] at HP
  have HNC := Hq0 hnc
  have HC20 := Hq0 hc20
  have HT := Hq0 h
  clear hn hc20 h hnc
  obtain ⟨WB, hW0, g0, ha, hr⟩ := box2 w (.cells #[.string s, .int .i64 (-(k : Int))] 23) (.cells #[.string ⟨#[]⟩, .int .i64 0] 23)
  obtain ⟨x0, x1, _, _⟩ := cell_two ha
  have HA := Hq0 ha; have HR := Hq0 hr; have HRX := Hq0 hr; have G0 := Hq0 g0
  clear ha hr g0
  go_enter Tryz.func20, Tryz.ntmps20
  go_upto_region 1 with (fail)
  rw [← hW0]
  clear hW0
  go_wp2_with (fail)
  refine (HP.out _).mono ?_
  rintro r w2 ⟨x, t, rfl, ⟨v, rfl, hv⟩, g2⟩
  obtain ⟨a, cap, rfl, _⟩ := hv.own.slice
  obtain ⟨bs, hbs⟩ : ∃ bs, decide (n < 0) = bs := ⟨_, rfl⟩
  rw [hbs]
  have HBS := Hq0 hbs
  have HV := Hq0 (hv.base (Nat.zero_le _))
  have G2 := Hq0 g2
  have GA := Hq0 (grown_new w2 (.cells #[.bool bs, .slice a t cap] 28))
  have HY := Hq0 (heap_new w2 (.cells #[.bool bs, .slice a t cap] 28))
  clear hv g2 x0 x1 hbs
  go_upto_region 2 with (fail)
  obtain ⟨nb, hnb⟩ : ∃ nb, w2.heap.size = nb := ⟨_, rfl⟩
  rw [hnb] at HY ⊢
  generalize w2.alloc (.cells #[.bool bs, .slice a t cap] 28) = w3 at *
  obtain ⟨z0, z1, _, _⟩ := cell_two HY.out
  have HS := Hq0 (fun (wx : World) (g : w3.grownBy wx none) => natString_any ((HV.out.same GA.out).same g) (HNC.out ▸ HC20.out))
  go_wp2_with (fail)
  refine (HS.out _ (grown_refl _ _)).mono ?_
  rintro r w4 ⟨s4, q, rfl, ht4, g4⟩
  rw [HNC.out] at ht4
  have HT4 := Hq0 ht4
  have hz4 := ht4.size
  have hq20 : q ≤ 20 := ht4.qle 20 (by decide) (Nat.lt_of_lt_of_le hc (Nat.pow_le_pow_right (by decide) hm))
  simp only [Bool.false_eq_true, if_false, Nat.zero_add] at hz4
  obtain ⟨x0, x1, _, _⟩ := cell_two (kpb (grown_trans G2.out (grown_trans GA.out g4)) HA.out)
  have HY4 := Hq0 (kpb g4 HY.out)
  have HR4 := Hq0 (kpb (grown_trans G2.out (grown_trans GA.out g4)) HR.out)
  have G4 := Hq0 (grown_trans G0.out (grown_trans G2.out (grown_trans GA.out g4)))
  have HQ := Hq0 hq20
  clear z0 z1 g4 ht4
  go_upto_region 4 with (fail)
  obtain ⟨Y, hY⟩ : ∃ Y : Int, (q : Int) + -k - 1 = Y := ⟨_, rfl⟩
  rw [hY]
  have HYY := Hq0 hY
  clear hY
  go_upto_if 24 with (fail)
  go_cut [6] from 23 to 30 (fun s6 wx => ∃ sx cx mx, s6 = .string sx ∧ DgT sx cx mx ∧ mx ≤ 20 ∧ 0 < mx ∧ cx < 10 ^ (k + 1) ∧ w4 = wx)
  case first =>
    have hY := HYY.out
    by_cases hcut : k + 1 < q
    · obtain ⟨y, hy⟩ : ∃ y, q - k - 1 = y := ⟨_, rfl⟩
      have hyc : Y = y := by omega
      subst hyc
      have h1 : (0 : Int) < y := by omega
      have h1' : 0 < y := by omega
      have h2 : (y : Int) ≤ q := by omega
      have h2' : y ≤ q := by omega
      have h3 : min (y : Int) q = y := by omega
      have h3' : min y q = y := by omega
      have HCU := Hq0 (And.intro hcut hy)
      clear hcut hy hY
      go_wp2_with (fail)
      go_meet
      have hcu := HCU.out
      refine ⟨_, c % 10 ^ (q - y), q - y, rfl, ?_, by omega, by omega, ?_, rfl⟩
      · have hd := HT4.out.dg.cut y h2'
        rw [hz4] at hd
        exact hd
      · rw [show q - y = k + 1 by omega]; exact Nat.mod_lt _ (Nat.pow_pos (by decide))
    · have h1 : ¬ (0 : Int) < Y := by omega
      have HCU := Hq0 hcut
      clear hcut hY
      go_wp2_with (fail)
      go_meet
      have hcu := HCU.out
      exact ⟨s4, c, q, rfl, HT4.out.dg, HQ.out, HT4.out.q1, Nat.lt_of_lt_of_le HT4.out.lt (Nat.pow_le_pow_right (by decide) (by omega)), rfl⟩
  case rest =>
    obtain ⟨sx, cx, mx, rfl, hd, hmx, hmx0, hcx, rfl⟩ := hcut
    have hcat : ¬ 9223372036854775807 < 1 + sx.size := by rw [hd.size]; omega
    have HN := Hq0 (fun wx => parse_any wx hd.zero (by omega) (by omega))
    have HCX := Hq0 hcx
    have HCX2 := Hq0 (show cx < 10 ^ 2000 from Nat.lt_of_lt_of_le hcx (Nat.pow_le_pow_right (by decide) (by omega)))
    clear hd hmx hmx0 hcx hc
    go_wp2_with (fail)
    refine (HN.out _).mono ?_
    rintro r w5 ⟨v5, t5, rfl, hv5, g5⟩
    obtain ⟨a5, cap5, rfl, _⟩ := hv5.own.slice
    obtain ⟨n', hn'⟩ : ∃ n' : Int, (if bs then -(cx : Int) else cx) = n' := ⟨_, rfl⟩
    obtain ⟨hs1, hs2⟩ := sgn_whole hn'.symm
    have HW := Hq0 (fun (wx : World) (g : w5.grownBy wx none) => wholeOf_any bs (hv5.same g))
    unfold wholeV at HW
    rw [hs1] at HW
    have HV5 := Hq0 (show NatOf w5 0 (.slice a5 t5 cap5) n'.natAbs t5 by rw [hs2]; exact hv5.base (Nat.zero_le _))
    have HDO := Hq0 (fun (wx : World) (g : w5.grownBy wx none) => DecOut_any (x := .agg #[.bool (decide (n' < 0)), .slice a5 t5 cap5, .int .i64 (-(k : Int))]) (n := n') (e := -(k : Int)) ⟨_, rfl, HV5.out.same g⟩ (by rw [hs2]; exact HCX2.out))
    have HN2 := Hq0 hs2
    obtain ⟨bz, hbz⟩ : ∃ bz, decide (n' < 0) = bz := ⟨_, rfl⟩
    rw [hbz] at HW HDO
    have G5 := Hq0 (grown_trans G4.out g5)
    have HA5 := kpb g5 HY4.out
    obtain ⟨z0, z1, _, _⟩ := cell_two HA5
    have y0 := keepc g5 x0
    have y1 := keepc g5 x1
    have HR := Hq0 (kpb g5 HR4.out)
    have HSZ : Hid (S4 w5 (w.heap.size + 1) (nb) (w.heap.size) (.bool bs) (.slice a t cap) (.string s) (.int .i64 (-(k : Int))) w5) := Hq0 ⟨grown_refl _ _, z0, z1, y0, y1⟩
    have GG : Hid (w5.grownBy w5 none) := Hq0 (grown_refl _ _)
    have HNB := Hq0 (show w.heap.size + 1 < nb from by have h1 := (Array.getElem?_eq_some_iff.1 HRX.out).1; have h2 := G2.out.size; omega)
    clear hv5 g5 HA5 z0 z1 y0 y1 hn' hs1 hs2 hbz x0 x1
    have hnb1 := HNB.out
    go_upto_region 7 with (fail)
    go_region_held3 (fun w' => w5.grownBy w' (some (w.heap.size + 1)) ∧ w'.cell? ⟨nb, 0, none⟩ = some (.bool bs) ∧ w'.cell? ⟨nb, 1, none⟩ = some (.slice a t cap) ∧ w'.cell? ⟨w.heap.size, 0, none⟩ = some (.string s) ∧ w'.cell? ⟨w.heap.size, 1, none⟩ = some (.int .i64 (-(k : Int))))
      (first | exact KS.out | exact S4.keep (grown_dw _) HSZ.out | exact S4.st KS.out (by omega) (by omega) _ _)
      (first
        | (go_at_call 37; refine (HW.out _ (grown_drew _)).mono ?_; rintro r wk ⟨rfl, gk⟩; have KS : Hid (S4 w5 (w.heap.size + 1) (nb) (w.heap.size) (.bool bs) (.slice a t cap) (.string s) (.int .i64 (-(k : Int))) wk) := Hq0 (S4.keep gk (by assumption)); have GG := Hq0 (grown_trans (grown_drew w5) gk); clear gk)
        | (go_at_call 8; refine (HDO.out _ GG.out).mono ?_; rintro r wk2 ⟨so, qo, rfl, hso, gk⟩; have KS : Hid (S4 w5 (w.heap.size + 1) (nb) (w.heap.size) (.bool bs) (.slice a t cap) (.string s) (.int .i64 (-(k : Int))) wk2) := Hq0 (S4.keep gk (by assumption)); have HSO := Hq0 hso; clear hso; have GG := Hq0 (grown_trans GG.out gk); have HRR := Hq0 (kpb GG.out HR.out); obtain ⟨y0, y1, y2, y3⟩ := cell_two HRR.out; clear gk))
    all_goals
      obtain ⟨o1, o2⟩ := st_var HRR.out (.string so) (.int .i64 (-(k : Int)))
      have G9 := Hq0 (grown_own (grown_trans G5.out GG.out) o1 (.inr (by omega)))
      clear y0 y1 y2 y3
      go_wp2
      generalize (wk2.setCell ⟨w.heap.size + 1, 0, none⟩ (.string so)).setCell ⟨w.heap.size + 1, 1, none⟩ (.int .i64 (-(k : Int))) = w9 at *
      obtain ⟨s0, s1, _, _⟩ := cell_two o2
      refine bodyPost_ret (v := .agg #[.string so, .int .i64 (-(k : Int))]) (by simp [results, Tryz.func20, go_sem, s0, s1]; try rfl) rfl ?_
      exact ⟨so, n', qo, rfl, HSO.out, by rw [HN2.out]; exact HCX.out, G9.out⟩
end Go.Proofs.YtjcfacinlgogaaaGreatDoor
