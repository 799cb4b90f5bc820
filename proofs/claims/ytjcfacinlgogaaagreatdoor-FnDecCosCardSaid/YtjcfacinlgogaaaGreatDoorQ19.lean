/- Whole numbers: the quotient, cut off, into a new one. Conditions: a divisor of at most three words. Powers of numbers: the bits of the exponent (plain), the state of the loop. Powers of ten. Conditions: exponents from 2 to 423, a new result, no modulus. Powers of ten as whole numbers. Conditions: exponents from 0 to 423. -/
import Derived.Test.YtjcfacinlgogaaaGreatDoorQ13
import Derived.Test.YtjcfacinlgogaaaGreatDoorQ18
import Derived.Test.YtjcfacinlgogaaaGreatDoorQ03
import Derived.Test.YtjcfacinlgogaaaGreatDoorQ11
import Derived.Test.YtjcfacinlgogaaaGreatDoorQ08
set_option linter.all false
set_option maxHeartbeats 4000000
set_option maxRecDepth 100000
set_option exponentiation.threshold 2000
namespace Go.Proofs.YtjcfacinlgogaaaGreatDoor
open Go.RowKit
theorem tdiv_abs (a b : Int) : (a.tdiv b).natAbs = a.natAbs / b.natAbs := Int.natAbs_tdiv a b
theorem quo_sign {l : List Int} {a b : Int} (nl : Nrm l) (wl : wfL l) (hv : val l = (a.tdiv b).natAbs) : decide (a.tdiv b < 0) = (decide (0 < (l.length : Int)) && (decide (a < 0) != decide (b < 0))) := by
  by_cases h0 : a.tdiv b = 0
  · have hl : l = [] := (nl.nil_iff wl).2 (by rw [hv, h0]; rfl)
    rw [h0, hl]; simp
  · have hl : l ≠ [] := fun e => h0 (by rw [e] at hv; have h9 : val [] = 0 := rfl; omega)
    have hlp : 0 < (l.length : Int) := by
      have : l.length ≠ 0 := fun e => hl (List.eq_nil_of_length_eq_zero e)
      omega
    have hb0 : b ≠ 0 := fun e => h0 (by rw [e]; exact Int.tdiv_zero a)
    have ha0 : a ≠ 0 := fun e => h0 (by rw [e]; exact Int.zero_tdiv b)
    have key : a.tdiv b = (if (decide (a < 0) != decide (b < 0)) = true then -1 else 1) * ((a.natAbs / b.natAbs : Nat) : Int) := by
      rcases Int.lt_or_lt_of_ne ha0 with h1 | h1 <;> rcases Int.lt_or_lt_of_ne hb0 with h2 | h2
      · obtain ⟨x, hx⟩ : ∃ x : Nat, a = -(x : Int) := ⟨a.natAbs, by omega⟩
        obtain ⟨y, hy⟩ : ∃ y : Nat, b = -(y : Int) := ⟨b.natAbs, by omega⟩
        subst hx; subst hy
        rw [Int.neg_tdiv, Int.tdiv_neg, Int.neg_neg, Int.natAbs_neg, Int.natAbs_neg]
        have p1 : 0 < x := by omega
        have p2 : 0 < y := by omega
        simp [h1, h2, p1, p2, Int.ofNat_tdiv]
      · obtain ⟨x, hx⟩ : ∃ x : Nat, a = -(x : Int) := ⟨a.natAbs, by omega⟩
        obtain ⟨y, hy⟩ : ∃ y : Nat, b = (y : Int) := ⟨b.natAbs, by omega⟩
        subst hx; subst hy
        have h3 : ¬ ((y : Int) < 0) := by omega
        rw [Int.neg_tdiv, Int.natAbs_neg]
        have p1 : 0 < x := by omega
        simp [h1, h3, p1, Int.ofNat_tdiv]
      · obtain ⟨x, hx⟩ : ∃ x : Nat, a = (x : Int) := ⟨a.natAbs, by omega⟩
        obtain ⟨y, hy⟩ : ∃ y : Nat, b = -(y : Int) := ⟨b.natAbs, by omega⟩
        subst hx; subst hy
        have h3 : ¬ ((x : Int) < 0) := by omega
        rw [Int.tdiv_neg, Int.natAbs_neg]
        have p1 : 0 < y := by omega
        simp [h2, h3, p1, Int.ofNat_tdiv]
      · obtain ⟨x, hx⟩ : ∃ x : Nat, a = (x : Int) := ⟨a.natAbs, by omega⟩
        obtain ⟨y, hy⟩ : ∃ y : Nat, b = (y : Int) := ⟨b.natAbs, by omega⟩
        subst hx; subst hy
        have h3 : ¬ ((x : Int) < 0) := by omega
        have h4 : ¬ ((y : Int) < 0) := by omega
        simp [h3, h4, Int.ofNat_tdiv]
    obtain ⟨q, hq⟩ : ∃ q : Nat, a.natAbs / b.natAbs = q := ⟨_, rfl⟩
    rw [hq] at key
    have hd : decide (0 < (l.length : Int)) = true := by simpa using hlp
    rw [hd, Bool.true_and]
    generalize (decide (a < 0) != decide (b < 0)) = t at *
    rw [key] at h0 ⊢
    cases t <;> simp at h0 ⊢ <;> omega
theorem Quo_any {w : World} {bz bx ox by_ oy : Nat} {x y : Value} {nx ny : Int} (hz : w.heap[bz]? = some (ibox false (.slice none 0 0))) (hx : IntC w bx ox x nx) (hy : IntC w by_ oy y ny)
    (h1 : bx ≠ bz) (h2 : by_ ≠ bz) (h6 : ny ≠ 0) (h8 : (ny.natAbs : Int) < B64 ^ 3) (hK : TabK w) (h7 : ((nx.tdiv ny).natAbs : Int) < B64 ^ 1000) :
    Calls Tryz.prog 120 #[.pointer (some ⟨bz, 0, none⟩), .pointer (some ⟨bx, ox, none⟩), .pointer (some ⟨by_, oy, none⟩)] w fun e w' => MuRes w bz (nx.tdiv ny) e w' := by
  obtain ⟨x1, x2, xo, lx, hnx, wx, nlx, hvx, hlx⟩ := hx
  obtain ⟨y1, y2, yo, ly, hny, wy, nly, hvy, hly⟩ := hy
  obtain ⟨c0, c1, f0, f1⟩ := cell_ibox hz
  have HX := Hq0 hnx; have HY := Hq0 hny; have HVX := Hq0 hvx; have HVY := Hq0 hvy; have HZ := Hq0 hz
  have hy0 : ly ≠ [] := fun e => h6 (by rw [e] at hvy; simp [val] at hvy; omega)
  have HMU := Hq0 (div_nil (hnx.draw 1) (hny.draw 1) wx wy nlx nly hlx hy0 (len_lt nly wy (n := 3) (by rw [hvy]; exact h8)) (hK.same (grown_dw w)))
  obtain ⟨_, _, xo'⟩ := xo
  obtain ⟨_, _, yo'⟩ := yo
  have ltx : bx < w.heap.size := (Array.getElem?_eq_some_iff.1 xo').1
  have lty : by_ < w.heap.size := (Array.getElem?_eq_some_iff.1 yo').1
  have ltz : bz < w.heap.size := (Array.getElem?_eq_some_iff.1 hz).1
  have Hne1 := Hq0 h1; have Hne2 := Hq0 h2; have H7 := Hq0 h7
  have X1 := Hq0 x1; have Y1 := Hq0 y1
  obtain ⟨xa, xc, rfl⟩ := hnx.slice
  obtain ⟨ya, yc, rfl⟩ := hny.slice
  clear hnx hny hvx hvy hz xo' yo' h1 h2 h7 x1 y1 h6 hK h8 hy0
  unfold MuRes
  go_enter Tryz.func120, Tryz.ntmps120
  go_upto_region 1 with fail
  go_cut [] from 7 to 25 (fun wx => ∃ sa l1 sc, wx.heap[bz]? = some (ibox false (.slice sa l1.length sc)) ∧ Grown2 w wx bz none ∧ IsNat wx (.slice sa l1.length sc) l1 ∧ wfL l1 ∧ Nrm l1 ∧ val l1 = val lx / val ly ∧ ∀ k, (Value.slice sa l1.length sc).ownBlock = some k → w.heap.size ≤ k)
  case first =>
    go_region_with (go_at_call 143; refine HMU.out.mono ?_; rintro e w1 ⟨v1, r1, rfl, ⟨⟨l1, hres, wl1, nl1, hv1⟩, ⟨l2, hres2, wl2, nl2, hv2⟩, hown⟩⟩; obtain ⟨sa, sc, rfl⟩ := hres.nat.slice; obtain ⟨ra, rc, rfl⟩ := hres2.nat.slice; have e1 : w1.heap[bz]? = some (ibox false (.slice none 0 0)) := (hres.grown.block bz ltz (by simp [Value.ownBlock])).trans HZ.out; obtain ⟨_, d1, _, d2⟩ := cell_ibox e1; have HR := Hq0 hres; have H1 := Hq0 e1; have HV1 := Hq0 hv1; clear hres e1 hv1 hown hres2 hv2)
    all_goals
      have e2 := set_ibox1 H1.out (.slice sa l1.length sc)
      have g := grown_set2 (b := bz) HR.out.grown 1 (.slice sa l1.length sc)
      have hb := isNat_ibox H1.out HR.out.nat
      have HF := Hq0 (show _ ∧ _ ∧ _ from ⟨e2, (⟨g.os, g.tape, g.output, g.size, g.block⟩ : Grown2 w _ bz none), HR.out.nat.set hb 1 (.slice sa l1.length sc)⟩)
      clear e2 g hb
      go_wp2_with (fail)
      go_meet
      exact ⟨sa, l1, sc, HF.out.1, HF.out.2.1, HF.out.2.2, wl1, nl1, HV1.out, fun k hk => (HR.out.own k hk).resolve_left (by simp [Value.ownBlock])⟩
  case rest =>
    obtain ⟨sa, l1, sc, e2, g, hn, wl1, nl1, hv1, hown⟩ := hcut
    have HOW := Hq0 hown
    clear hown
    rw [HVX.out, HVY.out, show ((nx.natAbs : Int) / ny.natAbs) = (nx.tdiv ny).natAbs by rw [tdiv_abs]; rfl] at hv1
    have hsg := quo_sign nl1 wl1 hv1
    have HVL := Hq0 hv1
    have x1' : wc.cell? ⟨bx, ox, none⟩ = some (.bool (decide (nx < 0))) := by rw [World.cell?_of_block (g.block bx ltx Hne1.out (by simp))]; exact X1.out
    have y1' : wc.cell? ⟨by_, oy, none⟩ = some (.bool (decide (ny < 0))) := by rw [World.cell?_of_block (g.block by_ lty Hne2.out (by simp))]; exact Y1.out
    obtain ⟨d0, d1, d2, d3⟩ := cell_ibox e2
    have hlen : l1.length ≤ 10000000000 := Nat.le_trans (len_lt nl1 wl1 (n := 1000) (by rw [hv1]; exact H7.out)) (by omega)
    have hf := IntBox.fresh (n := nx.tdiv ny) (set_ibox0 e2 (decide (nx.tdiv ny < 0))) rfl (hn.set (isNat_ibox e2 hn) 0 (.bool (decide (nx.tdiv ny < 0)))) wl1 nl1 hv1 hlen
    have HF := Hq0 hf
    have HG := Hq0 (g.set 0 (.bool (decide (nx.tdiv ny < 0))))
    rw [hsg] at HF HG
    have e2' := e2
    clear e2 g hn hv1 hf hsg X1 Y1 HX HY HZ HMU
    generalize decide (nx < 0) = sx at *
    generalize decide (ny < 0) = sy at *
    have hl0 : (0 : Int) < l1.length ∨ l1 = [] := by
      rcases Nat.eq_zero_or_pos l1.length with h | h
      · exact .inr (List.eq_nil_of_length_eq_zero h)
      · exact .inl (by omega)
    rcases hl0 with hl | hl
    rotate_left
    · subst hl
      have HE : Hid (wc.drew.heap[bz]? = some (ibox false (.slice sa 0 sc))) := e2'
      simp only [List.length_nil, Int.natCast_zero, Int.lt_irrefl, decide_false, Bool.false_and] at *
      go_upto_region 2 with (fail)
      refine wp_region_held_drew (S := (fun w' => ∃ g, w'.heap[bz]? = some (ibox g (.slice sa 0 sc)))) (by kernel_rfl) ?_ (fun hHeld => ?_)
      · exact ⟨_, by first | exact HE.out | exact set_ibox0 HE.out _⟩
      refine takeD (dst := (some 26)) (v := ?_) (i := 0) rfl rfl (by kernel_rfl) (by kernel_rfl) (by kernel_rfl) (fun _ _ _ h => h) (Or.inl ⟨by rfl, ?_⟩) (by assumption) ?_
      rotate_left
      · (intro w hSw; (try dsimp only at hSw); (obtain ⟨g, hg⟩ := hSw; obtain ⟨q0, q1, q2, q3⟩ := cell_ibox hg); go_simp; try with_reducible rfl)
      try simp only [Act.put, List.setIfInBounds_toArray, List.set_cons_zero, List.set_cons_succ]
      refine takeD (dst := (some 27)) (v := ?_) (i := 1) rfl rfl (by kernel_rfl) (by kernel_rfl) (by kernel_rfl) (fun _ _ _ h => h) (Or.inl ⟨by rfl, ?_⟩) (by assumption) ?_
      rotate_left
      · (intro w hSw; (try dsimp only at hSw); (obtain ⟨g, hg⟩ := hSw; obtain ⟨q0, q1, q2, q3⟩ := cell_ibox hg); go_simp; try with_reducible rfl)
      try simp only [Act.put, List.setIfInBounds_toArray, List.set_cons_zero, List.set_cons_succ]
      refine takeD (dst := (some 28)) (v := ?_) (i := 2) rfl rfl (by kernel_rfl) (by kernel_rfl) (by kernel_rfl) (fun _ _ _ h => h) (Or.inl ⟨by rfl, ?_⟩) (by assumption) ?_
      rotate_left
      · (intro w hSw; (try dsimp only at hSw); (obtain ⟨g, hg⟩ := hSw; obtain ⟨q0, q1, q2, q3⟩ := cell_ibox hg); go_simp; try with_reducible rfl)
      try simp only [Act.put, List.setIfInBounds_toArray, List.set_cons_zero, List.set_cons_succ]
      refine takeD (dst := (some 29)) (v := ?_) (i := 3) rfl rfl (by kernel_rfl) (by kernel_rfl) (by kernel_rfl) (fun _ _ _ h => h) (Or.inl ⟨by rfl, ?_⟩) (by assumption) ?_
      rotate_left
      · (intro w hSw; (try dsimp only at hSw); (obtain ⟨g, hg⟩ := hSw; obtain ⟨q0, q1, q2, q3⟩ := cell_ibox hg); go_simp; try with_reducible rfl)
      try simp only [Act.put, List.setIfInBounds_toArray, List.set_cons_zero, List.set_cons_succ]
      refine takeD (dst := (some 30)) (v := ?_) (i := 4) rfl rfl (by kernel_rfl) (by kernel_rfl) (by kernel_rfl) (fun _ _ _ h => h) (Or.inl ⟨by rfl, ?_⟩) (by assumption) ?_
      rotate_left
      · (intro w hSw; (try dsimp only at hSw); (obtain ⟨g, hg⟩ := hSw; obtain ⟨q0, q1, q2, q3⟩ := cell_ibox hg); go_simp; try with_reducible rfl)
      try simp only [Act.put, List.setIfInBounds_toArray, List.set_cons_zero, List.set_cons_succ]
      refine takeD (dst := (some 31)) (v := ?_) (i := 5) rfl rfl (by kernel_rfl) (by kernel_rfl) (by kernel_rfl) (fun _ _ _ h => h) (Or.inl ⟨by rfl, ?_⟩) (by assumption) ?_
      rotate_left
      · (intro w hSw; (try dsimp only at hSw); (obtain ⟨g, hg⟩ := hSw; obtain ⟨q0, q1, q2, q3⟩ := cell_ibox hg); go_simp; try with_reducible rfl)
      try simp only [Act.put, List.setIfInBounds_toArray, List.set_cons_zero, List.set_cons_succ]
      refine takeD (dst := (some 32)) (v := ?_) (i := 6) rfl rfl (by kernel_rfl) (by kernel_rfl) (by kernel_rfl) (fun _ _ _ h => h) (Or.inl ⟨by rfl, ?_⟩) (by assumption) ?_
      rotate_left
      · (intro w hSw; (try dsimp only at hSw); (obtain ⟨g, hg⟩ := hSw; obtain ⟨q0, q1, q2, q3⟩ := cell_ibox hg); go_simp; try with_reducible rfl)
      try simp only [Act.put, List.setIfInBounds_toArray, List.set_cons_zero, List.set_cons_succ]
      refine takeD (dst := (some 33)) (v := ?_) (i := 7) rfl rfl (by kernel_rfl) (by kernel_rfl) (by kernel_rfl) (fun _ _ _ h => h) (Or.inl ⟨by rfl, ?_⟩) (by assumption) ?_
      rotate_left
      · (intro w hSw; (try dsimp only at hSw); (obtain ⟨g, hg⟩ := hSw; obtain ⟨q0, q1, q2, q3⟩ := cell_ibox hg); go_simp; try with_reducible rfl)
      try simp only [Act.put, List.setIfInBounds_toArray, List.set_cons_zero, List.set_cons_succ]
      refine takeD (dst := (some 34)) (v := undef) (i := 8) rfl rfl (by kernel_rfl) (by kernel_rfl) (by kernel_rfl) (fun _ _ _ h => h) (Or.inr ⟨by kernel_rfl, rfl⟩) (by assumption) ?_
      try simp only [Act.put, List.setIfInBounds_toArray, List.set_cons_zero, List.set_cons_succ]
      refine takeD (dst := (some 35)) (v := undef) (i := 9) rfl rfl (by kernel_rfl) (by kernel_rfl) (by kernel_rfl) (fun _ _ _ h => h) (Or.inr ⟨by kernel_rfl, rfl⟩) (by assumption) ?_
      try simp only [Act.put, List.setIfInBounds_toArray, List.set_cons_zero, List.set_cons_succ]
      refine takeD (dst := (some 36)) (v := undef) (i := 10) rfl rfl (by kernel_rfl) (by kernel_rfl) (by kernel_rfl) (fun _ _ _ h => h) (Or.inr ⟨by kernel_rfl, rfl⟩) (by assumption) ?_
      try simp only [Act.put, List.setIfInBounds_toArray, List.set_cons_zero, List.set_cons_succ]
      refine takeD (dst := (some 37)) (v := undef) (i := 11) rfl rfl (by kernel_rfl) (by kernel_rfl) (by kernel_rfl) (fun _ _ _ h => h) (Or.inr ⟨by kernel_rfl, rfl⟩) (by assumption) ?_
      try simp only [Act.put, List.setIfInBounds_toArray, List.set_cons_zero, List.set_cons_succ]
      refine takeD (dst := (some 38)) (v := undef) (i := 12) rfl rfl (by kernel_rfl) (by kernel_rfl) (by kernel_rfl) (fun _ _ _ h => h) (Or.inr ⟨by kernel_rfl, rfl⟩) (by assumption) ?_
      try simp only [Act.put, List.setIfInBounds_toArray, List.set_cons_zero, List.set_cons_succ]
      refine takeD (dst := (some 39)) (v := undef) (i := 13) rfl rfl (by kernel_rfl) (by kernel_rfl) (by kernel_rfl) (fun _ _ _ h => h) (Or.inr ⟨by kernel_rfl, rfl⟩) (by assumption) ?_
      try simp only [Act.put, List.setIfInBounds_toArray, List.set_cons_zero, List.set_cons_succ]
      refine takeD (dst := (some 40)) (v := undef) (i := 14) rfl rfl (by kernel_rfl) (by kernel_rfl) (by kernel_rfl) (fun _ _ _ h => h) (Or.inr ⟨by kernel_rfl, rfl⟩) (by assumption) ?_
      try simp only [Act.put, List.setIfInBounds_toArray, List.set_cons_zero, List.set_cons_succ]
      refine takeD (dst := (some 41)) (v := undef) (i := 15) rfl rfl (by kernel_rfl) (by kernel_rfl) (by kernel_rfl) (fun _ _ _ h => h) (Or.inr ⟨by kernel_rfl, rfl⟩) (by assumption) ?_
      try simp only [Act.put, List.setIfInBounds_toArray, List.set_cons_zero, List.set_cons_succ]
      refine takeD (dst := (some 42)) (v := undef) (i := 16) rfl rfl (by kernel_rfl) (by kernel_rfl) (by kernel_rfl) (fun _ _ _ h => h) (Or.inr ⟨by kernel_rfl, rfl⟩) (by assumption) ?_
      try simp only [Act.put, List.setIfInBounds_toArray, List.set_cons_zero, List.set_cons_succ]
      refine takeD (dst := (some 43)) (v := ?_) (i := 17) rfl rfl (by kernel_rfl) (by kernel_rfl) (by kernel_rfl) (fun _ _ _ h => h) (Or.inl ⟨by rfl, ?_⟩) (by assumption) ?_
      rotate_left
      · (intro w hSw; (try dsimp only at hSw); (obtain ⟨g, hg⟩ := hSw; obtain ⟨q0, q1, q2, q3⟩ := cell_ibox hg); go_simp; try with_reducible rfl)
      try simp only [Act.put, List.setIfInBounds_toArray, List.set_cons_zero, List.set_cons_succ]
      refine takeD (dst := (some 44)) (v := ?_) (i := 18) rfl rfl (by kernel_rfl) (by kernel_rfl) (by kernel_rfl) (fun _ _ _ h => h) (Or.inl ⟨by rfl, ?_⟩) (by assumption) ?_
      rotate_left
      · (intro w hSw; (try dsimp only at hSw); (obtain ⟨g, hg⟩ := hSw; obtain ⟨q0, q1, q2, q3⟩ := cell_ibox hg); go_simp; try with_reducible rfl)
      try simp only [Act.put, List.setIfInBounds_toArray, List.set_cons_zero, List.set_cons_succ]
      refine takeD (dst := (some 45)) (v := ?_) (i := 19) rfl rfl (by kernel_rfl) (by kernel_rfl) (by kernel_rfl) (fun _ _ _ h => h) (Or.inl ⟨by rfl, ?_⟩) (by assumption) ?_
      rotate_left
      · (intro w hSw; (try dsimp only at hSw); (obtain ⟨g, hg⟩ := hSw; obtain ⟨q0, q1, q2, q3⟩ := cell_ibox hg); go_simp; try with_reducible rfl)
      try simp only [Act.put, List.setIfInBounds_toArray, List.set_cons_zero, List.set_cons_succ]
      refine wpAnyH_ready (rs := [20]) (by kernel_rfl) (by simp) ?_
      refine AllReadyH.cons rfl (fun K hK => ?_) AllReadyH.nil
      go_simp
      refine hK.out _ _ ?_ (fun hHeld => ?_)
      · exact ⟨_, by first | exact HE.out | exact set_ibox0 HE.out _⟩
      clear hK K
      try simp only [Act.put, List.setIfInBounds_toArray, List.set_cons_zero, List.set_cons_succ]
      refine wpAnyH_done (by kernel_rfl) ?_ _
      go_wp2_with (fail)
      go_ret
      exact ⟨rfl, _, by have h := HF.out.draw 1; exact h, ⟨by have h := HG.out.draw 1; exact h, by exact HOW.out⟩⟩
    generalize l1.length = n1 at *
    clear wl1 nl1
    have hl2 : 0 < n1 := by omega
    have ed : decide ((0 : Int) < n1) = true := decide_eq_true hl
    rw [ed, Bool.true_and] at HF HG
    go_wp2_with (fail)
    go_still_tail 20, (by kernel_rfl)
    change wpList _ _ _ _ _ (World.drew _)
    go_wp2
    go_ret
    exact ⟨rfl, _, by have h := HF.out.draw 1; exact h, ⟨by have h := HG.out.draw 1; exact h, by exact HOW.out⟩⟩
end Go.Proofs.YtjcfacinlgogaaaGreatDoor
namespace Go.Proofs.YtjcfacinlgogaaaGreatDoor
open Go.RowKit
def vj (n s j : Nat) : Int := ((n * 2 ^ (s + 1 + j) % 2 ^ 64 : Nat) : Int)
theorem vj_next (n s j : Nat) : IntKind.u64.wrap (vj n s j * 2) = vj n s (j + 1) := by
  rw [IntKind.wrap_u64]
  unfold vj
  have h1 : n * 2 ^ (s + 1 + (j + 1)) = n * 2 ^ (s + 1 + j) * 2 := by rw [show s + 1 + (j + 1) = s + 1 + j + 1 by omega, Nat.pow_succ, Nat.mul_assoc]
  rw [h1]
  generalize n * 2 ^ (s + 1 + j) = x
  have h2 : (2 : Nat) ^ 64 = 18446744073709551616 := by decide
  rw [h2]
  omega
theorem vj_zero (n s : Nat) : IntKind.u64.wrap ((n : Int) * 2 ^ (s + 1)) = vj n s 0 := by
  rw [IntKind.wrap_u64]
  unfold vj
  have h1 : (n : Int) * 2 ^ (s + 1) = ((n * 2 ^ (s + 1) : Nat) : Int) := by simp
  rw [h1, Nat.add_zero]
  generalize n * 2 ^ (s + 1) = x
  have h2 : (2 : Nat) ^ 64 = 18446744073709551616 := by decide
  rw [h2]
  omega
theorem vj_bit (n s j k : Nat) (hk : s + 1 + j + k = 63) : bits .and .u64 (vj n s j) 9223372036854775808 = ((n / 2 ^ k % 2 * 9223372036854775808 : Nat) : Int) := by
  have h1 := u64_and_nat (n * 2 ^ (s + 1 + j) % 2 ^ 64) 9223372036854775808 (Nat.lt_of_lt_of_le (Nat.mod_lt _ (by decide)) (by decide)) (by decide)
  have h2 : (n * 2 ^ (s + 1 + j) % 2 ^ 64) &&& 9223372036854775808 = n / 2 ^ k % 2 * 9223372036854775808 := by
    have h4 : (n * 2 ^ (s + 1 + j)).testBit 63 = n.testBit k := by
      rw [← hk, Nat.testBit_mul_two_pow]
      simp
    rw [Nat.testBit_eq_decide_div_mod_eq (x := n)] at h4
    apply Nat.eq_of_testBit_eq
    intro i
    rw [Nat.testBit_and, show 9223372036854775808 = 2 ^ 63 by decide, Nat.testBit_two_pow, Nat.testBit_mod_two_pow]
    by_cases hi : 63 = i
    · subst hi
      rw [h4]
      rcases Nat.mod_two_eq_zero_or_one (n / 2 ^ k) with h | h
      · rw [h]; decide
      · rw [h]; decide
    · rcases Nat.mod_two_eq_zero_or_one (n / 2 ^ k) with h | h
      · rw [h]; simp [hi]
      · rw [h, Nat.one_mul, Nat.testBit_two_pow]; simp [hi]
  rw [h2] at h1
  unfold vj
  exact h1
theorem exp_first {n s : Nat} (hs : s ≤ 63) (h1 : 9223372036854775808 ≤ n * 2 ^ s) (h2 : n * 2 ^ s < 18446744073709551616) : n / 2 ^ (63 - s) = 1 := by
  have e : 2 ^ (63 - s) * 2 ^ s = 9223372036854775808 := by rw [← Nat.pow_add, show 63 - s + s = 63 by omega]
  have hp : 0 < 2 ^ s := Nat.pow_pos (by decide)
  have a1 : 2 ^ (63 - s) ≤ n := Nat.le_of_mul_le_mul_right (by omega) hp
  have a2 : n < 2 * 2 ^ (63 - s) := Nat.lt_of_mul_lt_mul_right (a := 2 ^ s) (by rw [Nat.mul_assoc, e]; omega)
  generalize 2 ^ (63 - s) = t at *
  have ht : 0 < t := by omega
  have b1 : 1 ≤ n / t := (Nat.le_div_iff_mul_le ht).2 (by omega)
  have b2 : n / t < 2 := (Nat.div_lt_iff_lt_mul ht).2 (by omega)
  omega
theorem exp_next (n k : Nat) : n / 2 ^ k = 2 * (n / 2 ^ (k + 1)) + n / 2 ^ k % 2 := by
  rw [Nat.pow_succ, ← Nat.div_div_eq_div_mul]
  omega
structure ExS (w wz : World) (z zz : Value) (e : Nat) : Prop where
  g : w.grownBy wz none
  hz : ∃ l, IsNat wz z l ∧ wfL l ∧ Nrm l ∧ val l = 10 ^ e
  hzz : ∃ l, IsNat wz zz l
  oz : ∀ k, z.ownBlock = some k → w.heap.size ≤ k
  ozz : ∀ k, zz.ownBlock = some k → w.heap.size ≤ k
  ne : zz.ownBlock = none ∨ zz.ownBlock ≠ z.ownBlock
theorem ExS.next {w wz w1 : World} {z zz v : Value} {l : List Int} {e e2 : Nat} (h : ExS w wz z zz e) (r : NatRes wz w1 zz.ownBlock v l) (wl : wfL l) (nl : Nrm l) (hv : val l = 10 ^ e2) : ExS w w1 v z e2 := by
  obtain ⟨lz, hz1, hz2, hz3, hz4⟩ := h.hz
  have g : w.grownBy w1 none := by
    by_cases hn : zz.ownBlock = none
    · have := r.grown; rw [hn] at this; exact grown_trans h.g this
    · obtain ⟨k, hk⟩ : ∃ k, zz.ownBlock = some k := Option.ne_none_iff_exists'.1 hn
      have := r.grown; rw [hk] at this
      exact grown_own h.g this (.inr (h.ozz k hk))
  refine ⟨g, ⟨l, r.nat, wl, nl, hv⟩, ⟨lz, hz1.grown r.grown ?_⟩, fun k hk => ?_, h.oz, ?_⟩
  · by_cases hn : z.ownBlock = none
    · exact .inl hn
    · right
      rcases h.ne with h1 | h1
      · rw [h1]; exact hn
      · exact fun e => h1 e.symm
  · rcases r.own k hk with h1 | h1
    · exact h.ozz k h1.symm
    · exact Nat.le_trans h.g.size h1
  · by_cases hn : z.ownBlock = none
    · exact .inl hn
    · right
      intro he
      obtain ⟨k, hk⟩ : ∃ k, z.ownBlock = some k := Option.ne_none_iff_exists'.1 hn
      rw [hk] at he
      rcases r.own k he.symm with h1 | h1
      · rcases h.ne with h2 | h2
        · rw [h2] at h1; cases h1
        · exact h2 (h1.symm.trans hk.symm)
      · have := hz1.lt k hk; omega
theorem ten_lt {e : Nat} (h : e ≤ 211) : ((10 : Int) ^ e) < B64 ^ 11 := by
  have h1 : (10 : Nat) ^ e ≤ 10 ^ 211 := Nat.pow_le_pow_right (by decide) h
  have h2 : (10 : Nat) ^ 211 < 18446744073709551616 ^ 11 := by decide
  have h3 : ((10 ^ e : Nat) : Int) < ((18446744073709551616 ^ 11 : Nat) : Int) := Int.ofNat_lt.2 (by omega)
  simpa [B64] using h3
theorem ten_lt2 {e : Nat} (h : e ≤ 423) : ((10 : Int) ^ e) < B64 ^ 22 := by
  have h1 : (10 : Nat) ^ e ≤ 10 ^ 423 := Nat.pow_le_pow_right (by decide) h
  have h2 : (10 : Nat) ^ 423 < 18446744073709551616 ^ 22 := by decide
  have h3 : ((10 ^ e : Nat) : Int) < ((18446744073709551616 ^ 22 : Nat) : Int) := Int.ofNat_lt.2 (by omega)
  simpa [B64] using h3
end Go.Proofs.YtjcfacinlgogaaaGreatDoor
namespace Go.Proofs.YtjcfacinlgogaaaGreatDoor
open Go.RowKit
theorem expNN_ten {w : World} {x y : Value} {n : Nat} (hx : IsNat w x [10]) (hy : IsNat w y [(n : Int)]) (h1 : 2 ≤ n) (h2 : n ≤ 423) (hK : TabK w) :
    Calls Tryz.prog 169 #[.slice none 0 0, .pointer none, x, y, .slice none 0 0, .bool false] w fun e w' => NatVal w w' none e (10 ^ n) := by
  obtain ⟨bx, cx, MX, rfl, hbx, hcx, hmx, hatx, _⟩ := hx.split (by simp)
  obtain ⟨by_, cy, MY, rfl, hby, hcy, hmy, haty, _⟩ := hy.split (by simp)
  have c1 := hatx 0 (by simp)
  have c2 := haty 0 (by simp)
  simp only [Nat.zero_add, List.getElem?_cons_zero, Option.getD_some] at c1 c2
  have un : U64 (n : Int) := by unfold U64 B64; omega
  obtain ⟨s, es, hs63, h9, hu9⟩ := nlz_shift un (by omega)
  have h9' : 9223372036854775808 ≤ n * 2 ^ s ∧ n * 2 ^ s < 18446744073709551616 := by
    have a1 : ((n : Int) * 2 ^ s) = ((n * 2 ^ s : Nat) : Int) := by simp
    rw [a1] at h9 hu9
    have := hu9.2; unfold B64 at this
    exact ⟨by omega, by omega⟩
  have hE0 := exp_first hs63 h9'.1 h9'.2
  have HX := Hq0 hx; have HY := Hq0 hy; have HK := Hq0 hK
  have HE0 := Hq0 hE0
  have hn1 : ((n : Int) == 1) = false := by simp; omega
  have ew1 : IntKind.u64.wrap ((s : Int) + 1) = (s : Int) + 1 := by rw [IntKind.wrap_u64]; omega
  have ew2 : IntKind.i64.wrap ((s : Int) + 1) = (s : Int) + 1 := IntWalk.i64_in _ (by omega)
  have ew3 : IntKind.i64.wrap (64 - ((s : Int) + 1)) = 63 - (s : Int) := by rw [show 64 - ((s : Int) + 1) = 63 - (s : Int) by omega]; exact IntWalk.i64_in _ (by omega)
  have ev0 := vj_zero n s
  clear hx hy hK h9 hu9 h9' hatx haty hbx hby hE0
  simp only [List.length_cons, List.length_nil, Nat.zero_add] at *
  go_enter_defers Tryz.func169, Tryz.ntmps169
  go_wp2_with (fail)
  refine (alias_nil HX.out).mono ?_
  rintro e w1 ⟨rfl, q1, rfl⟩
  go_wp2_with (fail)
  refine (alias_nil (HY.out.draw q1)).mono ?_
  rintro e w2 ⟨rfl, q2, hw2⟩
  have G2 : Hid (w.grownBy w2 none) := by rw [hw2]; exact Hq0 (grown_trans (grown_drewN w q1) (grown_drewN _ q2))
  have c1' : w2.cell? ⟨bx, 0, none⟩ = some (.int .u64 10) := by rw [hw2]; exact c1
  have c2' : w2.cell? ⟨by_, 0, none⟩ = some (.int .u64 n) := by rw [hw2]; exact c2
  clear hw2 c1 c2
  go_wp2_with (fail)
  refine (getStack_new w2).mono ?_
  rintro e w3 ⟨bs, rfl, hbs, hcs, g3⟩
  have c3 : w3.cell? ⟨by_, 0, none⟩ = some (.int .u64 n) := kpc g3 c2'
  have G3 := Hq0 (grown_trans G2.out g3)
  have HCS := Hq0 hcs
  have hbs3 : w.heap.size ≤ bs := Nat.le_trans G2.out.size hbs
  clear g3 hcs c1' c2' G2 hbs
  go_wp2_with (fail)
  refine (set_any (IsNat.nil w3) (HX.out.grown0 G3.out) (by simp)).mono ?_
  rintro e w4 ⟨v4, rfl, hr4⟩
  have c4 : w4.cell? ⟨by_, 0, none⟩ = some (.int .u64 n) := kpc hr4.grown c3
  have HCS4 : Hid (w4.cell? ⟨bs, 0, none⟩ = some (.pointer none)) := kpc hr4.grown HCS.out
  have G4 := Hq0 (grown_trans G3.out hr4.grown)
  have H0 : Hid (ExS w3 w4 v4 (.slice none 0 0) 1) := by
    refine ⟨hr4.grown, ⟨[10], hr4.nat, ?_, nrm_one (by decide), by simp [val]⟩, ⟨[], IsNat.nil _⟩, fun k hk => ?_, fun k hk => by simp [Value.ownBlock] at hk, .inl rfl⟩
    · exact wfL_cons (by unfold U64 B64; omega) wfL_nil
    · rcases hr4.own k hk with h | h
      · cases h
      · exact h
  obtain ⟨za, zn, zc, hv4⟩ : ∃ a n c, v4 = .slice a n c := by
    obtain ⟨a, c, h⟩ := hr4.nat.slice; exact ⟨a, _, c, h⟩
  rw [hv4] at H0 ⊢
  have HX3 := Hq0 (HX.out.grown0 G3.out)
  have HK3 := Hq0 (HK.out.same G3.out)
  clear hr4 c3 hv4 HK
  go_wp2_with (fail)
  refine (nlz_any n w4 un).mono ?_
  rintro e w5 ⟨rfl, rfl⟩
  rw [es]
  go_upto_block 0 with fail
  go_wp2_with fail
  go_loopw [0, 15, 19, 21] (fun s0 s15 s19 s21 wr => ∃ j : Nat, j ≤ 63 - s ∧ s21 = .int .i64 (j : Int) ∧ s15 = .int .u64 (vj n s j) ∧ (∃ a m c, s0 = .slice a m c) ∧ (∃ a m c, s19 = .slice a m c) ∧ ExS w3 wr s0 s19 (n / 2 ^ (63 - s - j))) (fun _ _ _ s21 _ => 63 - s - (intOf s21).toNat)
  case atStart =>
    refine ⟨0, Nat.zero_le _, rfl, ?_, ⟨_, _, _, rfl⟩, ⟨_, _, _, rfl⟩, ?_⟩
    · first | rfl | exact congrArg _ ev0 | (simp; done)
    · rw [Nat.sub_zero, HE0.out]; exact H0.out
  case round =>
    obtain ⟨j, hj, rfl, rfl, ⟨a0, m0, k0, rfl⟩, ⟨a1, m1, k1, rfl⟩, hS⟩ := hrel
    have HS := Hq0 hS
    clear hS
    by_cases hlt : j < 63 - s
    · have hb : (j : Int) < 63 - (s : Int) := by omega
      obtain ⟨k, hk⟩ : ∃ k, s + 1 + j + k = 63 := ⟨62 - s - j, by omega⟩
      have hbit := vj_bit n s j k hk
      have HKE : Hid (63 - s - j = k + 1 ∧ 63 - s - (j + 1) = k) := Hq0 ⟨by omega, by omega⟩
      have HVN := Hq0 (vj_next n s j)
      have HEX := Hq0 (exp_next n k)
      have hk0 : n / 2 ^ (k + 1) ≤ 211 := by
        have := exp_next n k
        have h3 : n / 2 ^ k ≤ n := Nat.div_le_self _ _
        omega
      have HS1 : Hid (ExS w3 wr (.slice a0 m0 k0) (.slice a1 m1 k1) (n / 2 ^ (k + 1))) := by
        have := HS.out; rw [HKE.out.1] at this; exact this
      obtain ⟨lz, hz1, hz2, hz3, hz4⟩ := HS1.out.hz
      obtain ⟨lzz, hzz1⟩ := HS1.out.hzz
      have hl12 := len_lt hz3 hz2 (n := 11) (by rw [hz4]; exact ten_lt hk0)
      have HQ := Hq0 (sqr_any (.pointer (some ⟨bs, 0, none⟩)) hzz1 hz1 hz2 (by omega) (HK3.out.same HS1.out.g))
      rw [hz4] at HQ
      clear hz1 hz2 hz3 hz4 hzz1 hl12 HS hk
      generalize hE : n / 2 ^ (k + 1) = E at *
      go_wp2_with (fail)
      refine HQ.out.mono ?_
      rintro e w5 ⟨v5, l5, rfl, hr5, wl5, nl5, hv5⟩
      have hS5 := HS1.out.next (e2 := 2 * E) hr5 wl5 nl5 (by rw [hv5, ← Int.pow_add, Nat.two_mul])
      obtain ⟨a5, k5, hv55⟩ := hr5.nat.slice
      rw [hv55] at hS5 ⊢
      have HS5 := Hq0 hS5
      clear hr5 wl5 nl5 hv5 hv55 hS5 HS1 HQ
      generalize vj n s j = vv at *
      rcases Nat.mod_two_eq_zero_or_one (n / 2 ^ k) with hm | hm
      · have hb2 : bits .and .u64 vv 9223372036854775808 = 0 := by rw [hbit, hm]; rfl
        have HE2 : Hid (n / 2 ^ k = 2 * E) := by show _ = _; have := HEX.out; omega
        clear hbit hm
        go_wp2_with (fail)
        go_roundw
        case rel => exact ⟨j + 1, by omega, by go_num, congrArg _ HVN.out, ⟨_, _, _, rfl⟩, ⟨_, _, _, rfl⟩, by rw [HKE.out.2, HE2.out]; exact HS5.out⟩
        case measure => simp [intOf]; omega
      · have hb2 : bits .and .u64 vv 9223372036854775808 = 9223372036854775808 := by rw [hbit, hm]; rfl
        have HE2 : Hid (n / 2 ^ k = 2 * E + 1) := by show _ = _; have := HEX.out; omega
        clear hbit hm
        obtain ⟨lz, hz1, hz2, hz3, hz4⟩ := HS5.out.hz
        obtain ⟨lzz, hzz1⟩ := HS5.out.hzz
        have hl22 := len_lt hz3 hz2 (n := 22) (by rw [hz4]; exact ten_lt2 (by omega))
        have HQ := Hq0 (mul_any (.pointer (some ⟨bs, 0, none⟩)) hzz1 hz1 (HX3.out.grown0 HS5.out.g) hz2 (wfL_cons (by unfold U64 B64; omega) wfL_nil) (by omega) (by simp) (.inl (by omega)) (HK3.out.same HS5.out.g))
        rw [hz4] at HQ
        clear hz1 hz2 hz3 hz4 hzz1 hl22
        go_wp2_with (fail)
        refine HQ.out.mono ?_
        rintro e w6 ⟨v6, l6, rfl, hr6, wl6, nl6, hv6⟩
        have hS6 := HS5.out.next (e2 := 2 * E + 1) hr6 wl6 nl6 (by rw [hv6, Int.pow_succ]; simp [val])
        obtain ⟨a6, k6, hv66⟩ := hr6.nat.slice
        rw [hv66] at hS6 ⊢
        have HS6 := Hq0 hS6
        clear hr6 wl6 nl6 hv6 hv66 hS6 HS5 HQ
        go_wp2_with (fail)
        go_roundw
        case rel => exact ⟨j + 1, by omega, by go_num, congrArg _ HVN.out, ⟨_, _, _, rfl⟩, ⟨_, _, _, rfl⟩, by rw [HKE.out.2, HE2.out]; exact HS6.out⟩
        case measure => simp [intOf]; omega
    · obtain rfl : j = 63 - s := by omega
      have hb : ¬ (((63 - s : Nat) : Int) < 63 - (s : Int)) := by omega
      have HSF : Hid (ExS w3 wr (.slice a0 m0 k0) (.slice a1 m1 k1) n) := by
        have := HS.out; rw [Nat.sub_self, Nat.pow_zero, Nat.div_one] at this; exact this
      clear HS
      obtain ⟨lz, hz1, hz2, hz3, hz4⟩ := HSF.out.hz
      have hz0 : lz ≠ [] := fun e => by
        rw [e] at hz4; have h1 : (0 : Int) < 10 ^ n := Int.pow_pos (by decide)
        have h2 : val [] = 0 := rfl
        omega
      obtain ⟨b, cap, M, hv, hb1, hc1, hc2, hat, _⟩ := hz1.split hz0
      injection hv with hv1 hv2 hv3
      subst hv1; subst hv2; subst hv3
      have HAT := Hq0 hat
      have hcs : wr.cell? ⟨bs, 0, none⟩ = some (.pointer none) := kpc HSF.out.g HCS.out
      have HF : Hid (NatVal w wr none (.returned (.slice (some ⟨b, 0, none⟩) (nrm lz).length k0)) (10 ^ n)) := by
        refine ⟨_, lz, rfl, ?_, hz2, hz3, hz4⟩
        rw [hz3]
        exact ⟨grown_trans G3.out HSF.out.g, hz1, fun k hk => (HSF.out.oz k hk |> fun h => .inr (Nat.le_trans G3.out.size h))⟩
      clear hz1 hz2 hz3 hz4 hz0 hb1 hat HSF
      generalize hm : lz.length = m at *
      have HM := Hq0 hm
      clear hm
      go_wp2_with (fail)
      go_loopw [0, 22] (fun s0 s22 wr2 => s0 = .slice (some ⟨b, 0, none⟩) m k0 ∧ s22 = .int .i64 (-1) ∧ wr = wr2) (fun _ _ _ => 0)
      case atStart => exact ⟨rfl, by first | rfl | (simp; done), rfl⟩
      case round =>
        obtain ⟨rfl, rfl, rfl⟩ := hrel
        go_wp2_with (fail)
        refine (norm_any b 0 m k0 lz wr HM.out hc1 (by omega) HAT.out).mono ?_
        rintro e w7 ⟨rfl, rfl⟩
        go_wp2
        refine leaves_cons (f := 158) (args := #[.pointer (some ⟨bs, 0, none⟩)]) (by simp) (by simp [go_sem]) ?_
        refine (stackFree_dd .returning hcs).mono ?_
        rintro e u' w'' ⟨rfl, rfl, rfl⟩
        refine ⟨_, results_tmp (t := 12) rfl _ _ _, ?_⟩
        exact HF.out
end Go.Proofs.YtjcfacinlgogaaaGreatDoor
namespace Go.Proofs.YtjcfacinlgogaaaGreatDoor
open Go.RowKit
theorem one_word {l : List Int} {c : Int} (nl : Nrm l) (wl : wfL l) (hv : val l = c) (h0 : 0 < c) (h1 : c < B64) : l = [c] := by
  have h := len_lt nl wl (n := 1) (by rw [hv, Int.pow_succ, Int.pow_zero, Int.one_mul]; exact h1)
  match l, hv, h with
  | [], hv, _ => have h2 : val [] = 0 := rfl; omega
  | [a], hv, _ => simp [val] at hv; rw [hv]
theorem exp_ten {w : World} {bz bx by_ n : Nat} {x y : Value} (hz : w.heap[bz]? = some (ibox false (.slice none 0 0))) (hx : IntC w bx 0 x 10) (hy : IntC w by_ 0 y (n : Int)) (h1 : bx ≠ bz) (h2 : by_ ≠ bz) (n1 : 2 ≤ n) (n2 : n ≤ 423) (hK : TabK w) :
    Calls Tryz.prog 140 #[.pointer (some ⟨bz, 0, none⟩), .pointer (some ⟨bx, 0, none⟩), .pointer (some ⟨by_, 0, none⟩), .pointer none, .bool false] w fun e w' => MuRes w bz (10 ^ n) e w' := by
  obtain ⟨x1, x2, xo, lx, hnx, wx, nlx, hvx, hlx⟩ := hx
  obtain ⟨y1, y2, yo, ly, hny, wy, nly, hvy, hly⟩ := hy
  obtain ⟨c0, c1, f0, f1⟩ := cell_ibox hz
  have ex := one_word nlx wx hvx (by decide) (by unfold B64; decide)
  have ey := one_word nly wy hvy (by omega) (by unfold B64; omega)
  rw [Int.natAbs_natCast] at ey
  rw [show ((10 : Int).natAbs : Int) = 10 by decide] at ex
  subst ex
  subst ey
  have x1' : w.cell? ⟨bx, 0, none⟩ = some (.bool false) := by simpa using x1
  have y1' : w.cell? ⟨by_, 0, none⟩ = some (.bool false) := by
    have h3 : ¬ ((n : Int) < 0) := by omega
    simpa [h3] using y1
  have HMU := Hq0 (expNN_ten hnx hny n1 n2 hK)
  have HZ := Hq0 hz
  obtain ⟨_, _, xo'⟩ := xo
  have ltx : bx < w.heap.size := (Array.getElem?_eq_some_iff.1 xo').1
  have ltz : bz < w.heap.size := (Array.getElem?_eq_some_iff.1 hz).1
  have Hne1 := Hq0 h1
  have X1 := Hq0 x1'
  obtain ⟨xa, xc, rfl⟩ := hnx.slice
  obtain ⟨ya, yc, rfl⟩ := hny.slice
  simp only [Nat.zero_add] at *
  clear hnx hny hvx hvy hz xo' h1 x1 y1 hK yo
  unfold MuRes
  go_enter Tryz.func140, Tryz.ntmps140
  go_wp2_with (fail)
  refine HMU.out.mono ?_
  rintro e w1 ⟨v1, l1, rfl, hres, wl1, nl1, hv1⟩
  obtain ⟨sa, sc, rfl⟩ := hres.nat.slice
  have e1 : w1.heap[bz]? = some (ibox false (.slice none 0 0)) := (hres.grown.block bz ltz (by simp)).trans HZ.out
  obtain ⟨d0, d1, d2, d3⟩ := cell_ibox e1
  have e2 := set_ibox1 e1 (.slice sa l1.length sc)
  have g := grown_set2 (b := bz) hres.grown 1 (.slice sa l1.length sc)
  have hb := isNat_ibox e1 hres.nat
  obtain ⟨k0, k1, k2, k3⟩ := cell_ibox e2
  have hlen : l1.length ≤ 22 := len_lt nl1 wl1 (by rw [hv1]; exact ten_lt2 n2)
  have hpos : (0 : Int) < 10 ^ n := Int.pow_pos (by decide)
  have hl0 : 0 < l1.length := by
    rcases Nat.eq_zero_or_pos l1.length with h | h
    · have := List.eq_nil_of_length_eq_zero h
      rw [this] at hv1; have h2 : val [] = 0 := rfl; omega
    · exact h
  have e3 := set_ibox0 e2 false
  obtain ⟨j0, j1, j2, j3⟩ := cell_ibox e3
  have HF : Hid (IntBox ((w1.setCell ⟨bz, 1, none⟩ (.slice sa l1.length sc)).setCell ⟨bz, 0, none⟩ (.bool false)) bz (.slice sa l1.length sc) (10 ^ n) ∧ GrF w ((w1.setCell ⟨bz, 1, none⟩ (.slice sa l1.length sc)).setCell ⟨bz, 0, none⟩ (.bool false)) bz (.slice sa l1.length sc)) := by
    have hd : decide ((10 : Int) ^ n < 0) = false := by simp; omega
    refine ⟨IntBox.fresh e3 hd.symm ((hres.nat.set hb 1 _).set (isNat_ibox e2 (hres.nat.set hb 1 _)) 0 _) wl1 nl1 (by rw [hv1]; omega) (by omega), ?_⟩
    have g2 := g.set 0 (.bool false)
    exact ⟨⟨g2.os, g2.tape, g2.output, g2.size, g2.block⟩, fun k hk => (hres.own k hk).resolve_left (by simp)⟩
  have x2' : (w1.setCell ⟨bz, 1, none⟩ (.slice sa l1.length sc)).cell? ⟨bx, 0, none⟩ = some (.bool false) := by
    rw [World.cell?_of_block (Below.heap_setCell _ _ _ _ Hne1.out), World.cell?_of_block (hres.grown.block bx ltx (by simp))]; exact X1.out
  have hgt : (0 : Int) < l1.length := by omega
  clear e1 e2 e3 g hb hres wl1 nl1 hv1 hpos hlen X1
  generalize l1.length = n1 at *
  go_wp2
  go_ret
  exact ⟨rfl, _, HF.out⟩
theorem Exp_ten {w : World} {bz bx by_ n : Nat} {x y : Value} (hz : w.heap[bz]? = some (ibox false (.slice none 0 0))) (hx : IntC w bx 0 x 10) (hy : IntC w by_ 0 y (n : Int)) (h1 : bx ≠ bz) (h2 : by_ ≠ bz) (n1 : 2 ≤ n) (n2 : n ≤ 423) (hK : TabK w) :
    Calls Tryz.prog 116 #[.pointer (some ⟨bz, 0, none⟩), .pointer (some ⟨bx, 0, none⟩), .pointer (some ⟨by_, 0, none⟩), .pointer none] w fun e w' => MuRes w bz (10 ^ n) e w' := by
  have HM := Hq0 (exp_ten hz hx hy h1 h2 n1 n2 hK)
  clear hz hx hy hK
  unfold MuRes at *
  go_enter Tryz.func116, Tryz.ntmps116
  go_wp2_with (fail)
  refine HM.out.mono ?_
  rintro e w1 ⟨rfl, v, hb, hg⟩
  have HF := Hq0 (And.intro hb hg)
  clear hb hg
  go_wp2
  go_ret
  exact ⟨rfl, v, HF.out⟩
theorem pow10_up (n : Nat) (w : World) (h : n ≤ 423) (hK : TabK w) :
    Calls Tryz.prog 90 #[.int .i64 n] w fun e w' => IntNew w w' e (10 ^ n) := by
  by_cases hlt : n ≤ 127
  · exact pow10_any n w hlt
  · have hb : ¬ ((n : Int) < 128) := by omega
    have hnew := Hq0 (heap_new w (ibox false (.slice none 0 0)))
    have hga := Hq0 (World.grownBy_alloc w (ibox false (.slice none 0 0)) none)
    have hsz := Hq0 (size_alloc w (ibox false (.slice none 0 0)))
    have HK := Hq0 hK
    clear hK
    go_enter Tryz.func90, Tryz.ntmps90
    go_wp2_with (fail)
    refine (tenInt_any _).mono ?_
    rintro e w2 ⟨b2, v2, rfl, g1, g2, g3⟩
    have G1 := Hq0 g1; have G2 := Hq0 g2; have G3 := Hq0 g3
    clear g1 g2 g3
    go_wp2_with (fail)
    refine (NewInt_any n w2 (by unfold S64; omega)).mono ?_
    rintro e w3 ⟨b3, v3, rfl, g1, g2, g3⟩
    have G4 := Hq0 g1; have G5 := Hq0 g2; have G6 := Hq0 g3
    clear g1 g2 g3
    have hs := hsz.out
    have hg1 : (w.alloc (ibox false (.slice none 0 0))).grownBy w3 none := grown_trans G3.out G6.out
    have hg2 : w3.heap[w.heap.size]? = some (ibox false (.slice none 0 0)) := by rw [hg1.block _ (by omega) (by simp)]; exact hnew.out
    have hb2 : w.heap.size + 1 ≤ b2 := by have := G1.out; rw [← hs]; exact this
    have hb3 : w.heap.size + 1 ≤ b3 := by
      have h1 := G4.out
      have h2 : (w.alloc (ibox false (.slice none 0 0))).heap.size ≤ w2.heap.size := G3.out.size
      omega
    have HEX := Hq0 (Exp_ten hg2 (G2.out.c.same G6.out) G5.out.c (by omega) (by omega) (by omega) h (HK.out.same (grown_trans hga.out hg1)))
    have HG := Hq0 (grown_trans hga.out hg1)
    clear hs hg1 hg2 hb2 hb3
    go_wp2_with (fail)
    refine HEX.out.mono ?_
    rintro e w4 ⟨rfl, v4, hb4, hg4⟩
    have HF : Hid (IntNew w w4 (.returned (.pointer (some ⟨w.heap.size, 0, none⟩))) (10 ^ n)) := ⟨_, v4, rfl, Nat.le_refl _, hb4, Grown2.new HG.out hg4.toGrown2 (Nat.le_refl _)⟩
    clear hb4 hg4 HEX
    go_wp2
    go_ret
    exact HF.out
end Go.Proofs.YtjcfacinlgogaaaGreatDoor
