/- Whole numbers: products into a new number. Conditions: one factor of fewer than 40 words. Whole numbers: squares and products, Int.Mul. Conditions: one factor of fewer than 40 words, a square's root of fewer than 12. -/
import Derived.Lib.AppendZeros
import Derived.Test.YtjcfacinlgogaaaGreatDoorQ08
import Derived.Test.YtjcfacinlgogaaaGreatDoorQ11
set_option linter.all false
set_option maxHeartbeats 2000000
set_option maxRecDepth 100000
namespace Go.Proofs.YtjcfacinlgogaaaGreatDoor
open Go.RowKit
theorem takeD {P : Program} {md : Region.Mode} {ops : Array Oper} {Q : Exit → Act → World → Prop} {S : World → Prop} {i : Nat} {oi : Oper} {dst : Option Tmp} {v : Value} {fuel : Nat} {listed : Array Bool} {a : Act} {w : World} (hi : ops[i]? = some oi) (hd : oi.dst = dst)
    (hs : Region.noSelect ops = true) (hf : Region.free md ops listed i = true) (hr : (Region.ready md ops listed).contains i = true)
    (hQ : ∀ c a w, Q (.panic c) (a.put oi.dst v) w → Q (.panic c) a w) (hy : YieldsIf P ops S oi v a) (hS : S w)
    (h : wpAnyH P md ops Q S fuel (listed.setIfInBounds i true) (a.put dst v) w) : wpAnyH P md ops Q S (fuel + 1) listed a w := by
  subst hd
  exact wpAnyH_take hi hs hf hr hQ hy hS h
structure GrF (w w' : World) (b : Nat) (v : Value) : Prop extends Grown2 w w' b none where
  fr : ∀ k, v.ownBlock = some k → w.heap.size ≤ k
theorem mulI_any {w : World} {bz bx ox by_ oy : Nat} {x y : Value} {nx ny : Int} (stk : Value) (hz : w.heap[bz]? = some (ibox false (.slice none 0 0))) (hx : IntC w bx ox x nx) (hy : IntC w by_ oy y ny)
    (h1 : bx ≠ bz) (h2 : by_ ≠ bz) (h3 : (⟨bx, ox, none⟩ : Addr) ≠ ⟨by_, oy, none⟩) (h6 : (nx.natAbs : Int) < B64 ^ 39 ∨ (ny.natAbs : Int) < B64 ^ 39) (hK : TabK w) (h7 : ((nx * ny).natAbs : Int) < B64 ^ 1000) :
    Calls Tryz.prog 114 #[.pointer (some ⟨bz, 0, none⟩), stk, .pointer (some ⟨bx, ox, none⟩), .pointer (some ⟨by_, oy, none⟩)] w fun e w' => e = .returned (.tuple #[]) ∧ ∃ v', IntBox w' bz v' (nx * ny) ∧ GrF w w' bz v' := by
  obtain ⟨x1, x2, xo, lx, hnx, wx, nlx, hvx, hlx⟩ := hx
  obtain ⟨y1, y2, yo, ly, hny, wy, nly, hvy, hly⟩ := hy
  obtain ⟨c0, c1, f0, f1⟩ := cell_ibox hz
  have E := (ptr_eql_other (wx := w) h3 xo yo).1
  have h40 : lx.length < 40 ∨ ly.length < 40 := by
    rcases h6 with h | h
    · left; have := len_lt nlx wx (n := 39) (by rw [hvx]; exact h); omega
    · right; have := len_lt nly wy (n := 39) (by rw [hvy]; exact h); omega
  have HX := Hq0 hnx; have HY := Hq0 hny; have HVX := Hq0 hvx; have HVY := Hq0 hvy; have HZ := Hq0 hz
  have HMU := Hq0 (mul_any stk (IsNat.nil w.drew) (hnx.draw 1) (hny.draw 1) wx wy hlx hly h40 (hK.same (grown_dw w)))
  obtain ⟨_, _, xo'⟩ := xo
  obtain ⟨_, _, yo'⟩ := yo
  have ltx : bx < w.heap.size := (Array.getElem?_eq_some_iff.1 xo').1
  have lty : by_ < w.heap.size := (Array.getElem?_eq_some_iff.1 yo').1
  have ltz : bz < w.heap.size := (Array.getElem?_eq_some_iff.1 hz).1
  have Hne1 := Hq0 h1; have Hne2 := Hq0 h2; have H7 := Hq0 h7
  have X1 := Hq0 x1; have Y1 := Hq0 y1
  obtain ⟨xa, xc, rfl⟩ := hnx.slice
  obtain ⟨ya, yc, rfl⟩ := hny.slice
  clear hnx hny hvx hvy hz xo' yo' h1 h2 h3 h7 x1 y1 h6 h40 hK
  go_enter Tryz.func114, Tryz.ntmps114
  go_upto_region 3 with fail
  go_cut [] from 27 to 43 (fun wx => ∃ sa l1 sc, wx.heap[bz]? = some (ibox false (.slice sa l1.length sc)) ∧ Grown2 w wx bz none ∧ IsNat wx (.slice sa l1.length sc) l1 ∧ wfL l1 ∧ Nrm l1 ∧ val l1 = val lx * val ly ∧ ∀ k, (Value.slice sa l1.length sc).ownBlock = some k → w.heap.size ≤ k)
  case first =>
    go_region_with (go_at_call 139; refine HMU.out.mono ?_; rintro e w1 ⟨v1, l1, rfl, hres, wl1, nl1, hv1⟩; obtain ⟨sa, sc, rfl⟩ := hres.nat.slice; have e1 : w1.heap[bz]? = some (ibox false (.slice none 0 0)) := (hres.grown.block bz ltz (by simp [Value.ownBlock])).trans HZ.out; obtain ⟨_, d1, _, d2⟩ := cell_ibox e1; have HR := Hq0 hres; have H1 := Hq0 e1; have HV1 := Hq0 hv1; clear hres e1 hv1)
    all_goals
      have e2 := set_ibox1 H1.out (.slice sa l1.length sc)
      have g := grown_set2 (b := bz) HR.out.grown 1 (.slice sa l1.length sc)
      have hb := isNat_ibox H1.out HR.out.nat
      have HF := Hq0 (show _ ∧ _ ∧ _ from ⟨e2, (⟨g.os, g.tape, g.output, g.size, g.block⟩ : Grown2 w _ bz none), HR.out.nat.set hb 1 (.slice sa l1.length sc)⟩)
      clear e2 g hb
      go_wp2_with (fail)
      go_meet
      exact ⟨sa, l1, sc, HF.out.1, HF.out.2.1, HF.out.2.2, wl1, nl1, HV1.out, fun k hk => (HR.out.own k hk).resolve_left (by simp [Value.ownBlock])⟩
  case rest =>
    obtain ⟨sa, l1, sc, e2, g, hn, wl1, nl1, hv1, hown⟩ := hcut
    have HOW := Hq0 hown
    clear hown
    rw [HVX.out, HVY.out, show ((nx.natAbs : Int) * ny.natAbs) = (nx * ny).natAbs by rw [Int.natAbs_mul]; simp] at hv1
    have hsg := mul_sign nl1 wl1 hv1
    have HVL := Hq0 hv1
    have x1' : wc.cell? ⟨bx, ox, none⟩ = some (.bool (decide (nx < 0))) := by rw [World.cell?_of_block (g.block bx ltx Hne1.out (by simp))]; exact X1.out
    have y1' : wc.cell? ⟨by_, oy, none⟩ = some (.bool (decide (ny < 0))) := by rw [World.cell?_of_block (g.block by_ lty Hne2.out (by simp))]; exact Y1.out
    obtain ⟨d0, d1, d2, d3⟩ := cell_ibox e2
    have hlen : l1.length ≤ 10000000000 := Nat.le_trans (len_lt nl1 wl1 (n := 1000) (by rw [hv1]; exact H7.out)) (by omega)
    have hf := IntBox.fresh (n := nx * ny) (set_ibox0 e2 (decide (nx * ny < 0))) rfl (hn.set (isNat_ibox e2 hn) 0 (.bool (decide (nx * ny < 0)))) wl1 nl1 hv1 hlen
    have HF := Hq0 hf
    have HG := Hq0 (g.set 0 (.bool (decide (nx * ny < 0))))
    rw [hsg] at HF HG
    have e2' := e2
    clear e2 g hn hv1 hf hsg X1 Y1 HX HY HZ HMU
    generalize decide (nx < 0) = sx at *
    generalize decide (ny < 0) = sy at *
    have hl0 : (0 : Int) < l1.length ∨ l1 = [] := by
      rcases Nat.eq_zero_or_pos l1.length with h | h
      · exact .inr (List.eq_nil_of_length_eq_zero h)
      · exact .inl (by omega)
    rcases hl0 with hl | hl
    rotate_left
    · subst hl
      have HE : Hid (wc.drew.heap[bz]? = some (ibox false (.slice sa 0 sc))) := e2'
      simp only [List.length_nil, Int.natCast_zero, Int.lt_irrefl, decide_false, Bool.false_and] at *
      go_upto_region 4 with (fail)
      refine wp_region_held_drew (S := (fun w' => ∃ g, w'.heap[bz]? = some (ibox g (.slice sa 0 sc)))) (by kernel_rfl) ?_ (fun hHeld => ?_)
      · exact ⟨_, by first | exact HE.out | exact set_ibox0 HE.out _⟩
      refine takeD (dst := (some 44)) (v := ?_) (i := 0) rfl rfl (by kernel_rfl) (by kernel_rfl) (by kernel_rfl) (fun _ _ _ h => h) (Or.inl ⟨by rfl, ?_⟩) (by assumption) ?_
      rotate_left
      · (intro w hSw; (try dsimp only at hSw); (obtain ⟨g, hg⟩ := hSw; obtain ⟨q0, q1, q2, q3⟩ := cell_ibox hg); go_simp; try with_reducible rfl)
      try simp only [Act.put, List.setIfInBounds_toArray, List.set_cons_zero, List.set_cons_succ]
      refine takeD (dst := (some 45)) (v := ?_) (i := 1) rfl rfl (by kernel_rfl) (by kernel_rfl) (by kernel_rfl) (fun _ _ _ h => h) (Or.inl ⟨by rfl, ?_⟩) (by assumption) ?_
      rotate_left
      · (intro w hSw; (try dsimp only at hSw); (obtain ⟨g, hg⟩ := hSw; obtain ⟨q0, q1, q2, q3⟩ := cell_ibox hg); go_simp; try with_reducible rfl)
      try simp only [Act.put, List.setIfInBounds_toArray, List.set_cons_zero, List.set_cons_succ]
      refine takeD (dst := (some 46)) (v := ?_) (i := 2) rfl rfl (by kernel_rfl) (by kernel_rfl) (by kernel_rfl) (fun _ _ _ h => h) (Or.inl ⟨by rfl, ?_⟩) (by assumption) ?_
      rotate_left
      · (intro w hSw; (try dsimp only at hSw); (obtain ⟨g, hg⟩ := hSw; obtain ⟨q0, q1, q2, q3⟩ := cell_ibox hg); go_simp; try with_reducible rfl)
      try simp only [Act.put, List.setIfInBounds_toArray, List.set_cons_zero, List.set_cons_succ]
      refine takeD (dst := (some 47)) (v := ?_) (i := 3) rfl rfl (by kernel_rfl) (by kernel_rfl) (by kernel_rfl) (fun _ _ _ h => h) (Or.inl ⟨by rfl, ?_⟩) (by assumption) ?_
      rotate_left
      · (intro w hSw; (try dsimp only at hSw); (obtain ⟨g, hg⟩ := hSw; obtain ⟨q0, q1, q2, q3⟩ := cell_ibox hg); go_simp; try with_reducible rfl)
      try simp only [Act.put, List.setIfInBounds_toArray, List.set_cons_zero, List.set_cons_succ]
      refine takeD (dst := (some 48)) (v := ?_) (i := 4) rfl rfl (by kernel_rfl) (by kernel_rfl) (by kernel_rfl) (fun _ _ _ h => h) (Or.inl ⟨by rfl, ?_⟩) (by assumption) ?_
      rotate_left
      · (intro w hSw; (try dsimp only at hSw); (obtain ⟨g, hg⟩ := hSw; obtain ⟨q0, q1, q2, q3⟩ := cell_ibox hg); go_simp; try with_reducible rfl)
      try simp only [Act.put, List.setIfInBounds_toArray, List.set_cons_zero, List.set_cons_succ]
      refine takeD (dst := (some 49)) (v := ?_) (i := 5) rfl rfl (by kernel_rfl) (by kernel_rfl) (by kernel_rfl) (fun _ _ _ h => h) (Or.inl ⟨by rfl, ?_⟩) (by assumption) ?_
      rotate_left
      · (intro w hSw; (try dsimp only at hSw); (obtain ⟨g, hg⟩ := hSw; obtain ⟨q0, q1, q2, q3⟩ := cell_ibox hg); go_simp; try with_reducible rfl)
      try simp only [Act.put, List.setIfInBounds_toArray, List.set_cons_zero, List.set_cons_succ]
      refine takeD (dst := (some 50)) (v := ?_) (i := 6) rfl rfl (by kernel_rfl) (by kernel_rfl) (by kernel_rfl) (fun _ _ _ h => h) (Or.inl ⟨by rfl, ?_⟩) (by assumption) ?_
      rotate_left
      · (intro w hSw; (try dsimp only at hSw); (obtain ⟨g, hg⟩ := hSw; obtain ⟨q0, q1, q2, q3⟩ := cell_ibox hg); go_simp; try with_reducible rfl)
      try simp only [Act.put, List.setIfInBounds_toArray, List.set_cons_zero, List.set_cons_succ]
      refine takeD (dst := (some 51)) (v := ?_) (i := 7) rfl rfl (by kernel_rfl) (by kernel_rfl) (by kernel_rfl) (fun _ _ _ h => h) (Or.inl ⟨by rfl, ?_⟩) (by assumption) ?_
      rotate_left
      · (intro w hSw; (try dsimp only at hSw); (obtain ⟨g, hg⟩ := hSw; obtain ⟨q0, q1, q2, q3⟩ := cell_ibox hg); go_simp; try with_reducible rfl)
      try simp only [Act.put, List.setIfInBounds_toArray, List.set_cons_zero, List.set_cons_succ]
      refine takeD (dst := (some 52)) (v := undef) (i := 8) rfl rfl (by kernel_rfl) (by kernel_rfl) (by kernel_rfl) (fun _ _ _ h => h) (Or.inr ⟨by kernel_rfl, rfl⟩) (by assumption) ?_
      try simp only [Act.put, List.setIfInBounds_toArray, List.set_cons_zero, List.set_cons_succ]
      refine takeD (dst := (some 53)) (v := undef) (i := 9) rfl rfl (by kernel_rfl) (by kernel_rfl) (by kernel_rfl) (fun _ _ _ h => h) (Or.inr ⟨by kernel_rfl, rfl⟩) (by assumption) ?_
      try simp only [Act.put, List.setIfInBounds_toArray, List.set_cons_zero, List.set_cons_succ]
      refine takeD (dst := (some 54)) (v := undef) (i := 10) rfl rfl (by kernel_rfl) (by kernel_rfl) (by kernel_rfl) (fun _ _ _ h => h) (Or.inr ⟨by kernel_rfl, rfl⟩) (by assumption) ?_
      try simp only [Act.put, List.setIfInBounds_toArray, List.set_cons_zero, List.set_cons_succ]
      refine takeD (dst := (some 55)) (v := undef) (i := 11) rfl rfl (by kernel_rfl) (by kernel_rfl) (by kernel_rfl) (fun _ _ _ h => h) (Or.inr ⟨by kernel_rfl, rfl⟩) (by assumption) ?_
      try simp only [Act.put, List.setIfInBounds_toArray, List.set_cons_zero, List.set_cons_succ]
      refine takeD (dst := (some 56)) (v := undef) (i := 12) rfl rfl (by kernel_rfl) (by kernel_rfl) (by kernel_rfl) (fun _ _ _ h => h) (Or.inr ⟨by kernel_rfl, rfl⟩) (by assumption) ?_
      try simp only [Act.put, List.setIfInBounds_toArray, List.set_cons_zero, List.set_cons_succ]
      refine takeD (dst := (some 57)) (v := undef) (i := 13) rfl rfl (by kernel_rfl) (by kernel_rfl) (by kernel_rfl) (fun _ _ _ h => h) (Or.inr ⟨by kernel_rfl, rfl⟩) (by assumption) ?_
      try simp only [Act.put, List.setIfInBounds_toArray, List.set_cons_zero, List.set_cons_succ]
      refine takeD (dst := (some 58)) (v := undef) (i := 14) rfl rfl (by kernel_rfl) (by kernel_rfl) (by kernel_rfl) (fun _ _ _ h => h) (Or.inr ⟨by kernel_rfl, rfl⟩) (by assumption) ?_
      try simp only [Act.put, List.setIfInBounds_toArray, List.set_cons_zero, List.set_cons_succ]
      refine takeD (dst := (some 59)) (v := undef) (i := 15) rfl rfl (by kernel_rfl) (by kernel_rfl) (by kernel_rfl) (fun _ _ _ h => h) (Or.inr ⟨by kernel_rfl, rfl⟩) (by assumption) ?_
      try simp only [Act.put, List.setIfInBounds_toArray, List.set_cons_zero, List.set_cons_succ]
      refine takeD (dst := (some 60)) (v := undef) (i := 16) rfl rfl (by kernel_rfl) (by kernel_rfl) (by kernel_rfl) (fun _ _ _ h => h) (Or.inr ⟨by kernel_rfl, rfl⟩) (by assumption) ?_
      try simp only [Act.put, List.setIfInBounds_toArray, List.set_cons_zero, List.set_cons_succ]
      refine takeD (dst := (some 61)) (v := ?_) (i := 17) rfl rfl (by kernel_rfl) (by kernel_rfl) (by kernel_rfl) (fun _ _ _ h => h) (Or.inl ⟨by rfl, ?_⟩) (by assumption) ?_
      rotate_left
      · (intro w hSw; (try dsimp only at hSw); (obtain ⟨g, hg⟩ := hSw; obtain ⟨q0, q1, q2, q3⟩ := cell_ibox hg); go_simp; try with_reducible rfl)
      try simp only [Act.put, List.setIfInBounds_toArray, List.set_cons_zero, List.set_cons_succ]
      refine takeD (dst := (some 62)) (v := ?_) (i := 18) rfl rfl (by kernel_rfl) (by kernel_rfl) (by kernel_rfl) (fun _ _ _ h => h) (Or.inl ⟨by rfl, ?_⟩) (by assumption) ?_
      rotate_left
      · (intro w hSw; (try dsimp only at hSw); (obtain ⟨g, hg⟩ := hSw; obtain ⟨q0, q1, q2, q3⟩ := cell_ibox hg); go_simp; try with_reducible rfl)
      try simp only [Act.put, List.setIfInBounds_toArray, List.set_cons_zero, List.set_cons_succ]
      refine takeD (dst := (some 63)) (v := ?_) (i := 19) rfl rfl (by kernel_rfl) (by kernel_rfl) (by kernel_rfl) (fun _ _ _ h => h) (Or.inl ⟨by rfl, ?_⟩) (by assumption) ?_
      rotate_left
      · (intro w hSw; (try dsimp only at hSw); (obtain ⟨g, hg⟩ := hSw; obtain ⟨q0, q1, q2, q3⟩ := cell_ibox hg); go_simp; try with_reducible rfl)
      try simp only [Act.put, List.setIfInBounds_toArray, List.set_cons_zero, List.set_cons_succ]
      refine wpAnyH_ready (rs := [20]) (by kernel_rfl) (by simp) ?_
      refine AllReadyH.cons rfl (fun K hK => ?_) AllReadyH.nil
      go_simp
      refine hK.out _ _ ?_ (fun hHeld => ?_)
      · exact ⟨_, by first | exact HE.out | exact set_ibox0 HE.out _⟩
      clear hK K
      try simp only [Act.put, List.setIfInBounds_toArray, List.set_cons_zero, List.set_cons_succ]
      refine wpAnyH_done (by kernel_rfl) ?_ _
      go_wp2_with (fail)
      first | (refine bodyPost_end (results_none rfl _ _ _) rfl ?_) | (refine bodyPost_ret (results_none rfl _ _ _) rfl ?_)
      exact ⟨rfl, _, by have h := HF.out.draw 1; exact h, ⟨by have h := HG.out.draw 1; exact h, by exact HOW.out⟩⟩
    generalize l1.length = n1 at *
    clear wl1 nl1
    have hl2 : 0 < n1 := by omega
    have ed : decide ((0 : Int) < n1) = true := decide_eq_true hl
    rw [ed, Bool.true_and] at HF HG
    go_wp2_with (fail)
    go_still_tail 20, (by kernel_rfl)
    change wpList _ _ _ _ _ (World.drew _)
    go_wp2
    first | (refine bodyPost_end (results_none rfl _ _ _) rfl ?_) | (refine bodyPost_ret (results_none rfl _ _ _) rfl ?_)
    exact ⟨rfl, _, by have h := HF.out.draw 1; exact h, ⟨by have h := HG.out.draw 1; exact h, by exact HOW.out⟩⟩
end Go.Proofs.YtjcfacinlgogaaaGreatDoor
namespace Go.Proofs.YtjcfacinlgogaaaGreatDoor
open Go.RowKit
theorem ptr_eql_same (a : Addr) (wx : World) : (binOp .eql 54 (.pointer (some a)) (.pointer (some a))).run Tryz.prog wx = .ok (.bool true) wx := by
  obtain ⟨j, hj, _⟩ := inf90
  have h : ∀ d : Nat, (Op.equalIn (d + 1) 54 (.pointer (some a)) (.pointer (some a))).run Tryz.prog wx = .ok true wx := fun d => by
    simp [Op.equalIn, run_underlying und51, sizeOf, typeInfo, hj, run_sameAddr_same]
  simp only [binOp]
  simp [Op.equal, Op.maxDepth, h 9999]
theorem mulI_sq {w : World} {bz bx ox : Nat} {x : Value} {nx : Int} (stk : Value) (hz : w.heap[bz]? = some (ibox false (.slice none 0 0))) (hx : IntC w bx ox x nx) (h1 : bx ≠ bz) (h6 : (nx.natAbs : Int) < B64 ^ 11) (hK : TabK w) :
    Calls Tryz.prog 114 #[.pointer (some ⟨bz, 0, none⟩), stk, .pointer (some ⟨bx, ox, none⟩), .pointer (some ⟨bx, ox, none⟩)] w fun e w' => e = .returned (.tuple #[]) ∧ ∃ v', IntBox w' bz v' (nx * nx) ∧ GrF w w' bz v' := by
  obtain ⟨x1, x2, xo, lx, hnx, wx, nlx, hvx, hlx⟩ := hx
  obtain ⟨c0, c1, f0, f1⟩ := cell_ibox hz
  have E := ptr_eql_same (⟨bx, ox, none⟩ : Addr)
  have h12 : lx.length < 12 := by have := len_lt nlx wx (n := 11) (by rw [hvx]; exact h6); omega
  have HMU := Hq0 (sqr_any stk (IsNat.nil w.drew) (hnx.draw 1) wx h12 (hK.same (grown_dw w)))
  have HX := Hq0 hnx; have HVX := Hq0 hvx; have HZ := Hq0 hz
  obtain ⟨_, _, xo'⟩ := xo
  have ltz : bz < w.heap.size := (Array.getElem?_eq_some_iff.1 hz).1
  have H6 := Hq0 h6
  obtain ⟨xa, xc, rfl⟩ := hnx.slice
  clear hnx hvx hz xo' h1 h6 h12 hK x1
  go_enter Tryz.func114, Tryz.ntmps114
  go_upto_region 1 with fail
  go_cut [] from 11 to 23 (fun wx => ∃ sa l1 sc, wx.heap[bz]? = some (ibox false (.slice sa l1.length sc)) ∧ Grown2 w wx bz none ∧ IsNat wx (.slice sa l1.length sc) l1 ∧ wfL l1 ∧ Nrm l1 ∧ val l1 = val lx * val lx ∧ ∀ k, (Value.slice sa l1.length sc).ownBlock = some k → w.heap.size ≤ k)
  case first =>
    go_region_with (go_at_call 138; refine HMU.out.mono ?_; rintro e w1 ⟨v1, l1, rfl, hres, wl1, nl1, hv1⟩; obtain ⟨sa, sc, rfl⟩ := hres.nat.slice; have e1 : w1.heap[bz]? = some (ibox false (.slice none 0 0)) := (hres.grown.block bz ltz (by simp [Value.ownBlock])).trans HZ.out; obtain ⟨_, d1, _, d2⟩ := cell_ibox e1; have HR := Hq0 hres; have H1 := Hq0 e1; have HV1 := Hq0 hv1; clear hres e1 hv1)
    all_goals
      have e2 := set_ibox1 H1.out (.slice sa l1.length sc)
      have g := grown_set2 (b := bz) HR.out.grown 1 (.slice sa l1.length sc)
      have hb := isNat_ibox H1.out HR.out.nat
      have HF := Hq0 (show _ ∧ _ ∧ _ from ⟨e2, (⟨g.os, g.tape, g.output, g.size, g.block⟩ : Grown2 w _ bz none), HR.out.nat.set hb 1 (.slice sa l1.length sc)⟩)
      clear e2 g hb
      go_wp2_with (fail)
      go_meet
      exact ⟨sa, l1, sc, HF.out.1, HF.out.2.1, HF.out.2.2, wl1, nl1, HV1.out, fun k hk => (HR.out.own k hk).resolve_left (by simp [Value.ownBlock])⟩
  case rest =>
    obtain ⟨sa, l1, sc, e2, g, hn, wl1, nl1, hv1, hown⟩ := hcut
    have HOW := Hq0 hown
    clear hown
    rw [HVX.out, show ((nx.natAbs : Int) * nx.natAbs) = (nx * nx).natAbs by rw [Int.natAbs_mul]; simp] at hv1
    obtain ⟨d0, d1, d2, d3⟩ := cell_ibox e2
    have hsq : decide (nx * nx < 0) = false := by
      have : 0 ≤ nx * nx := by
        rcases Int.le_total 0 nx with h | h
        · exact Int.mul_nonneg h h
        · exact Int.mul_nonneg_of_nonpos_of_nonpos h h
      simp; omega
    have hlen : l1.length ≤ 10000000000 := by
      have h2 : ((nx * nx).natAbs : Int) < B64 ^ 22 := by
        have e : ((nx * nx).natAbs : Int) = (nx.natAbs : Int) * nx.natAbs := by rw [Int.natAbs_mul]; simp
        rw [e]
        have h3 := H6.out
        have hp : (0 : Int) < B64 ^ 11 := B64_pow_pos 11
        have h4 : B64 ^ 22 = B64 ^ 11 * B64 ^ 11 := by rw [← Int.pow_add]
        rw [h4]
        generalize (B64 : Int) ^ 11 = t at *
        exact Int.lt_of_le_of_lt (Int.mul_le_mul_of_nonneg_left (by omega) (by omega)) (Int.mul_lt_mul_of_pos_right h3 hp)
      exact Nat.le_trans (len_lt nl1 wl1 (n := 22) (by rw [hv1]; exact h2)) (by omega)
    have hf := IntBox.fresh (n := nx * nx) (set_ibox0 e2 false) hsq.symm (hn.set (isNat_ibox e2 hn) 0 (.bool false)) wl1 nl1 hv1 hlen
    have HF := Hq0 hf
    have HG := Hq0 (g.set 0 (.bool false))
    clear e2 g hn hv1 hf hsq HX HZ HMU hlen
    go_wp2_with (fail)
    first | (refine bodyPost_end (results_none rfl _ _ _) rfl ?_) | (refine bodyPost_ret (results_none rfl _ _ _) rfl ?_)
    exact ⟨rfl, _, HF.out, ⟨HG.out, HOW.out⟩⟩
def MuRes (w : World) (bz : Nat) (n : Int) (e : Ending) (w' : World) : Prop := e = .returned (.pointer (some ⟨bz, 0, none⟩)) ∧ ∃ v', IntBox w' bz v' n ∧ GrF w w' bz v'
theorem Mul_any {w : World} {bz bx ox by_ oy : Nat} {x y : Value} {nx ny : Int} (hz : w.heap[bz]? = some (ibox false (.slice none 0 0))) (hx : IntC w bx ox x nx) (hy : IntC w by_ oy y ny)
    (h1 : bx ≠ bz) (h2 : by_ ≠ bz) (h3 : (⟨bx, ox, none⟩ : Addr) ≠ ⟨by_, oy, none⟩) (h6 : (nx.natAbs : Int) < B64 ^ 39 ∨ (ny.natAbs : Int) < B64 ^ 39) (hK : TabK w) (h7 : ((nx * ny).natAbs : Int) < B64 ^ 1000) :
    Calls Tryz.prog 89 #[.pointer (some ⟨bz, 0, none⟩), .pointer (some ⟨bx, ox, none⟩), .pointer (some ⟨by_, oy, none⟩)] w fun e w' => MuRes w bz (nx * ny) e w' := by
  have HM := Hq0 (mulI_any (.pointer none) hz hx hy h1 h2 h3 h6 hK h7)
  clear hz hx hy h1 h2 h3 h6 hK h7
  go_enter Tryz.func89, Tryz.ntmps89
  go_wp2_with (fail)
  refine HM.out.mono ?_
  rintro e w1 ⟨rfl, v', hb, hg⟩
  have HB := Hq0 hb; have HG := Hq0 hg
  clear hb hg
  go_wp2
  go_ret
  exact ⟨rfl, v', HB.out, HG.out⟩
theorem MulSq_any {w : World} {bz bx ox : Nat} {x : Value} {nx : Int} (hz : w.heap[bz]? = some (ibox false (.slice none 0 0))) (hx : IntC w bx ox x nx) (h1 : bx ≠ bz) (h6 : (nx.natAbs : Int) < B64 ^ 11) (hK : TabK w) :
    Calls Tryz.prog 89 #[.pointer (some ⟨bz, 0, none⟩), .pointer (some ⟨bx, ox, none⟩), .pointer (some ⟨bx, ox, none⟩)] w fun e w' => MuRes w bz (nx * nx) e w' := by
  have HM := Hq0 (mulI_sq (.pointer none) hz hx h1 h6 hK)
  clear hz hx h1 h6 hK
  go_enter Tryz.func89, Tryz.ntmps89
  go_wp2_with (fail)
  refine HM.out.mono ?_
  rintro e w1 ⟨rfl, v', hb, hg⟩
  have HB := Hq0 hb; have HG := Hq0 hg
  clear hb hg
  go_wp2
  go_ret
  exact ⟨rfl, v', HB.out, HG.out⟩
end Go.Proofs.YtjcfacinlgogaaaGreatDoor
