/- Whole numbers behind a pointer: set, the amount, the opposite. Products by one word; numbers of given words. Powers of ten. Decimals: their number and exponent; powers as machine integers. Numbers of given words. Floating point: what the model stands in for. Floating point at a few values. The logarithm of ten. How many digits a decimal has: at most twenty. -/
import Derived.Test.YtndphemomhcjlaaGreatDoorQ10
import Derived.Deep.RegionWith
import Derived.Deep.CutBlock
import Derived.StillTailTactics
set_option linter.all false

namespace Go.Proofs.YtndphemomhcjlaaGreatDoor
open Go.RowKit

/-- w' is w with new blocks, and with writes to the blocks b and r alone -/
structure Grown2 (w w' : World) (b : Nat) (r : Option Nat) : Prop where
  os : w'.os = w.os
  tape : w'.tape = w.tape
  output : w'.output = w.output
  size : w.heap.size ≤ w'.heap.size
  block : ∀ i, i < w.heap.size → i ≠ b → some i ≠ r → w'.heap[i]? = w.heap[i]?
theorem Grown2.one {w w' : World} {b : Nat} (h : Grown2 w w' b none) : w.grownBy w' (some b) :=
  ⟨h.os, h.tape, h.output, h.size, fun i hi hn => h.block i hi (fun e => hn (by rw [e])) (by simp)⟩
theorem isNat_bool {w : World} {b o : Nat} {g : Bool} {v : Value} {l : List Int} (h : w.cell? ⟨b, o, none⟩ = some (.bool g)) (hn : IsNat w v l) : v.ownBlock ≠ some b := by
  intro e
  rcases hn with ⟨rfl, _⟩ | ⟨c, cap, M, rfl, hc, _⟩
  · simp [Value.ownBlock] at e
  · simp [Value.ownBlock] at e; subst e
    simp only [World.cell?, hc, blk, Option.isSome_none, Bool.false_eq_true, if_false, List.getElem?_toArray, List.getElem?_map] at h
    cases hq : (l ++ M)[o]? with
    | none => rw [hq] at h; simp at h
    | some x => rw [hq] at h; simp at h
theorem grown_set2 {w w1 : World} {b : Nat} {r : Option Nat} (g : w.grownBy w1 r) (o : Nat) (v : Value) : Grown2 w (w1.setCell ⟨b, o, none⟩ v) b r :=
  ⟨g.os, g.tape, g.output, by simp [World.setCell]; exact g.size, fun i hi h1 h2 => by rw [Below.heap_setCell _ _ _ _ h1]; exact g.block i hi h2⟩
theorem Grown2.set {w w1 : World} {b : Nat} {r : Option Nat} (g : Grown2 w w1 b r) (o : Nat) (v : Value) : Grown2 w (w1.setCell ⟨b, o, none⟩ v) b r :=
  ⟨g.os, g.tape, g.output, by simp [World.setCell]; exact g.size, fun i hi h1 h2 => by rw [Below.heap_setCell _ _ _ _ h1]; exact g.block i hi h1 h2⟩
theorem Grown2.draw {w w1 : World} {b : Nat} {r : Option Nat} (g : Grown2 w w1 b r) (q : Nat) : Grown2 w (w1.drewN q) b r := ⟨g.os, g.tape, g.output, g.size, g.block⟩

theorem IsNat.draw {w : World} {v : Value} {l : List Int} (h : IsNat w v l) (q : Nat) : IsNat (w.drewN q) v l := h.grown0 (grown_drewN w q)

theorem IsNat.set {w : World} {v : Value} {l : List Int} (h : IsNat w v l) {b : Nat} (hb : v.ownBlock ≠ some b) (o : Nat) (u : Value) : IsNat (w.setCell ⟨b, o, none⟩ u) v l := by
  rcases h with h | ⟨c, cap, M, rfl, hc, hm⟩
  · exact .inl h
  · refine .inr ⟨c, cap, M, rfl, ?_, hm⟩
    rw [Below.heap_setCell _ _ _ _ (by intro e; apply hb; simp [Value.ownBlock]; exact e)]; exact hc

set_option maxRecDepth 100000 in
theorem Set_any {w : World} {bz b o : Nat} {z v : Value} {n0 n : Int} (hz : IntBox w bz z n0) (hx : IntC w b o v n) (hne : b ≠ bz) :
    Calls Tryz.prog 68 #[.pointer (some ⟨bz, 0, none⟩), .pointer (some ⟨b, o, none⟩)] w fun e w' => e = .returned (.pointer (some ⟨bz, 0, none⟩)) ∧ ∃ v', IntBox w' bz v' n ∧ Grown2 w w' bz z.ownBlock ∧ ∀ k, v'.ownBlock = some k → some k = z.ownBlock ∨ w.heap.size ≤ k := by
  obtain ⟨h1, h2, ho, l, hn, wl, nl, hv, hlen⟩ := hx
  have hzc := hz.c
  obtain ⟨hz0, lz, hlz, _, _, _, hzlen⟩ := hz
  obtain ⟨c0, c1, f0, f1⟩ := cell_ibox hz0
  have E := (ptr_eql_other (wx := w) (a := ⟨bz, 0, none⟩) (b := ⟨b, o, none⟩) (by intro e; injection e with e; exact hne e.symm) hzc.obj ho).2
  have HN := Lib.hid hn; have HV := Lib.hid hv; have HZ := Lib.hid hlz; have H0 := Lib.hid hz0
  have HB := Lib.hid (isNat_bool h1 hlz)
  have HBz := Lib.hid (isNat_bool c0 hlz)
  have Hne := Lib.hid hne
  obtain ⟨_, _, ho'⟩ := ho
  have hlt : b < w.heap.size := (Array.getElem?_eq_some_iff.1 ho').1
  have hltz : bz < w.heap.size := (Array.getElem?_eq_some_iff.1 hz0).1
  clear hn hv hlz hz0 hzc ho' hne
  go_enter Tryz.func68, Tryz.ntmps68
  go_wp2_with (fail)
  go_region_with (go_at_call 78; refine (set_any (HZ.out.draw 1) (HN.out.draw 1) (by omega)).mono ?_; rintro e w1 ⟨v1, rfl, hres⟩; obtain ⟨sa, sc, rfl⟩ := hres.nat.slice; have e1 : w1.heap[bz]? = some (ibox (decide (n0 < 0)) z) := (hres.grown.block bz hltz (fun e => HBz.out e.symm)).trans H0.out; obtain ⟨_, d1, _, d2⟩ := cell_ibox e1; have HR := Lib.hid hres; have H1 := Lib.hid e1; clear hres e1)
  all_goals
    have e2 := set_ibox1 H1.out (.slice sa l.length sc)
    obtain ⟨d3, d4, d5, d6⟩ := cell_ibox e2
    have e3 := set_ibox0 e2 (decide (n < 0))
    have d7 : (w1.setCell ⟨bz, 1, none⟩ (.slice sa l.length sc)).cell? ⟨b, o, none⟩ = some (.bool (decide (n < 0))) := by
      rw [World.cell?_of_block (Below.heap_setCell _ _ _ _ Hne.out), World.cell?_of_block (HR.out.grown.block b hlt (fun e => HB.out e.symm))]; exact h1
    have HF : Hid (IntBox ((w1.setCell ⟨bz, 1, none⟩ (.slice sa l.length sc)).setCell ⟨bz, 0, none⟩ (.bool (decide (n < 0)))) bz (.slice sa l.length sc) n ∧ Grown2 w ((w1.setCell ⟨bz, 1, none⟩ (.slice sa l.length sc)).setCell ⟨bz, 0, none⟩ (.bool (decide (n < 0)))) bz z.ownBlock ∧ ∀ k, (Value.slice sa l.length sc).ownBlock = some k → some k = z.ownBlock ∨ w.heap.size ≤ k) := by
      have g := (grown_set2 (b := bz) HR.out.grown 1 (.slice sa l.length sc)).set 0 (.bool (decide (n < 0)))
      refine ⟨⟨e3, l, ?_, wl, nl, HV.out, hlen⟩, ⟨g.os, g.tape, g.output, g.size, g.block⟩, HR.out.own⟩
      have hb := isNat_ibox H1.out HR.out.nat
      exact (HR.out.nat.set hb _ _).set hb _ _
    clear e2 e3
    go_wp2
    go_ret
    exact ⟨rfl, _, HF.out⟩

theorem Set_same {w : World} {b o : Nat} {v : Value} {n : Int} (hz : IntC w b o v n) :
    Calls Tryz.prog 68 #[.pointer (some ⟨b, o, none⟩), .pointer (some ⟨b, o, none⟩)] w fun e w' => e = .returned (.pointer (some ⟨b, o, none⟩)) ∧ w = w' := by
  have E := ptr_neq_same ⟨b, o, none⟩ w
  clear hz
  go_enter Tryz.func68, Tryz.ntmps68
  go_wp2
  go_ret
  exact ⟨rfl, rfl⟩

theorem IntBox.neg {w : World} {b : Nat} {v : Value} {n : Int} (h : IntBox w b v n) (m : Int) (hm : m.natAbs = n.natAbs) : IntBox (w.setCell ⟨b, 0, none⟩ (.bool (decide (m < 0)))) b v m := by
  obtain ⟨h1, l, hn, wl, nl, hv, hlen⟩ := h
  exact ⟨set_ibox0 h1 _, l, hn.set (isNat_ibox h1 hn) _ _, wl, nl, by rw [hm]; exact hv, hlen⟩
theorem IntBox.draw {w : World} {b : Nat} {v : Value} {n : Int} (h : IntBox w b v n) (q : Nat) : IntBox (w.drewN q) b v n := by
  obtain ⟨h1, l, hn, hl⟩ := h
  exact ⟨h1, l, hn.draw q, hl⟩

theorem Abs_any {w : World} {bz b o : Nat} {z v : Value} {n0 n : Int} (hz : IntBox w bz z n0) (hx : IntC w b o v n) (hne : b ≠ bz) :
    Calls Tryz.prog 135 #[.pointer (some ⟨bz, 0, none⟩), .pointer (some ⟨b, o, none⟩)] w fun e w' => e = .returned (.pointer (some ⟨bz, 0, none⟩)) ∧ ∃ v', IntBox w' bz v' n.natAbs ∧ Grown2 w w' bz z.ownBlock ∧ ∀ k, v'.ownBlock = some k → some k = z.ownBlock ∨ w.heap.size ≤ k := by
  have H := Lib.hid (Set_any hz hx hne)
  clear hz hx
  go_enter Tryz.func135, Tryz.ntmps135
  go_wp2_with (fail)
  refine H.out.mono ?_
  rintro e w1 ⟨rfl, v1, hb, hg, hown⟩
  obtain ⟨c0, c1, f0, f1⟩ := cell_ibox hb.here
  have HB := Lib.hid (hb.neg n.natAbs (by simp))
  have e0 : decide ((n.natAbs : Int) < 0) = false := by simp
  rw [e0] at HB
  have HG := Lib.hid (hg.set 0 (.bool false))
  have HO := Lib.hid hown
  clear hb hg e0 hown
  generalize decide (n < 0) = g at *
  go_wp2
  go_ret
  exact ⟨rfl, _, HB.out, HG.out, HO.out⟩

theorem neg_sign {n : Int} {l : List Int} (nl : Nrm l) (wl : wfL l) (hv : val l = n.natAbs) : decide (-n < 0) = (decide (0 < (l.length : Int)) && !decide (n < 0)) := by
  have hnil := nl.nil_iff wl
  by_cases h0 : n = 0
  · subst h0
    have : l = [] := hnil.2 (by rw [hv]; rfl)
    subst this; simp
  · have h1 : l ≠ [] := fun e => h0 (by have := hnil.1 e; omega)
    have h2 : (0 : Int) < l.length := by
      cases l with
      | nil => exact absurd rfl h1
      | cons a t => simp
    simp only [h2, decide_true, Bool.true_and]
    by_cases hn : n < 0
    · simp [hn]; try omega
    · simp [hn]; try omega
/-- the opposite, in place -/
theorem Neg_same {w : World} {b : Nat} {v : Value} {n : Int} (hz : IntBox w b v n) :
    Calls Tryz.prog 41 #[.pointer (some ⟨b, 0, none⟩), .pointer (some ⟨b, 0, none⟩)] w fun e w' => e = .returned (.pointer (some ⟨b, 0, none⟩)) ∧ ∃ q, w' = (w.drewN q).setCell ⟨b, 0, none⟩ (.bool (decide (-n < 0))) := by
  have hc := Lib.hid hz.c
  obtain ⟨h1, l, hn, wl, nl, hv, hlen⟩ := hz
  obtain ⟨a, c, rfl⟩ := hn.slice
  obtain ⟨c0, c1, f0, f1⟩ := cell_ibox h1
  have HS := neg_sign nl wl hv
  clear hn hv h1
  generalize decide (n < 0) = g at *
  by_cases hl : (0 : Int) < l.length
  · have HS : Hid (decide (-n < 0) = !g) := Lib.hid (by rw [HS]; simp; omega)
    go_enter Tryz.func41, Tryz.ntmps41
    go_wp2_with (fail)
    refine (Set_same hc.out).mono ?_
    rintro e w1 ⟨rfl, rfl⟩
    go_wp2
    go_ret
    exact ⟨rfl, 0, by rw [HS.out]; rfl⟩
  · have HS : Hid (decide (-n < 0) = false) := Lib.hid (by rw [HS]; simp; omega)
    go_enter Tryz.func41, Tryz.ntmps41
    go_wp2_with (fail)
    refine (Set_same hc.out).mono ?_
    rintro e w1 ⟨rfl, rfl⟩
    go_wp2
    go_ret
    exact ⟨rfl, 0, by rw [HS.out]; rfl⟩
end Go.Proofs.YtndphemomhcjlaaGreatDoor

namespace Go.Proofs.YtndphemomhcjlaaGreatDoor
open Go.RowKit

set_option maxRecDepth 100000 in
/-- a product with one word -/
theorem mul_one {w : World} {z x y : Value} {lz lx : List Int} (stk : Value) (y0 : Int) (hz : IsNat w z lz) (hx : IsNat w x lx) (hy : IsNat w y [y0]) (wx : wfL lx) (h0 : lx ≠ []) (hn : lx.length ≤ 100000000000) (uy : U64 y0) :
    Calls Tryz.prog 104 #[z, stk, x, y] w fun e w' => NatVal w w' z.ownBlock e (val lx * y0) := by
  obtain ⟨b, cap, M, rfl, hb, hc, hm, hat, hown⟩ := hy.split (by simp)
  have g1 : w.cell? ⟨b, 0, none⟩ = some (.int .u64 y0) := hat 0 (by simp)
  have Hz := Lib.hid hz; have Hx := Lib.hid hx
  obtain ⟨xa, xc, rfl⟩ := hx.slice
  have hl1 : 1 ≤ lx.length := by cases lx with | nil => exact absurd rfl h0 | cons a l => simp
  have hlt : ¬ ((lx.length : Int) < 1) := by omega
  have hl0 : ((lx.length : Int) == 0) = false := by simp; omega
  clear hz hx hy hb hat hown h0
  go_enter Tryz.func104, Tryz.ntmps104
  go_wp2_with (fail)
  refine (mulAddWW_any y0 0 Hz.out Hx.out wx hn uy u0).mono ?_
  rintro e w1 ⟨v, l, rfl, hr, wl, nl, hv⟩
  rw [Int.add_zero] at hv
  have HR := Lib.hid hr; have HV := Lib.hid hv
  clear hr hv
  go_wp2
  go_ret
  exact ⟨_, _, rfl, HR.out, wl, nl, HV.out⟩

theorem mul_sign {x y : Int} {l : List Int} (nl : Nrm l) (wl : wfL l) (hv : val l = (x * y).natAbs) : decide (x * y < 0) = (decide (0 < (l.length : Int)) && (decide (x < 0) != decide (y < 0))) := by
  have hnil := nl.nil_iff wl
  by_cases h0 : x * y = 0
  · have : l = [] := hnil.2 (by rw [hv, h0]; rfl)
    rw [h0]; subst this; simp
  · have h1 : l ≠ [] := fun e => h0 (by have := hnil.1 e; omega)
    have h2 : (0 : Int) < l.length := by
      cases l with
      | nil => exact absurd rfl h1
      | cons a t => simp
    simp only [h2, decide_true, Bool.true_and]
    have hx0 : x ≠ 0 := fun e => h0 (by rw [e, Int.zero_mul])
    have hy0 : y ≠ 0 := fun e => h0 (by rw [e, Int.mul_zero])
    by_cases hx : x < 0 <;> by_cases hy : y < 0
    · have := Int.mul_pos_of_neg_of_neg hx hy
      simp [hx, hy]; omega
    · have := Int.mul_neg_of_neg_of_pos hx (show 0 < y by omega)
      simp [hx, hy]; omega
    · have := Int.mul_neg_of_pos_of_neg (show 0 < x by omega) hy
      simp [hx, hy]; omega
    · have := Int.mul_pos (show 0 < x by omega) (show 0 < y by omega)
      simp [hx, hy]; omega

theorem len_lt {l : List Int} (nl : Nrm l) (wl : wfL l) {n : Nat} (h : val l < B64 ^ n) : l.length ≤ n := by
  rcases Nat.lt_or_ge n l.length with h1 | h1
  · have h2 := val_ge nl wl (by omega)
    have h3 := pow_mono (a := n) (b := l.length - 1) (by omega)
    omega
  · exact h1
theorem len_one {l : List Int} (nl : Nrm l) (wl : wfL l) {n : Int} (h : val l = n) (h0 : n ≠ 0) (h1 : n < 18446744073709551616) : l = [n] := by
  have h2 := len_lt nl wl (n := 1) (by rw [h, Int.pow_one]; exact h1)
  match l, h2 with
  | [], _ => simp [val] at h; omega
  | [a], _ => simp [val] at h; rw [h]
set_option maxHeartbeats 1000000 in
set_option maxRecDepth 100000 in
/-- a product with a number of one word, into a new number -/
theorem mulI_one {w : World} {bz bx ox by_ oy : Nat} {x y : Value} {nx ny : Int} (stk : Value) (hz : w.heap[bz]? = some (ibox false (.slice none 0 0))) (hx : IntC w bx ox x nx) (hy : IntC w by_ oy y ny)
    (h1 : bx ≠ bz) (h2 : by_ ≠ bz) (h3 : (⟨bx, ox, none⟩ : Addr) ≠ ⟨by_, oy, none⟩) (h4 : nx ≠ 0) (h5 : ny ≠ 0) (h6 : ny.natAbs < 18446744073709551616) (h7 : ((nx * ny).natAbs : Int) < B64 ^ 1000) :
    Calls Tryz.prog 80 #[.pointer (some ⟨bz, 0, none⟩), stk, .pointer (some ⟨bx, ox, none⟩), .pointer (some ⟨by_, oy, none⟩)] w fun e w' => e = .returned (.tuple #[]) ∧ ∃ v', IntBox w' bz v' (nx * ny) ∧ Grown2 w w' bz none := by
  obtain ⟨x1, x2, xo, lx, hnx, wx, nlx, hvx, hlx⟩ := hx
  obtain ⟨y1, y2, yo, ly, hny, wy, nly, hvy, hly⟩ := hy
  obtain ⟨c0, c1, f0, f1⟩ := cell_ibox hz
  have E := (ptr_eql_other (wx := w) h3 xo yo).1
  obtain rfl := len_one nly wy hvy (by omega) (by omega)
  have hlx0 : lx ≠ [] := fun e => h4 (by rw [e] at hvx; simp [val] at hvx; omega)
  have HX := Lib.hid hnx; have HY := Lib.hid hny; have HVX := Lib.hid hvx; have HZ := Lib.hid hz
  have huy : U64 ny.natAbs := by unfold U64 B64; omega
  obtain ⟨_, _, xo'⟩ := xo
  obtain ⟨_, _, yo'⟩ := yo
  have ltx : bx < w.heap.size := (Array.getElem?_eq_some_iff.1 xo').1
  have lty : by_ < w.heap.size := (Array.getElem?_eq_some_iff.1 yo').1
  have ltz : bz < w.heap.size := (Array.getElem?_eq_some_iff.1 hz).1
  have Hne1 := Lib.hid h1; have Hne2 := Lib.hid h2; have H7 := Lib.hid h7
  have X1 := Lib.hid x1; have Y1 := Lib.hid y1
  obtain ⟨xa, xc, rfl⟩ := hnx.slice
  obtain ⟨ya, yc, rfl⟩ := hny.slice
  have HP := Lib.hid (Int.mul_ne_zero h4 h5)
  clear hnx hny hvx hvy hz xo' yo' h1 h2 h3 h7 x1 y1 h5 h4
  go_enter Tryz.func80, Tryz.ntmps80
  go_upto_region 3 with fail
  go_cut [] from 27 to 43 (fun wx => ∃ sa l1 sc, wx.heap[bz]? = some (ibox false (.slice sa l1.length sc)) ∧ Grown2 w wx bz none ∧ IsNat wx (.slice sa l1.length sc) l1 ∧ wfL l1 ∧ Nrm l1 ∧ val l1 = val lx * ny.natAbs)
  case first =>
    go_region_with (go_at_call 104; refine (mul_one stk ny.natAbs (IsNat.nil _) (HX.out.draw 1) (HY.out.draw 1) wx hlx0 (by omega) huy).mono ?_; rintro e w1 ⟨v1, l1, rfl, hres, wl1, nl1, hv1⟩; obtain ⟨sa, sc, rfl⟩ := hres.nat.slice; have e1 : w1.heap[bz]? = some (ibox false (.slice none 0 0)) := (hres.grown.block bz ltz (by simp [Value.ownBlock])).trans HZ.out; obtain ⟨_, d1, _, d2⟩ := cell_ibox e1; have HR := Lib.hid hres; have H1 := Lib.hid e1; have HV1 := Lib.hid hv1; clear hres e1 hv1)
    all_goals
      have e2 := set_ibox1 H1.out (.slice sa l1.length sc)
      have g := grown_set2 (b := bz) HR.out.grown 1 (.slice sa l1.length sc)
      have hb := isNat_ibox H1.out HR.out.nat
      have HF := Lib.hid (show _ ∧ _ ∧ _ from ⟨e2, (⟨g.os, g.tape, g.output, g.size, g.block⟩ : Grown2 w _ bz none), HR.out.nat.set hb 1 (.slice sa l1.length sc)⟩)
      clear e2 g hb
      go_wp2_with (fail)
      go_meet
      exact ⟨sa, l1, sc, HF.out.1, HF.out.2.1, HF.out.2.2, wl1, nl1, HV1.out⟩
  case rest =>
    obtain ⟨sa, l1, sc, e2, g, hn, wl1, nl1, hv1⟩ := hcut
    rw [HVX.out, show ((nx.natAbs : Int) * ny.natAbs) = (nx * ny).natAbs by rw [Int.natAbs_mul]; simp] at hv1
    have hsg := mul_sign nl1 wl1 hv1
    have HVL := Lib.hid hv1
    have x1' : wc.cell? ⟨bx, ox, none⟩ = some (.bool (decide (nx < 0))) := by rw [World.cell?_of_block (g.block bx ltx Hne1.out (by simp))]; exact X1.out
    have y1' : wc.cell? ⟨by_, oy, none⟩ = some (.bool (decide (ny < 0))) := by rw [World.cell?_of_block (g.block by_ lty Hne2.out (by simp))]; exact Y1.out
    obtain ⟨d0, d1, d2, d3⟩ := cell_ibox e2
    have hlen : l1.length ≤ 10000000000 := Nat.le_trans (len_lt nl1 wl1 (n := 1000) (by rw [hv1]; exact H7.out)) (by omega)
    have hf := IntBox.fresh (n := nx * ny) (set_ibox0 e2 (decide (nx * ny < 0))) rfl (hn.set (isNat_ibox e2 hn) 0 (.bool (decide (nx * ny < 0)))) wl1 nl1 hv1 hlen
    have HF := Lib.hid hf
    have HG := Lib.hid (g.set 0 (.bool (decide (nx * ny < 0))))
    rw [hsg] at HF HG
    clear e2 g hn hv1 hf hsg X1 Y1 HX HY HZ
    generalize decide (nx < 0) = sx at *
    generalize decide (ny < 0) = sy at *
    have hl : (0 : Int) < l1.length := by
      rcases Nat.eq_zero_or_pos l1.length with h | h
      · have := List.eq_nil_of_length_eq_zero h
        rw [this] at HVL
        have h2 := HVL.out; have h3 := HP.out
        simp only [val] at h2
        exact absurd (Int.natAbs_eq_zero.1 (by omega)) h3
      · omega
    generalize l1.length = n1 at *
    clear wl1 nl1
    have hl2 : 0 < n1 := by omega
    have ed : decide ((0 : Int) < n1) = true := decide_eq_true hl
    rw [ed, Bool.true_and] at HF HG
    go_wp2_with (fail)
    go_still_tail 20, (by kernel_rfl)
    change wpList _ _ _ _ _ (World.drew _)
    go_wp2
    first | (refine bodyPost_end (results_none rfl _ _ _) rfl ?_) | (refine bodyPost_ret (results_none rfl _ _ _) rfl ?_)
    exact ⟨rfl, _, by have h := HF.out.draw 1; exact h, by have h := HG.out.draw 1; exact h⟩
end Go.Proofs.YtndphemomhcjlaaGreatDoor

namespace Go.Proofs.YtndphemomhcjlaaGreatDoor
open Go.RowKit

theorem Mul_one {w : World} {bz bx ox by_ oy : Nat} {x y : Value} {nx ny : Int} (hz : w.heap[bz]? = some (ibox false (.slice none 0 0))) (hx : IntC w bx ox x nx) (hy : IntC w by_ oy y ny)
    (h1 : bx ≠ bz) (h2 : by_ ≠ bz) (h3 : (⟨bx, ox, none⟩ : Addr) ≠ ⟨by_, oy, none⟩) (h4 : nx ≠ 0) (h5 : ny ≠ 0) (h6 : ny.natAbs < 18446744073709551616) (h7 : ((nx * ny).natAbs : Int) < B64 ^ 1000) :
    Calls Tryz.prog 54 #[.pointer (some ⟨bz, 0, none⟩), .pointer (some ⟨bx, ox, none⟩), .pointer (some ⟨by_, oy, none⟩)] w fun e w' => e = .returned (.pointer (some ⟨bz, 0, none⟩)) ∧ ∃ v', IntBox w' bz v' (nx * ny) ∧ Grown2 w w' bz none := by
  have H := Lib.hid (mulI_one (.pointer none) hz hx hy h1 h2 h3 h4 h5 h6 h7)
  clear hz hx hy h7
  go_enter Tryz.func54, Tryz.ntmps54
  go_wp2_with (fail)
  refine H.out.mono ?_
  rintro e w1 ⟨rfl, v, hb, hg⟩
  have HB := Lib.hid hb; have HG := Lib.hid hg
  clear hb hg
  go_wp2
  go_ret
  exact ⟨rfl, _, HB.out, HG.out⟩

theorem tenInt_any (w : World) : Calls Tryz.prog 76 #[] w fun e w' => IntNew w w' e 10 := by
  go_enter Tryz.func76, Tryz.ntmps76
  go_wp2_with (fail)
  refine (NewInt_any 10 w (by unfold S64; omega)).mono ?_
  rintro e w1 ⟨b, v, rfl, h1, h2, h3⟩
  have H := Lib.hid h2; have H3 := Lib.hid h3
  clear h2 h3
  go_wp2
  go_ret
  exact ⟨_, _, rfl, h1, H.out, H3.out⟩
theorem zeroInt_any (w : World) : Calls Tryz.prog 43 #[] w fun e w' => IntNew w w' e 0 := by
  go_enter Tryz.func43, Tryz.ntmps43
  go_wp2_with (fail)
  refine (NewInt_any 0 w (by unfold S64; omega)).mono ?_
  rintro e w1 ⟨b, v, rfl, h1, h2, h3⟩
  have H := Lib.hid h2; have H3 := Lib.hid h3
  clear h2 h3
  go_wp2
  go_ret
  exact ⟨_, _, rfl, h1, H.out, H3.out⟩
theorem Grown2.new {w w1 w2 : World} {b : Nat} (g : w.grownBy w1 none) (h : Grown2 w1 w2 b none) (hb : w.heap.size ≤ b) : w.grownBy w2 none :=
  ⟨h.os.trans g.os, h.tape.trans g.tape, h.output.trans g.output, Nat.le_trans g.size h.size, fun i hi hr => (h.block i (Nat.lt_of_lt_of_le hi g.size) (by omega) (by simp)).trans (g.block i hi hr)⟩

theorem pow10_bound {k : Nat} (h : k ≤ 128) : (((10 : Int) ^ k).natAbs : Int) < B64 ^ 1000 := by
  have h1 : (10 : Int) ^ k ≤ 10 ^ 128 := by
    rw [show 128 = k + (128 - k) by omega, Int.pow_add]
    have h2 : (1 : Int) ≤ 10 ^ (128 - k) := Int.pow_pos (by decide)
    have h3 : (0 : Int) < 10 ^ k := Int.pow_pos (by decide)
    have h4 := Int.mul_le_mul_of_nonneg_left h2 (Int.le_of_lt h3)
    omega
  have h2 : (10 : Int) ^ 128 < B64 ^ 8 := by unfold B64; decide
  have h3 := pow_mono (a := 8) (b := 1000) (by omega)
  have h4 : (0 : Int) < 10 ^ k := Int.pow_pos (by decide)
  rw [show (((10 : Int) ^ k).natAbs : Int) = 10 ^ k by omega]
  omega

set_option maxRecDepth 100000 in
theorem pow10Table_any (n : Nat) (w : World) (h : n ≤ 127) :
    Calls Tryz.prog 74 #[.int .i64 n] w fun e w' => IntNew w w' e (10 ^ n) := by
  have H1 := NewInt_any 1 w (by unfold S64; omega)
  go_enter Tryz.func74, Tryz.ntmps74
  go_wp2_with (fail)
  refine H1.mono ?_
  rintro e w1 ⟨b, v, rfl, h1, h2, h3⟩
  have H2 := Lib.hid h2; have H3 := Lib.hid h3; have HB := Lib.hid h1
  clear h1 h2 h3 H1
  go_wp2_with (fail)
  go_loopw [3, 4] (fun s3 s4 wr => ∃ (b : Nat) (v : Value) (k : Nat), s3 = .pointer (some ⟨b, 0, none⟩) ∧ s4 = .int .i64 ((k : Int) + 1) ∧ k ≤ n ∧ w.heap.size ≤ b ∧ IntBox wr b v (10 ^ k) ∧ w.grownBy wr none) (fun _ i _ => n + 1 - (intOf i).toNat)
  case atStart => exact ⟨b, v, 0, rfl, by go_num, Nat.zero_le _, HB.out, H2.out, H3.out⟩
  case round =>
    obtain ⟨b, v, k, rfl, rfl, hk, hb, hbox, hg⟩ := hrel
    have HX := Lib.hid hbox; have HG := Lib.hid hg; have Hb := Lib.hid hb
    clear hbox hg hb H2 H3 HB
    by_cases hlt : k < n
    · have hnew := Lib.hid (heap_new wr (ibox false (.slice none 0 0)))
      have hga := Lib.hid (World.grownBy_alloc wr (ibox false (.slice none 0 0)) none)
      have hsz := Lib.hid (size_alloc wr (ibox false (.slice none 0 0)))
      go_wp2_with (fail)
      refine (tenInt_any _).mono ?_
      rintro e w2 ⟨b2, v2, rfl, g1, g2, g3⟩
      have G1 := Lib.hid g1; have G2 := Lib.hid g2; have G3 := Lib.hid g3
      clear g1 g2 g3
      go_wp2_with (fail)
      have hs := hsz.out
      have hbl : b < wr.heap.size := (Array.getElem?_eq_some_iff.1 HX.out.here).1
      have hg1 : (wr.alloc (ibox false (.slice none 0 0))).grownBy w2 none := G3.out
      have hg2 : w2.heap[wr.heap.size]? = some (ibox false (.slice none 0 0)) := by rw [hg1.block _ (by omega) (by simp)]; exact hnew.out
      have hb2 : wr.heap.size + 1 ≤ b2 := by have := G1.out; rw [← hs]; exact this
      have hp : (10 : Int) ^ k ≠ 0 := by have : (0 : Int) < 10 ^ k := Int.pow_pos (by decide); omega
      refine (Mul_one (bz := wr.heap.size) (nx := 10 ^ k) (ny := 10) hg2 ((HX.out.c.same hga.out).same hg1) G2.out.c (by omega) (by omega) (by intro e; injection e; omega) hp (by omega) (by decide) (by rw [← Int.pow_succ]; exact pow10_bound (by omega))).mono ?_
      rintro e w3 ⟨rfl, v3, hbox3, hgr3⟩
      have HN := Lib.hid hbox3
      have HGN := Lib.hid (Grown2.new (grown_trans HG.out (grown_trans hga.out hg1)) hgr3 (by have := Hb.out; omega))
      have hle := Lib.hid (show w.heap.size ≤ wr.heap.size by have := Hb.out; omega)
      clear hbox3 hgr3 hg1 hg2 hs hbl hp hb2
      go_wp2_with (fail)
      go_roundw
      case rel => exact ⟨_, _, k + 1, rfl, by go_num, by omega, hle.out, by rw [Int.pow_succ]; exact HN.out, HGN.out⟩
      case measure => simp [intOf]; omega
    · obtain rfl : k = n := by omega
      go_wp2
      go_ret
      exact ⟨_, _, rfl, Hb.out, HX.out, HG.out⟩
end Go.Proofs.YtndphemomhcjlaaGreatDoor

namespace Go.Proofs.YtndphemomhcjlaaGreatDoor
open Go.RowKit

theorem pow10_any (n : Nat) (w : World) (h : n ≤ 127) :
    Calls Tryz.prog 50 #[.int .i64 n] w fun e w' => IntNew w w' e (10 ^ n) := by
  have hlt : (n : Int) < 128 := by omega
  go_enter Tryz.func50, Tryz.ntmps50
  go_wp2_with (fail)
  refine (pow10Table_any n w h).mono ?_
  rintro e w1 ⟨b, v, rfl, h1, h2, h3⟩
  have H := Lib.hid h2; have H3 := Lib.hid h3
  clear h2 h3
  go_wp2
  go_ret
  exact ⟨_, _, rfl, h1, H.out, H3.out⟩

/-- a decimal's value -/
def decV (b : Nat) (e : Int) : Value := .agg #[.pointer (some ⟨b, 0, none⟩), .int .i32 e]

theorem ZzMake_any (b : Nat) (e : Int) (w : World) :
    Calls Tryz.prog 24 #[.pointer (some ⟨b, 0, none⟩), .int .i32 e] w fun r w' => r = .returned (decV b e) ∧ w.grownBy w' none := by
  have hg : ∀ o, w.grownBy (w.alloc o) none := fun o => World.grownBy_alloc w o none
  go_enter Tryz.func24, Tryz.ntmps24
  go_wp2
  refine bodyPost_ret (v := decV b e) (by simp [results, Tryz.func24, go_sem, decV]; try rfl) rfl ?_
  exact ⟨rfl, hg _⟩

theorem getValue_any (b : Nat) (e : Int) (w : World) :
    Calls Tryz.prog 26 #[decV b e] w fun r w' => r = .returned (.pointer (some ⟨b, 0, none⟩)) ∧ w.grownBy w' none := by
  have hg : ∀ o, w.grownBy (w.alloc o) none := fun o => World.grownBy_alloc w o none
  unfold decV
  go_enter Tryz.func26, Tryz.ntmps26
  go_wp2
  go_ret
  exact ⟨rfl, hg _⟩

theorem decSign_any {w : World} {b : Nat} {v : Value} {n : Int} (e : Int) (h : IntC w b 0 v n) :
    Calls Tryz.prog 25 #[decV b e] w fun r w' => r = .returned (.int .i64 (isgn n)) ∧ w.grownBy w' none := by
  have hg : ∀ o, w.grownBy (w.alloc o) none := fun o => World.grownBy_alloc w o none
  have H := Lib.hid h
  clear h
  unfold decV
  go_enter Tryz.func25, Tryz.ntmps25
  go_wp2_with (fail)
  refine (getValue_any b e _).mono ?_
  rintro r w1 ⟨rfl, g1⟩
  have G1 := Lib.hid (grown_trans (hg _) g1)
  clear g1
  go_wp2_with (fail)
  refine (Sign_any (H.out.same G1.out)).mono ?_
  rintro r w2 ⟨rfl, rfl⟩
  go_wp2
  go_ret
  exact ⟨rfl, G1.out⟩

theorem ipow_le {b : Int} (hb : 1 ≤ b) {a c : Nat} (h : a ≤ c) : b ^ a ≤ b ^ c := by
  obtain ⟨d, rfl⟩ := Nat.exists_eq_add_of_le h
  rw [Int.pow_add]
  have h2 : 1 ≤ b ^ d := Int.pow_pos (by omega)
  have h3 : 0 < b ^ a := Int.pow_pos (by omega)
  have h4 := Int.mul_le_mul_of_nonneg_left h2 (Int.le_of_lt h3)
  omega
theorem pow5Int64_any (n : Nat) (w : World) (h : n ≤ 22) :
    Calls Tryz.prog 29 #[.int .i32 n] w fun e w' => e = .returned (.int .i64 (5 ^ n)) ∧ w = w' := by
  have h1 : ¬ ((n : Int) < 0) := by omega
  have h2 : ¬ (22 < (n : Int)) := by omega
  go_enter Tryz.func29, Tryz.ntmps29
  go_wp2_with (fail)
  go_loopw [3, 4] (fun s3 s4 wr => ∃ k : Nat, s3 = .int .i64 (5 ^ k) ∧ s4 = .int .i32 ((k : Int) + 1) ∧ k ≤ n ∧ w = wr) (fun _ i _ => n + 1 - (intOf i).toNat)
  case atStart => exact ⟨0, rfl, by go_num, Nat.zero_le _, rfl⟩
  case round =>
    obtain ⟨k, rfl, rfl, hk, rfl⟩ := hrel
    by_cases hlt : k < n
    · have hb : (5 : Int) ^ (k + 1) ≤ 5 ^ 22 := ipow_le (by decide) (by omega)
      have hp : (0 : Int) < 5 ^ k := Int.pow_pos (by decide)
      have he : IntKind.i64.wrap (5 ^ k * 5) = 5 ^ (k + 1) := by
        rw [← Int.pow_succ, IntKind.wrap_i64]
        have h3 : (0 : Int) < 5 ^ (k + 1) := Int.pow_pos (by decide)
        have h22 : (5 : Int) ^ 22 = 2384185791015625 := by decide
        omega
      have HE := Lib.hid he
      clear hb hp he
      generalize (5 : Int) ^ k = x at *
      go_wp2
      go_roundw
      case rel => exact ⟨k + 1, by have := HE.out; rw [i64_left'] at this; rw [this], by go_num, by omega, trivial⟩
      case measure => simp [intOf]; omega
    · obtain rfl : k = n := by omega
      clear h1 h2
      go_wp2
      go_ret
      exact ⟨rfl, rfl⟩

theorem pow10Uint64_any (n : Nat) (w : World) (h : n ≤ 19) :
    Calls Tryz.prog 46 #[.int .i32 n] w fun e w' => e = .returned (.int .u64 (10 ^ n)) ∧ w = w' := by
  have h1 : ¬ ((n : Int) < 0) := by omega
  have h2 : ¬ (19 < (n : Int)) := by omega
  go_enter Tryz.func46, Tryz.ntmps46
  go_wp2_with (fail)
  go_loopw [3, 4] (fun s3 s4 wr => ∃ k : Nat, s3 = .int .u64 (10 ^ k) ∧ s4 = .int .i32 ((k : Int) + 1) ∧ k ≤ n ∧ w = wr) (fun _ i _ => n + 1 - (intOf i).toNat)
  case atStart => exact ⟨0, rfl, by go_num, Nat.zero_le _, rfl⟩
  case round =>
    obtain ⟨k, rfl, rfl, hk, rfl⟩ := hrel
    by_cases hlt : k < n
    · have hb : (10 : Int) ^ (k + 1) ≤ 10 ^ 19 := ipow_le (by decide) (by omega)
      have he : IntKind.u64.wrap (10 ^ k * 10) = 10 ^ (k + 1) := by
        rw [← Int.pow_succ]
        have h3 : (0 : Int) < 10 ^ (k + 1) := Int.pow_pos (by decide)
        have h22 : (10 : Int) ^ 19 = 10000000000000000000 := by decide
        exact wrap_u64 (by unfold U64 B64; omega)
      have HE := Lib.hid he
      clear hb he
      generalize (10 : Int) ^ k = x at *
      go_wp2
      go_roundw
      case rel => exact ⟨k + 1, by rw [← HE.out], by go_num, by omega, trivial⟩
      case measure => simp [intOf]; omega
    · obtain rfl : k = n := by omega
      clear h1 h2
      go_wp2
      go_ret
      exact ⟨rfl, rfl⟩
end Go.Proofs.YtndphemomhcjlaaGreatDoor

namespace Go.Proofs.YtndphemomhcjlaaGreatDoor
open Go.RowKit

theorem norm_nil (w : World) : Calls Tryz.prog 67 #[.slice none 0 0] w fun e w' => e = .returned (.slice none 0 0) ∧ w = w' := by
  have R : ∀ wx, (Instr.slice 88 (.slice none 0 0) (some (.int .i64 0)) (some (.int .i64 0)) none).run Tryz.prog wx = .ok (.slice none 0 0) wx := fun wx => by kernel_rfl
  go_enter Tryz.func67, Tryz.ntmps67
  go_wp2
  go_loopw [3] (fun i wr => i = .int .i64 0 ∧ w = wr) (fun _ _ => 0)
  case atStart => exact ⟨rfl, rfl⟩
  case round =>
    obtain ⟨rfl, rfl⟩ := hrel
    go_wp2
    go_ret
    exact ⟨rfl, rfl⟩
theorem SetBits_any {w : World} {bz : Nat} {g : Bool} {z v : Value} {l : List Int} (hz : w.heap[bz]? = some (ibox g z)) (hv : IsNat w v l) (wl : wfL l) (hl : l.length ≤ 10000000000) :
    Calls Tryz.prog 40 #[.pointer (some ⟨bz, 0, none⟩), v] w fun e w' => e = .returned (.pointer (some ⟨bz, 0, none⟩)) ∧ ∃ v', IntBox w' bz v' (val l) ∧ w.grownBy w' (some bz) := by
  have hvn := val_nonneg wl
  by_cases h0 : l = []
  · subst h0
    obtain ⟨c0, c1, f0, f1⟩ := cell_ibox hz
    have HN : ∃ a c, v = .slice a 0 c ∧ Calls Tryz.prog 67 #[v] w fun e w' => e = .returned v ∧ w = w' := by
      rcases hv with ⟨rfl, _⟩ | ⟨b, cap, M, rfl, hb, hc, hm⟩
      · exact ⟨none, 0, rfl, norm_nil w⟩
      · exact ⟨_, _, rfl, (norm_any b 0 0 cap [] w rfl (by omega) (by omega) (fun i hi => by simp at hi)).mono fun e w' ⟨h1, h2⟩ => ⟨h1, h2⟩⟩
    obtain ⟨a, c, rfl, HC⟩ := HN
    have e1 := set_ibox1 hz (.slice a 0 c)
    have hn2 := (hv.set (isNat_ibox hz hv) 1 (.slice a 0 c))
    have HF := Lib.hid (IntBox.fresh (n := 0) (set_ibox0 e1 false) rfl (hn2.set (isNat_ibox e1 hn2) 0 (.bool false)) wfL_nil Nrm.nil rfl (by simp))
    have HG := Lib.hid (((grown_set2 (b := bz) (grown_refl w none) 1 (.slice a 0 c)).set 0 (.bool false)).one)
    clear hz hv e1 hn2
    go_enter Tryz.func40, Tryz.ntmps40
    go_wp2_with (fail)
    refine HC.mono ?_
    rintro e w1 ⟨rfl, rfl⟩
    go_wp2
    go_ret
    exact ⟨rfl, _, HF.out, HG.out⟩
  · obtain ⟨b, cap, M, rfl, hb, hc, hm, hat, hown⟩ := hv.split h0
    obtain ⟨c0, c1, f0, f1⟩ := cell_ibox hz
    have HA := Lib.hid hat; have HZ := Lib.hid hz; have Hb := Lib.hid hb
    have hne := isNat_ibox hz hv
    have hle := nrm_length_le l
    have hcut : IsNat w (.slice (some ⟨b, 0, none⟩) (nrm l).length cap) (nrm l) := by
      obtain ⟨k, hk, e, _⟩ := nrm_prefix l
      refine .inr ⟨b, cap, l.drop (nrm l).length ++ M, rfl, ?_, ?_, hm⟩
      · rw [← List.append_assoc, show nrm l ++ l.drop (nrm l).length = l by
          have h1 := List.take_append_drop (nrm l).length l
          rw [nrm_take] at h1; exact h1]
        exact hb
      · rcases hv with ⟨h, _⟩ | ⟨b', cap', M', h, hb', hc', _⟩
        · cases h
        · injection h with h1 h2 h3
          injection h1 with h1; injection h1 with h1
          subst h1; subst h3
          rw [hb] at hb'
          have := blk_inj (Option.some.inj hb')
          have hM : M = M' := List.append_cancel_left this
          subst hM
          simp; omega
    have hd : decide (val l < 0) = false := by simp; omega
    have e1 := set_ibox1 hz (.slice (some ⟨b, 0, none⟩) (nrm l).length cap)
    have hn2 := (hcut.set (isNat_ibox hz hcut) 1 (.slice (some ⟨b, 0, none⟩) (nrm l).length cap))
    have HF := Lib.hid (IntBox.fresh (n := val l) (set_ibox0 e1 false) hd.symm (hn2.set (isNat_ibox e1 hn2) 0 (.bool false)) (wfL_nrm wl) (nrm_nrm _) (by rw [val_nrm]; omega) (by omega))
    have HG := Lib.hid (((grown_set2 (b := bz) (grown_refl w none) 1 (.slice (some ⟨b, 0, none⟩) (nrm l).length cap)).set 0 (.bool false)).one)
    have hnc : l.length ≤ cap := hc
    clear hat hz hb hv hcut e1 hn2 hne hd hown
    go_enter Tryz.func40, Tryz.ntmps40
    go_wp2_with (fail)
    refine (norm_any b 0 l.length cap l w rfl hnc (by omega) HA.out).mono ?_
    rintro e w1 ⟨rfl, rfl⟩
    go_wp2
    go_ret
    exact ⟨rfl, _, HF.out, HG.out⟩
end Go.Proofs.YtndphemomhcjlaaGreatDoor

namespace Go.Proofs.YtndphemomhcjlaaGreatDoor
open Go.RowKit

theorem run_f64bits (x : Nat) (w : World) : (callFunc 52 #[.float .f64 x]).run Tryz.prog w = .ok (.value (.int .u64 x)) w := by
  rw [run_callFunc_extern (P := Tryz.prog) (f := 52) Tryz.func52 (by kernel_rfl) (by kernel_rfl) (by kernel_rfl) (e := Go.Extern.MathFloatBits.float64bits) (by kernel_rfl)]
  rfl
theorem run_f64from (x : Int) (w : World) : (callFunc 51 #[.int .u64 x]).run Tryz.prog w = .ok (.value (.float .f64 x.toNat)) w := by
  rw [run_callFunc_extern (P := Tryz.prog) (f := 51) Tryz.func51 (by kernel_rfl) (by kernel_rfl) (by kernel_rfl) (e := Go.Extern.MathFloatBits.float64frombits) (by kernel_rfl)]
  rfl
theorem run_log (w : World) : (callFunc 129 #[.float .f64 4603804719079489536]).run Tryz.prog w = .ok (.value (.float .f64 13825510489450817230)) w := by
  rw [run_callFunc_extern (P := Tryz.prog) (f := 129) Tryz.func129 (by kernel_rfl) (by kernel_rfl) (by kernel_rfl) (e := Go.Extern.MathLog.archLog) (by kernel_rfl)]
  have e : (Go.Extern.MathLog.archLog #[.float .f64 4603804719079489536]).run Tryz.prog w = .ok (.float .f64 13825510489450817230) w := by kernel_rfl
  rw [e]; rfl
end Go.Proofs.YtndphemomhcjlaaGreatDoor

namespace Go.Proofs.YtndphemomhcjlaaGreatDoor
open Go.RowKit

theorem andNot_top (x : Nat) (h : x < 9223372036854775808) : bits .andNot .u64 (x : Int) 9223372036854775808 = x := by
  have h1 := u64_andNot_nat x 9223372036854775808 (by omega) (by decide)
  have h2 : x &&& (18446744073709551615 - 9223372036854775808) = x % 2 ^ 63 := Nat.and_two_pow_sub_one_eq_mod x 63
  rw [h2, Nat.mod_eq_of_lt (by omega)] at h1
  exact h1

theorem Abs_any' (x : Nat) (w : World) (h : x < 9223372036854775808) :
    Calls Tryz.prog 111 #[.float .f64 x] w fun e w' => e = .returned (.float .f64 x) ∧ w = w' := by
  have hb := run_f64bits x
  have hf := run_f64from x
  have ha := andNot_top x h
  go_enter Tryz.func111, Tryz.ntmps111
  go_wp2
  go_ret
  exact ⟨by first | rfl | simp, rfl⟩

theorem read_fin (x : Nat) (h : x < 9218868437227405312) : ∃ m i, Ieee.double.read x = .number false m i ∧ m < 9007199254740992 ∧ i ≤ 971 ∧ -1074 ≤ i ∧ (4503599627370496 ≤ x → 4503599627370496 ≤ m) := by
  have e1 : Ieee.double.signWeight = 9223372036854775808 := by decide
  have e2 : Ieee.double.binade = 4503599627370496 := by decide
  have e3 : Ieee.double.infRung = 9218868437227405312 := by decide
  have e4 : Ieee.double.leastPlace = -1074 := by decide
  unfold Ieee.Format.read
  rw [e1, e2, e3, e4]
  have hq : x / 9223372036854775808 = 0 := Nat.div_eq_of_lt (by omega)
  have hm : x % 9223372036854775808 = x := Nat.mod_eq_of_lt (by omega)
  simp only [hq, hm]
  by_cases h1 : x < 4503599627370496
  · rw [if_pos h1]
    exact ⟨_, _, rfl, by omega, by omega, by omega, by omega⟩
  · rw [if_neg h1, if_pos h]
    exact ⟨_, _, rfl, by omega, by omega, by omega, by omega⟩
theorem compare_le {a b : Int} (h : a ≤ b) : (some (compare a b) == some Ordering.gt) = false := by
  rcases Int.lt_or_eq_of_le h with h | h
  · simp [compare, compareOfLessAndEq, h]
  · subst h; simp [compare, compareOfLessAndEq]
theorem order_max (x : Nat) (h : x < 9218868437227405312) : (FloatKind.f64.format.order x 9218868437227405311 == some Ordering.gt) = false := by
  obtain ⟨m, i, hr, hm, hi, _⟩ := read_fin x h
  have hy : Ieee.double.read 9218868437227405311 = .number false 9007199254740991 971 := by decide
  show (Ieee.Datum.order (Ieee.double.read x) (Ieee.double.read 9218868437227405311) == some Ordering.gt) = false
  rw [hr, hy]
  simp only [Ieee.Datum.order, Int.min_eq_left hi]
  apply compare_le
  simp only [Ieee.signed, Bool.false_eq_true, if_false, Int.sub_self, Int.toNat_zero, Nat.shiftLeft_zero, Nat.shiftLeft_eq]
  have h1 : 9007199254740991 * 1 ≤ 9007199254740991 * 2 ^ (971 - i).toNat := Nat.mul_le_mul_left _ (Nat.pow_pos (by decide))
  omega
theorem compare_ge {a b : Int} (h : b ≤ a) : (some (compare a b) == some Ordering.lt) = false := by
  rcases Int.lt_or_eq_of_le h with h | h
  · have h1 : ¬ a < b := by omega
    have h2 : ¬ a = b := by omega
    simp [compare, compareOfLessAndEq, h1, h2]
  · subst h; simp [compare, compareOfLessAndEq]
theorem order_self (x : Nat) (h : x < 9218868437227405312) : (FloatKind.f64.format.order x x != some Ordering.eq) = false := by
  obtain ⟨m, i, hr, _⟩ := read_fin x h
  show (Ieee.Datum.order (Ieee.double.read x) (Ieee.double.read x) != some Ordering.eq) = false
  rw [hr]
  simp [Ieee.Datum.order, compare, compareOfLessAndEq]
theorem order_min (x : Nat) (h0 : 4503599627370496 ≤ x) (h : x < 9218868437227405312) : (FloatKind.f64.format.order x 4503599627370496 == some Ordering.lt) = false := by
  obtain ⟨m, i, hr, hm, hi, hi0, hmm⟩ := read_fin x h
  have hy : Ieee.double.read 4503599627370496 = .number false 4503599627370496 (-1074) := by decide
  show (Ieee.Datum.order (Ieee.double.read x) (Ieee.double.read 4503599627370496) == some Ordering.lt) = false
  rw [hr, hy]
  simp only [Ieee.Datum.order, Int.min_eq_right hi0]
  apply compare_ge
  simp only [Ieee.signed, Bool.false_eq_true, if_false, Int.sub_self, Int.toNat_zero, Nat.shiftLeft_zero, Nat.shiftLeft_eq]
  have h1 : m * 1 ≤ m * 2 ^ (i - -1074).toNat := Nat.mul_le_mul_left _ (Nat.pow_pos (by decide))
  have := hmm h0
  omega
/-- no infinity -/
theorem IsInf_no (x : Nat) (w : World) (h : x < 9218868437227405312) :
    Calls Tryz.prog 85 #[.float .f64 x, .int .i64 0] w fun e w' => e = .returned (.bool false) ∧ w = w' := by
  have HO := Lib.hid (order_max x h)
  go_enter Tryz.func85, Tryz.ntmps85
  go_wp2_with (fail)
  refine (Abs_any' x w (by omega)).mono ?_
  rintro e w1 ⟨rfl, rfl⟩
  go_wp2
  go_ret
  exact ⟨by rw [← HO.out]; rfl, rfl⟩

theorem IsNaN_no (x : Nat) (w : World) (h : x < 9218868437227405312) :
    Calls Tryz.prog 159 #[.float .f64 x] w fun e w' => e = .returned (.bool false) ∧ w = w' := by
  have HO := Lib.hid (order_self x h)
  go_enter Tryz.func159, Tryz.ntmps159
  go_wp2
  go_ret
  exact ⟨by rw [← HO.out]; rfl, rfl⟩
theorem normalize_no (x : Nat) (w : World) (h0 : 4503599627370496 ≤ x) (h : x < 9218868437227405312) :
    Calls Tryz.prog 160 #[.float .f64 x] w fun e w' => e = .returned (.tuple #[.float .f64 x, .int .i64 0]) ∧ w = w' := by
  have HO := order_min x h0 h
  go_enter Tryz.func160, Tryz.ntmps160
  go_wp2_with (fail)
  refine (Abs_any' x w (by omega)).mono ?_
  rintro e w1 ⟨rfl, rfl⟩
  go_wp2
  go_ret2
  exact ⟨rfl, rfl⟩
end Go.Proofs.YtndphemomhcjlaaGreatDoor

namespace Go.Proofs.YtndphemomhcjlaaGreatDoor
open Go.RowKit

set_option maxRecDepth 100000 in
theorem frexp_ten (w : World) : Calls Tryz.prog 128 #[.float .f64 4621819117588971520] w fun e w' => e = .returned (.tuple #[.float .f64 4603804719079489536, .int .i64 4]) ∧ w = w' := by
  have h1 := run_f64bits 4621819117588971520
  have h2 := run_f64from
  go_enter Tryz.func128, Tryz.ntmps128
  go_wp2_with (first
    | (go_at_call 85; refine (IsInf_no _ _ (by decide)).mono ?_; rintro e w1 ⟨rfl, rfl⟩)
    | (go_at_call 159; refine (IsNaN_no _ _ (by decide)).mono ?_; rintro e w1 ⟨rfl, rfl⟩)
    | (go_at_call 160; refine (normalize_no _ _ (by decide) (by decide)).mono ?_; rintro e w1 ⟨rfl, rfl⟩))
  go_ret2
  exact ⟨by kernel_rfl, rfl⟩

theorem Frexp_ten (w : World) : Calls Tryz.prog 95 #[.float .f64 4621819117588971520] w fun e w' => e = .returned (.tuple #[.float .f64 4603804719079489536, .int .i64 4]) ∧ w = w' := by
  go_enter Tryz.func95, Tryz.ntmps95
  go_wp2_with (fail)
  refine (frexp_ten w).mono ?_
  rintro e w1 ⟨rfl, rfl⟩
  go_wp2
  go_ret2
  exact ⟨rfl, rfl⟩
theorem Log_ten (w : World) : Calls Tryz.prog 96 #[.float .f64 4603804719079489536] w fun e w' => e = .returned (.float .f64 13825510489450817230) ∧ w = w' := by
  have h := run_log
  go_enter Tryz.func96, Tryz.ntmps96
  go_wp2
  go_ret
  exact ⟨rfl, rfl⟩
theorem log2_ten (w : World) : Calls Tryz.prog 72 #[.float .f64 4621819117588971520] w fun e w' => e = .returned (.float .f64 4614662735865160561) ∧ w = w' := by
  have h1 : ∀ wx, (binOp .mul 29 (.float .f64 13825510489450817230) (.float .f64 4609176140021203710)).run Tryz.prog wx = .ok (.float .f64 13827654785158443579) wx := fun wx => by kernel_rfl
  have h2 : ∀ wx, (binOp .add 29 (.float .f64 13827654785158443579) (.float .f64 4616189618054758400)).run Tryz.prog wx = .ok (.float .f64 4614662735865160561) wx := fun wx => by kernel_rfl
  have h3 : ∀ wx, (convert 3 29 (.int .i64 4)).run Tryz.prog wx = .ok (.float .f64 4616189618054758400) wx := fun wx => by kernel_rfl
  go_enter Tryz.func72, Tryz.ntmps72
  go_wp2_with (fail)
  refine (Frexp_ten w).mono ?_
  rintro e w1 ⟨rfl, rfl⟩
  go_wp2_with (fail)
  refine (Log_ten w).mono ?_
  rintro e w1 ⟨rfl, rfl⟩
  go_wp2
  go_ret
  exact ⟨rfl, rfl⟩
theorem Log2_ten (w : World) : Calls Tryz.prog 48 #[.float .f64 4621819117588971520] w fun e w' => e = .returned (.float .f64 4614662735865160561) ∧ w = w' := by
  go_enter Tryz.func48, Tryz.ntmps48
  go_wp2_with (fail)
  refine (log2_ten w).mono ?_
  rintro e w1 ⟨rfl, rfl⟩
  go_wp2
  go_ret
  exact ⟨rfl, rfl⟩
end Go.Proofs.YtndphemomhcjlaaGreatDoor

namespace Go.Proofs.YtndphemomhcjlaaGreatDoor
open Go.RowKit

/-- a value of at most twenty digits, and new blocks alone -/
def SmallRes (w w' : World) (r : Ending) : Prop := ∃ d : Int, r = .returned (.int .i64 d) ∧ 0 ≤ d ∧ d ≤ 20 ∧ w.grownBy w' none

theorem len64_any (x : Int) (w : World) (h0 : 0 ≤ x) (h1 : x < 18446744073709551616) :
    Calls Tryz.prog 45 #[.int .u64 x] w fun e w' => (∃ B : Nat, B ≤ 64 ∧ e = .returned (.int .i64 B)) ∧ w = w' :=
  (sym (Tryz.bits_Len64 x w h0 (by omega))).mono fun e w' ⟨h, k⟩ => ⟨⟨_, bitLen_le64 x.toNat (by omega), h⟩, k⟩

set_option maxRecDepth 100000 in
theorem NumDigits_any {w : World} {b : Nat} {v : Value} {n : Int} (e : Int) (h : IntC w b 0 v n) (h0 : n ≠ 0) (hn : n.natAbs < 10000000000000000000) :
    Calls Tryz.prog 30 #[decV b e] w fun r w' => SmallRes w w' r := by
  have hg : ∀ o, w.grownBy (w.alloc o) none := fun o => World.grownBy_alloc w o none
  have H := Lib.hid h
  clear h
  have HB := Lib.hid (BitLen_any H.out)
  by_cases hs : -9223372036854775808 ≤ n ∧ n ≤ 9223372036854775807
  · have hd : decide (-9223372036854775808 ≤ n ∧ n ≤ 9223372036854775807) = true := by simp [hs]
    unfold decV
    go_enter Tryz.func30, Tryz.ntmps30
    go_wp2_with (fail)
    refine (getValue_any b e _).mono ?_
    rintro r w1 ⟨rfl, g1⟩
    have G1 := Lib.hid (grown_trans (hg _) g1)
    clear g1
    go_wp2_with (fail)
    refine (IsInt64_any (H.out.same G1.out)).mono ?_
    rintro r w2 ⟨rfl, q2, rfl⟩
    rw [hd]
    go_wp2_with (fail)
    refine (Int64_any ((H.out.same G1.out).draw q2) hs).mono ?_
    rintro r w2 ⟨rfl, q3, rfl⟩
    have hu0 : (IntKind.u64.wrap n == 0) = false := by rw [IntKind.wrap_u64]; simp; omega
    go_wp2_with (fail)
    refine (Sign_any ((H.out.same G1.out).draw (q2 + q3))).mono ?_
    rintro r w2 ⟨rfl, rfl⟩
    by_cases hneg : n < 0
    · have hsg : isgn n = -1 := by unfold isgn; rw [if_neg h0, if_pos hneg]
      rw [hsg]
      have hw : IntKind.u64.wrap (-(IntKind.u64.wrap n)) = n.natAbs := by rw [IntKind.wrap_u64, IntKind.wrap_u64]; omega
      have HW := Lib.hid hw
      clear hw
      go_wp2_with (fail)
      rw [HW.out]
      refine (len64_any _ _ (by omega) (by omega)).mono ?_
      rintro r w2 ⟨⟨B, hB, rfl⟩, rfl⟩
      go_wp2_with (fail)
      obtain ⟨k, hk, hk2⟩ : ∃ k : Nat, ((B : Int) * 1233 / 4096) = k ∧ k ≤ 19 := ⟨B * 1233 / 4096, by omega, by omega⟩
      rw [hk]
      refine (pow10Uint64_any k _ hk2).mono ?_
      rintro r w2 ⟨rfl, rfl⟩
      have GG := Lib.hid (grown_trans G1.out (grown_drewN w1 (q2 + q3)))
      generalize (10 : Int) ^ k = p10 at *
      clear hk HB hs hd hsg
      go_wp2
      all_goals
        go_ret
        exact ⟨_, rfl, by first | omega | (simp only [wrap64]; omega), by first | omega | (simp only [wrap64]; omega), GG.out⟩
    · have hsg : isgn n = 1 := by unfold isgn; rw [if_neg h0, if_neg hneg]
      rw [hsg]
      have hw : IntKind.u64.wrap n = n.natAbs := by rw [IntKind.wrap_u64]; omega
      have HW := Lib.hid hw
      clear hw
      go_wp2_with (fail)
      rw [HW.out]
      refine (len64_any _ _ (by omega) (by omega)).mono ?_
      rintro r w2 ⟨⟨B, hB, rfl⟩, rfl⟩
      go_wp2_with (fail)
      obtain ⟨k, hk, hk2⟩ : ∃ k : Nat, ((B : Int) * 1233 / 4096) = k ∧ k ≤ 19 := ⟨B * 1233 / 4096, by omega, by omega⟩
      rw [hk]
      refine (pow10Uint64_any k _ hk2).mono ?_
      rintro r w2 ⟨rfl, rfl⟩
      have GG := Lib.hid (grown_trans G1.out (grown_drewN w1 (q2 + q3)))
      generalize (10 : Int) ^ k = p10 at *
      clear hk HB hs hd hsg
      go_wp2
      all_goals
        go_ret
        exact ⟨_, rfl, by first | omega | (simp only [wrap64]; omega), by first | omega | (simp only [wrap64]; omega), GG.out⟩
  · have hd : decide (-9223372036854775808 ≤ n ∧ n ≤ 9223372036854775807) = false := by simp; omega
    have hlen : ∀ B : Nat, IsLen n.natAbs B → B = 64 := by
      intro B hB
      obtain ⟨b1, b2, b3⟩ := hB.2 (by omega)
      have c1 : ((2 : Int) ^ B) = ((2 ^ B : Nat) : Int) := by simp
      have c2 : ((2 : Int) ^ (B - 1)) = ((2 ^ (B - 1) : Nat) : Int) := by simp
      rw [c1] at b3
      rw [c2] at b2
      have d1 : 2 ^ 63 < 2 ^ B ∨ n.natAbs = 2 ^ 63 := by omega
      have d2 : 2 ^ (B - 1) < 2 ^ 64 := by omega
      have d3 := (Nat.pow_lt_pow_iff_right (by decide : 1 < 2)).1 d2
      have d4 : 2 ^ 63 < 2 ^ B := by omega
      have d5 := (Nat.pow_lt_pow_iff_right (by decide : 1 < 2)).1 d4
      omega
    have F1 : ∀ wx, (convert 3 29 (.int .i64 64)).run Tryz.prog wx = .ok (.float .f64 4634204016564240384) wx := fun wx => by kernel_rfl
    have F2 : ∀ wx, (binOp .quo 29 (.float .f64 4634204016564240384) (.float .f64 4614662735865160561)).run Tryz.prog wx = .ok (.float .f64 4626116091987327487) wx := fun wx => by kernel_rfl
    have F3 : ∀ wx, (convert 29 3 (.float .f64 4626116091987327487)).run Tryz.prog wx = .ok (.int .i64 19) wx := fun wx => by kernel_rfl
    unfold decV
    go_enter Tryz.func30, Tryz.ntmps30
    go_wp2_with (fail)
    refine (getValue_any b e _).mono ?_
    rintro r w1 ⟨rfl, g1⟩
    have G1 := Lib.hid (grown_trans (hg _) g1)
    clear g1
    go_wp2_with (fail)
    refine (IsInt64_any (H.out.same G1.out)).mono ?_
    rintro r w2 ⟨rfl, q2, rfl⟩
    rw [hd]
    go_wp2_with (fail)
    refine (BitLen_any ((H.out.same G1.out).draw q2)).mono ?_
    rintro r w2 ⟨⟨B, rfl, hB⟩, q3, rfl⟩
    obtain rfl := hlen B hB
    go_wp2_with (fail)
    refine (Log2_ten _).mono ?_
    rintro r w2 ⟨rfl, rfl⟩
    go_wp2_with (fail)
    have P19 := pow10_any 19 (w1.drewN (q2 + q3)) (by omega)
    rw [show ((19 : Nat) : Int) = 19 from rfl] at P19
    refine P19.mono ?_
    rintro r w2 ⟨b2, v2, rfl, k1, k2, k3⟩
    have K1 := Lib.hid k1; have K2 := Lib.hid k2
    have GG := Lib.hid (grown_trans (grown_trans G1.out (grown_drewN w1 (q2 + q3))) k3)
    have HC := Lib.hid (((H.out.same G1.out).draw (q2 + q3)).same k3)
    clear k1 k2 k3 P19
    go_wp2_with (fail)
    refine (CmpAbs_any HC.out K2.out.c).mono ?_
    rintro r w3 ⟨rfl, q4, rfl⟩
    have G4 := Lib.hid (grown_trans GG.out (grown_drewN w2 q4))
    generalize icmp (n.natAbs : Int) ((10 ^ 19 : Int).natAbs : Int) = cc at *
    clear hs hd hlen F1 F2 F3 hB
    go_wp2
    all_goals
      go_ret
      exact ⟨_, rfl, by omega, by omega, G4.out⟩
end Go.Proofs.YtndphemomhcjlaaGreatDoor
