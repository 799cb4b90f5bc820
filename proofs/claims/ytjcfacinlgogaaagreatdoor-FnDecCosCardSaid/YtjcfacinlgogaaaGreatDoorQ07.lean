/- Whole numbers behind a pointer: new ones. Whole numbers behind a pointer: set, the amount, the opposite. Products by one word; numbers of given words. -/
import Derived.Deep.RegionWith
import Derived.Test.YtjcfacinlgogaaaGreatDoorQ05
import Derived.Test.YtjcfacinlgogaaaGreatDoorQ06
set_option linter.all false
set_option maxHeartbeats 1000000
set_option maxRecDepth 100000
namespace Go.Proofs.YtjcfacinlgogaaaGreatDoor
open Go.RowKit
def ibox (neg : Bool) (v : Value) : Obj := .cells #[.bool neg, v] 107
structure IntBox (w : World) (b : Nat) (v : Value) (n : Int) : Prop where
  here : w.heap[b]? = some (ibox (decide (n < 0)) v)
  nat : ∃ l, IsNat w v l ∧ wfL l ∧ Nrm l ∧ val l = n.natAbs ∧ l.length ≤ 10000000000
theorem cell_ibox {w : World} {b : Nat} {g : Bool} {v : Value} (h : w.heap[b]? = some (ibox g v)) : w.cell? ⟨b, 0, none⟩ = some (.bool g) ∧ w.cell? ⟨b, 1, none⟩ = some v ∧ w.frozen? ⟨b, 0, none⟩ = false ∧ w.frozen? ⟨b, 1, none⟩ = false := by
  refine ⟨?_, ?_, ?_, ?_⟩ <;> simp [World.cell?, World.frozen?, h, ibox]
theorem IntBox.c {w : World} {b : Nat} {v : Value} {n : Int} (h : IntBox w b v n) : IntC w b 0 v n :=
  ⟨(cell_ibox h.here).1, (cell_ibox h.here).2.1, ⟨_, _, h.here⟩, h.nat⟩
theorem set_ibox0 {w : World} {b : Nat} {g : Bool} {v : Value} (h : w.heap[b]? = some (ibox g v)) (g2 : Bool) : (w.setCell ⟨b, 0, none⟩ (.bool g2)).heap[b]? = some (ibox g2 v) := by
  simp [World.setCell, Array.getElem?_modify, h, ibox]
theorem set_ibox1 {w : World} {b : Nat} {g : Bool} {v : Value} (h : w.heap[b]? = some (ibox g v)) (v2 : Value) : (w.setCell ⟨b, 1, none⟩ v2).heap[b]? = some (ibox g v2) := by
  simp [World.setCell, Array.getElem?_modify, h, ibox]
theorem isNat_ibox {w : World} {b : Nat} {g : Bool} {u v : Value} {l : List Int} (h : w.heap[b]? = some (ibox g u)) (hn : IsNat w v l) : v.ownBlock ≠ some b := by
  intro e
  rcases hn with ⟨rfl, _⟩ | ⟨c, cap, M, rfl, hc, _⟩
  · simp [Value.ownBlock] at e
  · simp [Value.ownBlock] at e; subst e
    rw [h] at hc
    simp only [ibox, blk, Option.some.injEq, Obj.cells.injEq] at hc
    exact absurd hc.2.1 (by decide)
theorem IntBox.fresh {w : World} {b : Nat} {v : Value} {n : Int} {g : Bool} {l : List Int} (h : w.heap[b]? = some (ibox g v)) (hg : g = decide (n < 0)) (hn : IsNat w v l) (wl : wfL l) (nl : Nrm l) (hv : val l = n.natAbs) (hl : l.length ≤ 10000000000) : IntBox w b v n :=
  ⟨by rw [← hg]; exact h, l, hn, wl, nl, hv, hl⟩
theorem heap_new (w : World) (o : Obj) : (w.alloc o).heap[w.heap.size]? = some o := heap_alloc_new w o
def IntNew (w w' : World) (e : Ending) (n : Int) : Prop := ∃ b v, e = .returned (.pointer (some ⟨b, 0, none⟩)) ∧ w.heap.size ≤ b ∧ IntBox w' b v n ∧ w.grownBy w' none
theorem size_alloc (w : World) (o : Obj) : (w.alloc o).heap.size = w.heap.size + 1 := Array.size_push _
theorem isNat_word (w : World) (X : Int) : IsNat (w.alloc (blk [X])) (.slice (some ⟨w.heap.size, 0, none⟩) 1 1) [X] := by
  refine .inr ⟨w.heap.size, 1, [], rfl, ?_, ?_, ?_⟩
  · rw [List.append_nil]; exact heap_new _ _
  · rfl
  · show 1 ≤ 9223372036854775807; omega
theorem intNew_word (w : World) (x : Int) (h0 : x ≠ 0) (hu : U64 x.natAbs) :
    IntNew w ((w.alloc (blk [(x.natAbs : Int)])).alloc (ibox (decide (x < 0)) (.slice (some ⟨w.heap.size, 0, none⟩) 1 1))) (.returned (.pointer (some ⟨w.heap.size + 1, 0, none⟩))) x := by
  have hX : (x.natAbs : Int) ≠ 0 := by omega
  generalize hx : (x.natAbs : Int) = X at *
  have hs := size_alloc w (blk [X])
  have hv : val [X] = X := by simp only [val]; omega
  have g2 := World.grownBy_alloc (w.alloc (blk [X])) (ibox (decide (x < 0)) (.slice (some ⟨w.heap.size, 0, none⟩) 1 1)) none
  refine ⟨_, _, rfl, Nat.le_succ _, ⟨?_, [X], (isNat_word w X).grown0 g2, wfL_cons hu wfL_nil, nrm_one hX, by rw [hv, hx], (show 1 ≤ 10000000000 by decide)⟩, grown_trans (World.grownBy_alloc w _ none) g2⟩
  rw [← hs]; exact heap_new _ _
theorem NewInt_any (x : Int) (w : World) (h : S64 x) :
    Calls Tryz.prog 91 #[.int .i64 x] w fun e w' => IntNew w w' e x := by
  have hg : ∀ o, w.grownBy (w.alloc o) none := fun o => World.grownBy_alloc w o none
  by_cases h0 : x = 0
  · subst h0
    have HR : Hid (IntNew w (w.alloc (ibox false (.slice none 0 0))) (.returned (.pointer (some ⟨w.heap.size, 0, none⟩))) 0) :=
      ⟨_, _, rfl, Nat.le_refl _, IntBox.fresh (heap_new _ _) rfl (IsNat.nil _) wfL_nil Nrm.nil rfl (by simp), hg _⟩
    clear hg h
    go_enter Tryz.func91, Tryz.ntmps91
    go_wp2
    go_ret
    exact HR.out
  · have hx0 : (x == 0) = false := by simp [h0]
    have hu : U64 x.natAbs := by unfold S64 at h; unfold U64 B64; omega
    have HR := Hq0 (intNew_word w x h0 hu)
    by_cases hneg : x < 0
    · have e1 : IntKind.u64.wrap (-(IntKind.u64.wrap x)) = x.natAbs := by
        unfold S64 at h
        rw [IntKind.wrap_u64, IntKind.wrap_u64]; omega
      have hd : decide (x < 0) = true := by simp [hneg]
      rw [hd] at HR
      have HE := Hq0 e1
      clear hg h hu h0 e1
      go_enter Tryz.func91, Tryz.ntmps91
      go_wp2_with (fail)
      rw [HE.out]
      go_ret
      exact HR.out
    · have e1 : IntKind.u64.wrap x = x.natAbs := by
        unfold S64 at h
        rw [IntKind.wrap_u64]; omega
      have hd : decide (x < 0) = false := by simp [hneg]
      rw [hd] at HR
      have HE := Hq0 e1
      clear hg h hu h0 e1
      go_enter Tryz.func91, Tryz.ntmps91
      go_wp2_with (fail)
      rw [HE.out]
      go_ret
      exact HR.out
end Go.Proofs.YtjcfacinlgogaaaGreatDoor
namespace Go.Proofs.YtjcfacinlgogaaaGreatDoor
open Go.RowKit
structure Grown2 (w w' : World) (b : Nat) (r : Option Nat) : Prop where
  os : w'.os = w.os
  tape : w'.tape = w.tape
  output : w'.output = w.output
  size : w.heap.size ≤ w'.heap.size
  block : ∀ i, i < w.heap.size → i ≠ b → some i ≠ r → w'.heap[i]? = w.heap[i]?
theorem Grown2.one {w w' : World} {b : Nat} (h : Grown2 w w' b none) : w.grownBy w' (some b) :=
  ⟨h.os, h.tape, h.output, h.size, fun i hi hn => h.block i hi (fun e => hn (by rw [e])) (by simp)⟩
theorem isNat_bool {w : World} {b o : Nat} {g : Bool} {v : Value} {l : List Int} (h : w.cell? ⟨b, o, none⟩ = some (.bool g)) (hn : IsNat w v l) : v.ownBlock ≠ some b := by
  intro e
  rcases hn with ⟨rfl, _⟩ | ⟨c, cap, M, rfl, hc, _⟩
  · simp [Value.ownBlock] at e
  · simp [Value.ownBlock] at e; subst e
    simp only [World.cell?, hc, blk, Option.isSome_none, Bool.false_eq_true, if_false, List.getElem?_toArray, List.getElem?_map] at h
    cases hq : (l ++ M)[o]? with
    | none => rw [hq] at h; simp at h
    | some x => rw [hq] at h; simp at h
theorem grown_set2 {w w1 : World} {b : Nat} {r : Option Nat} (g : w.grownBy w1 r) (o : Nat) (v : Value) : Grown2 w (w1.setCell ⟨b, o, none⟩ v) b r :=
  ⟨g.os, g.tape, g.output, by simp [World.setCell]; exact g.size, fun i hi h1 h2 => by rw [Below.heap_setCell _ _ _ _ h1]; exact g.block i hi h2⟩
theorem Grown2.set {w w1 : World} {b : Nat} {r : Option Nat} (g : Grown2 w w1 b r) (o : Nat) (v : Value) : Grown2 w (w1.setCell ⟨b, o, none⟩ v) b r :=
  ⟨g.os, g.tape, g.output, by simp [World.setCell]; exact g.size, fun i hi h1 h2 => by rw [Below.heap_setCell _ _ _ _ h1]; exact g.block i hi h1 h2⟩
theorem Grown2.draw {w w1 : World} {b : Nat} {r : Option Nat} (g : Grown2 w w1 b r) (q : Nat) : Grown2 w (w1.drewN q) b r := ⟨g.os, g.tape, g.output, g.size, g.block⟩
theorem IsNat.draw {w : World} {v : Value} {l : List Int} (h : IsNat w v l) (q : Nat) : IsNat (w.drewN q) v l := h.grown0 (grown_drewN w q)
theorem IsNat.set {w : World} {v : Value} {l : List Int} (h : IsNat w v l) {b : Nat} (hb : v.ownBlock ≠ some b) (o : Nat) (u : Value) : IsNat (w.setCell ⟨b, o, none⟩ u) v l := by
  rcases h with h | ⟨c, cap, M, rfl, hc, hm⟩
  · exact .inl h
  · refine .inr ⟨c, cap, M, rfl, ?_, hm⟩
    rw [Below.heap_setCell _ _ _ _ (by intro e; apply hb; simp [Value.ownBlock]; exact e)]; exact hc
theorem Set_any {w : World} {bz b o : Nat} {z v : Value} {n0 n : Int} (hz : IntBox w bz z n0) (hx : IntC w b o v n) (hne : b ≠ bz) :
    Calls Tryz.prog 111 #[.pointer (some ⟨bz, 0, none⟩), .pointer (some ⟨b, o, none⟩)] w fun e w' => e = .returned (.pointer (some ⟨bz, 0, none⟩)) ∧ ∃ v', IntBox w' bz v' n ∧ Grown2 w w' bz z.ownBlock ∧ ∀ k, v'.ownBlock = some k → some k = z.ownBlock ∨ w.heap.size ≤ k := by
  obtain ⟨h1, h2, ho, l, hn, wl, nl, hv, hlen⟩ := hx
  have hzc := hz.c
  obtain ⟨hz0, lz, hlz, _, _, _, hzlen⟩ := hz
  obtain ⟨c0, c1, f0, f1⟩ := cell_ibox hz0
  have E := (ptr_eql_other (wx := w) (a := ⟨bz, 0, none⟩) (b := ⟨b, o, none⟩) (by intro e; injection e with e; exact hne e.symm) hzc.obj ho).2
  have HN := Hq0 hn; have HV := Hq0 hv; have HZ := Hq0 hlz; have H0 := Hq0 hz0
  have HB := Hq0 (isNat_bool h1 hlz)
  have HBz := Hq0 (isNat_bool c0 hlz)
  have Hne := Hq0 hne
  obtain ⟨_, _, ho'⟩ := ho
  have hlt : b < w.heap.size := (Array.getElem?_eq_some_iff.1 ho').1
  have hltz : bz < w.heap.size := (Array.getElem?_eq_some_iff.1 hz0).1
  clear hn hv hlz hz0 hzc ho' hne
  go_enter Tryz.func111, Tryz.ntmps111
  go_wp2_with (fail)
  go_region_with (go_at_call 137; refine (set_any (HZ.out.draw 1) (HN.out.draw 1) (by omega)).mono ?_; rintro e w1 ⟨v1, rfl, hres⟩; obtain ⟨sa, sc, rfl⟩ := hres.nat.slice; have e1 : w1.heap[bz]? = some (ibox (decide (n0 < 0)) z) := (hres.grown.block bz hltz (fun e => HBz.out e.symm)).trans H0.out; obtain ⟨_, d1, _, d2⟩ := cell_ibox e1; have HR := Hq0 hres; have H1 := Hq0 e1; clear hres e1)
  all_goals
    have e2 := set_ibox1 H1.out (.slice sa l.length sc)
    obtain ⟨d3, d4, d5, d6⟩ := cell_ibox e2
    have e3 := set_ibox0 e2 (decide (n < 0))
    have d7 : (w1.setCell ⟨bz, 1, none⟩ (.slice sa l.length sc)).cell? ⟨b, o, none⟩ = some (.bool (decide (n < 0))) := by
      rw [World.cell?_of_block (Below.heap_setCell _ _ _ _ Hne.out), World.cell?_of_block (HR.out.grown.block b hlt (fun e => HB.out e.symm))]; exact h1
    have HF : Hid (IntBox ((w1.setCell ⟨bz, 1, none⟩ (.slice sa l.length sc)).setCell ⟨bz, 0, none⟩ (.bool (decide (n < 0)))) bz (.slice sa l.length sc) n ∧ Grown2 w ((w1.setCell ⟨bz, 1, none⟩ (.slice sa l.length sc)).setCell ⟨bz, 0, none⟩ (.bool (decide (n < 0)))) bz z.ownBlock ∧ ∀ k, (Value.slice sa l.length sc).ownBlock = some k → some k = z.ownBlock ∨ w.heap.size ≤ k) := by
      have g := (grown_set2 (b := bz) HR.out.grown 1 (.slice sa l.length sc)).set 0 (.bool (decide (n < 0)))
      refine ⟨⟨e3, l, ?_, wl, nl, HV.out, hlen⟩, ⟨g.os, g.tape, g.output, g.size, g.block⟩, HR.out.own⟩
      have hb := isNat_ibox H1.out HR.out.nat
      exact (HR.out.nat.set hb _ _).set hb _ _
    clear e2 e3
    go_wp2
    go_ret
    exact ⟨rfl, _, HF.out⟩
theorem Set_same {w : World} {b o : Nat} {v : Value} {n : Int} (hz : IntC w b o v n) :
    Calls Tryz.prog 111 #[.pointer (some ⟨b, o, none⟩), .pointer (some ⟨b, o, none⟩)] w fun e w' => e = .returned (.pointer (some ⟨b, o, none⟩)) ∧ w = w' := by
  have E := ptr_neq_same ⟨b, o, none⟩ w
  clear hz
  go_enter Tryz.func111, Tryz.ntmps111
  go_wp2
  go_ret
  exact ⟨rfl, rfl⟩
theorem IntBox.neg {w : World} {b : Nat} {v : Value} {n : Int} (h : IntBox w b v n) (m : Int) (hm : m.natAbs = n.natAbs) : IntBox (w.setCell ⟨b, 0, none⟩ (.bool (decide (m < 0)))) b v m := by
  obtain ⟨h1, l, hn, wl, nl, hv, hlen⟩ := h
  exact ⟨set_ibox0 h1 _, l, hn.set (isNat_ibox h1 hn) _ _, wl, nl, by rw [hm]; exact hv, hlen⟩
theorem IntBox.draw {w : World} {b : Nat} {v : Value} {n : Int} (h : IntBox w b v n) (q : Nat) : IntBox (w.drewN q) b v n := by
  obtain ⟨h1, l, hn, hl⟩ := h
  exact ⟨h1, l, hn.draw q, hl⟩
theorem Abs_any {w : World} {bz b o : Nat} {z v : Value} {n0 n : Int} (hz : IntBox w bz z n0) (hx : IntC w b o v n) (hne : b ≠ bz) :
    Calls Tryz.prog 85 #[.pointer (some ⟨bz, 0, none⟩), .pointer (some ⟨b, o, none⟩)] w fun e w' => e = .returned (.pointer (some ⟨bz, 0, none⟩)) ∧ ∃ v', IntBox w' bz v' n.natAbs ∧ Grown2 w w' bz z.ownBlock ∧ ∀ k, v'.ownBlock = some k → some k = z.ownBlock ∨ w.heap.size ≤ k := by
  have H := Hq0 (Set_any hz hx hne)
  clear hz hx
  go_enter Tryz.func85, Tryz.ntmps85
  go_wp2_with (fail)
  refine H.out.mono ?_
  rintro e w1 ⟨rfl, v1, hb, hg, hown⟩
  obtain ⟨c0, c1, f0, f1⟩ := cell_ibox hb.here
  have HB := Hq0 (hb.neg n.natAbs (by simp))
  have e0 : decide ((n.natAbs : Int) < 0) = false := by simp
  rw [e0] at HB
  have HG := Hq0 (hg.set 0 (.bool false))
  have HO := Hq0 hown
  clear hb hg e0 hown
  generalize decide (n < 0) = g at *
  go_wp2
  go_ret
  exact ⟨rfl, _, HB.out, HG.out, HO.out⟩
theorem neg_sign {n : Int} {l : List Int} (nl : Nrm l) (wl : wfL l) (hv : val l = n.natAbs) : decide (-n < 0) = (decide (0 < (l.length : Int)) && !decide (n < 0)) := by
  have hnil := nl.nil_iff wl
  by_cases h0 : n = 0
  · subst h0
    have : l = [] := hnil.2 (by rw [hv]; rfl)
    subst this; simp
  · have h1 : l ≠ [] := fun e => h0 (by have := hnil.1 e; omega)
    have h2 : (0 : Int) < l.length := by
      cases l with
      | nil => exact absurd rfl h1
      | cons a t => simp
    simp only [h2, decide_true, Bool.true_and]
    by_cases hn : n < 0
    · simp [hn]; try omega
    · simp [hn]; try omega
theorem Neg_same {w : World} {b : Nat} {v : Value} {n : Int} (hz : IntBox w b v n) :
    Calls Tryz.prog 84 #[.pointer (some ⟨b, 0, none⟩), .pointer (some ⟨b, 0, none⟩)] w fun e w' => e = .returned (.pointer (some ⟨b, 0, none⟩)) ∧ ∃ q, w' = (w.drewN q).setCell ⟨b, 0, none⟩ (.bool (decide (-n < 0))) := by
  have hc := Hq0 hz.c
  obtain ⟨h1, l, hn, wl, nl, hv, hlen⟩ := hz
  obtain ⟨a, c, rfl⟩ := hn.slice
  obtain ⟨c0, c1, f0, f1⟩ := cell_ibox h1
  have HS := neg_sign nl wl hv
  clear hn hv h1
  generalize decide (n < 0) = g at *
  by_cases hl : (0 : Int) < l.length
  · have HS : Hid (decide (-n < 0) = !g) := Hq0 (by rw [HS]; simp; omega)
    go_enter Tryz.func84, Tryz.ntmps84
    go_wp2_with (fail)
    refine (Set_same hc.out).mono ?_
    rintro e w1 ⟨rfl, rfl⟩
    go_wp2
    go_ret
    exact ⟨rfl, 0, by rw [HS.out]; rfl⟩
  · have HS : Hid (decide (-n < 0) = false) := Hq0 (by rw [HS]; simp; omega)
    go_enter Tryz.func84, Tryz.ntmps84
    go_wp2_with (fail)
    refine (Set_same hc.out).mono ?_
    rintro e w1 ⟨rfl, rfl⟩
    go_wp2
    go_ret
    exact ⟨rfl, 0, by rw [HS.out]; rfl⟩
end Go.Proofs.YtjcfacinlgogaaaGreatDoor
namespace Go.Proofs.YtjcfacinlgogaaaGreatDoor
open Go.RowKit
theorem mul_one {w : World} {z x y : Value} {lz lx : List Int} (stk : Value) (y0 : Int) (hz : IsNat w z lz) (hx : IsNat w x lx) (hy : IsNat w y [y0]) (wx : wfL lx) (h0 : lx ≠ []) (hn : lx.length ≤ 100000000000) (uy : U64 y0) :
    Calls Tryz.prog 139 #[z, stk, x, y] w fun e w' => NatVal w w' z.ownBlock e (val lx * y0) := by
  obtain ⟨b, cap, M, rfl, hb, hc, hm, hat, hown⟩ := hy.split (by simp)
  have g1 : w.cell? ⟨b, 0, none⟩ = some (.int .u64 y0) := hat 0 (by simp)
  have Hz := Hq0 hz; have Hx := Hq0 hx
  obtain ⟨xa, xc, rfl⟩ := hx.slice
  have hl1 : 1 ≤ lx.length := by cases lx with | nil => exact absurd rfl h0 | cons a l => simp
  have hlt : ¬ ((lx.length : Int) < 1) := by omega
  have hl0 : ((lx.length : Int) == 0) = false := by simp; omega
  clear hz hx hy hb hat hown h0
  go_enter Tryz.func139, Tryz.ntmps139
  go_wp2_with (fail)
  refine (mulAddWW_any y0 0 Hz.out Hx.out wx hn uy u0).mono ?_
  rintro e w1 ⟨v, l, rfl, hr, wl, nl, hv⟩
  rw [Int.add_zero] at hv
  have HR := Hq0 hr; have HV := Hq0 hv
  clear hr hv
  go_wp2
  go_ret
  exact ⟨_, _, rfl, HR.out, wl, nl, HV.out⟩
theorem mul_sign {x y : Int} {l : List Int} (nl : Nrm l) (wl : wfL l) (hv : val l = (x * y).natAbs) : decide (x * y < 0) = (decide (0 < (l.length : Int)) && (decide (x < 0) != decide (y < 0))) := by
  have hnil := nl.nil_iff wl
  by_cases h0 : x * y = 0
  · have : l = [] := hnil.2 (by rw [hv, h0]; rfl)
    rw [h0]; subst this; simp
  · have h1 : l ≠ [] := fun e => h0 (by have := hnil.1 e; omega)
    have h2 : (0 : Int) < l.length := by
      cases l with
      | nil => exact absurd rfl h1
      | cons a t => simp
    simp only [h2, decide_true, Bool.true_and]
    have hx0 : x ≠ 0 := fun e => h0 (by rw [e, Int.zero_mul])
    have hy0 : y ≠ 0 := fun e => h0 (by rw [e, Int.mul_zero])
    by_cases hx : x < 0 <;> by_cases hy : y < 0
    · have := Int.mul_pos_of_neg_of_neg hx hy
      simp [hx, hy]; omega
    · have := Int.mul_neg_of_neg_of_pos hx (show 0 < y by omega)
      simp [hx, hy]; omega
    · have := Int.mul_neg_of_pos_of_neg (show 0 < x by omega) hy
      simp [hx, hy]; omega
    · have := Int.mul_pos (show 0 < x by omega) (show 0 < y by omega)
      simp [hx, hy]; omega
theorem len_lt {l : List Int} (nl : Nrm l) (wl : wfL l) {n : Nat} (h : val l < B64 ^ n) : l.length ≤ n := by
  rcases Nat.lt_or_ge n l.length with h1 | h1
  · have h2 := val_ge nl wl (by omega)
    have h3 := pow_mono (a := n) (b := l.length - 1) (by omega)
    omega
  · exact h1
theorem len_one {l : List Int} (nl : Nrm l) (wl : wfL l) {n : Int} (h : val l = n) (h0 : n ≠ 0) (h1 : n < 18446744073709551616) : l = [n] := by
  have h2 := len_lt nl wl (n := 1) (by rw [h, Int.pow_one]; exact h1)
  match l, h2 with
  | [], _ => simp [val] at h; omega
  | [a], _ => simp [val] at h; rw [h]
theorem mulI_one {w : World} {bz bx ox by_ oy : Nat} {x y : Value} {nx ny : Int} (stk : Value) (hz : w.heap[bz]? = some (ibox false (.slice none 0 0))) (hx : IntC w bx ox x nx) (hy : IntC w by_ oy y ny)
    (h1 : bx ≠ bz) (h2 : by_ ≠ bz) (h3 : (⟨bx, ox, none⟩ : Addr) ≠ ⟨by_, oy, none⟩) (h4 : nx ≠ 0) (h5 : ny ≠ 0) (h6 : ny.natAbs < 18446744073709551616) (h7 : ((nx * ny).natAbs : Int) < B64 ^ 1000) :
    Calls Tryz.prog 114 #[.pointer (some ⟨bz, 0, none⟩), stk, .pointer (some ⟨bx, ox, none⟩), .pointer (some ⟨by_, oy, none⟩)] w fun e w' => e = .returned (.tuple #[]) ∧ ∃ v', IntBox w' bz v' (nx * ny) ∧ Grown2 w w' bz none := by
  obtain ⟨x1, x2, xo, lx, hnx, wx, nlx, hvx, hlx⟩ := hx
  obtain ⟨y1, y2, yo, ly, hny, wy, nly, hvy, hly⟩ := hy
  obtain ⟨c0, c1, f0, f1⟩ := cell_ibox hz
  have E := (ptr_eql_other (wx := w) h3 xo yo).1
  obtain rfl := len_one nly wy hvy (by omega) (by omega)
  have hlx0 : lx ≠ [] := fun e => h4 (by rw [e] at hvx; simp [val] at hvx; omega)
  have HX := Hq0 hnx; have HY := Hq0 hny; have HVX := Hq0 hvx; have HZ := Hq0 hz
  have huy : U64 ny.natAbs := by unfold U64 B64; omega
  obtain ⟨_, _, xo'⟩ := xo
  obtain ⟨_, _, yo'⟩ := yo
  have ltx : bx < w.heap.size := (Array.getElem?_eq_some_iff.1 xo').1
  have lty : by_ < w.heap.size := (Array.getElem?_eq_some_iff.1 yo').1
  have ltz : bz < w.heap.size := (Array.getElem?_eq_some_iff.1 hz).1
  have Hne1 := Hq0 h1; have Hne2 := Hq0 h2; have H7 := Hq0 h7
  have X1 := Hq0 x1; have Y1 := Hq0 y1
  obtain ⟨xa, xc, rfl⟩ := hnx.slice
  obtain ⟨ya, yc, rfl⟩ := hny.slice
  have HP := Hq0 (Int.mul_ne_zero h4 h5)
  clear hnx hny hvx hvy hz xo' yo' h1 h2 h3 h7 x1 y1 h5 h4
  go_enter Tryz.func114, Tryz.ntmps114
  go_upto_region 3 with fail
  go_cut [] from 27 to 43 (fun wx => ∃ sa l1 sc, wx.heap[bz]? = some (ibox false (.slice sa l1.length sc)) ∧ Grown2 w wx bz none ∧ IsNat wx (.slice sa l1.length sc) l1 ∧ wfL l1 ∧ Nrm l1 ∧ val l1 = val lx * ny.natAbs)
  case first =>
    go_region_with (go_at_call 139; refine (mul_one stk ny.natAbs (IsNat.nil _) (HX.out.draw 1) (HY.out.draw 1) wx hlx0 (by omega) huy).mono ?_; rintro e w1 ⟨v1, l1, rfl, hres, wl1, nl1, hv1⟩; obtain ⟨sa, sc, rfl⟩ := hres.nat.slice; have e1 : w1.heap[bz]? = some (ibox false (.slice none 0 0)) := (hres.grown.block bz ltz (by simp [Value.ownBlock])).trans HZ.out; obtain ⟨_, d1, _, d2⟩ := cell_ibox e1; have HR := Hq0 hres; have H1 := Hq0 e1; have HV1 := Hq0 hv1; clear hres e1 hv1)
    all_goals
      have e2 := set_ibox1 H1.out (.slice sa l1.length sc)
      have g := grown_set2 (b := bz) HR.out.grown 1 (.slice sa l1.length sc)
      have hb := isNat_ibox H1.out HR.out.nat
      have HF := Hq0 (show _ ∧ _ ∧ _ from ⟨e2, (⟨g.os, g.tape, g.output, g.size, g.block⟩ : Grown2 w _ bz none), HR.out.nat.set hb 1 (.slice sa l1.length sc)⟩)
      clear e2 g hb
      go_wp2_with (fail)
      go_meet
      exact ⟨sa, l1, sc, HF.out.1, HF.out.2.1, HF.out.2.2, wl1, nl1, HV1.out⟩
  case rest =>
    obtain ⟨sa, l1, sc, e2, g, hn, wl1, nl1, hv1⟩ := hcut
    rw [HVX.out, show ((nx.natAbs : Int) * ny.natAbs) = (nx * ny).natAbs by rw [Int.natAbs_mul]; simp] at hv1
    have hsg := mul_sign nl1 wl1 hv1
    have HVL := Hq0 hv1
    have x1' : wc.cell? ⟨bx, ox, none⟩ = some (.bool (decide (nx < 0))) := by rw [World.cell?_of_block (g.block bx ltx Hne1.out (by simp))]; exact X1.out
    have y1' : wc.cell? ⟨by_, oy, none⟩ = some (.bool (decide (ny < 0))) := by rw [World.cell?_of_block (g.block by_ lty Hne2.out (by simp))]; exact Y1.out
    obtain ⟨d0, d1, d2, d3⟩ := cell_ibox e2
    have hlen : l1.length ≤ 10000000000 := Nat.le_trans (len_lt nl1 wl1 (n := 1000) (by rw [hv1]; exact H7.out)) (by omega)
    have hf := IntBox.fresh (n := nx * ny) (set_ibox0 e2 (decide (nx * ny < 0))) rfl (hn.set (isNat_ibox e2 hn) 0 (.bool (decide (nx * ny < 0)))) wl1 nl1 hv1 hlen
    have HF := Hq0 hf
    have HG := Hq0 (g.set 0 (.bool (decide (nx * ny < 0))))
    rw [hsg] at HF HG
    clear e2 g hn hv1 hf hsg X1 Y1 HX HY HZ
    generalize decide (nx < 0) = sx at *
    generalize decide (ny < 0) = sy at *
    have hl : (0 : Int) < l1.length := by
      rcases Nat.eq_zero_or_pos l1.length with h | h
      · have := List.eq_nil_of_length_eq_zero h
        rw [this] at HVL
        have h2 := HVL.out; have h3 := HP.out
        simp only [val] at h2
        exact absurd (Int.natAbs_eq_zero.1 (by omega)) h3
      · omega
    generalize l1.length = n1 at *
    clear wl1 nl1
    have hl2 : 0 < n1 := by omega
    have ed : decide ((0 : Int) < n1) = true := decide_eq_true hl
    rw [ed, Bool.true_and] at HF HG
    go_wp2_with (fail)
    go_still_tail 20, (by kernel_rfl)
    change wpList _ _ _ _ _ (World.drew _)
    go_wp2
    first | (refine bodyPost_end (results_none rfl _ _ _) rfl ?_) | (refine bodyPost_ret (results_none rfl _ _ _) rfl ?_)
    exact ⟨rfl, _, by have h := HF.out.draw 1; exact h, by have h := HG.out.draw 1; exact h⟩
end Go.Proofs.YtjcfacinlgogaaaGreatDoor
