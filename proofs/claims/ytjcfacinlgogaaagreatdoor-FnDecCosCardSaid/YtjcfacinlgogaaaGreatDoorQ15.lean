/- Whole numbers: sums. Conditions: at most 1000 words. Whole numbers: the opposite, into another number. Long division: the guess of one digit. Long division: what one round does to the numbers (plain). Long division: the stack's marks; the division's world. Long division: the state of the loop, the words of one guess (plain). -/
import Derived.Deep.RegionHeld3
import Derived.Lib.AppendZeros
import Derived.WalkMore
import Derived.Test.YtjcfacinlgogaaaGreatDoorQ07
import Derived.Test.YtjcfacinlgogaaaGreatDoorQ01
import Derived.Test.YtjcfacinlgogaaaGreatDoorQ09
set_option linter.all false
namespace Go.Proofs.YtjcfacinlgogaaaGreatDoor
open Go.RowKit
def AdMid (w : World) (bz : Nat) (z : Value) (n : Int) (neg : Bool) (l1 : List Int) (v1 : Value) (wx : World) : Prop :=
  ∃ g, wx.heap[bz]? = some (ibox g v1) ∧ Grown2 w wx bz z.ownBlock ∧ IsNat wx v1 l1 ∧ wfL l1 ∧ Nrm l1 ∧ val l1 = n.natAbs ∧ (l1 ≠ [] → neg = decide (n < 0)) ∧ (∀ k, v1.ownBlock = some k → some k = z.ownBlock ∨ w.heap.size ≤ k)
theorem adMid_of {w w1 : World} {bz q : Nat} {z v1 : Value} {n s : Int} {g neg : Bool} {l1 : List Int} (hz : w.heap[bz]? = some (ibox g z)) (hzb : z.ownBlock ≠ some bz) (hr : NatRes (w.drewN q) w1 z.ownBlock v1 l1) (wl : wfL l1) (nl : Nrm l1) (hv : val l1 = s) (hs : s = n.natAbs) (hn : s ≠ 0 → neg = decide (n < 0)) :
    AdMid w bz z n neg l1 v1 (w1.setCell ⟨bz, 1, none⟩ v1) := by
  have e1 : w1.heap[bz]? = some (ibox g z) := (hr.grown.block bz (Array.getElem?_eq_some_iff.1 hz).1 (fun e => hzb e.symm)).trans hz
  have g := grown_set2 (b := bz) hr.grown 1 v1
  exact ⟨_, set_ibox1 e1 _, ⟨g.os, g.tape, g.output, g.size, g.block⟩, hr.nat.set (isNat_ibox e1 hr.nat) 1 _, wl, nl, by rw [hv, hs], fun h => hn (fun e => h ((nl.nil_iff wl).2 (by rw [hv, e]))), hr.own⟩
@[irreducible] def M1000 (n : Int) : Prop := (n.natAbs : Int) < B64 ^ 1000
def AdFin (w : World) (bz : Nat) (z : Value) (n : Int) (v1 : Value) (w2 : World) : Prop := IntBox w2 bz v1 n ∧ Grown2 w w2 bz z.ownBlock ∧ ∀ k, v1.ownBlock = some k → some k = z.ownBlock ∨ w.heap.size ≤ k
theorem AdMid.fin {w wx : World} {bz : Nat} {z v1 : Value} {n : Int} {neg : Bool} {l1 : List Int} (h : AdMid w bz z n neg l1 v1 wx) (h7 : M1000 n) :
    wx.cell? ⟨bz, 1, none⟩ = some v1 ∧ wx.frozen? ⟨bz, 0, none⟩ = false ∧ (∃ g, wx.cell? ⟨bz, 0, none⟩ = some (.bool g)) ∧ (l1.length = 0 → AdFin w bz z n v1 (wx.setCell ⟨bz, 0, none⟩ (.bool false))) ∧ (l1.length ≠ 0 → AdFin w bz z n v1 (wx.setCell ⟨bz, 0, none⟩ (.bool neg))) := by
  unfold M1000 at h7
  obtain ⟨g, e2, hg, hn, wl, nl, hv, hsg, hown⟩ := h
  obtain ⟨d0, d1, d2, d3⟩ := cell_ibox e2
  have hlen : l1.length ≤ 10000000000 := Nat.le_trans (len_lt nl wl (n := 1000) (by rw [hv]; exact h7)) (by omega)
  refine ⟨d1, d2, ⟨_, d0⟩, fun h0 => ?_, fun h0 => ?_⟩
  · have hl := List.eq_nil_of_length_eq_zero h0
    subst hl
    have hn0 : n = 0 := by simp only [val] at hv; omega
    exact ⟨IntBox.fresh (set_ibox0 e2 false) (by rw [hn0]; rfl) (hn.set (isNat_ibox e2 hn) 0 _) wl nl hv hlen, hg.set 0 _, hown⟩
  · have := hsg (fun e => h0 (by rw [e]; rfl))
    exact ⟨IntBox.fresh (set_ibox0 e2 neg) this (hn.set (isNat_ibox e2 hn) 0 _) wl nl hv hlen, hg.set 0 _, hown⟩
theorem M1000.of {n : Int} (h : (n.natAbs : Int) < B64 ^ 1000) : M1000 n := by unfold M1000; exact h
end Go.Proofs.YtjcfacinlgogaaaGreatDoor
namespace Go.Proofs.YtjcfacinlgogaaaGreatDoor
open Go.RowKit
theorem IntBox.slice {w : World} {b : Nat} {v : Value} {n : Int} (h : IntBox w b v n) : ∃ a l c, v = .slice a (l : List Int).length c ∧ decide (-n < 0) = (decide (0 < (l.length : Int)) && !decide (n < 0)) := by
  obtain ⟨h1, l, hn, wl, nl, hv, hlen⟩ := h
  obtain ⟨a, c, rfl⟩ := hn.slice
  exact ⟨a, l, c, rfl, neg_sign nl wl hv⟩
theorem Neg_any {w : World} {bz b o : Nat} {z v : Value} {n0 n : Int} (hz : IntBox w bz z n0) (hx : IntC w b o v n) (hne : b ≠ bz) :
    Calls Tryz.prog 84 #[.pointer (some ⟨bz, 0, none⟩), .pointer (some ⟨b, o, none⟩)] w fun e w' => e = .returned (.pointer (some ⟨bz, 0, none⟩)) ∧ ∃ v', IntBox w' bz v' (-n) ∧ Grown2 w w' bz z.ownBlock ∧ ∀ k, v'.ownBlock = some k → some k = z.ownBlock ∨ w.heap.size ≤ k := by
  have H := Hq0 (Set_any hz hx hne)
  clear hz hx
  go_enter Tryz.func84, Tryz.ntmps84
  go_wp2_with (fail)
  refine H.out.mono ?_
  rintro e w1 ⟨rfl, v1, hb, hg, hown⟩
  obtain ⟨c0, c1, f0, f1⟩ := cell_ibox hb.here
  obtain ⟨va, l, vc, rfl, hs⟩ := hb.slice
  have HB := Hq0 (hb.neg (-n) (by simp))
  rw [hs] at HB
  have HG := Hq0 fun g => hg.set 0 (.bool g)
  have HO := Hq0 hown
  clear hb hg hs hown H
  generalize decide (n < 0) = g at *
  by_cases hl : (0 : Int) < l.length
  · rw [decide_eq_true hl, Bool.true_and] at HB
    go_wp2
    go_ret
    exact ⟨rfl, _, HB.out, HG.out _, HO.out⟩
  · rw [decide_eq_false hl, Bool.false_and] at HB
    go_wp2
    go_ret
    exact ⟨rfl, _, HB.out, HG.out _, HO.out⟩
end Go.Proofs.YtjcfacinlgogaaaGreatDoor
namespace Go.Proofs.YtjcfacinlgogaaaGreatDoor
open Go.RowKit
def Guess (T V q : Int) : Prop := 0 ≤ q ∧ q < B64 ∧ T < (q + 1) * V ∧ (q - 1) * V ≤ T
theorem guess_lo {q rhat T V vn1 vn2 t3 P lo X u2 : Int} (hV : V = (vn1 * B64 + vn2) * P + lo) (h0 : 0 ≤ lo) (hP : 0 < P) (hT : T = t3 * P + X) (hX : X < P)
    (hr : rhat * B64 + u2 = t3 - q * vn1 * B64) (hgt : rhat * B64 + u2 < q * vn2) (hq : 0 ≤ q) : T < q * V := by
  have h1 : t3 + 1 ≤ q * (vn1 * B64 + vn2) := by
    rw [Int.mul_add, ← Int.mul_assoc]; ((try unfold U64 at *); (try unfold B64 at *); omega)
  have h2 : (t3 + 1) * P ≤ q * (vn1 * B64 + vn2) * P := Int.mul_le_mul_of_nonneg_right h1 (by ((try unfold U64 at *); (try unfold B64 at *); omega))
  have h3 : 0 ≤ q * lo := Int.mul_nonneg hq h0
  have h4 : q * V = q * (vn1 * B64 + vn2) * P + q * lo := by rw [hV, Int.mul_add, Int.mul_assoc]
  have h5 : (t3 + 1) * P = t3 * P + P := by rw [Int.add_mul, Int.one_mul]
  ((try unfold U64 at *); (try unfold B64 at *); omega)
theorem guess_hi {q rhat T V vn1 vn2 t3 P lo X u2 : Int} (hV : V = (vn1 * B64 + vn2) * P + lo) (h0 : lo < P) (hP : 0 < P) (hT : T = t3 * P + X) (hX : 0 ≤ X)
    (hr : rhat * B64 + u2 = t3 - q * vn1 * B64) (hle : q * vn2 ≤ rhat * B64 + u2) (hq : 0 < q) (hqB : q * P ≤ V) : (q - 1) * V ≤ T := by
  have h1 : q * (vn1 * B64 + vn2) ≤ t3 := by
    rw [Int.mul_add, ← Int.mul_assoc]; ((try unfold U64 at *); (try unfold B64 at *); omega)
  have h2 : q * (vn1 * B64 + vn2) * P ≤ t3 * P := Int.mul_le_mul_of_nonneg_right h1 (by ((try unfold U64 at *); (try unfold B64 at *); omega))
  have h4 : q * V = q * (vn1 * B64 + vn2) * P + q * lo := by rw [hV, Int.mul_add, Int.mul_assoc]
  have h5 : q * lo < q * P := Int.mul_lt_mul_of_pos_left h0 hq
  have h6 : (q - 1) * V = q * V - V := by rw [Int.sub_mul, Int.one_mul]
  ((try unfold U64 at *); (try unfold B64 at *); omega)
theorem guess_top {T V vn1 P : Int} (hP : 0 < P) (hV : V < (vn1 + 1) * P) (hT : vn1 * B64 * P ≤ T) (hn : 9223372036854775808 ≤ vn1) (hTV : T < V * B64) : Guess T V (B64 - 1) := by
  have hB : (B64 : Int) = 18446744073709551616 := rfl
  have h1 : (B64 - 2) * V ≤ (B64 - 2) * ((vn1 + 1) * P) := Int.mul_le_mul_of_nonneg_left (by ((try unfold U64 at *); (try unfold B64 at *); omega)) (by ((try unfold U64 at *); (try unfold B64 at *); omega))
  have h2 : (B64 - 2) * (vn1 + 1) ≤ vn1 * B64 := by ((try unfold U64 at *); (try unfold B64 at *); omega)
  have h3 : (B64 - 2) * (vn1 + 1) * P ≤ vn1 * B64 * P := Int.mul_le_mul_of_nonneg_right h2 (by ((try unfold U64 at *); (try unfold B64 at *); omega))
  rw [Int.mul_assoc] at h3
  refine ⟨by ((try unfold U64 at *); (try unfold B64 at *); omega), by ((try unfold U64 at *); (try unfold B64 at *); omega), ?_, ?_⟩
  · rw [show (B64 - 1 + 1 : Int) = B64 by ((try unfold U64 at *); (try unfold B64 at *); omega), Int.mul_comm]; exact hTV
  · rw [show (B64 - 1 - 1 : Int) = B64 - 2 by ((try unfold U64 at *); (try unfold B64 at *); omega)]; ((try unfold U64 at *); (try unfold B64 at *); omega)
structure GsC (T V uj u1 u2 vn1 vn2 P lo X : Int) : Prop where
  hV : V = (vn1 * B64 + vn2) * P + lo
  l0 : 0 ≤ lo
  l1 : lo < P
  hT : T = ((uj * B64 + u1) * B64 + u2) * P + X
  x0 : 0 ≤ X
  x1 : X < P
  j0 : 0 ≤ uj
  jv : uj < vn1
  w1 : U64 u1
  w2 : U64 u2
  n1 : 9223372036854775808 ≤ vn1
  v1 : U64 vn1
  v2 : U64 vn2
structure GsR (T V uj u1 u2 vn1 vn2 q r x1 x2 : Int) : Prop where
  eq : q * vn1 + r = uj * B64 + u1
  q0 : 0 ≤ q
  q1 : q < B64
  r : U64 r
  x : q * vn2 = x1 * B64 + x2
  y1 : U64 x1
  y2 : U64 x2
  lo : T < (q + 1) * V
theorem GsC.pos {T V uj u1 u2 vn1 vn2 P lo X : Int} (c : GsC T V uj u1 u2 vn1 vn2 P lo X) : 0 < P ∧ 0 ≤ T ∧ B64 * P ≤ V ∧ 0 < V := by
  have hP : 0 < P := by have := c.l0; have := c.l1; ((try unfold U64 at *); (try unfold B64 at *); omega)
  have hB : (B64 : Int) = 18446744073709551616 := rfl
  have h1 : B64 * P ≤ (vn1 * B64 + vn2) * P := Int.mul_le_mul_of_nonneg_right (by have := c.n1; have := c.v2.1; ((try unfold U64 at *); (try unfold B64 at *); omega)) (by ((try unfold U64 at *); (try unfold B64 at *); omega))
  have h2 : 0 ≤ ((uj * B64 + u1) * B64 + u2) * P := Int.mul_nonneg (by have := c.j0; have := c.w1.1; have := c.w2.1; ((try unfold U64 at *); (try unfold B64 at *); omega)) (by ((try unfold U64 at *); (try unfold B64 at *); omega))
  have := c.hV; have := c.l0; have := c.hT; have := c.x0
  have h3 : 0 < B64 * P := Int.mul_pos (by ((try unfold U64 at *); (try unfold B64 at *); omega)) hP
  exact ⟨hP, by ((try unfold U64 at *); (try unfold B64 at *); omega), by ((try unfold U64 at *); (try unfold B64 at *); omega), by ((try unfold U64 at *); (try unfold B64 at *); omega)⟩
theorem GsC.start {T V uj u1 u2 vn1 vn2 P lo X : Int} (c : GsC T V uj u1 u2 vn1 vn2 P lo X) {x1 x2 : Int} (hx : (uj * B64 + u1) / vn1 * vn2 = x1 * B64 + x2) (h1 : U64 x1) (h2 : U64 x2) :
    GsR T V uj u1 u2 vn1 vn2 ((uj * B64 + u1) / vn1) ((uj * B64 + u1) % vn1) x1 x2 := by
  have hB : (B64 : Int) = 18446744073709551616 := rfl
  have hp : 0 < vn1 := by have := c.n1; ((try unfold U64 at *); (try unfold B64 at *); omega)
  have e1 := Int.mul_ediv_add_emod (uj * B64 + u1) vn1
  have e2 := Int.emod_nonneg (uj * B64 + u1) (show vn1 ≠ 0 by ((try unfold U64 at *); (try unfold B64 at *); omega))
  have e3 := Int.emod_lt_of_pos (uj * B64 + u1) hp
  have e4 : 0 ≤ (uj * B64 + u1) / vn1 := Int.ediv_nonneg (by have := c.j0; have := c.w1.1; ((try unfold U64 at *); (try unfold B64 at *); omega)) (by ((try unfold U64 at *); (try unfold B64 at *); omega))
  have e5 : (uj * B64 + u1) / vn1 < B64 := by
    refine Int.ediv_lt_of_lt_mul hp ?_
    have : (uj + 1) * B64 ≤ vn1 * B64 := Int.mul_le_mul_of_nonneg_right (by have := c.jv; ((try unfold U64 at *); (try unfold B64 at *); omega)) (by ((try unfold U64 at *); (try unfold B64 at *); omega))
    have := c.w1.2
    rw [Int.mul_comm B64]; ((try unfold U64 at *); (try unfold B64 at *); omega)
  rw [Int.mul_comm] at e1
  obtain ⟨hP, hT0, _, hV0⟩ := c.pos
  refine ⟨e1, e4, e5, ⟨e2, by have := c.v1.2; ((try unfold U64 at *); (try unfold B64 at *); omega)⟩, hx, h1, h2, ?_⟩
  generalize (uj * B64 + u1) / vn1 = q at *
  generalize hr : (uj * B64 + u1) % vn1 = r at *
  have h3 : (uj * B64 + u1) * B64 + u2 + 1 ≤ (q + 1) * (vn1 * B64) := by
    rw [← Int.mul_assoc, Int.add_mul q 1 vn1, Int.one_mul]
    have := c.w2.2
    ((try unfold U64 at *); (try unfold B64 at *); omega)
  have h4 : ((uj * B64 + u1) * B64 + u2 + 1) * P ≤ (q + 1) * (vn1 * B64) * P := Int.mul_le_mul_of_nonneg_right h3 (by ((try unfold U64 at *); (try unfold B64 at *); omega))
  have h5 : (vn1 * B64) * P ≤ V := by
    have : (vn1 * B64) * P ≤ (vn1 * B64 + vn2) * P := Int.mul_le_mul_of_nonneg_right (by have := c.v2.1; ((try unfold U64 at *); (try unfold B64 at *); omega)) (by ((try unfold U64 at *); (try unfold B64 at *); omega))
    have := c.hV; have := c.l0; ((try unfold U64 at *); (try unfold B64 at *); omega)
  have h6 : (q + 1) * ((vn1 * B64) * P) ≤ (q + 1) * V := Int.mul_le_mul_of_nonneg_left h5 (by ((try unfold U64 at *); (try unfold B64 at *); omega))
  rw [← Int.mul_assoc] at h6
  rw [Int.add_mul, Int.one_mul] at h4
  have := c.hT; have := c.x1
  ((try unfold U64 at *); (try unfold B64 at *); omega)
theorem GsR.fin {T V uj u1 u2 vn1 vn2 P lo X q r x1 x2 : Int} (c : GsC T V uj u1 u2 vn1 vn2 P lo X) (g : GsR T V uj u1 u2 vn1 vn2 q r x1 x2) (h : ¬ r * B64 + u2 < x1 * B64 + x2) : Guess T V q := by
  obtain ⟨hP, hT0, hB, hV0⟩ := c.pos
  refine ⟨g.q0, g.q1, g.lo, ?_⟩
  by_cases h0 : q = 0
  · subst h0
    have : (0 - 1 : Int) * V = - V := by ((try unfold U64 at *); (try unfold B64 at *); omega)
    ((try unfold U64 at *); (try unfold B64 at *); omega)
  · refine guess_hi (u2 := u2) c.hV c.l1 hP c.hT c.x0 (rhat := r) ?_ ?_ (by have := g.q0; ((try unfold U64 at *); (try unfold B64 at *); omega)) ?_
    · have := g.eq
      generalize q * vn1 = m at *
      have : (m + r) * B64 = (uj * B64 + u1) * B64 := by rw [this]
      rw [Int.add_mul] at this; ((try unfold U64 at *); (try unfold B64 at *); omega)
    · have := g.x; ((try unfold U64 at *); (try unfold B64 at *); omega)
    · exact Int.le_trans (Int.mul_le_mul_of_nonneg_right (Int.le_of_lt g.q1) (by ((try unfold U64 at *); (try unfold B64 at *); omega))) hB
theorem GsR.less {T V uj u1 u2 vn1 vn2 P lo X q r x1 x2 : Int} (c : GsC T V uj u1 u2 vn1 vn2 P lo X) (g : GsR T V uj u1 u2 vn1 vn2 q r x1 x2) (h : r * B64 + u2 < x1 * B64 + x2) : 0 < q ∧ T < q * V := by
  obtain ⟨hP, hT0, hB, hV0⟩ := c.pos
  have h1 : T < q * V := by
    refine guess_lo (u2 := u2) c.hV c.l0 hP c.hT c.x1 (rhat := r) ?_ ?_ g.q0
    · have := g.eq
      generalize q * vn1 = m at *
      have : (m + r) * B64 = (uj * B64 + u1) * B64 := by rw [this]
      rw [Int.add_mul] at this; ((try unfold U64 at *); (try unfold B64 at *); omega)
    · have := g.x; ((try unfold U64 at *); (try unfold B64 at *); omega)
  refine ⟨?_, h1⟩
  by_cases h0 : q = 0
  · subst h0; ((try unfold U64 at *); (try unfold B64 at *); omega)
  · have := g.q0; ((try unfold U64 at *); (try unfold B64 at *); omega)
theorem GsR.over {T V uj u1 u2 vn1 vn2 P lo X q r x1 x2 : Int} (c : GsC T V uj u1 u2 vn1 vn2 P lo X) (g : GsR T V uj u1 u2 vn1 vn2 q r x1 x2) (h : r * B64 + u2 < x1 * B64 + x2) (ho : B64 ≤ r + vn1) : Guess T V (q - 1) := by
  obtain ⟨hP, hT0, hB, hV0⟩ := c.pos
  obtain ⟨hq, hlt⟩ := g.less c h
  have hBB : (B64 : Int) = 18446744073709551616 := rfl
  refine ⟨by ((try unfold U64 at *); (try unfold B64 at *); omega), by have := g.q1; ((try unfold U64 at *); (try unfold B64 at *); omega), by rw [show q - 1 + 1 = q by ((try unfold U64 at *); (try unfold B64 at *); omega)]; exact hlt, ?_⟩
  by_cases h0 : q - 1 = 0
  · rw [h0]
    have : (0 - 1 : Int) * V = - V := by ((try unfold U64 at *); (try unfold B64 at *); omega)
    ((try unfold U64 at *); (try unfold B64 at *); omega)
  · refine guess_hi (u2 := u2) c.hV c.l1 hP c.hT c.x0 (rhat := r + vn1) ?_ ?_ (by ((try unfold U64 at *); (try unfold B64 at *); omega)) ?_
    · have := g.eq
      rw [Int.sub_mul, Int.one_mul]
      generalize q * vn1 = m at *
      have : (m + r) * B64 = (uj * B64 + u1) * B64 := by rw [this]
      rw [Int.add_mul] at this
      rw [Int.add_mul, Int.sub_mul]; ((try unfold U64 at *); (try unfold B64 at *); omega)
    · have h2 : (q - 1) * vn2 ≤ B64 * B64 := Int.le_trans (Int.mul_le_mul_of_nonneg_right (show q - 1 ≤ B64 by have := g.q1; ((try unfold U64 at *); (try unfold B64 at *); omega)) c.v2.1) (Int.mul_le_mul_of_nonneg_left (Int.le_of_lt c.v2.2) (by ((try unfold U64 at *); (try unfold B64 at *); omega)))
      have h3 : B64 * B64 ≤ (r + vn1) * B64 := Int.mul_le_mul_of_nonneg_right ho (by ((try unfold U64 at *); (try unfold B64 at *); omega))
      have := c.w2.1; ((try unfold U64 at *); (try unfold B64 at *); omega)
    · exact Int.le_trans (Int.mul_le_mul_of_nonneg_right (show q - 1 ≤ B64 by have := g.q1; ((try unfold U64 at *); (try unfold B64 at *); omega)) (by ((try unfold U64 at *); (try unfold B64 at *); omega))) hB
theorem GsR.next {T V uj u1 u2 vn1 vn2 P lo X q r x1 x2 : Int} (c : GsC T V uj u1 u2 vn1 vn2 P lo X) (g : GsR T V uj u1 u2 vn1 vn2 q r x1 x2) (h : r * B64 + u2 < x1 * B64 + x2) (ho : r + vn1 < B64) :
    (x2 < vn2 → 0 < x1 ∧ GsR T V uj u1 u2 vn1 vn2 (q - 1) (r + vn1) (x1 - 1) (x2 - vn2 + B64)) ∧ (¬ x2 < vn2 → GsR T V uj u1 u2 vn1 vn2 (q - 1) (r + vn1) x1 (x2 - vn2)) := by
  obtain ⟨hq, hlt⟩ := g.less c h
  have hBB : (B64 : Int) = 18446744073709551616 := rfl
  have he : (q - 1) * vn1 + (r + vn1) = uj * B64 + u1 := by have := g.eq; rw [Int.sub_mul, Int.one_mul]; ((try unfold U64 at *); (try unfold B64 at *); omega)
  have hx : (q - 1) * vn2 = x1 * B64 + x2 - vn2 := by have := g.x; rw [Int.sub_mul, Int.one_mul]; ((try unfold U64 at *); (try unfold B64 at *); omega)
  have hx0 : 0 ≤ (q - 1) * vn2 := Int.mul_nonneg (by ((try unfold U64 at *); (try unfold B64 at *); omega)) c.v2.1
  have hq1 := g.q1
  have hr : U64 (r + vn1) := ⟨by have := g.r.1; have := c.v1.1; ((try unfold U64 at *); (try unfold B64 at *); omega), ho⟩
  have hl : T < (q - 1 + 1) * V := by rw [show q - 1 + 1 = q by ((try unfold U64 at *); (try unfold B64 at *); omega)]; exact hlt
  have a1 := g.y1.1; have a2 := g.y1.2; have b1 := g.y2.1; have b2 := g.y2.2; have d1 := c.v2.1; have d2 := c.v2.2
  refine ⟨fun h1 => ?_, fun h1 => ?_⟩
  · have hx1 : 0 < x1 := by ((try unfold U64 at *); (try unfold B64 at *); omega)
    exact ⟨hx1, he, by ((try unfold U64 at *); (try unfold B64 at *); omega), by ((try unfold U64 at *); (try unfold B64 at *); omega), hr, by rw [hx]; ((try unfold U64 at *); (try unfold B64 at *); omega), ⟨by ((try unfold U64 at *); (try unfold B64 at *); omega), by ((try unfold U64 at *); (try unfold B64 at *); omega)⟩, ⟨by ((try unfold U64 at *); (try unfold B64 at *); omega), by ((try unfold U64 at *); (try unfold B64 at *); omega)⟩, hl⟩
  · exact ⟨he, by ((try unfold U64 at *); (try unfold B64 at *); omega), by ((try unfold U64 at *); (try unfold B64 at *); omega), hr, by rw [hx]; ((try unfold U64 at *); (try unfold B64 at *); omega), ⟨by ((try unfold U64 at *); (try unfold B64 at *); omega), by ((try unfold U64 at *); (try unfold B64 at *); omega)⟩, ⟨by ((try unfold U64 at *); (try unfold B64 at *); omega), by ((try unfold U64 at *); (try unfold B64 at *); omega)⟩, hl⟩
theorem greaterThan_any (x1 x2 y1 y2 : Int) (w : World) (h1 : U64 x1) (h2 : U64 x2) (h3 : U64 y1) (h4 : U64 y2) :
    Calls Tryz.prog 244 #[.int .u64 x1, .int .u64 x2, .int .u64 y1, .int .u64 y2] w fun e w' => e = .returned (.bool (decide (y1 * B64 + y2 < x1 * B64 + x2))) ∧ w = w' := by
  by_cases ha : y1 < x1
  · have hd : Hid (decide (y1 * B64 + y2 < x1 * B64 + x2) = true) := Hq0 (by
      have := h2.1; have := h4.2
      have hBB : (B64 : Int) = 18446744073709551616 := rfl
      simp; ((try unfold U64 at *); (try unfold B64 at *); omega))
    rw [hd.out]
    clear h1 h2 h3 h4
    go_enter Tryz.func244, Tryz.ntmps244
    go_wp2
    go_ret
    exact ⟨rfl, rfl⟩
  · by_cases hb : x1 = y1
    · subst hb
      by_cases hc : y2 < x2
      · have hd : Hid (decide (x1 * B64 + y2 < x1 * B64 + x2) = true) := Hq0 (by simp; ((try unfold U64 at *); (try unfold B64 at *); omega))
        rw [hd.out]
        have he : (x1 == x1) = true := by simp
        clear h1 h2 h3 h4
        go_enter Tryz.func244, Tryz.ntmps244
        go_wp2
        go_ret
        exact ⟨rfl, rfl⟩
      · have hd : Hid (decide (x1 * B64 + y2 < x1 * B64 + x2) = false) := Hq0 (by simp; ((try unfold U64 at *); (try unfold B64 at *); omega))
        rw [hd.out]
        have he : (x1 == x1) = true := by simp
        clear h1 h2 h3 h4
        go_enter Tryz.func244, Tryz.ntmps244
        go_wp2
        go_ret
        exact ⟨rfl, rfl⟩
    · have hd : Hid (decide (y1 * B64 + y2 < x1 * B64 + x2) = false) := Hq0 (by
        have := h2.2; have := h4.1
        have hBB : (B64 : Int) = 18446744073709551616 := rfl
        simp; ((try unfold U64 at *); (try unfold B64 at *); omega))
      rw [hd.out]
      have he : (x1 == y1) = false := by simp [hb]
      clear h1 h2 h3 h4
      go_enter Tryz.func244, Tryz.ntmps244
      go_wp2
      go_ret
      exact ⟨rfl, rfl⟩
end Go.Proofs.YtjcfacinlgogaaaGreatDoor
namespace Go.Proofs.YtjcfacinlgogaaaGreatDoor
open Go.RowKit
theorem two_digits {P a s r t : Int} (h : a + P * s = r + P * t) (ha : 0 ≤ a) (ha2 : a < P) (hr : 0 ≤ r) (hr2 : r < P) : s = t ∧ a = r := by
  have h1 := Int.add_mul_emod_self_left a P s
  have h2 := Int.add_mul_emod_self_left r P t
  rw [h, h2, Int.emod_eq_of_lt ha ha2, Int.emod_eq_of_lt hr hr2] at h1
  subst h1
  have h3 : P * s = P * t := by omega
  exact ⟨Int.eq_of_mul_eq_mul_left (by omega) h3, rfl⟩
theorem dv_right {T V q z : Int} (hg : Guess T V q) (hz : z = T - q * V) (h0 : 0 ≤ z) : T = q * V + z ∧ z < V := by
  obtain ⟨g0, g1, g2, g3⟩ := hg
  rw [Int.add_mul, Int.one_mul] at g2
  omega
theorem dv_back {T V q z a c P zt : Int} (hg : Guess T V q) (hz : a + P * zt - P * B64 * 1 = T - q * V) (ha : 0 ≤ a) (ha1 : a < P) (hzt : zt < B64) (hVP : V < P) (hT0 : 0 ≤ T) {a2 c2 : Int} (h2 : a2 + P * c2 = a + V) (ha2 : 0 ≤ a2) (ha3 : a2 < P) (hV : 0 < V) :
    zt + c2 = B64 ∧ T = (q - 1) * V + a2 ∧ a2 < V ∧ 0 < q := by
  obtain ⟨g0, g1, g2, g3⟩ := hg
  have h4 : P * zt ≤ P * (B64 - 1) := Int.mul_le_mul_of_nonneg_left (by omega) (by omega)
  rw [Int.mul_sub, Int.mul_one] at h4
  have h5 : T < q * V := by omega
  have hs : (q - 1) * V = q * V - V := by rw [Int.sub_mul, Int.one_mul]
  have h6 : a2 + P * (zt + c2) = (T - (q - 1) * V) + P * B64 := by rw [Int.mul_add]; omega
  obtain ⟨e1, e2⟩ := two_digits h6 ha2 ha3 (by omega) (by omega)
  refine ⟨e1, by omega, by omega, ?_⟩
  by_cases hq : q = 0
  · subst hq; omega
  · omega
theorem dv_next {U0 lo T V d r Qh P : Int} (h0 : U0 = lo + P * T + V * (P * B64) * Qh) (hT : T = d * V + r) (hl : 0 ≤ lo) (hl2 : lo < P) (hr : r < V) : U0 = (lo + P * r) + V * P * (d + B64 * Qh) ∧ lo + P * r < V * P := by
  refine ⟨?_, ?_⟩
  · subst h0 hT
    grind
  · have : P * r ≤ P * (V - 1) := Int.mul_le_mul_of_nonneg_left (by omega) (by omega)
    rw [Int.mul_sub, Int.mul_one, Int.mul_comm P V] at this
    omega
structure DvB (V U0 : Int) (nu nq j : Nat) (U Q : List Int) : Prop where
  lu : nu ≤ U.length
  lq : nq ≤ Q.length
  wU : wfL (U.take nu)
  wQ : wfL ((Q.take nq).drop j)
  eq : U0 = val (U.take nu) + V * B64 ^ j * val ((Q.take nq).drop j)
  lt : val (U.take nu) < V * B64 ^ j
theorem val_take_big {l : List Int} (w : wfL l) {n : Nat} (hn : n ≤ l.length) (h : val l < B64 ^ n) : val l = val (l.take n) ∧ val (l.drop n) = 0 := by
  have h1 := val_split l n hn
  have h2 := val_nonneg (wfL_take w n)
  have h3 := val_nonneg (wfL_drop w n)
  have hp := B64_pow_pos n
  have h4 : val (l.drop n) = 0 := by
    rcases Int.lt_or_le 0 (val (l.drop n)) with h | h
    · have : B64 ^ n * 1 ≤ B64 ^ n * val (l.drop n) := Int.mul_le_mul_of_nonneg_left (by omega) (by omega)
      omega
    · omega
  rw [h4, Int.mul_zero, Int.add_zero] at h1
  exact ⟨h1, h4⟩
theorem DvB.top {V U0 : Int} {nu nq j n : Nat} {U Q : List Int} (h : DvB V U0 nu nq (j + 1) U Q) (hV : V < B64 ^ n) (hV0 : 0 < V) (hj : j ≤ nu) (hjn : j + n + 1 ≤ nu) :
    val ((U.take nu).drop j) < V * B64 ∧ val ((U.take nu).drop j) = val (((U.take nu).drop j).take (n + 1)) ∧ val (((U.take nu).drop j).drop (n + 1)) = 0 := by
  have hl := h.lu
  have h1 := val_split (U.take nu) j (by simp; omega)
  have h2 := val_nonneg (wfL_take h.wU j)
  have hp := B64_pow_pos j
  have hlt := h.lt
  have h3 : val ((U.take nu).drop j) < V * B64 := by
    rw [h1, Int.pow_succ] at hlt
    have h4 : B64 ^ j * val ((U.take nu).drop j) < B64 ^ j * (V * B64) := by
      have e : V * (B64 ^ j * B64) = B64 ^ j * (V * B64) := by grind
      omega
    exact Int.lt_of_mul_lt_mul_left h4 (by omega)
  have h5 : V * B64 ≤ B64 ^ (n + 1) := by
    rw [Int.pow_succ]
    exact Int.mul_le_mul_of_nonneg_right (by omega) (by unfold B64; omega)
  obtain ⟨e1, e2⟩ := val_take_big (wfL_drop h.wU j) (n := n + 1) (by simp; omega) (by omega)
  exact ⟨h3, e1, e2⟩
theorem DvB.step {V U0 : Int} {nu nq j n : Nat} {U Q R : List Int} {d : Int} (h : DvB V U0 nu nq (j + 1) U Q) (hV : V < B64 ^ n) (hV0 : 0 < V) (hjn : j + n + 1 ≤ nu) (hq : j < nq)
    (hR : R.length = n + 1) (wR : wfL R) (hT : val (((U.take nu).drop j).take (n + 1)) = d * V + val R) (hr : val R < V) (hd : U64 d) :
    DvB V U0 nu nq j (spl U j R) (Q.set j d) := by
  obtain ⟨t1, t2, t3⟩ := h.top hV hV0 (by omega) hjn
  have hl := h.lu; have hlq := h.lq
  have h1 := val_split (U.take nu) j (by simp; omega)
  have eU : (spl U j R).take nu = (U.take nu).take j ++ R ++ (U.take nu).drop (j + (n + 1)) := by
    unfold spl
    rw [hR, List.take_take, show min j nu = j by omega, List.take_append, List.take_of_length_le (l := List.take j U ++ R) (by simp; omega), List.drop_take]
    congr 1
    congr 1
    simp; omega
  have eQ : ((Q.set j d).take nq).drop j = d :: (Q.take nq).drop (j + 1) := by
    rw [List.take_set, List.drop_eq_getElem_cons (by simp; omega)]
    simp [List.drop_set_of_lt]
  have eD : (U.take nu).drop (j + (n + 1)) = ((U.take nu).drop j).drop (n + 1) := by rw [List.drop_drop]
  have lj : ((U.take nu).take j).length = j := by simp; omega
  have vU : val ((spl U j R).take nu) = val ((U.take nu).take j) + B64 ^ j * val R := by
    rw [eU, List.append_assoc, val_append, lj, val_append, eD, t3]; simp
  have wl := wfL_take h.wU j
  have b1 := val_nonneg wl
  have b2 := val_lt wl
  rw [lj] at b2
  have he := h.eq
  rw [h1, Int.pow_succ] at he
  obtain ⟨f1, f2⟩ := dv_next (d := d) (r := val R) he (by rw [t2]; exact hT) b1 b2 hr
  refine ⟨by rw [spl_length _ _ _ (by omega)]; exact hl, by simp; exact hlq, ?_, ?_, ?_, ?_⟩
  · rw [eU]; exact wfL_append (wfL_append wl wR) (wfL_drop h.wU _)
  · rw [eQ]; exact wfL_cons hd h.wQ
  · rw [vU, eQ]; exact f1
  · rw [vU]; exact f2
theorem DvB.done {V U0 : Int} {nu nq : Nat} {U Q : List Int} (h : DvB V U0 nu nq 0 U Q) (hV : 0 < V) : val (Q.take nq) = U0 / V ∧ val (U.take nu) = U0 % V := by
  have h1 := h.eq; have h2 := h.lt; have h3 := val_nonneg h.wU
  rw [Int.pow_zero, Int.mul_one, List.drop_zero] at h1
  rw [Int.pow_zero, Int.mul_one] at h2
  have h4 := (Int.ediv_emod_unique hV (a := U0) (r := val (U.take nu)) (q := val (Q.take nq))).2 ⟨h1.symm, h3, h2⟩
  exact ⟨h4.1.symm, h4.2.symm⟩
end Go.Proofs.YtjcfacinlgogaaaGreatDoor
namespace Go.Proofs.YtjcfacinlgogaaaGreatDoor
open Go.RowKit
theorem stackSave_any {w : World} {b : Nat} (h : w.cell? ⟨b, 0, none⟩ = some (.pointer none)) :
    Calls Tryz.prog 164 #[.pointer (some ⟨b, 0, none⟩)] w fun e w' => e = .returned (.int .i64 0) ∧ w = w' := by
  go_enter Tryz.func164, Tryz.ntmps164
  go_wp2
  go_ret
  exact ⟨rfl, rfl⟩
theorem stackRestore_d {w : World} {b : Nat} {i : Int} (u : FrameMode) (h : w.cell? ⟨b, 0, none⟩ = some (.pointer none)) :
    CallsD Tryz.prog 163 #[.pointer (some ⟨b, 0, none⟩), .int .i64 i] u w fun e u' w' => u' = u ∧ (e = .returned (.tuple #[]) ∧ w' = w) := by
  go_enter_d Tryz.func163, Tryz.ntmps163
  go_wp2
  refine bodyPost_ret (results_none rfl _ _ _) rfl ?_
  exact ⟨rfl, rfl⟩
structure DvW (w wr : World) (bu bq bh ch : Nat) (U Q : List Int) : Prop where
  os : wr.os = w.os
  tape : wr.tape = w.tape
  output : wr.output = w.output
  size : wr.heap.size = w.heap.size
  hu : wr.heap[bu]? = some (blk U)
  hq : wr.heap[bq]? = some (blk Q)
  hh : ∃ H, wr.heap[bh]? = some (blk H) ∧ H.length = ch
  block : ∀ k, k ≠ bu → k ≠ bq → k ≠ bh → wr.heap[k]? = w.heap[k]?
theorem DvW.drewN {w wr : World} {bu bq bh ch : Nat} {U Q : List Int} (h : DvW w wr bu bq bh ch U Q) (n : Nat) : DvW w (wr.drewN n) bu bq bh ch U Q := ⟨h.os, h.tape, h.output, h.size, h.hu, h.hq, h.hh, h.block⟩
theorem DvW.updU {w wr w1 : World} {bu bq bh ch : Nat} {U Q U' : List Int} (h : DvW w wr bu bq bh ch U Q) (g : Upd wr w1 bu U') (d1 : bq ≠ bu) (d2 : bh ≠ bu) : DvW w w1 bu bq bh ch U' Q := by
  obtain ⟨H, e1, e2⟩ := h.hh
  exact ⟨g.os.trans h.os, g.tape.trans h.tape, g.output.trans h.output, g.size.trans h.size, g.here, (g.block bq d1).trans h.hq, ⟨H, (g.block bh d2).trans e1, e2⟩, fun k k1 k2 k3 => (g.block k k1).trans (h.block k k1 k2 k3)⟩
theorem DvW.updQ {w wr w1 : World} {bu bq bh ch : Nat} {U Q Q' : List Int} (h : DvW w wr bu bq bh ch U Q) (g : Upd wr w1 bq Q') (d1 : bu ≠ bq) (d2 : bh ≠ bq) : DvW w w1 bu bq bh ch U Q' := by
  obtain ⟨H, e1, e2⟩ := h.hh
  exact ⟨g.os.trans h.os, g.tape.trans h.tape, g.output.trans h.output, g.size.trans h.size, (g.block bu d1).trans h.hu, g.here, ⟨H, (g.block bh d2).trans e1, e2⟩, fun k k1 k2 k3 => (g.block k k2).trans (h.block k k1 k2 k3)⟩
theorem DvW.updH {w wr w1 : World} {bu bq bh ch : Nat} {U Q H : List Int} (h : DvW w wr bu bq bh ch U Q) (g : Upd wr w1 bh H) (hl : H.length = ch) (d1 : bu ≠ bh) (d2 : bq ≠ bh) : DvW w w1 bu bq bh ch U Q :=
  ⟨g.os.trans h.os, g.tape.trans h.tape, g.output.trans h.output, g.size.trans h.size, (g.block bu d1).trans h.hu, (g.block bq d2).trans h.hq, ⟨H, g.here, hl⟩, fun k k1 k2 k3 => (g.block k k3).trans (h.block k k1 k2 k3)⟩
end Go.Proofs.YtjcfacinlgogaaaGreatDoor
namespace Go.Proofs.YtjcfacinlgogaaaGreatDoor
open Go.RowKit
def dvTop (nq n : Nat) (j1 : Nat) (U : List Int) : Int := if j1 = nq + 1 then 0 else U[j1 + n - 1]?.getD 0
structure DvS (w : World) (Vv U0 vt : Int) (bu bq bh ch n nu nq lU lQ : Nat) (j1 : Nat) (U Q : List Int) (wr : World) : Prop where
  j : j1 ≤ nq + 1
  wd : DvW w wr bu bq bh ch U Q
  b : DvB Vv U0 nu nq (min j1 nq) U Q
  top : j1 = nq + 1 → U[nu - 1]?.getD 0 < vt
  lu : U.length = lU
  lq : Q.length = lQ
def DvL (w : World) (Vv U0 vt : Int) (bu bq bh ch n nu nq lU lQ : Nat) (s13 s14 : Value) (wr : World) : Prop :=
  ∃ (j1 : Nat) (U Q : List Int), s14 = .int .i64 ((j1 : Int) - 1) ∧ s13 = .int .u64 (dvTop nq n j1 U) ∧ DvS w Vv U0 vt bu bq bh ch n nu nq lU lQ j1 U Q wr
structure DvRes (w w' : World) (bu bq nu nq lU lQ : Nat) (U0 Vv : Int) (U Q : List Int) : Prop where
  os : w'.os = w.os
  tape : w'.tape = w.tape
  output : w'.output = w.output
  size : w.heap.size ≤ w'.heap.size
  hu : w'.heap[bu]? = some (blk U)
  hq : w'.heap[bq]? = some (blk Q)
  lu : U.length = lU
  lq : Q.length = lQ
  wu : wfL (U.take nu)
  wq : wfL (Q.take nq)
  qv : val (Q.take nq) = U0 / Vv
  rv : val (U.take nu) = U0 % Vv
  block : ∀ k, k < w.heap.size → k ≠ bu → k ≠ bq → w'.heap[k]? = w.heap[k]?
theorem dv_split2 (V : List Int) (n : Nat) (h2 : 2 ≤ n) (lv : V.length = n) : val V = val (V.take (n - 2)) + B64 ^ (n - 2) * (V[n - 2]?.getD 0 + B64 * V[n - 1]?.getD 0) := by
  have h1 := val_take_succ V (n - 1) (by omega)
  have h3 := val_take_succ V (n - 2) (by omega)
  rw [show n - 1 + 1 = n by omega, List.take_of_length_le (by omega)] at h1
  rw [show n - 2 + 1 = n - 1 by omega] at h3
  rw [h1, h3, show n - 1 = (n - 2) + 1 by omega, Int.pow_succ]
  grind
theorem dv_init {LU LQ V : List Int} {nq n : Nat} (lu : nq + n ≤ LU.length) (lq : nq ≤ LQ.length) (wu : wfL (LU.take (nq + n))) (wv : wfL V) (lv : V.length = n) (hn : 1 ≤ n) (htop : LU[nq + n - 1]?.getD 0 < V[n - 1]?.getD 0) :
    DvB (val V) (val (LU.take (nq + n))) (nq + n) nq nq LU LQ := by
  have e0 : (LQ.take nq).drop nq = [] := List.drop_eq_nil_of_le (by simp; omega)
  refine ⟨lu, lq, wu, by rw [e0]; exact wfL_nil, by rw [e0]; simp [val], ?_⟩
  have h1 := val_take_succ LU (nq + n - 1) (by omega)
  have h2 := val_take_succ V (n - 1) (by omega)
  rw [show nq + n - 1 + 1 = nq + n by omega] at h1
  rw [show n - 1 + 1 = n by omega, List.take_of_length_le (by omega)] at h2
  have w1 : wfL (LU.take (nq + n - 1)) := by
    have := wfL_take wu (nq + n - 1)
    rw [List.take_take, show min (nq + n - 1) (nq + n) = nq + n - 1 by omega] at this; exact this
  have h3 := val_lt w1
  have h4 := val_nonneg (wfL_take wv (n - 1))
  rw [List.length_take, show min (nq + n - 1) LU.length = nq + n - 1 by omega] at h3
  rw [h1, h2]
  generalize LU[nq + n - 1]?.getD 0 = a at *
  generalize V[n - 1]?.getD 0 = b at *
  have h5 : B64 ^ (nq + n - 1) * (a + 1) ≤ B64 ^ (nq + n - 1) * b := Int.mul_le_mul_of_nonneg_left (by omega) (Int.le_of_lt (B64_pow_pos _))
  rw [Int.mul_add, Int.mul_one] at h5
  have h6 : B64 ^ (nq + n - 1) * b = B64 ^ (n - 1) * b * B64 ^ nq := by rw [show nq + n - 1 = (n - 1) + nq by omega, Int.pow_add]; grind
  have h7 : 0 ≤ val (V.take (n - 1)) * B64 ^ nq := Int.mul_nonneg h4 (Int.le_of_lt (B64_pow_pos _))
  rw [Int.add_mul]
  omega
theorem getD_td (U : List Int) (m j i : Nat) (h : j + i < m) : ((U.take m).drop j)[i]?.getD 0 = U[j + i]?.getD 0 := by
  rw [List.getElem?_drop, List.getElem?_take_of_lt h]
theorem getD_wf {U : List Int} {m i : Nat} (w : wfL (U.take m)) (h : i < m) (h2 : m ≤ U.length) : U64 (U[i]?.getD 0) := by
  have := getD_u64 w i (by simp; omega)
  rw [List.getElem?_take_of_lt h] at this; exact this
structure DvG (T Vv uj u1 u2 vt vs P lo X : Int) (top : Prop) : Prop where
  gc : uj ≠ vt → GsC T Vv uj u1 u2 vt vs P lo X
  gt : uj = vt → Guess T Vv (B64 - 1)
  w0 : U64 uj
  w1 : U64 u1
  w2 : U64 u2
  tp : top → uj = 0 ∧ u1 < vt
theorem dvG_of {T uj u1 u2 vt vs lo X : Int} {n : Nat} {top : Prop} (h2 : 2 ≤ n) (hT : T = X + B64 ^ (n - 2) * (u2 + B64 * (u1 + B64 * uj))) (x0 : 0 ≤ X) (x1 : X < B64 ^ (n - 2)) {Vv : Int} (hV : Vv = lo + B64 ^ (n - 2) * (vs + B64 * vt)) (l0 : 0 ≤ lo) (l1 : lo < B64 ^ (n - 2))
    (w0 : U64 uj) (w1 : U64 u1) (w2 : U64 u2) (v1 : U64 vt) (v2 : U64 vs) (hn : 9223372036854775808 ≤ vt) (hTV : T < Vv * B64) (tp : top → uj = 0 ∧ u1 < vt) : DvG T Vv uj u1 u2 vt vs (B64 ^ (n - 2)) lo X top := by
  have hp := B64_pow_pos (n - 2)
  generalize (B64 : Int) ^ (n - 2) = P at *
  have hBB : (B64 : Int) = 18446744073709551616 := rfl
  have a1 : Vv < (vt + 1) * (B64 * P) := by
    have h1 : P * (vs + B64 * vt + 1) ≤ P * (B64 * (vt + 1)) := Int.mul_le_mul_of_nonneg_left (by have := v2.2; rw [Int.mul_add]; omega) (by omega)
    have h3 : P * (B64 * (vt + 1)) = (vt + 1) * (B64 * P) := by grind
    rw [Int.mul_add P (vs + B64 * vt) 1, Int.mul_one] at h1
    omega
  have a2 : uj * B64 * (B64 * P) ≤ T := by
    have h1 : P * (B64 * (B64 * uj)) ≤ P * (u2 + B64 * (u1 + B64 * uj)) := Int.mul_le_mul_of_nonneg_left (by
      have := w1.1; have := w2.1
      have : B64 * (B64 * uj) ≤ B64 * (u1 + B64 * uj) := Int.mul_le_mul_of_nonneg_left (by omega) (by omega)
      omega) (by omega)
    have h3 : P * (B64 * (B64 * uj)) = uj * B64 * (B64 * P) := by grind
    omega
  have a3 : uj ≤ vt := by
    rcases Int.lt_or_le vt uj with h | h
    · have h1 : (vt + 1) * (B64 * (B64 * P)) ≤ uj * (B64 * (B64 * P)) := Int.mul_le_mul_of_nonneg_right (by omega) (Int.mul_nonneg (by omega) (Int.mul_nonneg (by omega) (by omega)))
      have h2 : Vv * B64 < (vt + 1) * (B64 * P) * B64 := Int.mul_lt_mul_of_pos_right a1 (by omega)
      have h3 : (vt + 1) * (B64 * P) * B64 = (vt + 1) * (B64 * (B64 * P)) := by grind
      have h4 : uj * (B64 * (B64 * P)) = uj * B64 * (B64 * P) := by grind
      omega
    · exact h
  refine ⟨fun h => ⟨by rw [hV]; grind, l0, l1, by rw [hT]; grind, x0, x1, w0.1, by omega, w1, w2, hn, v1, v2⟩, fun h => guess_top (P := B64 * P) (Int.mul_pos (by omega) hp) a1 (by rw [h] at a2; exact a2) hn hTV, w0, w1, w2, tp⟩
theorem DvS.guess {w wr : World} {U0 vt vs : Int} {V U Q : List Int} {bu bq bh ch n nq lU lQ j1 : Nat} (h : DvS w (val V) U0 vt bu bq bh ch n (nq + n) nq lU lQ j1 U Q wr) (h1 : 1 ≤ j1) (h2 : 2 ≤ n) (wv : wfL V) (lv : V.length = n)
    (hV : val V = val (V.take (n - 2)) + B64 ^ (n - 2) * (vs + B64 * vt)) (v1 : U64 vt) (v2 : U64 vs) (hn : 9223372036854775808 ≤ vt) :
    ∃ X, DvG (val ((U.take (nq + n)).drop (j1 - 1))) (val V) (dvTop nq n j1 U) (U[j1 - 1 + n - 1]?.getD 0) (U[j1 - 1 + n - 2]?.getD 0) vt vs (B64 ^ (n - 2)) (val (V.take (n - 2))) X (j1 = nq + 1) := by
  have hj := h.j
  have hlu := h.b.lu
  have wl0 := wfL_take wv (n - 2)
  have l0 := val_nonneg wl0
  have l1 := val_lt wl0
  rw [List.length_take, show min (n - 2) V.length = n - 2 by omega] at l1
  have wL := wfL_drop h.b.wU (j1 - 1)
  have lL : ((U.take (nq + n)).drop (j1 - 1)).length = nq + n - (j1 - 1) := by simp; omega
  have wX := wfL_take wL (n - 2)
  have x0 := val_nonneg wX
  have x1 := val_lt wX
  rw [List.length_take, show min (n - 2) ((U.take (nq + n)).drop (j1 - 1)).length = n - 2 by omega] at x1
  have t1 := val_take_succ ((U.take (nq + n)).drop (j1 - 1)) (n - 2) (by omega)
  have t2 := val_take_succ ((U.take (nq + n)).drop (j1 - 1)) (n - 1) (by omega)
  rw [getD_td _ _ _ _ (by omega), show n - 2 + 1 = n - 1 by omega] at t1
  rw [getD_td _ _ _ _ (by omega), show n - 1 + 1 = n by omega] at t2
  have i1 : j1 - 1 + (n - 2) = j1 - 1 + n - 2 := by omega
  have i2 : j1 - 1 + (n - 1) = j1 - 1 + n - 1 := by omega
  rw [i1] at t1; rw [i2] at t2
  have u1 : U64 (U[j1 - 1 + n - 1]?.getD 0) := getD_wf h.b.wU (by omega) hlu
  have u2 : U64 (U[j1 - 1 + n - 2]?.getD 0) := getD_wf h.b.wU (by omega) hlu
  have hVpos : 0 < val V := by
    rw [hV]
    have : 0 < B64 ^ (n - 2) * (vs + B64 * vt) := Int.mul_pos (B64_pow_pos _) (by have := v2.1; unfold B64; omega)
    omega
  have hVlt : val V < B64 ^ n := by have := val_lt wv; rw [lv] at this; exact this
  have pn : (B64 : Int) ^ (n - 1) = B64 ^ (n - 2) * B64 := by rw [show n - 1 = (n - 2) + 1 by omega, Int.pow_succ]
  have pn2 : (B64 : Int) ^ n = B64 ^ (n - 2) * B64 * B64 := by
    obtain ⟨m, rfl⟩ : ∃ m, n = m + 2 := ⟨n - 2, by omega⟩
    rw [show m + 2 = (m + 1) + 1 by omega, Int.pow_succ, Int.pow_succ, show m + 1 + 1 - 2 = m by omega]
  by_cases ht : j1 = nq + 1
  · have e0 : dvTop nq n j1 U = 0 := by unfold dvTop; rw [if_pos ht]
    have htop := h.top ht
    have i3 : j1 - 1 + n - 1 = nq + n - 1 := by omega
    rw [e0]
    have tT : val ((U.take (nq + n)).drop (j1 - 1)) = val (((U.take (nq + n)).drop (j1 - 1)).take n) := congrArg val (List.take_of_length_le (by omega)).symm
    refine ⟨_, dvG_of h2 ?_ x0 x1 hV l0 l1 u0 u1 u2 v1 v2 hn ?_ (fun _ => ⟨rfl, by rw [i3]; exact htop⟩)⟩
    · rw [tT, t2, t1, pn]; grind
    · have hb := h.b.lt
      rw [show min j1 nq = nq by omega] at hb
      have hs := val_split (U.take (nq + n)) nq (by simp; omega)
      have hs0 := val_nonneg (wfL_take h.b.wU nq)
      have hd0 := val_nonneg (wfL_drop h.b.wU nq)
      rw [show j1 - 1 = nq by omega]
      have h4 : B64 ^ nq * val ((U.take (nq + n)).drop nq) < B64 ^ nq * val V := by rw [Int.mul_comm (B64 ^ nq) (val V)]; omega
      have h5 := Int.lt_of_mul_lt_mul_left h4 (Int.le_of_lt (B64_pow_pos nq))
      unfold B64; omega
  · have e0 : dvTop nq n j1 U = U[j1 - 1 + n]?.getD 0 := by unfold dvTop; rw [if_neg ht, show j1 + n - 1 = j1 - 1 + n by omega]
    rw [e0]
    have hb := h.b
    rw [show min j1 nq = (j1 - 1) + 1 by omega] at hb
    obtain ⟨k1, k2, k3⟩ := hb.top hVlt hVpos (by omega) (by omega)
    have t3 := val_take_succ ((U.take (nq + n)).drop (j1 - 1)) n (by omega)
    rw [getD_td _ _ _ _ (by omega)] at t3
    refine ⟨_, dvG_of h2 ?_ x0 x1 hV l0 l1 (getD_wf h.b.wU (by omega) hlu) u1 u2 v1 v2 hn k1 (fun e => absurd e ht)⟩
    rw [k2, t3, t2, t1, pn, pn2]
    grind
theorem DvS.next {w wr w7 : World} {U0 vt Vv d : Int} {U Q R : List Int} {bu bq bh ch n nq lU lQ j : Nat} (h : DvS w Vv U0 vt bu bq bh ch n (nq + n) nq lU lQ (j + 1) U Q wr) (hj : j < nq) (hV : Vv < B64 ^ n) (hV0 : 0 < Vv)
    (hR : R.length = n + 1) (wR : wfL R) (hT : val ((U.take (nq + n)).drop j) = d * Vv + val R) (hr : val R < Vv) (hd : U64 d) (hw : DvW w w7 bu bq bh ch (spl U j R) (Q.set j d)) :
    DvS w Vv U0 vt bu bq bh ch n (nq + n) nq lU lQ j (spl U j R) (Q.set j d) w7 := by
  have hb := h.b
  rw [show min (j + 1) nq = j + 1 by omega] at hb
  have hlu := hb.lu
  obtain ⟨t1, t2, t3⟩ := hb.top hV hV0 (by omega) (by omega)
  refine ⟨by omega, hw, ?_, fun e => by omega, by rw [spl_length _ _ _ (by omega)]; exact h.lu, by simp; exact h.lq⟩
  rw [show min j nq = j by omega]
  exact hb.step hV hV0 (by omega) hj hR wR (by rw [← t2]; exact hT) hr hd
end Go.Proofs.YtjcfacinlgogaaaGreatDoor
