/- Whole numbers: sums. Conditions: at most 1000 words. -/
import Derived.Test.YtjcfacinlgogaaaGreatDoorQ09
import Derived.Test.YtjcfacinlgogaaaGreatDoorQ15
set_option linter.all false
set_option maxHeartbeats 4000000
set_option maxRecDepth 100000
namespace Go.Proofs.YtjcfacinlgogaaaGreatDoor
open Go.RowKit
theorem Add_any {w : World} {bz bx ox by_ oy : Nat} {z x y : Value} {nz nx ny : Int} (hz : IntBox w bz z nz) (hx : IntC w bx ox x nx) (hy : IntC w by_ oy y ny) (h7 : ((nx + ny).natAbs : Int) < B64 ^ 1000) :
    Calls Tryz.prog 99 #[.pointer (some ⟨bz, 0, none⟩), .pointer (some ⟨bx, ox, none⟩), .pointer (some ⟨by_, oy, none⟩)] w fun e w' => e = .returned (.pointer (some ⟨bz, 0, none⟩)) ∧ ∃ v', IntBox w' bz v' (nx + ny) ∧ Grown2 w w' bz z.ownBlock ∧ ∀ k, v'.ownBlock = some k → some k = z.ownBlock ∨ w.heap.size ≤ k := by
  have H7 := Hq0 (M1000.of h7)
  have HZI := Hq0 hz; have HXI := Hq0 hx; have HYI := Hq0 hy
  obtain ⟨x1, _⟩ := hx
  obtain ⟨y1, _⟩ := hy
  obtain ⟨sx, hsx⟩ : ∃ sx, decide (nx < 0) = sx := ⟨_, rfl⟩
  obtain ⟨sy, hsy⟩ : ∃ sy, decide (ny < 0) = sy := ⟨_, rfl⟩
  rw [hsx] at x1
  rw [hsy] at y1
  have HSX := Hq0 hsx; have HSY := Hq0 hsy
  clear hz h7 hsx hsy
  go_enter Tryz.func99, Tryz.ntmps99
  go_upto_region 2 with (fail)
  go_quiet (fail)
  clear x1 y1
  obtain ⟨w1, hw1⟩ : ∃ w1, w.drewN nq = w1 := ⟨_, rfl⟩
  have hz := HZI.out.draw nq; have hx := HXI.out.draw nq; have hy := HYI.out.draw nq
  rw [hw1] at hz hx hy ⊢
  have HBK : Hid (∀ {w' : World}, Grown2 w1 w' bz z.ownBlock → Grown2 w w' bz z.ownBlock) := Hq0 (by subst hw1; intro g; exact ⟨g.os, g.tape, g.output, g.size, g.block⟩)
  have HBO : Hid (∀ {v' : Value}, (∀ k, v'.ownBlock = some k → some k = z.ownBlock ∨ w1.heap.size ≤ k) → ∀ k, v'.ownBlock = some k → some k = z.ownBlock ∨ w.heap.size ≤ k) := Hq0 (by subst hw1; intro h; exact h)
  clear hw1 HZI HXI HYI
  obtain ⟨zh, lz, hnz, wz, nlz, hvz, hlz⟩ := hz
  obtain ⟨x1, x2, xo, lx, hnx, wx, nlx, hvx, hlx⟩ := hx
  obtain ⟨y1, y2, yo, ly, hny, wy, nly, hvy, hly⟩ := hy
  rw [HSX.out] at x1
  rw [HSY.out] at y1
  obtain ⟨c0, c1, f0, f1⟩ := cell_ibox zh
  have HZB := Hq0 (isNat_ibox zh hnz)
  have HZ := Hq0 zh
  have HAD := Hq0 (fun q => add_any (hnz.draw q) (hnx.draw q) (hny.draw q) wx wy nlx nly (by omega) (by omega))
  have HS1 := Hq0 (fun (h : val ly ≤ val lx) q => sub_any (hnz.draw q) (hnx.draw q) (hny.draw q) wx wy nlx (by omega) nly h)
  have HS2 := Hq0 (fun (h : val lx ≤ val ly) q => sub_any (hnz.draw q) (hny.draw q) (hnx.draw q) wy wx nly (by omega) nlx h)
  have HCM := Hq0 (fun q => cmp_any (hnx.draw q) (hny.draw q) wx wy nlx nly (by omega) (by omega))
  rw [hvx, hvy] at HAD HS1 HS2 HCM
  unfold NatVal at HAD HS1 HS2
  obtain ⟨za, zc, rfl⟩ := hnz.slice
  obtain ⟨xa, xc, rfl⟩ := hnx.slice
  obtain ⟨ya, yc, rfl⟩ := hny.slice
  clear hnz hnx hny zh hvx hvy xo yo wx wy nlx nly hvz wz nlz hlz hlx hly
  have HIC := Hq0 (fun h : (ny.natAbs : Int) ≤ nx.natAbs => show (0 : Int) ≤ icmp nx.natAbs ny.natAbs from by unfold icmp; split; omega; split <;> omega)
  have HIC2 := Hq0 (fun h : ¬ (ny.natAbs : Int) ≤ nx.natAbs => show ¬ (0 : Int) ≤ icmp nx.natAbs ny.natAbs from by unfold icmp; split <;> omega)
  generalize icmp (nx.natAbs : Int) (ny.natAbs : Int) = ic at *
  cases sx <;> cases sy
  focus
    clear HIC HIC2 HS1 HS2
    have HS1 := HSX; have HS2 := HSX; have HLE : Hid True := Hq0 trivial
    simp only [beq_self_eq_true]
    go_wp2_with (fail)
    have HT := HAD
  rotate_left
  focus
    simp only [show (false == true) = false from rfl]
    go_wp2_with (fail)
    go_quiet ((go_at_call 113; exact Calls.quiet_of (HCM.out _)))
    by_cases hle : (ny.natAbs : Int) ≤ nx.natAbs
    focus
      have hic := HIC.out hle
      have HT := Hq0 (HS1.out hle)
      have HLE := Hq0 hle
      clear HIC HIC2 HS1 HS2 hle
      have HS1 := HLE; have HS2 := HLE
      go_wp2_with (fail)
    rotate_left
    focus
      have hic := HIC2.out (by omega)
      have HT := Hq0 (HS2.out (by omega))
      have HLE := Hq0 hle
      clear HIC HIC2 HS1 HS2 hle
      have HS1 := HLE; have HS2 := HLE
      go_wp2_with (fail)
  rotate_left 2
  focus
    simp only [show (true == false) = false from rfl]
    go_wp2_with (fail)
    go_quiet ((go_at_call 113; exact Calls.quiet_of (HCM.out _)))
    by_cases hle : (ny.natAbs : Int) ≤ nx.natAbs
    focus
      have hic := HIC.out hle
      have HT := Hq0 (HS1.out hle)
      have HLE := Hq0 hle
      clear HIC HIC2 HS1 HS2 hle
      have HS1 := HLE; have HS2 := HLE
      go_wp2_with (fail)
    rotate_left
    focus
      have hic := HIC2.out (by omega)
      have HT := Hq0 (HS2.out (by omega))
      have HLE := Hq0 hle
      clear HIC HIC2 HS1 HS2 hle
      have HS1 := HLE; have HS2 := HLE
      go_wp2_with (fail)
  rotate_left 2
  focus
    clear HIC HIC2 HS1 HS2
    have HS1 := HSX; have HS2 := HSX; have HLE : Hid True := Hq0 trivial
    simp only [beq_self_eq_true]
    go_wp2_with (fail)
    have HT := HAD
  rotate_left
  all_goals
    go_region_with ((first | go_at_call 124 | go_at_call 125); (first | refine (HT.out 1).mono ?_ | refine (HT.out (nq + 1)).mono ?_); rintro e w2 ⟨v1, l1, rfl, hr, wl, nl, hv⟩; obtain ⟨d1, d2⟩ : w2.cell? ⟨bz, 1, none⟩ = some (.slice za lz.length zc) ∧ w2.frozen? ⟨bz, 1, none⟩ = false := (have h := cell_ibox ((hr.grown.block bz (Array.getElem?_eq_some_iff.1 HZ.out).1 (fun e => HZB.out e.symm)).trans HZ.out); ⟨h.2.1, h.2.2.2⟩); obtain ⟨sa, sc, rfl⟩ := hr.nat.slice; have HR := Hq0 hr; have HW := Hq0 (And.intro wl (And.intro nl hv)); clear hr wl nl hv)
    all_goals
      first
        | have HM := Hq0 (adMid_of (n := nx + ny) (neg := false) HZ.out HZB.out HR.out HW.out.1 HW.out.2.1 HW.out.2.2 (by have h1 := HSX.out; have h2 := HSY.out; have h3 := HLE.out; simp at h1 h2; omega) (by intro _; have h1 := HSX.out; have h2 := HSY.out; have h3 := HLE.out; simp at h1 h2 ⊢; omega))
        | have HM := Hq0 (adMid_of (n := nx + ny) (neg := true) HZ.out HZB.out HR.out HW.out.1 HW.out.2.1 HW.out.2.2 (by have h1 := HSX.out; have h2 := HSY.out; have h3 := HLE.out; simp at h1 h2; omega) (by intro _; have h1 := HSX.out; have h2 := HSY.out; have h3 := HLE.out; simp at h1 h2 ⊢; omega))
      clear HR HW d1 d2
      obtain ⟨d1, d2, ⟨dg, d0⟩, hf0, hf1⟩ := HM.out.fin H7.out
      have HF0 := Hq0 hf0; have HF1 := Hq0 hf1
      clear HM H7 HAD HS1 HS2 HCM c0 c1 f0 f1 hf0 hf1
      by_cases hl : (0 : Int) < l1.length
      · have HF := Hq0 (HF1.out (by omega))
        clear HF0 HF1
        go_wp2
        go_ret
        exact ⟨rfl, _, HF.out.1, HBK.out HF.out.2.1, HBO.out HF.out.2.2⟩
      · have HF := Hq0 (HF0.out (by omega))
        clear HF0 HF1
        go_wp2
        go_ret
        exact ⟨rfl, _, HF.out.1, HBK.out HF.out.2.1, HBO.out HF.out.2.2⟩
end Go.Proofs.YtjcfacinlgogaaaGreatDoor
