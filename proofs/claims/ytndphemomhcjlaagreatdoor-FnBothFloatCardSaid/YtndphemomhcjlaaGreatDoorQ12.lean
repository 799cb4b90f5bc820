/- Stacks; the number one; their contracts. The greatest common divisor of two numbers of one word. Conditions: neither is zero. Fractions of one word each in lowest terms. Conditions: neither is zero. -/
import Derived.Test.YtndphemomhcjlaaGreatDoorQ11
import Derived.Defers
import Derived.Deep.CutRange
set_option linter.all false

namespace Go.Proofs.YtndphemomhcjlaaGreatDoor
open Go.RowKit

theorem cell_new1 (w : World) (v : Value) (T : TypeId) : (w.alloc (.cells #[v] T)).cell? ⟨w.heap.size, 0, none⟩ = some v := by
  unfold World.cell?; rw [heap_new]; rfl
theorem getStack_any (w : World) : Calls Tryz.prog 57 #[] w fun e w' => ∃ b, e = .returned (.pointer (some ⟨b, 0, none⟩)) ∧ w.heap.size ≤ b ∧ b < w'.heap.size ∧ w'.cell? ⟨b, 0, none⟩ = some (.pointer none) ∧ w.grownBy w' none := by
  have hg : ∀ o, w.grownBy (w.alloc o) none := fun o => World.grownBy_alloc w o none
  have hs := Lib.hid (size_alloc w)
  go_enter Tryz.func57, Tryz.ntmps57
  go_wp2
  go_ret
  exact ⟨w.heap.size, rfl, Nat.le_refl _, by rw [hs.out]; omega, cell_new1 _ _ _, hg _⟩

theorem stackFree_d {w : World} {b : Nat} (u : FrameMode) (h : w.cell? ⟨b, 0, none⟩ = some (.pointer none)) :
    CallsD Tryz.prog 58 #[.pointer (some ⟨b, 0, none⟩)] u w fun e u' w' => u' = u ∧ (e = .returned (.tuple #[]) ∧ w' = w) := by
  go_enter_d Tryz.func58, Tryz.ntmps58
  go_wp2
  go_end0
  exact ⟨rfl, rfl⟩

theorem natOne_any (w : World) : Calls Tryz.prog 56 #[] w fun e w' => ∃ v, e = .returned v ∧ IsNat w' v [1] ∧ w.grownBy w' none ∧ ∀ k, v.ownBlock = some k → w.heap.size ≤ k := by
  have hn := isNat_word w 1
  have hg : ∀ o, w.grownBy (w.alloc o) none := fun o => World.grownBy_alloc w o none
  have HN := Lib.hid hn
  clear hn
  go_enter Tryz.func56, Tryz.ntmps56
  go_wp2
  go_ret
  exact ⟨_, rfl, HN.out, hg _, by intro k hk; simp [Value.ownBlock] at hk; omega⟩

theorem intOne_any (w : World) : Calls Tryz.prog 102 #[] w fun e w' => IntNew w w' e 1 := by
  have hg : ∀ (w : World) o, w.grownBy (w.alloc o) none := fun w o => World.grownBy_alloc w o none
  go_enter Tryz.func102, Tryz.ntmps102
  go_wp2_with (fail)
  refine (natOne_any w).mono ?_
  rintro e w1 ⟨v, rfl, hn, g1, _⟩
  obtain ⟨va, vc, rfl⟩ := hn.slice
  have HB : Hid (IntNew w (w1.alloc (ibox false (.slice va 1 vc))) (.returned (.pointer (some ⟨w1.heap.size, 0, none⟩))) 1) := by
    refine ⟨_, _, rfl, g1.size, IntBox.fresh (heap_new _ _) rfl (hn.grown0 (hg w1 _)) (wfL_cons (by unfold U64 B64; omega) wfL_nil) (nrm_one (by decide)) (by simp [val]) (by simp), grown_trans g1 (hg w1 _)⟩
  clear hn g1
  go_wp2
  go_ret
  exact HB.out
end Go.Proofs.YtndphemomhcjlaaGreatDoor

namespace Go.Proofs.YtndphemomhcjlaaGreatDoor
open Go.RowKit

theorem IntBox.same {w w' : World} {b : Nat} {v : Value} {n : Int} (h : IntBox w b v n) (g : w.grownBy w' none) : IntBox w' b v n := by
  obtain ⟨h1, l, hn, hl⟩ := h
  exact ⟨by rw [g.block b (Array.getElem?_eq_some_iff.1 h1).1 (by simp)]; exact h1, l, hn.grown0 g, hl⟩
theorem IntBox.keep {w w' : World} {b b2 : Nat} {v u : Value} {n : Int} {s : Bool} (h : IntBox w b v n) (g : Grown2 w w' b2 none) (hb : b ≠ b2) (h2 : w.heap[b2]? = some (ibox s u)) : IntBox w' b v n := by
  obtain ⟨h1, l, hn, hl⟩ := h
  refine ⟨by rw [g.block b (Array.getElem?_eq_some_iff.1 h1).1 hb (by simp)]; exact h1, l, hn.grown g.one (.inr (isNat_ibox h2 hn)), hl⟩
theorem IntC.keep {w w' : World} {b o b2 : Nat} {v u : Value} {n : Int} {s : Bool} (h : IntC w b o v n) (g : Grown2 w w' b2 none) (hb : b ≠ b2) (h2 : w.heap[b2]? = some (ibox s u)) : IntC w' b o v n := by
  obtain ⟨h1, h1', ⟨cs, T, h3⟩, l, hn, hl⟩ := h
  have e := g.block b (Array.getElem?_eq_some_iff.1 h3).1 hb (by simp)
  exact ⟨by rw [World.cell?_of_block e]; exact h1, by rw [World.cell?_of_block e]; exact h1', ⟨cs, T, by rw [e]; exact h3⟩, l, hn.grown g.one (.inr (isNat_ibox h2 hn)), hl⟩
theorem IntBox.word {w : World} {b : Nat} {v : Value} {n : Int} (h : IntBox w b v n) (h0 : n ≠ 0) (h1 : n.natAbs < 18446744073709551616) : ∃ k cap M, v = .slice (some ⟨k, 0, none⟩) 1 cap ∧ w.heap[k]? = some (blk ((n.natAbs : Int) :: M)) ∧ 1 + M.length = cap ∧ cap ≤ 9223372036854775807 := by
  obtain ⟨_, l, hn, wl, nl, hv, _⟩ := h
  obtain rfl := len_one nl wl hv (by omega) (by omega)
  rcases hn with ⟨_, h⟩ | ⟨k, cap, M, rfl, hb, hc, hm⟩
  · cases h
  · exact ⟨k, cap, M, rfl, hb, by simp at hc; omega, hm⟩
theorem IntC.word {w : World} {b o : Nat} {v : Value} {n : Int} (h : IntC w b o v n) (h0 : n ≠ 0) (h1 : n.natAbs < 18446744073709551616) : ∃ k cap M, v = .slice (some ⟨k, 0, none⟩) 1 cap ∧ w.heap[k]? = some (blk ((n.natAbs : Int) :: M)) ∧ 1 + M.length = cap ∧ cap ≤ 9223372036854775807 := by
  obtain ⟨_, _, _, l, hn, wl, nl, hv, _⟩ := h
  obtain rfl := len_one nl wl hv (by omega) (by omega)
  rcases hn with ⟨_, h⟩ | ⟨k, cap, M, rfl, hb, hc, hm⟩
  · cases h
  · exact ⟨k, cap, M, rfl, hb, by simp at hc; omega, hm⟩

theorem Grown2.after {w w1 w2 : World} {b : Nat} (g : w.grownBy w1 none) (h : Grown2 w1 w2 b none) : Grown2 w w2 b none :=
  ⟨h.os.trans g.os, h.tape.trans g.tape, h.output.trans g.output, Nat.le_trans g.size h.size, fun i hi h1 h2 => (h.block i (Nat.lt_of_lt_of_le hi g.size) h1 h2).trans (g.block i hi (by simp))⟩

/-- a new zero -/
theorem NewInt_zero (w : World) : Calls Tryz.prog 69 #[.int .i64 0] w fun e w' => ∃ b, e = .returned (.pointer (some ⟨b, 0, none⟩)) ∧ w.heap.size ≤ b ∧ w'.heap[b]? = some (ibox false (.slice none 0 0)) ∧ w.grownBy w' none := by
  have hg : ∀ o, w.grownBy (w.alloc o) none := fun o => World.grownBy_alloc w o none
  go_enter Tryz.func69, Tryz.ntmps69
  go_wp2
  go_ret
  exact ⟨_, rfl, Nat.le_refl _, heap_new _ _, hg _⟩

/-- a number in new memory -/
structure NewBox (w w' : World) (b : Nat) (v : Value) (n : Int) : Prop where
  box : IntBox w' b v n
  lt : w.heap.size ≤ b
  own : ∀ k, v.ownBlock = some k → w.heap.size ≤ k

/-- two numbers in new memory, with a common divisor G -/
def GcdAt (w : World) (G : Nat) (s11 s12 : Value) (wx : World) : Prop :=
  ∃ (bA bB a c : Nat) (vA vB : Value), s11 = .pointer (some ⟨bA, 0, none⟩) ∧ s12 = .pointer (some ⟨bB, 0, none⟩) ∧ NewBox w wx bA vA a ∧ NewBox w wx bB vB c ∧ bA ≠ bB ∧ 0 < a ∧ 0 < c ∧ a < 18446744073709551616 ∧ c < 18446744073709551616 ∧ Nat.gcd a c = G ∧ w.grownBy wx none

theorem fresh0 (w : World) : IntBox (w.alloc (ibox false (.slice none 0 0))) w.heap.size (.slice none 0 0) 0 :=
  IntBox.fresh (n := 0) (heap_new w _) rfl (IsNat.nil _) wfL_nil Nrm.nil rfl (by simp)

set_option maxHeartbeats 1000000 in
set_option maxRecDepth 100000 in
theorem gcd_any {w : World} {bz bx ox by_ oy : Nat} {x y : Value} {nx ny : Int} (hz : w.heap[bz]? = some (ibox false (.slice none 0 0))) (hx : IntC w bx ox x nx) (hy : IntC w by_ oy y ny)
    (h4 : nx ≠ 0) (h5 : ny ≠ 0) (h6 : nx.natAbs < 18446744073709551616) (h7 : ny.natAbs < 18446744073709551616) :
    Calls Tryz.prog 100 #[.pointer (some ⟨bz, 0, none⟩), .pointer none, .pointer none, .pointer (some ⟨bx, ox, none⟩), .pointer (some ⟨by_, oy, none⟩)] w fun e w' => e = .returned (.pointer (some ⟨bz, 0, none⟩)) ∧ ∃ v, IntBox w' bz v (Nat.gcd nx.natAbs ny.natAbs) ∧ Grown2 w w' bz none ∧ ∀ k, v.ownBlock = some k → w.heap.size ≤ k := by
  have HX := Lib.hid hx; have HY := Lib.hid hy; have HZ := Lib.hid hz
  have ltx : bx < w.heap.size := by obtain ⟨_, _, h⟩ := hx.obj; exact (Array.getElem?_eq_some_iff.1 h).1
  have lty : by_ < w.heap.size := by obtain ⟨_, _, h⟩ := hy.obj; exact (Array.getElem?_eq_some_iff.1 h).1
  have ltz : bz < w.heap.size := (Array.getElem?_eq_some_iff.1 hz).1
  have hg : ∀ (w : World), w.grownBy (w.alloc (ibox false (.slice none 0 0))) none := fun w => World.grownBy_alloc w _ none
  clear hx hy hz
  go_enter Tryz.func100, Tryz.ntmps100
  go_wp2_with (fail)
  refine (Abs_any (fresh0 w) (HX.out.same (hg w)) (by omega)).mono ?_
  rintro e w1 ⟨rfl, vA, hA, gA, oA⟩
  have e1 := size_alloc w (ibox false (.slice none 0 0))
  have G1 := Lib.hid (Grown2.new (hg w) gA (Nat.le_refl _))
  have N1 : Hid (NewBox w w1 w.heap.size vA nx.natAbs) := ⟨hA, Nat.le_refl _, fun k hk => by have := oA k hk; rw [e1] at this; simp [Value.ownBlock] at this; omega⟩
  clear hA gA oA e1
  go_wp2_with (fail)
  have s1 := G1.out.size
  have l1 := (Array.getElem?_eq_some_iff.1 N1.out.box.here).1
  refine (Abs_any (fresh0 w1) ((HY.out.same G1.out).same (hg w1)) (by omega)).mono ?_
  rintro e w2 ⟨rfl, vB, hB, gB, oB⟩
  have e1 := size_alloc w1 (ibox false (.slice none 0 0))
  have N2 : Hid (NewBox w w2 w1.heap.size vB ny.natAbs) := ⟨hB, s1, fun k hk => by have := oB k hk; rw [e1] at this; simp [Value.ownBlock] at this; omega⟩
  have N1' : Hid (NewBox w w2 w.heap.size vA nx.natAbs) := ⟨(N1.out.box.same (hg w1)).keep gB (by omega) (heap_new _ _), Nat.le_refl _, N1.out.own⟩
  have G2 := Lib.hid (grown_trans G1.out (Grown2.new (hg w1) gB (Nat.le_refl _)))
  clear hB gB oB e1 N1
  go_wp2_with (fail)
  obtain ⟨w3, hw3⟩ : ∃ w3, w3 = (w2.alloc (.cells #[.bool false, .slice none 0 0] 90)).alloc (.cells #[.bool false, .slice none 0 0] 90) := ⟨_, rfl⟩
  rw [← hw3]
  have g3 : w2.grownBy w3 none := by rw [hw3]; exact grown_trans (hg w2) (hg _)
  have G3 := Lib.hid (grown_trans G2.out g3)
  have M1 : Hid (NewBox w w3 w.heap.size vA nx.natAbs) := ⟨N1'.out.box.same g3, N1'.out.lt, N1'.out.own⟩
  have M2 : Hid (NewBox w w3 w1.heap.size vB ny.natAbs) := ⟨N2.out.box.same g3, N2.out.lt, N2.out.own⟩
  have Hne := Lib.hid (show w.heap.size ≠ w1.heap.size by omega)
  clear g3 N1' N2 G2 hw3
  obtain ⟨_, c1, _, _⟩ := cell_ibox M1.out.box.here
  obtain ⟨_, c2, _, _⟩ := cell_ibox M2.out.box.here
  obtain ⟨lA, nA, wlA, nlA, hvA, hlA⟩ := M1.out.box.nat
  obtain ⟨lB, nB, wlB, nlB, hvB, hlB⟩ := M2.out.box.nat
  have HA := Lib.hid nA; have HB := Lib.hid nB; have HVA := Lib.hid hvA; have HVB := Lib.hid hvB
  clear nA nB hvA hvB
  go_quiet ((go_at_call 73; exact Calls.quiet_of (cmp_any (HA.out.grown0 (grown_drewN _ _)) (HB.out.grown0 (grown_drewN _ _)) wlA wlB nlA nlB (by omega) (by omega))))
  go_upto_if 60 with (fail)
  generalize icmp (val lA) (val lB) = cc
  have q0 := grown_drewN w3 nq
  have K1 : Hid (NewBox w (w3.drewN nq) w.heap.size vA nx.natAbs) := ⟨M1.out.box.same q0, M1.out.lt, M1.out.own⟩
  have K2 : Hid (NewBox w (w3.drewN nq) w1.heap.size vB ny.natAbs) := ⟨M2.out.box.same q0, M2.out.lt, M2.out.own⟩
  have K3 := Lib.hid (grown_trans G3.out q0)
  clear q0 M1 M2 HA HB HVA HVB c1 c2 wlA wlB nlA nlB hlA hlB
  go_cut [11, 12] from 49 to 64 (fun s11 s12 wx => GcdAt w (Nat.gcd nx.natAbs ny.natAbs) s11 s12 wx)
  case first =>
    go_wp2_with (fail)
    all_goals
      go_meet
    · exact ⟨_, _, _, _, _, _, rfl, rfl, K2.out, K1.out, fun e => Hne.out e.symm, by omega, by omega, h7, h6, Nat.gcd_comm _ _, K3.out⟩
    · exact ⟨_, _, _, _, _, _, rfl, rfl, K1.out, K2.out, Hne.out, by omega, by omega, h6, h7, rfl, K3.out⟩
  case rest =>
    obtain ⟨bA, bB, a, c, vA, vB, rfl, rfl, NA, NB, hab, a0, c0, a1, c1, hG, hgr⟩ := hcut
    clear K1 K2 K3 G3 HY
    obtain ⟨G, hGd⟩ : ∃ G, Nat.gcd nx.natAbs ny.natAbs = G := ⟨_, rfl⟩
    rw [hGd] at hG
    have HGD := Lib.hid hGd
    clear hGd
    obtain ⟨kA, capA, MA, rfl, hkA, hcA, hmA⟩ := NA.box.word (by omega) (by omega)
    obtain ⟨kB, capB, MB, rfl, hkB, hcB, hmB⟩ := NB.box.word (by omega) (by omega)
    obtain ⟨_, cA, _, _⟩ := cell_ibox NA.box.here
    obtain ⟨_, cB, _, _⟩ := cell_ibox NB.box.here
    have dA := cell_blk hkA 0 (by simp)
    have dB := cell_blk hkB 0 (by simp)
    have fA := frozen_blk hkA 0
    simp only [List.getElem?_cons_zero, Option.getD_some] at dA dB
    have na : ((a : Int).natAbs : Int) = a := by omega
    have nc : ((c : Int).natAbs : Int) = c := by omega
    rw [na] at dA hkA
    rw [nc] at dB hkB
    have HNA := Lib.hid NA; have HNB := Lib.hid NB; have HGR := Lib.hid hgr; have HGG := Lib.hid hG; have HKA := Lib.hid hkA; have HKB := Lib.hid hkB
    have HCA := Lib.hid hcA; have HCB := Lib.hid hcB; have Hab := Lib.hid hab
    clear NA NB hgr hG hkA hkB hcA hcB hab na nc
    go_wp2_with (fail)
    go_loopw [11, 12] (fun s11 s12 wr => s11 = .pointer (some ⟨bA, 0, none⟩) ∧ s12 = .pointer (some ⟨bB, 0, none⟩) ∧ wc = wr) (fun _ _ _ => 0)
    case atStart => exact ⟨rfl, rfl, rfl⟩
    case round =>
      obtain ⟨rfl, rfl, rfl⟩ := hrel
      go_wp2_with (fail)
      go_quiet (fail)
      go_wp2_with (fail)
      clear cA cB dA dB
      go_loopw [23, 24] (fun s23 s24 wr => ∃ p q n : Nat, s23 = .int .u64 p ∧ s24 = .int .u64 q ∧ 0 < p ∧ p < 18446744073709551616 ∧ q < 18446744073709551616 ∧ Nat.gcd p q = G ∧ wr = wc.drewN n) (fun _ s24 _ => (intOf s24).toNat)
      case atStart => exact ⟨a, c, _, rfl, rfl, a0, a1, c1, HGG.out, rfl⟩
      case round =>
        obtain ⟨p, q, n, rfl, rfl, p0, p1, q1, hG, rfl⟩ := hrel
        have HG2 := Lib.hid hG
        clear hG HGG
        by_cases hq : q = 0
        · subst hq
          have hGp : p = G := by have := HG2.out; simpa using this
          subst hGp
          obtain ⟨w4, hw4⟩ : ∃ w4, w4 = wc.drewN n := ⟨_, rfl⟩
          rw [← hw4]
          have q4 : wc.grownBy w4 none := by rw [hw4]; exact grown_drewN _ _
          have kltA := (Array.getElem?_eq_some_iff.1 HKA.out).1
          have kA4 : w4.heap[kA]? = some (blk ((a : Int) :: MA)) := by rw [q4.block _ kltA (by simp)]; exact HKA.out
          have hne : bA ≠ kA := fun e => by
            obtain ⟨l', hn', _⟩ := HNA.out.box.nat
            exact isNat_ibox HNA.out.box.here hn' (by rw [e]; rfl)
          have hkl : w.heap.size ≤ kA := HNA.out.own kA rfl
          have hu := (Upd.refl kA4).set 0 p
          have cA4 : w4.cell? ⟨bA, 1, none⟩ = some (.slice (some ⟨kA, 0, none⟩) 1 capA) := (cell_ibox (HNA.out.box.same q4).here).2.1
          have dA4 := cell_blk kA4 0 (by simp)
          simp only [List.getElem?_cons_zero, Option.getD_some] at dA4
          have fA4 := frozen_blk kA4 0
          have hbox : IntBox (w4.setCell ⟨kA, 0, none⟩ (.int .u64 p)) bA (.slice (some ⟨kA, 0, none⟩) 1 capA) p := by
            refine ⟨?_, [(p : Int)], .inr ⟨kA, capA, MA, rfl, by simpa using hu.here, by simp; have := HCA.out; omega, hmA⟩, wfL_cons (by unfold U64 B64; omega) wfL_nil, nrm_one (by omega), by simp [val], by simp⟩
            rw [hu.block bA hne, (HNA.out.box.same q4).here]
            have d1 : decide ((a : Int) < 0) = false := by simp
            have d2 : decide ((p : Int) < 0) = false := by simp
            rw [d1, d2]
          have hgr := grown_own (grown_trans HGR.out q4) hu.grown (.inr hkl)
          have hzz : IntBox (w4.setCell ⟨kA, 0, none⟩ (.int .u64 p)) bz (.slice none 0 0) 0 := by
            refine IntBox.fresh (n := 0) (g := false) ?_ rfl (IsNat.nil _) wfL_nil Nrm.nil rfl (by simp)
            rw [hgr.block bz ltz (by simp)]; exact HZ.out
          have cX : (w4.setCell ⟨kA, 0, none⟩ (.int .u64 p)).cell? ⟨bx, ox, none⟩ = some (.bool (decide (nx < 0))) := by
            rw [World.cell?_of_block (hgr.block bx ltx (by simp))]; exact HX.out.neg
          have hbz : bA ≠ bz := by have := HNA.out.lt; omega
          have HB5 := Lib.hid hbox; have HG5 := Lib.hid hgr; have HZ5 := Lib.hid hzz
          clear hbox hgr hzz hu kA4 kltA q4 hw4 hne HNA HNB HKA HKB HGR HG2 HCA HCB
          go_wp2_with (fail)
          refine (Set_any HZ5.out HB5.out.c hbz).mono ?_
          rintro e w6 ⟨rfl, v6, hb6, hg6, ho6⟩
          have HB6 := Lib.hid hb6
          have HG6 : Hid (Grown2 w w6 bz none) := Grown2.after HG5.out hg6
          have HO6 : Hid (∀ k, v6.ownBlock = some k → w.heap.size ≤ k) := fun k hk => by
            have h1 := ho6 k hk
            have h2 := HG5.out.size
            rcases h1 with h1 | h1
            · simp [Value.ownBlock] at h1
            · omega
          clear hb6 hg6 ho6 HB5 HG5 HZ5
          go_wp2
          go_ret
          exact ⟨rfl, v6, by rw [HGD.out]; exact HB6.out, HG6.out, HO6.out⟩
        · have hq0 : ((q : Int) == 0) = false := by simp; omega
          have hq2 : ¬ (q : Int) = 0 := by omega
          go_wp2_with (fail)
          go_quiet (fail)
          go_wp2_with (fail)
          go_roundw
          case rel => exact ⟨q, p % q, n + nq, rfl, by go_num, by omega, q1, by have := Nat.mod_lt p (show 0 < q by omega); omega, by rw [← HG2.out, Nat.gcd_comm p q, Nat.gcd_rec q p, Nat.gcd_comm], dd _ _ _⟩
          case measure => simp [intOf]; have := Nat.mod_lt p (show 0 < q by omega); omega
end Go.Proofs.YtndphemomhcjlaaGreatDoor

namespace Go.Proofs.YtndphemomhcjlaaGreatDoor
open Go.RowKit

/-- the four cells of a fraction -/
def rbox (s : Bool) (av : Value) (t : Bool) (bv : Value) : Obj := .cells #[.bool s, av, .bool t, bv] 102
theorem cell_rbox {w : World} {b : Nat} {s t : Bool} {u v : Value} (h : w.heap[b]? = some (rbox s u t v)) : (w.cell? ⟨b, 0, none⟩ = some (.bool s) ∧ w.cell? ⟨b, 1, none⟩ = some u ∧ w.cell? ⟨b, 2, none⟩ = some (.bool t) ∧ w.cell? ⟨b, 3, none⟩ = some v) ∧
    w.frozen? ⟨b, 0, none⟩ = false ∧ w.frozen? ⟨b, 1, none⟩ = false ∧ w.frozen? ⟨b, 2, none⟩ = false ∧ w.frozen? ⟨b, 3, none⟩ = false := by
  refine ⟨⟨?_, ?_, ?_, ?_⟩, ?_, ?_, ?_, ?_⟩ <;> simp [World.cell?, World.frozen?, h, rbox]
theorem set_rbox0 {w : World} {b : Nat} {s t : Bool} {u v : Value} (h : w.heap[b]? = some (rbox s u t v)) (g : Bool) : (w.setCell ⟨b, 0, none⟩ (.bool g)).heap[b]? = some (rbox g u t v) := by
  simp [World.setCell, Array.getElem?_modify, h, rbox]
theorem set_rbox1 {w : World} {b : Nat} {s t : Bool} {u v : Value} (h : w.heap[b]? = some (rbox s u t v)) (g : Value) : (w.setCell ⟨b, 1, none⟩ g).heap[b]? = some (rbox s g t v) := by
  simp [World.setCell, Array.getElem?_modify, h, rbox]
theorem set_rbox2 {w : World} {b : Nat} {s t : Bool} {u v : Value} (h : w.heap[b]? = some (rbox s u t v)) (g : Bool) : (w.setCell ⟨b, 2, none⟩ (.bool g)).heap[b]? = some (rbox s u g v) := by
  simp [World.setCell, Array.getElem?_modify, h, rbox]
theorem set_rbox3 {w : World} {b : Nat} {s t : Bool} {u v : Value} (h : w.heap[b]? = some (rbox s u t v)) (g : Value) : (w.setCell ⟨b, 3, none⟩ g).heap[b]? = some (rbox s u t g) := by
  simp [World.setCell, Array.getElem?_modify, h, rbox]
theorem isNat_rbox {w : World} {b : Nat} {s t : Bool} {u v x : Value} {l : List Int} (h : w.heap[b]? = some (rbox s u t v)) (hn : IsNat w x l) : x.ownBlock ≠ some b := by
  intro e
  rcases hn with ⟨rfl, _⟩ | ⟨c, cap, M, rfl, hc, _⟩
  · simp [Value.ownBlock] at e
  · simp [Value.ownBlock] at e; subst e
    rw [h] at hc
    simp only [rbox, blk, Option.some.injEq, Obj.cells.injEq] at hc
    exact absurd hc.2.1 (by decide)
def sbox : Obj := .cells #[.pointer none] 124
theorem isNat_sbox {w : World} {b : Nat} {x : Value} {l : List Int} (h : w.heap[b]? = some sbox) (hn : IsNat w x l) : x.ownBlock ≠ some b := by
  intro e
  rcases hn with ⟨rfl, _⟩ | ⟨c, cap, M, rfl, hc, _⟩
  · simp [Value.ownBlock] at e
  · simp [Value.ownBlock] at e; subst e
    rw [h] at hc
    simp only [sbox, blk, Option.some.injEq, Obj.cells.injEq] at hc
    exact absurd hc.2.1 (by decide)
theorem cell_sbox {w : World} {b : Nat} (h : w.heap[b]? = some sbox) : w.cell? ⟨b, 0, none⟩ = some (.pointer none) := by simp [World.cell?, h, sbox]
theorem getStack_box (w : World) : Calls Tryz.prog 57 #[] w fun e w' => ∃ b, e = .returned (.pointer (some ⟨b, 0, none⟩)) ∧ w.heap.size ≤ b ∧ w'.heap[b]? = some sbox ∧ w.grownBy w' none := by
  have hg : ∀ o, w.grownBy (w.alloc o) none := fun o => World.grownBy_alloc w o none
  go_enter Tryz.func57, Tryz.ntmps57
  go_wp2
  go_ret
  exact ⟨w.heap.size, rfl, Nat.le_refl _, heap_new _ _, hg _⟩

/-- a fraction in memory that is new since w0 -/
structure RatIn (w0 : World) (bz : Nat) (s t : Bool) (av bv : Value) (A B : Nat) (w : World) : Prop where
  here : w.heap[bz]? = some (rbox s av t bv)
  na : IsNat w av [(A : Int)]
  nb : IsNat w bv [(B : Int)]
  g : w0.grownBy w none
  lz : w0.heap.size ≤ bz
  oa : ∀ k, av.ownBlock = some k → w0.heap.size ≤ k
  ob : ∀ k, bv.ownBlock = some k → w0.heap.size ≤ k
  ne : av.ownBlock ≠ bv.ownBlock
/-- the stacks stay -/
def Stks (w w' : World) : Prop := ∀ bs : Nat, w.heap[bs]? = some sbox → w'.heap[bs]? = some sbox
theorem Stks.grown {w w' : World} (g : w.grownBy w' none) : Stks w w' := fun bs h => by rw [g.block bs (Array.getElem?_eq_some_iff.1 h).1 (by simp)]; exact h
theorem Stks.grown1 {w w' : World} {v : Value} {l : List Int} (hn : IsNat w v l) (g : w.grownBy w' v.ownBlock) : Stks w w' := fun bs h => by rw [g.block bs (Array.getElem?_eq_some_iff.1 h).1 (fun e => isNat_sbox h hn e.symm)]; exact h
theorem Stks.trans {w w1 w2 : World} (h : Stks w w1) (k : Stks w1 w2) : Stks w w2 := fun bs e => k bs (h bs e)
theorem rbox_sbox {w : World} {bz bs : Nat} {s t : Bool} {u v : Value} (h1 : w.heap[bz]? = some (rbox s u t v)) (h2 : w.heap[bs]? = some sbox) : bs ≠ bz := by
  intro e
  rw [← e, h2] at h1
  simp only [rbox, sbox, Option.some.injEq, Obj.cells.injEq] at h1
  exact absurd h1.2.1 (by decide)
theorem Stks.cell {w : World} {bz : Nat} {s t : Bool} {u v : Value} (h1 : w.heap[bz]? = some (rbox s u t v)) (o : Nat) (x : Value) : Stks w (w.setCell ⟨bz, o, none⟩ x) := fun bs h => by rw [Below.heap_setCell _ _ _ _ (rbox_sbox h1 h)]; exact h
theorem RatIn.same {w0 w w' : World} {bz : Nat} {s t : Bool} {av bv : Value} {A B : Nat} (h : RatIn w0 bz s t av bv A B w) (g : w.grownBy w' none) : RatIn w0 bz s t av bv A B w' :=
  ⟨by rw [g.block bz (Array.getElem?_eq_some_iff.1 h.here).1 (by simp)]; exact h.here, h.na.grown0 g, h.nb.grown0 g, grown_trans h.g g, h.lz, h.oa, h.ob, h.ne⟩
/-- a sign of the fraction is written -/
theorem RatIn.sign {w0 w : World} {bz : Nat} {s t s' t' : Bool} {av bv : Value} {A B : Nat} (h : RatIn w0 bz s t av bv A B w) (o : Nat) (v : Value) (h1 : (w.setCell ⟨bz, o, none⟩ v).heap[bz]? = some (rbox s' av t' bv)) :
    RatIn w0 bz s' t' av bv A B (w.setCell ⟨bz, o, none⟩ v) :=
  ⟨h1, h.na.set (isNat_rbox h.here h.na) o v, h.nb.set (isNat_rbox h.here h.nb) o v, Grown2.new h.g (grown_set2 (grown_refl w none) o v) h.lz, h.lz, h.oa, h.ob, h.ne⟩
theorem IsNat.own1 {w : World} {v : Value} {a : Int} {l : List Int} (h : IsNat w v (a :: l)) : ∃ k, v.ownBlock = some k ∧ k < w.heap.size := by
  rcases h with ⟨_, h⟩ | ⟨b, cap, M, rfl, hb, hc, hm⟩
  · cases h
  · exact ⟨b, rfl, (Array.getElem?_eq_some_iff.1 hb).1⟩
theorem RatIn.setA {w0 w w' : World} {bz : Nat} {s t : Bool} {av bv q : Value} {A B A' : Nat} (h : RatIn w0 bz s t av bv A B w) (g : w.grownBy w' av.ownBlock) (hq : IsNat w' q [(A' : Int)])
    (ho : ∀ k, q.ownBlock = some k → some k = av.ownBlock ∨ w.heap.size ≤ k) : w'.heap[bz]? = some (rbox s av t bv) ∧ RatIn w0 bz s t q bv A' B (w'.setCell ⟨bz, 1, none⟩ q) := by
  obtain ⟨ka, ea, la⟩ := h.na.own1
  obtain ⟨kb, eb, lb⟩ := h.nb.own1
  have hz : w'.heap[bz]? = some (rbox s av t bv) := by
    rw [g.block bz (Array.getElem?_eq_some_iff.1 h.here).1 (fun e => isNat_rbox h.here h.na e.symm)]; exact h.here
  have g' : w0.grownBy w' none := by
    have := h.oa ka ea
    exact grown_own (b := ka) h.g (by rw [← ea]; exact g) (.inr this)
  have hnb : IsNat w' bv [(B : Int)] := h.nb.grown g (.inr fun e => h.ne e.symm)
  have hoq : ∀ k, q.ownBlock = some k → w0.heap.size ≤ k := by
    intro k hk
    rcases ho k hk with e | e
    · exact h.oa k e.symm
    · have := h.g.size; omega
  have hne : q.ownBlock ≠ bv.ownBlock := by
    intro e
    rw [eb] at e
    rcases ho kb e with e2 | e2
    · exact h.ne (by rw [eb]; exact e2.symm)
    · omega
  exact ⟨hz, set_rbox1 hz q, hq.set (isNat_rbox hz hq) 1 q, hnb.set (isNat_rbox hz hnb) 1 q, Grown2.new g' (grown_set2 (grown_refl w' none) 1 q) h.lz, h.lz, hoq, h.ob, hne⟩
theorem RatIn.setB {w0 w w' : World} {bz : Nat} {s t : Bool} {av bv q : Value} {A B B' : Nat} (h : RatIn w0 bz s t av bv A B w) (g : w.grownBy w' bv.ownBlock) (hq : IsNat w' q [(B' : Int)])
    (ho : ∀ k, q.ownBlock = some k → some k = bv.ownBlock ∨ w.heap.size ≤ k) : w'.heap[bz]? = some (rbox s av t bv) ∧ RatIn w0 bz s t av q A B' (w'.setCell ⟨bz, 3, none⟩ q) := by
  obtain ⟨ka, ea, la⟩ := h.na.own1
  obtain ⟨kb, eb, lb⟩ := h.nb.own1
  have hz : w'.heap[bz]? = some (rbox s av t bv) := by
    rw [g.block bz (Array.getElem?_eq_some_iff.1 h.here).1 (fun e => isNat_rbox h.here h.nb e.symm)]; exact h.here
  have g' : w0.grownBy w' none := by
    have := h.ob kb eb
    exact grown_own (b := kb) h.g (by rw [← eb]; exact g) (.inr this)
  have hna : IsNat w' av [(A : Int)] := h.na.grown g (.inr h.ne)
  have hoq : ∀ k, q.ownBlock = some k → w0.heap.size ≤ k := by
    intro k hk
    rcases ho k hk with e | e
    · exact h.ob k e.symm
    · have := h.g.size; omega
  have hne : av.ownBlock ≠ q.ownBlock := by
    intro e
    rw [ea] at e
    rcases ho ka e.symm with e2 | e2
    · exact h.ne (by rw [ea]; exact e2)
    · omega
  exact ⟨hz, set_rbox3 hz q, hna.set (isNat_rbox hz hna) 3 q, hq.set (isNat_rbox hz hq) 3 q, Grown2.new g' (grown_set2 (grown_refl w' none) 3 q) h.lz, h.lz, h.oa, hoq, hne⟩
theorem RatIn.intA {w0 w : World} {bz : Nat} {t : Bool} {av bv : Value} {A B : Nat} (h : RatIn w0 bz false t av bv A B w) (h0 : 0 < A) (h1 : A < 18446744073709551616) : IntC w bz 0 av A := by
  obtain ⟨⟨c0, c1, c2, c3⟩, _⟩ := cell_rbox h.here
  refine ⟨by rw [c0]; congr, c1, ⟨_, _, h.here⟩, [(A : Int)], h.na, wfL_cons (by unfold U64 B64; omega) wfL_nil, nrm_one (by omega), by simp [val], by simp⟩
theorem RatIn.intB {w0 w : World} {bz : Nat} {s : Bool} {av bv : Value} {A B : Nat} (h : RatIn w0 bz s false av bv A B w) (h0 : 0 < B) (h1 : B < 18446744073709551616) : IntC w bz 2 bv B := by
  obtain ⟨⟨c0, c1, c2, c3⟩, _⟩ := cell_rbox h.here
  refine ⟨by rw [c2]; congr, c3, ⟨_, _, h.here⟩, [(B : Int)], h.nb, wfL_cons (by unfold U64 B64; omega) wfL_nil, nrm_one (by omega), by simp [val], by simp⟩
end Go.Proofs.YtndphemomhcjlaaGreatDoor
