/- Natural numbers: the length in bits, the lowest word, alias. Whole numbers behind a pointer: what is read of them. Whole numbers behind a pointer: their worth as a machine's integer; comparisons; the length in bits. Whole numbers behind a pointer: comparisons; the length in bits. -/
import Derived.Deep.CutBlock
import Derived.Deep.CutRange
import Derived.Lib.SliceRun
import Derived.Test.YtjcfacinlgogaaaGreatDoorQ02
import Derived.Test.YtjcfacinlgogaaaGreatDoorQ03
set_option linter.all false
set_option maxRecDepth 100000
namespace Go.Proofs.YtjcfacinlgogaaaGreatDoor
open Go.RowKit
theorem low64_any {w : World} {x : Value} {lx : List Int} (hx : IsNat w x lx) (hn : lx.length ≤ 1000000000000) :
    Calls Tryz.prog 118 #[x] w fun e w' => e = .returned (.int .u64 (lx[0]?.getD 0)) ∧ ∃ q, w' = w.drewN q := by
  by_cases h0 : lx = []
  · subst h0
    obtain ⟨xa, xc, rfl⟩ : ∃ xa xc, x = .slice xa 0 xc := by
      rcases hx with ⟨rfl, _⟩ | ⟨b, cap, M, rfl, _⟩
      · exact ⟨none, 0, rfl⟩
      · exact ⟨some ⟨b, 0, none⟩, cap, rfl⟩
    clear hx
    go_enter Tryz.func118, Tryz.ntmps118
    go_wp2
    go_ret
    exact ⟨rfl, 0, rfl⟩
  · obtain ⟨b, cap, M, rfl, hb, hc, hm, hat, hown⟩ := hx.split h0
    have hl1 : 1 ≤ lx.length := by cases lx with | nil => exact absurd rfl h0 | cons a l => simp
    have g1 : w.cell? ⟨b, 0, none⟩ = some (.int .u64 (lx[0]?.getD 0)) := hat 0 (by omega)
    generalize lx[0]?.getD 0 = a at *
    generalize lx.length = n at *
    have n0 : ((n : Int) == 0) = false := by simp; omega
    clear hx hat hb hown h0
    go_enter Tryz.func118, Tryz.ntmps118
    go_wp2
    go_ret
    exact ⟨rfl, 0, rfl⟩
theorem alias_nil {w : World} {y : Value} {ly : List Int} (hy : IsNat w y ly) :
    Calls Tryz.prog 155 #[.slice none 0 0, y] w fun e w' => e = .returned (.bool false) ∧ ∃ q, w' = w.drewN q := by
  obtain ⟨ya, yc, rfl, hyc⟩ : ∃ ya yc, y = .slice ya ly.length yc ∧ yc ≤ 9223372036854775807 := by
    rcases hy with ⟨rfl, rfl⟩ | ⟨b, cap, M, rfl, _, _, h⟩
    · exact ⟨none, 0, rfl, by omega⟩
    · exact ⟨some ⟨b, 0, none⟩, cap, rfl, h⟩
  clear hy
  go_enter Tryz.func155, Tryz.ntmps155
  go_wp2_with (fail)
  go_quiet (fail)
  go_wp2
  go_ret
  exact ⟨rfl, _, rfl⟩
end Go.Proofs.YtjcfacinlgogaaaGreatDoor
namespace Go.Proofs.YtjcfacinlgogaaaGreatDoor
open Go.RowKit
structure IntC (w : World) (b o : Nat) (v : Value) (n : Int) : Prop where
  neg : w.cell? ⟨b, o, none⟩ = some (.bool (decide (n < 0)))
  abs : w.cell? ⟨b, o + 1, none⟩ = some v
  obj : ∃ cs T, w.heap[b]? = some (.cells cs T)
  nat : ∃ l, IsNat w v l ∧ wfL l ∧ Nrm l ∧ val l = n.natAbs ∧ l.length ≤ 10000000000
theorem und51 : Tryz.prog.underlying 54 = some (.pointer 107) := by kernel_rfl
theorem siz90 : (Tryz.prog.info? 107).map (·.size) = some 2 := by kernel_rfl
theorem inf90 : ∃ j, Tryz.prog.info? 107 = some j ∧ j.size ≠ 0 := by
  have h := siz90
  cases hq : Tryz.prog.info? 107 with
  | none => rw [hq] at h; simp at h
  | some j => rw [hq] at h; simp at h; exact ⟨j, rfl, by omega⟩
theorem ptr_neq_same (a : Addr) (wx : World) : (binOp .neq 54 (.pointer (some a)) (.pointer (some a))).run Tryz.prog wx = .ok (.bool false) wx := by
  obtain ⟨j, hj, _⟩ := inf90
  have h : ∀ d : Nat, (Op.equalIn (d + 1) 54 (.pointer (some a)) (.pointer (some a))).run Tryz.prog wx = .ok true wx := fun d => by
    simp [Op.equalIn, run_underlying und51, sizeOf, typeInfo, hj, run_sameAddr_same]
  simp only [binOp]
  simp [Op.equal, Op.maxDepth, h 9999]
theorem ptr_eql_other {a b : Addr} {wx : World} (hne : a ≠ b) (ha : ∃ cs T, wx.heap[a.block]? = some (.cells cs T)) (hb : ∃ cs T, wx.heap[b.block]? = some (.cells cs T)) :
    (binOp .eql 54 (.pointer (some a)) (.pointer (some b))).run Tryz.prog wx = .ok (.bool false) wx ∧ (binOp .neq 54 (.pointer (some a)) (.pointer (some b))).run Tryz.prog wx = .ok (.bool true) wx := by
  obtain ⟨j, hj, hs⟩ := inf90
  obtain ⟨ca, ta, ha⟩ := ha
  obtain ⟨cb, tb, hb⟩ := hb
  have h : ∀ d : Nat, (Op.equalIn (d + 1) 54 (.pointer (some a)) (.pointer (some b))).run Tryz.prog wx = .ok false wx := fun d => by
    simp [Op.equalIn, run_underlying und51, sizeOf, typeInfo, hj, hs, run_sameAddr_other wx hne ha hb]
  constructor
  · simp only [binOp]
    simp [Op.equal, Op.maxDepth, h 9999]
  · simp only [binOp]
    simp [Op.equal, Op.maxDepth, h 9999]
theorem IsNat.slice {w : World} {v : Value} {l : List Int} (h : IsNat w v l) : ∃ a c, v = .slice a l.length c := by
  rcases h with ⟨rfl, rfl⟩ | ⟨b, cap, M, rfl, _⟩
  · exact ⟨none, 0, rfl⟩
  · exact ⟨some ⟨b, 0, none⟩, cap, rfl⟩
theorem Nrm.nil_iff {l : List Int} (h : Nrm l) (wl : wfL l) : l = [] ↔ val l = 0 := by
  constructor
  · intro e; rw [e]; rfl
  · intro e
    by_cases h0 : 0 < l.length
    · have := val_ge h wl h0
      have := B64_pow_pos (l.length - 1)
      omega
    · exact List.eq_nil_of_length_eq_zero (by omega)
def isgn (n : Int) : Int := if n = 0 then 0 else if n < 0 then -1 else 1
theorem Sign_any {w : World} {b o : Nat} {v : Value} {n : Int} (h : IntC w b o v n) :
    Calls Tryz.prog 93 #[.pointer (some ⟨b, o, none⟩)] w fun e w' => e = .returned (.int .i64 (isgn n)) ∧ w = w' := by
  obtain ⟨h1, h2, _, l, hn, wl, nl, hv, hlen⟩ := h
  obtain ⟨a, c, rfl⟩ := hn.slice
  have hnil := nl.nil_iff wl
  rw [hv] at hnil
  by_cases h0 : n = 0
  · subst h0
    obtain rfl := hnil.2 (by simp)
    clear hn hv hnil
    go_enter Tryz.func93, Tryz.ntmps93
    go_wp2
    go_ret
    exact ⟨rfl, rfl⟩
  · have hl : ((l.length : Int) == 0) = false := by
      have : l ≠ [] := fun e => h0 (by have := hnil.1 e; omega)
      cases l with
      | nil => exact absurd rfl this
      | cons a t => simp; omega
    generalize l.length = m at *
    clear hn hv hnil
    by_cases hneg : n < 0
    · have e : isgn n = -1 := by unfold isgn; rw [if_neg h0, if_pos hneg]
      have hd : decide (n < 0) = true := by simp [hneg]
      rw [hd] at h1
      have HE := Hq0 e
      clear hneg hd h0 e
      go_enter Tryz.func93, Tryz.ntmps93
      go_wp2
      go_ret
      exact ⟨ret_int HE.out.symm, rfl⟩
    · have e : isgn n = 1 := by unfold isgn; rw [if_neg h0, if_neg hneg]
      have hd : decide (n < 0) = false := by simp [hneg]
      rw [hd] at h1
      have HE := Hq0 e
      clear hneg hd h0 e
      go_enter Tryz.func93, Tryz.ntmps93
      go_wp2
      go_ret
      exact ⟨ret_int HE.out.symm, rfl⟩
end Go.Proofs.YtjcfacinlgogaaaGreatDoor
namespace Go.Proofs.YtjcfacinlgogaaaGreatDoor
open Go.RowKit
def S64 (n : Int) : Prop := -9223372036854775808 ≤ n ∧ n ≤ 9223372036854775807
theorem val_low {l : List Int} (h : l.length ≤ 1) : val l = l[0]?.getD 0 := by
  match l, h with
  | [], _ => rfl
  | [a], _ => simp [val]
theorem IntC.same {w w' : World} {b o : Nat} {v : Value} {n : Int} (h : IntC w b o v n) (g : w.grownBy w' none) : IntC w' b o v n := by
  obtain ⟨h1, h2, ⟨cs, T, h3⟩, l, hn, hl⟩ := h
  have e := g.block b (Array.getElem?_eq_some_iff.1 h3).1 (by simp)
  exact ⟨by rw [World.cell?_of_block e]; exact h1, by rw [World.cell?_of_block e]; exact h2, ⟨cs, T, by rw [e]; exact h3⟩, l, hn.grown0 g, hl⟩
theorem IntC.draw {w : World} {b o : Nat} {v : Value} {n : Int} (h : IntC w b o v n) (q : Nat) : IntC (w.drewN q) b o v n := h.same (grown_drewN w q)
theorem Int64_any {w : World} {b o : Nat} {v : Value} {n : Int} (h : IntC w b o v n) (hs : S64 n) :
    Calls Tryz.prog 95 #[.pointer (some ⟨b, o, none⟩)] w fun e w' => e = .returned (.int .i64 n) ∧ ∃ q, w' = w.drewN q := by
  obtain ⟨h1, h2, _, l, hn, wl, nl, hv, hlen⟩ := h
  have hl1 : l.length ≤ 1 := by
    rcases Nat.lt_or_ge 1 l.length with h | h
    · have h3 := val_ge nl wl (by omega)
      have h4 := pow_mono (a := 1) (b := l.length - 1) (by omega)
      rw [hv, Int.pow_one] at *
      unfold S64 B64 at *; omega
    · exact h
  have hlow := val_low hl1
  rw [hv] at hlow
  have HN := Hq0 hn; have HS := Hq0 hs; have HL := Hq0 hlow
  clear hn hs hlow hv hl1
  by_cases hneg : n < 0
  · have hd : decide (n < 0) = true := by simp [hneg]
    rw [hd] at h1
    have e1 : IntKind.i64.wrap (-(IntKind.i64.wrap (l[0]?.getD 0))) = n := by
      rw [← HL.out]; have := HS.out; unfold S64 at this
      rw [IntKind.wrap_i64, IntKind.wrap_i64]; omega
    have HE := Hq0 e1
    clear hneg hd e1
    go_enter Tryz.func95, Tryz.ntmps95
    go_wp2_with (fail)
    refine (low64_any HN.out (by omega)).mono ?_
    rintro e w' ⟨rfl, q, rfl⟩
    have h3 : (w.drewN q).cell? ⟨b, o, none⟩ = some (.bool true) := h1
    generalize l[0]?.getD 0 = x at *
    go_wp2
    go_ret
    exact ⟨ret_int (by first | exact HE.out | (have := HE.out; simp only [IntKind.wrap_i64] at this; unfold wrap64; omega)), _, rfl⟩
  · have hd : decide (n < 0) = false := by simp [hneg]
    rw [hd] at h1
    have e1 : IntKind.i64.wrap (l[0]?.getD 0) = n := by
      rw [← HL.out]; have := HS.out; unfold S64 at this
      rw [IntKind.wrap_i64]; omega
    have HE := Hq0 e1
    clear hneg hd e1
    go_enter Tryz.func95, Tryz.ntmps95
    go_wp2_with (fail)
    refine (low64_any HN.out (by omega)).mono ?_
    rintro e w' ⟨rfl, q, rfl⟩
    have h3 : (w.drewN q).cell? ⟨b, o, none⟩ = some (.bool false) := h1
    generalize l[0]?.getD 0 = x at *
    go_wp2
    go_ret
    exact ⟨ret_int (by first | exact HE.out | (have := HE.out; simp only [IntKind.wrap_i64] at this; unfold wrap64; omega)), _, rfl⟩
theorem IsInt64_any {w : World} {b o : Nat} {v : Value} {n : Int} (h : IntC w b o v n) :
    Calls Tryz.prog 94 #[.pointer (some ⟨b, o, none⟩)] w fun e w' => e = .returned (.bool (decide (-9223372036854775808 ≤ n ∧ n ≤ 9223372036854775807))) ∧ ∃ q, w' = w.drewN q := by
  obtain ⟨h1, h2, _, l, hn, wl, nl, hv, hlen⟩ := h
  obtain ⟨a, c, rfl⟩ := hn.slice
  by_cases hl1 : l.length ≤ 1
  · have hlow := val_low hl1
    rw [hv] at hlow
    have hle : decide ((l.length : Int) ≤ 1) = true := by simp; omega
    have HN := Hq0 hn; have HL := Hq0 hlow
    have hu : U64 (l[0]?.getD 0) := by
      match l, hl1, wl with
      | [], _, _ => exact u0
      | [x], _, wl => exact wl x (by simp)
    clear hn hlow hv wl nl
    have hle2 : (l.length : Int) ≤ 1 := by omega
    rcases Int.lt_or_le (l[0]?.getD 0) 9223372036854775808 with hx | hx
    · have e1 : IntKind.i64.wrap (l[0]?.getD 0) = l[0]?.getD 0 := by rw [IntKind.wrap_i64]; have := hu.1; omega
      have e2 : decide (-9223372036854775808 ≤ n ∧ n ≤ 9223372036854775807) = true := by have := HL.out; simp; omega
      have e3 : (0 : Int) ≤ l[0]?.getD 0 := hu.1
      rw [e2]
      clear e2 hle hu
      go_enter Tryz.func94, Tryz.ntmps94
      go_wp2_with (fail)
      refine (low64_any HN.out (by omega)).mono ?_
      rintro e w' ⟨rfl, q, rfl⟩
      generalize l[0]?.getD 0 = x at *
      go_wp2
      go_ret
      exact ⟨rfl, _, rfl⟩
    · have HU : Hid (decide ((18446744073709551616 : Int) ≤ l[0]?.getD 0) = false) := Hq0 (by have := hu.2; unfold B64 at this; simp; omega)
      have e1 : IntKind.i64.wrap (l[0]?.getD 0) = l[0]?.getD 0 - 18446744073709551616 := by rw [IntKind.wrap_i64]; have := hu.2; unfold B64 at this; omega
      have e3 : ¬ ((0 : Int) ≤ l[0]?.getD 0 - 18446744073709551616) := by have := hu.2; unfold B64 at this; omega
      by_cases hneg : n < 0
      · have hd : decide (n < 0) = true := by simp [hneg]
        rw [hd] at h1
        by_cases hm : l[0]?.getD 0 = 9223372036854775808
        · have e2 : decide (-9223372036854775808 ≤ n ∧ n ≤ 9223372036854775807) = true := by have := HL.out; simp; omega
          have e4 : IntKind.i64.wrap (-(l[0]?.getD 0 - 18446744073709551616)) = l[0]?.getD 0 - 18446744073709551616 := by rw [hm, IntKind.wrap_i64]; omega
          rw [e2]
          clear e2 hle hu hd hneg hm
          go_enter Tryz.func94, Tryz.ntmps94
          go_wp2_with (fail)
          refine (low64_any HN.out (by omega)).mono ?_
          rintro e w' ⟨rfl, q, rfl⟩
          have h3 : (w.drewN q).cell? ⟨b, o, none⟩ = some (.bool true) := h1
          generalize l[0]?.getD 0 = x at *
          go_wp2
          go_ret
          exact ⟨by simp, _, rfl⟩
        · have e2 : decide (-9223372036854775808 ≤ n ∧ n ≤ 9223372036854775807) = false := by have := HL.out; simp; omega
          have e4 : IntKind.i64.wrap (-(l[0]?.getD 0 - 18446744073709551616)) = 18446744073709551616 - l[0]?.getD 0 := by rw [IntKind.wrap_i64]; have := hu.2; unfold B64 at this; omega
          have e5 : (l[0]?.getD 0 - 18446744073709551616 == 18446744073709551616 - l[0]?.getD 0) = false := by simp; omega
          rw [e2]
          clear e2 hle hu hd hneg hm
          go_enter Tryz.func94, Tryz.ntmps94
          go_wp2_with (fail)
          refine (low64_any HN.out (by omega)).mono ?_
          rintro e w' ⟨rfl, q, rfl⟩
          have h3 : (w.drewN q).cell? ⟨b, o, none⟩ = some (.bool true) := h1
          generalize l[0]?.getD 0 = x at *
          go_wp2
          go_ret
          exact ⟨by first | rfl | exact congrArg (fun t => Ending.returned (.bool t)) HU.out, _, rfl⟩
      · have hd : decide (n < 0) = false := by simp [hneg]
        rw [hd] at h1
        have e2 : decide (-9223372036854775808 ≤ n ∧ n ≤ 9223372036854775807) = false := by have := HL.out; simp; omega
        rw [e2]
        clear e2 hle hu hd hneg
        go_enter Tryz.func94, Tryz.ntmps94
        go_wp2_with (fail)
        refine (low64_any HN.out (by omega)).mono ?_
        rintro e w' ⟨rfl, q, rfl⟩
        have h3 : (w.drewN q).cell? ⟨b, o, none⟩ = some (.bool false) := h1
        generalize l[0]?.getD 0 = x at *
        go_wp2
        go_ret
        exact ⟨by first | rfl | exact congrArg (fun t => Ending.returned (.bool t)) HU.out, _, rfl⟩
  · have e2 : decide (-9223372036854775808 ≤ n ∧ n ≤ 9223372036854775807) = false := by
      have h3 := val_ge nl wl (by omega)
      have h4 := pow_mono (a := 1) (b := l.length - 1) (by omega)
      rw [Int.pow_one] at h4
      rw [hv] at h3
      unfold B64 at h3 h4
      simp; omega
    have hle : ¬ ((l.length : Int) ≤ 1) := by omega
    rw [e2]
    clear hn hv wl nl e2
    generalize l.length = m at *
    go_enter Tryz.func94, Tryz.ntmps94
    go_wp2
    go_ret
    exact ⟨rfl, 0, rfl⟩
end Go.Proofs.YtjcfacinlgogaaaGreatDoor
namespace Go.Proofs.YtjcfacinlgogaaaGreatDoor
open Go.RowKit
theorem icmp_neg (a b : Int) : icmp (-a) (-b) = - icmp a b := by
  unfold icmp
  split <;> split <;> (try split) <;> omega
theorem i64_left' (n : Int) : IntKind.i64.wrap n = wrap64 n := by rw [IntKind.wrap_i64]; unfold wrap64; omega
theorem Cmp_any {w : World} {b o b2 o2 : Nat} {v v2 : Value} {n n2 : Int} (h : IntC w b o v n) (k : IntC w b2 o2 v2 n2) (hne : (⟨b, o, none⟩ : Addr) ≠ ⟨b2, o2, none⟩) :
    Calls Tryz.prog 87 #[.pointer (some ⟨b, o, none⟩), .pointer (some ⟨b2, o2, none⟩)] w fun e w' => e = .returned (.int .i64 (icmp n n2)) ∧ ∃ q, w' = w.drewN q := by
  obtain ⟨h1, h2, ho, l, hn, wl, nl, hv, hlen⟩ := h
  obtain ⟨k1, k2, ko, m, hm, wm, nm, hu, hlem⟩ := k
  have E := fun q : Nat => (ptr_eql_other (wx := w.drewN q) hne ho ko).1
  have E0 := (ptr_eql_other (wx := w) hne ho ko).1
  have HN := Hq0 hn; have HV := Hq0 hv
  have HM := Hq0 hm; have HU := Hq0 hu
  clear hn hv hm hu ho ko hne
  by_cases hs : decide (n < 0) = decide (n2 < 0)
  · rw [← hs] at k1
    by_cases hneg : n < 0
    · have hd : decide (n < 0) = true := by simp [hneg]
      have hneg2 : n2 < 0 := by rw [hd] at hs; simpa using hs.symm
      rw [hd] at h1 k1
      have HR : Hid (IntKind.i64.wrap (-(icmp (val l) (val m))) = icmp n n2) := by
        show _ = _
        rw [HV.out, HU.out, show n = -(n.natAbs : Int) by omega, show n2 = -(n2.natAbs : Int) by omega, icmp_neg]
        simp only [Int.natAbs_neg, Int.natAbs_natCast]
        unfold icmp
        split
        · rfl
        · split <;> rfl
      clear hs hd hneg hneg2
      go_enter Tryz.func87, Tryz.ntmps87
      go_wp2_with (fail)
      go_quiet (fail)
      go_wp2_with (fail)
      obtain ⟨w1, hw1⟩ : ∃ w1, w.drewN nq = w1 := ⟨_, rfl⟩
      have HN1 : IsNat w1 v l := by rw [← hw1]; exact HN.out.grown0 (grown_drewN _ _)
      have HM1 : IsNat w1 v2 m := by rw [← hw1]; exact HM.out.grown0 (grown_drewN _ _)
      have g1 : w1.cell? ⟨b, o, none⟩ = some (.bool true) := by rw [← hw1]; exact h1
      have g2 : w1.cell? ⟨b, o + 1, none⟩ = some v := by rw [← hw1]; exact h2
      have g4 : w1.cell? ⟨b2, o2 + 1, none⟩ = some v2 := by rw [← hw1]; exact k2
      have HN1 := Hq0 HN1; have HM1 := Hq0 HM1
      rw [hw1]
      have HW := Hq0 hw1
      clear hw1
      go_quiet ((go_at_call 113; exact Calls.quiet_of (cmp_any (HN1.out.grown0 (grown_drewN _ _)) (HM1.out.grown0 (grown_drewN _ _)) wl wm nl nm (by omega) (by omega))))
      go_wp2
      go_ret
      exact ⟨ret_int (by first | exact HR.out | (have := HR.out; rw [i64_left'] at this; exact this)), _, by rw [← HW.out, dd]⟩
    · have hd : decide (n < 0) = false := by simp [hneg]
      have hneg2 : ¬ n2 < 0 := by rw [hd] at hs; simpa using hs.symm
      rw [hd] at h1 k1
      have HR : Hid (icmp (val l) (val m) = icmp n n2) := by
        show _ = _
        rw [HV.out, HU.out, show (n.natAbs : Int) = n by omega, show (n2.natAbs : Int) = n2 by omega]
      clear hs hd hneg hneg2
      go_enter Tryz.func87, Tryz.ntmps87
      go_wp2_with (fail)
      go_quiet (fail)
      go_wp2_with (fail)
      obtain ⟨w1, hw1⟩ : ∃ w1, w.drewN nq = w1 := ⟨_, rfl⟩
      have HN1 : IsNat w1 v l := by rw [← hw1]; exact HN.out.grown0 (grown_drewN _ _)
      have HM1 : IsNat w1 v2 m := by rw [← hw1]; exact HM.out.grown0 (grown_drewN _ _)
      have g1 : w1.cell? ⟨b, o, none⟩ = some (.bool false) := by rw [← hw1]; exact h1
      have g2 : w1.cell? ⟨b, o + 1, none⟩ = some v := by rw [← hw1]; exact h2
      have g4 : w1.cell? ⟨b2, o2 + 1, none⟩ = some v2 := by rw [← hw1]; exact k2
      have HN1 := Hq0 HN1; have HM1 := Hq0 HM1
      rw [hw1]
      have HW := Hq0 hw1
      clear hw1
      go_quiet ((go_at_call 113; exact Calls.quiet_of (cmp_any (HN1.out.grown0 (grown_drewN _ _)) (HM1.out.grown0 (grown_drewN _ _)) wl wm nl nm (by omega) (by omega))))
      go_wp2
      go_ret
      exact ⟨ret_int (by first | exact HR.out | (have := HR.out; rw [i64_left'] at this; exact this)), _, by rw [← HW.out, dd]⟩
  · by_cases hneg : n < 0
    · have hd : decide (n < 0) = true := by simp [hneg]
      have hneg2 : ¬ n2 < 0 := by intro h; apply hs; simp [hneg, h]
      have hd2 : decide (n2 < 0) = false := by simp [hneg2]
      rw [hd] at h1
      rw [hd2] at k1
      have HR : Hid (-1 = icmp n n2) := by show _ = _; rw [icmp_lt (by omega)]
      clear hs hd hneg hneg2 hd2
      go_enter Tryz.func87, Tryz.ntmps87
      go_wp2_with (fail)
      go_quiet (fail)
      have h3 : ∀ q, (w.drewN q).cell? ⟨b, o, none⟩ = some (.bool true) := fun _ => h1
      go_wp2
      go_ret
      exact ⟨ret_int HR.out, _, rfl⟩
    · have hd : decide (n < 0) = false := by simp [hneg]
      have hneg2 : n2 < 0 := by
        apply Classical.byContradiction; intro h; apply hs; simp [hneg, h]
      have hd2 : decide (n2 < 0) = true := by simp [hneg2]
      rw [hd] at h1
      rw [hd2] at k1
      have HR : Hid (1 = icmp n n2) := by show _ = _; rw [icmp_gt (by omega)]
      clear hs hd hneg hneg2 hd2
      go_enter Tryz.func87, Tryz.ntmps87
      go_wp2_with (fail)
      go_quiet (fail)
      have h3 : ∀ q, (w.drewN q).cell? ⟨b, o, none⟩ = some (.bool false) := fun _ => h1
      go_wp2
      go_ret
      exact ⟨ret_int HR.out, _, rfl⟩
end Go.Proofs.YtjcfacinlgogaaaGreatDoor
