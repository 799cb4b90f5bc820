/- Powers of ten. Decimals: their number and exponent; powers as machine integers. Numbers of given words. Floating point: what the model stands in for. Floating point at a few values. -/
import Derived.Test.YtjcfacinlgogaaaGreatDoorQ07
set_option linter.all false
set_option maxRecDepth 100000
namespace Go.Proofs.YtjcfacinlgogaaaGreatDoor
open Go.RowKit
theorem Mul_one {w : World} {bz bx ox by_ oy : Nat} {x y : Value} {nx ny : Int} (hz : w.heap[bz]? = some (ibox false (.slice none 0 0))) (hx : IntC w bx ox x nx) (hy : IntC w by_ oy y ny)
    (h1 : bx ≠ bz) (h2 : by_ ≠ bz) (h3 : (⟨bx, ox, none⟩ : Addr) ≠ ⟨by_, oy, none⟩) (h4 : nx ≠ 0) (h5 : ny ≠ 0) (h6 : ny.natAbs < 18446744073709551616) (h7 : ((nx * ny).natAbs : Int) < B64 ^ 1000) :
    Calls Tryz.prog 89 #[.pointer (some ⟨bz, 0, none⟩), .pointer (some ⟨bx, ox, none⟩), .pointer (some ⟨by_, oy, none⟩)] w fun e w' => e = .returned (.pointer (some ⟨bz, 0, none⟩)) ∧ ∃ v', IntBox w' bz v' (nx * ny) ∧ Grown2 w w' bz none := by
  have H := Hq0 (mulI_one (.pointer none) hz hx hy h1 h2 h3 h4 h5 h6 h7)
  clear hz hx hy h7
  go_enter Tryz.func89, Tryz.ntmps89
  go_wp2_with (fail)
  refine H.out.mono ?_
  rintro e w1 ⟨rfl, v, hb, hg⟩
  have HB := Hq0 hb; have HG := Hq0 hg
  clear hb hg
  go_wp2
  go_ret
  exact ⟨rfl, _, HB.out, HG.out⟩
theorem tenInt_any (w : World) : Calls Tryz.prog 117 #[] w fun e w' => IntNew w w' e 10 := by
  go_enter Tryz.func117, Tryz.ntmps117
  go_wp2_with (fail)
  refine (NewInt_any 10 w (by unfold S64; omega)).mono ?_
  rintro e w1 ⟨b, v, rfl, h1, h2, h3⟩
  have H := Hq0 h2; have H3 := Hq0 h3
  clear h2 h3
  go_wp2
  go_ret
  exact ⟨_, _, rfl, h1, H.out, H3.out⟩
theorem Grown2.new {w w1 w2 : World} {b : Nat} (g : w.grownBy w1 none) (h : Grown2 w1 w2 b none) (hb : w.heap.size ≤ b) : w.grownBy w2 none :=
  ⟨h.os.trans g.os, h.tape.trans g.tape, h.output.trans g.output, Nat.le_trans g.size h.size, fun i hi hr => (h.block i (Nat.lt_of_lt_of_le hi g.size) (by omega) (by simp)).trans (g.block i hi hr)⟩
theorem pow10_bound {k : Nat} (h : k ≤ 128) : (((10 : Int) ^ k).natAbs : Int) < B64 ^ 1000 := by
  have h1 : (10 : Int) ^ k ≤ 10 ^ 128 := by
    rw [show 128 = k + (128 - k) by omega, Int.pow_add]
    have h2 : (1 : Int) ≤ 10 ^ (128 - k) := Int.pow_pos (by decide)
    have h3 : (0 : Int) < 10 ^ k := Int.pow_pos (by decide)
    have h4 := Int.mul_le_mul_of_nonneg_left h2 (Int.le_of_lt h3)
    omega
  have h2 : (10 : Int) ^ 128 < B64 ^ 8 := by unfold B64; decide
  have h3 := pow_mono (a := 8) (b := 1000) (by omega)
  have h4 : (0 : Int) < 10 ^ k := Int.pow_pos (by decide)
  rw [show (((10 : Int) ^ k).natAbs : Int) = 10 ^ k by omega]
  omega
theorem pow10Table_any (n : Nat) (w : World) (h : n ≤ 127) :
    Calls Tryz.prog 115 #[.int .i64 n] w fun e w' => IntNew w w' e (10 ^ n) := by
  have H1 := NewInt_any 1 w (by unfold S64; omega)
  go_enter Tryz.func115, Tryz.ntmps115
  go_wp2_with (fail)
  refine H1.mono ?_
  rintro e w1 ⟨b, v, rfl, h1, h2, h3⟩
  have H2 := Hq0 h2; have H3 := Hq0 h3; have HB := Hq0 h1
  clear h1 h2 h3 H1
  go_wp2_with (fail)
  go_loopw [3, 4] (fun s3 s4 wr => ∃ (b : Nat) (v : Value) (k : Nat), s3 = .pointer (some ⟨b, 0, none⟩) ∧ s4 = .int .i64 ((k : Int) + 1) ∧ k ≤ n ∧ w.heap.size ≤ b ∧ IntBox wr b v (10 ^ k) ∧ w.grownBy wr none) (fun _ i _ => n + 1 - (intOf i).toNat)
  case atStart => exact ⟨b, v, 0, rfl, by go_num, Nat.zero_le _, HB.out, H2.out, H3.out⟩
  case round =>
    obtain ⟨b, v, k, rfl, rfl, hk, hb, hbox, hg⟩ := hrel
    have HX := Hq0 hbox; have HG := Hq0 hg; have Hb := Hq0 hb
    clear hbox hg hb H2 H3 HB
    by_cases hlt : k < n
    · have hnew := Hq0 (heap_new wr (ibox false (.slice none 0 0)))
      have hga := Hq0 (World.grownBy_alloc wr (ibox false (.slice none 0 0)) none)
      have hsz := Hq0 (size_alloc wr (ibox false (.slice none 0 0)))
      go_wp2_with (fail)
      refine (tenInt_any _).mono ?_
      rintro e w2 ⟨b2, v2, rfl, g1, g2, g3⟩
      have G1 := Hq0 g1; have G2 := Hq0 g2; have G3 := Hq0 g3
      clear g1 g2 g3
      go_wp2_with (fail)
      have hs := hsz.out
      have hbl : b < wr.heap.size := (Array.getElem?_eq_some_iff.1 HX.out.here).1
      have hg1 : (wr.alloc (ibox false (.slice none 0 0))).grownBy w2 none := G3.out
      have hg2 : w2.heap[wr.heap.size]? = some (ibox false (.slice none 0 0)) := by rw [hg1.block _ (by omega) (by simp)]; exact hnew.out
      have hb2 : wr.heap.size + 1 ≤ b2 := by have := G1.out; rw [← hs]; exact this
      have hp : (10 : Int) ^ k ≠ 0 := by have : (0 : Int) < 10 ^ k := Int.pow_pos (by decide); omega
      refine (Mul_one (bz := wr.heap.size) (nx := 10 ^ k) (ny := 10) hg2 ((HX.out.c.same hga.out).same hg1) G2.out.c (by omega) (by omega) (by intro e; injection e; omega) hp (by omega) (by decide) (by rw [← Int.pow_succ]; exact pow10_bound (by omega))).mono ?_
      rintro e w3 ⟨rfl, v3, hbox3, hgr3⟩
      have HN := Hq0 hbox3
      have HGN := Hq0 (Grown2.new (grown_trans HG.out (grown_trans hga.out hg1)) hgr3 (by have := Hb.out; omega))
      have hle := Hq0 (show w.heap.size ≤ wr.heap.size by have := Hb.out; omega)
      clear hbox3 hgr3 hg1 hg2 hs hbl hp hb2
      go_wp2_with (fail)
      go_roundw
      case rel => exact ⟨_, _, k + 1, rfl, by go_num, by omega, hle.out, by rw [Int.pow_succ]; exact HN.out, HGN.out⟩
      case measure => simp [intOf]; omega
    · obtain rfl : k = n := by omega
      go_wp2
      go_ret
      exact ⟨_, _, rfl, Hb.out, HX.out, HG.out⟩
end Go.Proofs.YtjcfacinlgogaaaGreatDoor
namespace Go.Proofs.YtjcfacinlgogaaaGreatDoor
open Go.RowKit
theorem pow10_any (n : Nat) (w : World) (h : n ≤ 127) :
    Calls Tryz.prog 90 #[.int .i64 n] w fun e w' => IntNew w w' e (10 ^ n) := by
  have hlt : (n : Int) < 128 := by omega
  go_enter Tryz.func90, Tryz.ntmps90
  go_wp2_with (fail)
  refine (pow10Table_any n w h).mono ?_
  rintro e w1 ⟨b, v, rfl, h1, h2, h3⟩
  have H := Hq0 h2; have H3 := Hq0 h3
  clear h2 h3
  go_wp2
  go_ret
  exact ⟨_, _, rfl, h1, H.out, H3.out⟩
def decV (b : Nat) (e : Int) : Value := .agg #[.pointer (some ⟨b, 0, none⟩), .int .i32 e]
theorem ZzMake_any (b : Nat) (e : Int) (w : World) :
    Calls Tryz.prog 53 #[.pointer (some ⟨b, 0, none⟩), .int .i32 e] w fun r w' => r = .returned (decV b e) ∧ w.grownBy w' none := by
  have hg : ∀ o, w.grownBy (w.alloc o) none := fun o => World.grownBy_alloc w o none
  go_enter Tryz.func53, Tryz.ntmps53
  go_wp2
  refine bodyPost_ret (v := decV b e) (by simp [results, Tryz.func53, go_sem, decV]; try rfl) rfl ?_
  exact ⟨rfl, hg _⟩
theorem getValue_any (b : Nat) (e : Int) (w : World) :
    Calls Tryz.prog 86 #[decV b e] w fun r w' => r = .returned (.pointer (some ⟨b, 0, none⟩)) ∧ w.grownBy w' none := by
  have hg : ∀ o, w.grownBy (w.alloc o) none := fun o => World.grownBy_alloc w o none
  unfold decV
  go_enter Tryz.func86, Tryz.ntmps86
  go_wp2
  go_ret
  exact ⟨rfl, hg _⟩
theorem decSign_any {w : World} {b : Nat} {v : Value} {n : Int} (e : Int) (h : IntC w b 0 v n) :
    Calls Tryz.prog 88 #[decV b e] w fun r w' => r = .returned (.int .i64 (isgn n)) ∧ w.grownBy w' none := by
  have hg : ∀ o, w.grownBy (w.alloc o) none := fun o => World.grownBy_alloc w o none
  have H := Hq0 h
  clear h
  unfold decV
  go_enter Tryz.func88, Tryz.ntmps88
  go_wp2_with (fail)
  refine (getValue_any b e _).mono ?_
  rintro r w1 ⟨rfl, g1⟩
  have G1 := Hq0 (grown_trans (hg _) g1)
  clear g1
  go_wp2_with (fail)
  refine (Sign_any (H.out.same G1.out)).mono ?_
  rintro r w2 ⟨rfl, rfl⟩
  go_wp2
  go_ret
  exact ⟨rfl, G1.out⟩
theorem ipow_le {b : Int} (hb : 1 ≤ b) {a c : Nat} (h : a ≤ c) : b ^ a ≤ b ^ c := by
  obtain ⟨d, rfl⟩ := Nat.exists_eq_add_of_le h
  rw [Int.pow_add]
  have h2 : 1 ≤ b ^ d := Int.pow_pos (by omega)
  have h3 : 0 < b ^ a := Int.pow_pos (by omega)
  have h4 := Int.mul_le_mul_of_nonneg_left h2 (Int.le_of_lt h3)
  omega
theorem pow10Uint64_any (n : Nat) (w : World) (h : n ≤ 19) :
    Calls Tryz.prog 96 #[.int .i32 n] w fun e w' => e = .returned (.int .u64 (10 ^ n)) ∧ w = w' := by
  have h1 : ¬ ((n : Int) < 0) := by omega
  have h2 : ¬ (19 < (n : Int)) := by omega
  go_enter Tryz.func96, Tryz.ntmps96
  go_wp2_with (fail)
  go_loopw [3, 4] (fun s3 s4 wr => ∃ k : Nat, s3 = .int .u64 (10 ^ k) ∧ s4 = .int .i32 ((k : Int) + 1) ∧ k ≤ n ∧ w = wr) (fun _ i _ => n + 1 - (intOf i).toNat)
  case atStart => exact ⟨0, rfl, by go_num, Nat.zero_le _, rfl⟩
  case round =>
    obtain ⟨k, rfl, rfl, hk, rfl⟩ := hrel
    by_cases hlt : k < n
    · have hb : (10 : Int) ^ (k + 1) ≤ 10 ^ 19 := ipow_le (by decide) (by omega)
      have he : IntKind.u64.wrap (10 ^ k * 10) = 10 ^ (k + 1) := by
        rw [← Int.pow_succ]
        have h3 : (0 : Int) < 10 ^ (k + 1) := Int.pow_pos (by decide)
        have h22 : (10 : Int) ^ 19 = 10000000000000000000 := by decide
        exact wrap_u64 (by unfold U64 B64; omega)
      have HE := Hq0 he
      clear hb he
      generalize (10 : Int) ^ k = x at *
      go_wp2
      go_roundw
      case rel => exact ⟨k + 1, by rw [← HE.out], by go_num, by omega, trivial⟩
      case measure => simp [intOf]; omega
    · obtain rfl : k = n := by omega
      clear h1 h2
      go_wp2
      go_ret
      exact ⟨rfl, rfl⟩
end Go.Proofs.YtjcfacinlgogaaaGreatDoor
namespace Go.Proofs.YtjcfacinlgogaaaGreatDoor
open Go.RowKit
theorem norm_nil (w : World) : Calls Tryz.prog 110 #[.slice none 0 0] w fun e w' => e = .returned (.slice none 0 0) ∧ w = w' := by
  have R : ∀ wx, (Instr.slice 105 (.slice none 0 0) (some (.int .i64 0)) (some (.int .i64 0)) none).run Tryz.prog wx = .ok (.slice none 0 0) wx := fun wx => by kernel_rfl
  go_enter Tryz.func110, Tryz.ntmps110
  go_wp2
  go_loopw [3] (fun i wr => i = .int .i64 0 ∧ w = wr) (fun _ _ => 0)
  case atStart => exact ⟨rfl, rfl⟩
  case round =>
    obtain ⟨rfl, rfl⟩ := hrel
    go_wp2
    go_ret
    exact ⟨rfl, rfl⟩
theorem SetBits_any {w : World} {bz : Nat} {g : Bool} {z v : Value} {l : List Int} (hz : w.heap[bz]? = some (ibox g z)) (hv : IsNat w v l) (wl : wfL l) (hl : l.length ≤ 10000000000) :
    Calls Tryz.prog 83 #[.pointer (some ⟨bz, 0, none⟩), v] w fun e w' => e = .returned (.pointer (some ⟨bz, 0, none⟩)) ∧ ∃ v', IntBox w' bz v' (val l) ∧ w.grownBy w' (some bz) := by
  have hvn := val_nonneg wl
  by_cases h0 : l = []
  · subst h0
    obtain ⟨c0, c1, f0, f1⟩ := cell_ibox hz
    have HN : ∃ a c, v = .slice a 0 c ∧ Calls Tryz.prog 110 #[v] w fun e w' => e = .returned v ∧ w = w' := by
      rcases hv with ⟨rfl, _⟩ | ⟨b, cap, M, rfl, hb, hc, hm⟩
      · exact ⟨none, 0, rfl, norm_nil w⟩
      · exact ⟨_, _, rfl, (norm_any b 0 0 cap [] w rfl (by omega) (by omega) (fun i hi => by simp at hi)).mono fun e w' ⟨h1, h2⟩ => ⟨h1, h2⟩⟩
    obtain ⟨a, c, rfl, HC⟩ := HN
    have e1 := set_ibox1 hz (.slice a 0 c)
    have hn2 := (hv.set (isNat_ibox hz hv) 1 (.slice a 0 c))
    have HF := Hq0 (IntBox.fresh (n := 0) (set_ibox0 e1 false) rfl (hn2.set (isNat_ibox e1 hn2) 0 (.bool false)) wfL_nil Nrm.nil rfl (by simp))
    have HG := Hq0 (((grown_set2 (b := bz) (grown_refl w none) 1 (.slice a 0 c)).set 0 (.bool false)).one)
    clear hz hv e1 hn2
    go_enter Tryz.func83, Tryz.ntmps83
    go_wp2_with (fail)
    refine HC.mono ?_
    rintro e w1 ⟨rfl, rfl⟩
    go_wp2
    go_ret
    exact ⟨rfl, _, HF.out, HG.out⟩
  · obtain ⟨b, cap, M, rfl, hb, hc, hm, hat, hown⟩ := hv.split h0
    obtain ⟨c0, c1, f0, f1⟩ := cell_ibox hz
    have HA := Hq0 hat; have HZ := Hq0 hz; have Hb := Hq0 hb
    have hne := isNat_ibox hz hv
    have hle := nrm_length_le l
    have hcut : IsNat w (.slice (some ⟨b, 0, none⟩) (nrm l).length cap) (nrm l) := by
      obtain ⟨k, hk, e, _⟩ := nrm_prefix l
      refine .inr ⟨b, cap, l.drop (nrm l).length ++ M, rfl, ?_, ?_, hm⟩
      · rw [← List.append_assoc, show nrm l ++ l.drop (nrm l).length = l by
          have h1 := List.take_append_drop (nrm l).length l
          rw [nrm_take] at h1; exact h1]
        exact hb
      · rcases hv with ⟨h, _⟩ | ⟨b', cap', M', h, hb', hc', _⟩
        · cases h
        · injection h with h1 h2 h3
          injection h1 with h1; injection h1 with h1
          subst h1; subst h3
          rw [hb] at hb'
          have := blk_inj (Option.some.inj hb')
          have hM : M = M' := List.append_cancel_left this
          subst hM
          simp; omega
    have hd : decide (val l < 0) = false := by simp; omega
    have e1 := set_ibox1 hz (.slice (some ⟨b, 0, none⟩) (nrm l).length cap)
    have hn2 := (hcut.set (isNat_ibox hz hcut) 1 (.slice (some ⟨b, 0, none⟩) (nrm l).length cap))
    have HF := Hq0 (IntBox.fresh (n := val l) (set_ibox0 e1 false) hd.symm (hn2.set (isNat_ibox e1 hn2) 0 (.bool false)) (wfL_nrm wl) (nrm_nrm _) (by rw [val_nrm]; omega) (by omega))
    have HG := Hq0 (((grown_set2 (b := bz) (grown_refl w none) 1 (.slice (some ⟨b, 0, none⟩) (nrm l).length cap)).set 0 (.bool false)).one)
    have hnc : l.length ≤ cap := hc
    clear hat hz hb hv hcut e1 hn2 hne hd hown
    go_enter Tryz.func83, Tryz.ntmps83
    go_wp2_with (fail)
    refine (norm_any b 0 l.length cap l w rfl hnc (by omega) HA.out).mono ?_
    rintro e w1 ⟨rfl, rfl⟩
    go_wp2
    go_ret
    exact ⟨rfl, _, HF.out, HG.out⟩
end Go.Proofs.YtjcfacinlgogaaaGreatDoor
namespace Go.Proofs.YtjcfacinlgogaaaGreatDoor
open Go.RowKit
theorem run_f64bits (x : Nat) (w : World) : (callFunc 142 #[.float .f64 x]).run Tryz.prog w = .ok (.value (.int .u64 x)) w := by
  rw [run_callFunc_extern (P := Tryz.prog) (f := 142) Tryz.func142 (by kernel_rfl) (by kernel_rfl) (by kernel_rfl) (e := Go.Extern.MathFloatBits.float64bits) (by kernel_rfl)]
  rfl
theorem run_f64from (x : Int) (w : World) : (callFunc 141 #[.int .u64 x]).run Tryz.prog w = .ok (.value (.float .f64 x.toNat)) w := by
  rw [run_callFunc_extern (P := Tryz.prog) (f := 141) Tryz.func141 (by kernel_rfl) (by kernel_rfl) (by kernel_rfl) (e := Go.Extern.MathFloatBits.float64frombits) (by kernel_rfl)]
  rfl
end Go.Proofs.YtjcfacinlgogaaaGreatDoor
namespace Go.Proofs.YtjcfacinlgogaaaGreatDoor
open Go.RowKit
theorem andNot_top (x : Nat) (h : x < 9223372036854775808) : bits .andNot .u64 (x : Int) 9223372036854775808 = x := by
  have h1 := u64_andNot_nat x 9223372036854775808 (by omega) (by decide)
  have h2 : x &&& (18446744073709551615 - 9223372036854775808) = x % 2 ^ 63 := Nat.and_two_pow_sub_one_eq_mod x 63
  rw [h2, Nat.mod_eq_of_lt (by omega)] at h1
  exact h1
theorem read_fin (x : Nat) (h : x < 9218868437227405312) : ∃ m i, Ieee.double.read x = .number false m i ∧ m < 9007199254740992 ∧ i ≤ 971 ∧ -1074 ≤ i ∧ (4503599627370496 ≤ x → 4503599627370496 ≤ m) := by
  have e1 : Ieee.double.signWeight = 9223372036854775808 := by decide
  have e2 : Ieee.double.binade = 4503599627370496 := by decide
  have e3 : Ieee.double.infRung = 9218868437227405312 := by decide
  have e4 : Ieee.double.leastPlace = -1074 := by decide
  unfold Ieee.Format.read
  rw [e1, e2, e3, e4]
  have hq : x / 9223372036854775808 = 0 := Nat.div_eq_of_lt (by omega)
  have hm : x % 9223372036854775808 = x := Nat.mod_eq_of_lt (by omega)
  simp only [hq, hm]
  by_cases h1 : x < 4503599627370496
  · rw [if_pos h1]
    exact ⟨_, _, rfl, by omega, by omega, by omega, by omega⟩
  · rw [if_neg h1, if_pos h]
    exact ⟨_, _, rfl, by omega, by omega, by omega, by omega⟩
theorem compare_le {a b : Int} (h : a ≤ b) : (some (compare a b) == some Ordering.gt) = false := by
  rcases Int.lt_or_eq_of_le h with h | h
  · simp [compare, compareOfLessAndEq, h]
  · subst h; simp [compare, compareOfLessAndEq]
theorem order_max (x : Nat) (h : x < 9218868437227405312) : (FloatKind.f64.format.order x 9218868437227405311 == some Ordering.gt) = false := by
  obtain ⟨m, i, hr, hm, hi, _⟩ := read_fin x h
  have hy : Ieee.double.read 9218868437227405311 = .number false 9007199254740991 971 := by decide
  show (Ieee.Datum.order (Ieee.double.read x) (Ieee.double.read 9218868437227405311) == some Ordering.gt) = false
  rw [hr, hy]
  simp only [Ieee.Datum.order, Int.min_eq_left hi]
  apply compare_le
  simp only [Ieee.signed, Bool.false_eq_true, if_false, Int.sub_self, Int.toNat_zero, Nat.shiftLeft_zero, Nat.shiftLeft_eq]
  have h1 : 9007199254740991 * 1 ≤ 9007199254740991 * 2 ^ (971 - i).toNat := Nat.mul_le_mul_left _ (Nat.pow_pos (by decide))
  omega
end Go.Proofs.YtjcfacinlgogaaaGreatDoor
