/- Floats of either sign: no infinity, a number. A decimal of a float, by its text. -/
import Derived.Test.YtjcfacinlgogaaaGreatDoorQ22
import Derived.Test.YtjcfacinlgogaaaGreatDoorQ30
set_option linter.all false
set_option maxHeartbeats 4000000
set_option maxRecDepth 100000
set_option exponentiation.threshold 2000
namespace Go.Proofs.YtjcfacinlgogaaaGreatDoor
open Go.RowKit
theorem andNot_mod (x : Nat) (h : x < 18446744073709551616) : bits .andNot .u64 (x : Int) 9223372036854775808 = ((x % 9223372036854775808 : Nat) : Int) := by
  have h1 := u64_andNot_nat x 9223372036854775808 (by omega) (by decide)
  have h2 : x &&& (18446744073709551615 - 9223372036854775808) = x % 2 ^ 63 := Nat.and_two_pow_sub_one_eq_mod x 63
  rw [h2] at h1
  exact h1
theorem Abs_mod (x : Nat) (w : World) (h : x < 18446744073709551616) :
    Calls Tryz.prog 119 #[.float .f64 x] w fun e w' => e = .returned (.float .f64 (x % 9223372036854775808)) ∧ w = w' := by
  have hb := run_f64bits x
  have hf := run_f64from ((x % 9223372036854775808 : Nat) : Int)
  have ha := andNot_mod x h
  rw [Int.toNat_natCast] at hf
  generalize x % 9223372036854775808 = y at *
  go_enter Tryz.func119, Tryz.ntmps119
  go_wp2
  go_ret
  exact ⟨by first | rfl | simp, rfl⟩
theorem read_any (x : Nat) (h : x % 9223372036854775808 < 9218868437227405312) : ∃ s m i, Ieee.double.read x = .number s m i := by
  have e1 : Ieee.double.signWeight = 9223372036854775808 := by decide
  have e2 : Ieee.double.binade = 4503599627370496 := by decide
  have e3 : Ieee.double.infRung = 9218868437227405312 := by decide
  have e4 : Ieee.double.leastPlace = -1074 := by decide
  unfold Ieee.Format.read
  rw [e1, e2, e3, e4]
  by_cases h1 : x % 9223372036854775808 < 4503599627370496
  · simp only [if_pos h1]; exact ⟨_, _, _, rfl⟩
  · simp only [if_neg h1, if_pos h]; exact ⟨_, _, _, rfl⟩
theorem order_self2 (x : Nat) (h : x % 9223372036854775808 < 9218868437227405312) : (FloatKind.f64.format.order x x != some Ordering.eq) = false := by
  obtain ⟨s, m, i, hr⟩ := read_any x h
  show (Ieee.Datum.order (Ieee.double.read x) (Ieee.double.read x) != some Ordering.eq) = false
  rw [hr]
  simp [Ieee.Datum.order, compare, compareOfLessAndEq]
theorem IsInf_not (x : Nat) (w : World) (h : x % 9223372036854775808 < 9218868437227405312) (h2 : x < 18446744073709551616) :
    Calls Tryz.prog 122 #[.float .f64 x, .int .i64 0] w fun e w' => e = .returned (.bool false) ∧ w = w' := by
  have HO := Hq0 (order_max _ h)
  have HA := Hq0 (Abs_mod x w h2)
  clear h h2
  generalize x % 9223372036854775808 = y at *
  go_enter Tryz.func122, Tryz.ntmps122
  go_wp2_with (fail)
  refine HA.out.mono ?_
  rintro e w1 ⟨rfl, rfl⟩
  go_wp2
  go_ret
  exact ⟨by rw [← HO.out]; rfl, rfl⟩
theorem IsNaN_not (x : Nat) (w : World) (h : x % 9223372036854775808 < 9218868437227405312) :
    Calls Tryz.prog 121 #[.float .f64 x] w fun e w' => e = .returned (.bool false) ∧ w = w' := by
  have HO := Hq0 (order_self2 x h)
  clear h
  go_enter Tryz.func121, Tryz.ntmps121
  go_wp2
  go_ret
  exact ⟨by rw [← HO.out]; rfl, rfl⟩
def mv (l : List Int) : Int × Nat := l.foldl (fun a x => if x = 46 then a else (a.1 * 10 + (x - 48), a.2 + 1)) (0, 0)
theorem w64_le {x : Int} (h : 0 ≤ x) (h2 : x < 1000000000000000000) : wrap64 x = x := by
  rw [← i64_left']; exact IntWalk.i64_in _ (by omega)
theorem meas {i j : Nat} (h : i < j) : j - (i + 1) < j - i := by omega
theorem w64_neg {x : Nat} (h : (x : Int) < 1000000000000000000) : wrap64 (-(x : Int)) = -(x : Int) := by
  rw [← i64_left']; exact IntWalk.i64_in _ (by omega)
theorem u8_sub {z : Int} (h : 48 ≤ z ∧ z ≤ 57) : IntKind.u8.wrap (z - 48) = z - 48 := by rw [IntKind.wrap_u8]; omega
theorem w64_sub {z : Int} (h : 48 ≤ z ∧ z ≤ 57) : wrap64 (z - 48) = z - 48 := w64_le (by omega) (by omega)
theorem w64_succ {k : Nat} (h : k < 100) : wrap64 ((k : Int) + 1) = ((k + 1 : Nat) : Int) := by
  rw [← i64_left']; exact IntWalk.i64_in _ (by omega)
theorem meas2 {i j : Nat} (h : i < j) (e : wrap64 ((i : Int) + 1) = ((i + 1 : Nat) : Int)) : j - (intOf (Value.int .i64 (wrap64 ((i : Int) + 1)))).toNat < j - (intOf (Value.int .i64 (i : Int))).toNat := by
  rw [e]; show j - (((i + 1 : Nat) : Int)).toNat < j - ((i : Int)).toNat; rw [Int.toNat_natCast, Int.toNat_natCast]; exact meas h
theorem u8_add {z : Int} (h : 0 ≤ z) (h2 : z ≤ 9) : IntKind.u8.wrap (48 + z - 48) = z := by rw [IntKind.wrap_u8]; omega
def evk (x1 : Int) (a : Nat) : Nat → Int
  | 0 => 0
  | 1 => x1
  | _ => a
theorem meas3 {i j : Nat} (h : i < j) : j - (intOf (Value.int .i64 ((i : Int) + 1))).toNat < j - (intOf (Value.int .i64 (i : Int))).toNat := by
  show j - ((i : Int) + 1).toNat < j - ((i : Int)).toNat; omega
theorem ten_le {k : Nat} (h : k ≤ 18) : (10 : Int) ^ k ≤ 10 ^ 18 := by
  have := Nat.pow_le_pow_right (n := 10) (by decide) h
  exact_mod_cast this
theorem mv_snoc (l : List Int) (x : Int) : mv (l ++ [x]) = if x = 46 then mv l else ((mv l).1 * 10 + (x - 48), (mv l).2 + 1) := by
  unfold mv; rw [List.foldl_append]; rfl
theorem mv_take {l : List Int} {j : Nat} (h : j < l.length) : mv (l.take (j + 1)) = if l[j] = 46 then mv (l.take j) else ((mv (l.take j)).1 * 10 + (l[j] - 48), (mv (l.take j)).2 + 1) := by
  rw [List.take_succ_eq_append_getElem h, mv_snoc]
theorem mv_bound {l : List Int} (h : ∀ x ∈ l, x = 46 ∨ (48 ≤ x ∧ x ≤ 57)) : ∀ j, j ≤ l.length → 0 ≤ (mv (l.take j)).1 ∧ (mv (l.take j)).1 < 10 ^ (mv (l.take j)).2 ∧ (mv (l.take j)).2 ≤ j
  | 0, _ => by simp [mv]
  | j + 1, hj => by
    have h1 := mv_bound h j (by omega)
    have h2 := h _ (List.getElem_mem (show j < l.length by omega))
    rw [mv_take (by omega)]
    split
    · omega
    · rename_i hx
      simp only [Int.pow_succ]
      omega
theorem mv_mono {l : List Int} : ∀ j, (mv (l.take j)).2 ≤ (mv l).2 := by
  intro j
  have key : ∀ (l : List Int) (a : Int × Nat), a.2 ≤ (l.foldl (fun a x => if x = 46 then a else (a.1 * 10 + (x - 48), a.2 + 1)) a).2 := by
    intro l
    induction l with
    | nil => intro a; exact Nat.le_refl _
    | cons x l ih =>
      intro a
      rw [List.foldl_cons]
      refine Nat.le_trans ?_ (ih _)
      split <;> simp
  conv => rhs; rw [← List.take_append_drop j l]
  unfold mv
  rw [List.foldl_append]
  exact key _ _
theorem newFromFloat_any {w : World} {W M' c a : Nat} {neg : Bool} {t : List Int} {ex : Int} (hf : W % 9223372036854775808 < 9218868437227405312) (hf2 : W < 18446744073709551616)
    (HA : ∀ wx bd, w.grownBy wx none → BfT wx wx bd [] → Calls Tryz.prog 123 #[.slice (some ⟨bd, 0, none⟩) 0 32, .float .f64 W, .int .u8 101, .int .i64 (-1), .int .i64 64] wx fun r w' => FmtRes wx bd (sgL neg ++ t ++ exL ex) r w')
    (ht : ∀ x ∈ t, x = 46 ∨ (48 ≤ x ∧ x ≤ 57)) (hl : t.length ≤ 20) (h45 : ∃ x ∈ t.head?, x ≠ 46) (hM : mv t = (↑M', c)) (hc : c ≤ 18) (hex : ex.natAbs = a) (ha : a ≤ 99) :
    Calls Tryz.prog 98 #[.float .f64 W, .int .i64 64] w fun r w' => DecNew w w' r (if neg then -(M' : Int) else M') (ex - c + 1) := by
  have HN := Hq0 (fun wx => IsNaN_not W wx hf); have HI := Hq0 (fun wx => IsInf_not W wx hf hf2)
  have hga := Hq0 (World.grownBy_alloc w (.cells #[.pointer none, .int .i32 0] 56) none)
  have h1 : Hid ((w.alloc (.cells #[.pointer none, .int .i32 0] 56)).heap[w.heap.size]? = some dnil) := heap_new w dnil
  have HAA := Hq0 HA; have HT := Hq0 ht; have HC := Hq0 (And.intro hl (And.intro h45 (And.intro hM (And.intro hc (And.intro hex ha)))))
  clear hf hf2 HA ht hl h45 hM hc hex ha
  go_enter Tryz.func98, Tryz.ntmps98
  go_wp2_with (fail)
  refine (HN.out _).mono ?_
  rintro r w1 ⟨rfl, rfl⟩
  go_wp2_with (fail)
  refine (HI.out _).mono ?_
  rintro r w1 ⟨rfl, rfl⟩
  clear HN HI
  generalize w.alloc (.cells #[.pointer none, .int .i32 0] 56) = W1 at *
  obtain ⟨R, hR⟩ : ∃ R, R = w.heap.size := ⟨_, rfl⟩
  rw [← hR] at h1 ⊢
  have HR := Hq0 hR
  clear hR
  have hnew : Hid ((W1.alloc (.cells #[.int .u8 0, .int .u8 0, .int .u8 0, .int .u8 0, .int .u8 0, .int .u8 0, .int .u8 0, .int .u8 0, .int .u8 0, .int .u8 0, .int .u8 0, .int .u8 0, .int .u8 0, .int .u8 0, .int .u8 0, .int .u8 0, .int .u8 0, .int .u8 0, .int .u8 0, .int .u8 0, .int .u8 0, .int .u8 0, .int .u8 0, .int .u8 0, .int .u8 0, .int .u8 0, .int .u8 0, .int .u8 0, .int .u8 0, .int .u8 0, .int .u8 0, .int .u8 0] 130)).heap[W1.heap.size]? = some (bf8 (List.replicate 32 0))) := heap_new W1 (bf8 (List.replicate 32 0))
  have hgb : Hid (W1.grownBy (W1.alloc (.cells #[.int .u8 0, .int .u8 0, .int .u8 0, .int .u8 0, .int .u8 0, .int .u8 0, .int .u8 0, .int .u8 0, .int .u8 0, .int .u8 0, .int .u8 0, .int .u8 0, .int .u8 0, .int .u8 0, .int .u8 0, .int .u8 0, .int .u8 0, .int .u8 0, .int .u8 0, .int .u8 0, .int .u8 0, .int .u8 0, .int .u8 0, .int .u8 0, .int .u8 0, .int .u8 0, .int .u8 0, .int .u8 0, .int .u8 0, .int .u8 0, .int .u8 0, .int .u8 0] 130)) none) := Hq0 (grown_new W1 (bf8 (List.replicate 32 0)))
  go_upto_region 4 with (fail)
  generalize W1.alloc (.cells #[.int .u8 0, .int .u8 0, .int .u8 0, .int .u8 0, .int .u8 0, .int .u8 0, .int .u8 0, .int .u8 0, .int .u8 0, .int .u8 0, .int .u8 0, .int .u8 0, .int .u8 0, .int .u8 0, .int .u8 0, .int .u8 0, .int .u8 0, .int .u8 0, .int .u8 0, .int .u8 0, .int .u8 0, .int .u8 0, .int .u8 0, .int .u8 0, .int .u8 0, .int .u8 0, .int .u8 0, .int .u8 0, .int .u8 0, .int .u8 0, .int .u8 0, .int .u8 0] 130) = W2 at *
  have hltR : Hid (R < W1.heap.size) := (Array.getElem?_eq_some_iff.1 h1.out).1
  obtain ⟨bd, hbe⟩ : ∃ b, b = W1.heap.size := ⟨_, rfl⟩
  rw [← hbe] at hnew hltR ⊢
  have HBE := Hq0 hbe
  clear hbe
  have HB0 : Hid (BfT W2 W2 bd []) := ⟨⟨_, by simp, hnew.out, rfl⟩, by simp, grown_refl _ _⟩
  have HAP := Hq0 (HAA.out W2 bd (grown_trans hga.out hgb.out) HB0.out)
  clear HAA
  go_wp2_with (fail)
  refine HAP.out.mono ?_
  rintro r w3 ⟨n, rfl, hn, hB⟩
  have G3 : Hid (w.grownBy w3 none) := Hq0 (grown_own (grown_trans hga.out hgb.out) hB.g (.inr (by have := HBE.out; have := hga.out.size; omega)))
  have R3 : Hid (w3.heap[R]? = some dnil) := Hq0 (by
    have h2 := kpb hgb.out h1.out
    rw [hB.g.block R (Array.getElem?_eq_some_iff.1 h2).1 (by have := hltR.out; intro e; injection e with e; omega)]
    exact h2)
  have CELL : Hid (∀ i, i < n → w3.cell? ⟨bd, i, none⟩ = some (.int .u8 ((sgL neg ++ t ++ exL ex)[i]?.getD 0))) := by
    intro i hi
    obtain ⟨L, q1, q2, q3⟩ := hB.here
    have h5 := hB.le
    rw [cell_bf8 q2 i (by omega), ← q3, List.getElem?_take, if_pos (by omega)]
  have HN := Hq0 hn
  have hlen : n = (sgL neg).length + (t.length + 4) := by rw [← hn]; simp [exL]
  obtain ⟨x0, hx0⟩ : ∃ x0, (sgL neg ++ t ++ exL ex)[0]?.getD 0 = x0 := ⟨_, rfl⟩
  have c0 := CELL.out 0 (by omega)
  rw [hx0] at c0
  have hn0 : 0 < n := by omega
  have hx : (x0 == 45) = neg := by
    rw [← hx0]
    cases neg
    · have h2 := HC.out.2.1
      obtain ⟨y, hy, hy2⟩ := h2
      cases t with
      | nil => simp at hy
      | cons z t =>
        have h3 := HT.out z (by simp)
        simp [sgL]; omega
    · rfl
  clear hB hn HAP HB0 hnew hgb hga h1
  have HLEN := Hq0 hlen
  clear hlen hx0
  obtain ⟨q, hq⟩ : ∃ q, t ++ exL ex = q := ⟨_, rfl⟩
  obtain ⟨N, hN⟩ : ∃ N, t.length + 4 = N := ⟨_, rfl⟩
  have HQ := Hq0 hq; have HNN := Hq0 hN
  have CELL2 : Hid (∀ i, i < N → w3.cell? ⟨bd, (sgL neg).length + i, none⟩ = some (.int .u8 (q[i]?.getD 0))) := by
    intro i hi
    have h2 := HLEN.out; have h3 := HNN.out
    rw [CELL.out _ (by omega), List.append_assoc, HQ.out, List.getElem?_append_right (by omega), Nat.add_sub_cancel_left]
  have hn32 : Hid (n ≤ 32) := by
    have h2 := HLEN.out; have h3 := HC.out.1
    have h4 : (sgL neg).length ≤ 1 := len_sgL neg
    show n ≤ 32
    omega
  have HM := Hq0 HLEN.out
  clear hq hN CELL
  go_upto_if 34 with (fail)
  try rw [hx]
  go_cut [6] from 35 to 36 (fun s6 wx => (∃ sg cp, s6 = .slice (some ⟨bd, sg, none⟩) N cp ∧ N ≤ cp ∧ cp ≤ 32 ∧ ∀ i, i < N → w3.cell? ⟨bd, sg + i, none⟩ = some (.int .u8 (q[i]?.getD 0))) ∧ w3 = wx)
  case first =>
    have hnn := HN.out
    have hml := HM.out
    have hn3 := hn32.out
    cases neg
    · have hN0 : n = N := by have h3 := HNN.out; simp [sgL] at hml; omega
      have HN0 := Hq0 hN0
      clear hN0 hml hnn hn3 hn0 hx
      go_wp2_with (fail)
      go_meet
      case rel => exact ⟨⟨0, 32, by rw [HN0.out], by rw [← HN0.out]; exact hn32.out, by omega, CELL2.out⟩, rfl⟩
    · have hN0 : n - 1 = N := by have h3 := HNN.out; simp [sgL] at hml; omega
      have HN0 := Hq0 hN0
      have h1n : (1 : Int) ≤ n := by omega
      have h1m : (n : Int) ≤ 32 := by omega
      clear hN0 hml hnn hn3 hn0 hx
      go_wp2_with (fail)
      go_meet
      case rel => exact ⟨⟨1, 31, by rw [← HN0.out], by have := hn32.out; have := HN0.out; omega, by omega, CELL2.out⟩, rfl⟩
  case rest =>
    obtain ⟨⟨sg, cp, rfl, hcp, hcp2, hcell⟩, rfl⟩ := hcut
    have CE := Hq0 hcell
    clear hcell CELL2 HM hx c0 hn0
    obtain ⟨L, hL⟩ : ∃ L, t.length = L := ⟨_, rfl⟩
    have HL := Hq0 hL
    have hLN : Hid (L + 4 = N) := Hq0 (by have := HNN.out; omega)
    have HEX := Hq0 (And.intro hcp hcp2)
    have hcpc := HEX.out
    have hN24 : Hid (N ≤ 24) := Hq0 (by have := HC.out.1; have := HNN.out; omega)
    clear hL hcp hcp2 HNN
    have QT : Hid (∀ i, i < L → ∃ z, t[i]? = some z ∧ q[i]?.getD 0 = z ∧ (z = 46 ∨ (48 ≤ z ∧ z ≤ 57))) := by
      intro i hi
      have h1 := HL.out
      refine ⟨t[i]'(by omega), List.getElem?_eq_getElem (by omega), ?_, HT.out _ (List.getElem_mem _)⟩
      rw [← HQ.out, List.getElem?_append_left (by omega), List.getElem?_eq_getElem (by omega)]
      rfl
    have QE : Hid (∀ i, q[L + i]?.getD 0 = (exL ex)[i]?.getD 0) := by
      intro i
      have h1 := HL.out
      rw [← HQ.out, List.getElem?_append_right (by omega), h1, Nat.add_sub_cancel_left]
    go_wp2_with (fail)
    go_loopw [8] (fun s8 wr => ∃ j : Nat, j ≤ L ∧ s8 = .int .i64 (j : Nat) ∧ w3 = wr) (fun s8 _ => L - (intOf s8).toNat)
    case atStart => exact ⟨0, Nat.zero_le _, rfl, rfl⟩
    case round =>
      obtain ⟨j, hj, rfl, rfl⟩ := hrel
      have hjN : (j : Int) < N := by have := hLN.out; omega
      have hj2 := CE.out j (by omega)
      by_cases hjL : j < L
      · obtain ⟨z, _, hz, hz2⟩ := QT.out j hjL
        rw [hz] at hj2
        have hz3 : (z != 101) = true := by simp; omega
        have ej : wrap64 ((j : Int) + 1) = ((j + 1 : Nat) : Int) := by have := hLN.out; have := hN24.out; rw [← i64_left']; exact IntWalk.i64_in _ (by omega)
        have HJL := Hq0 hjL
        clear hjL hz hz2 hj
        go_wp2_with (fail)
        go_roundw
        case rel => exact ⟨j + 1, by have := HJL.out; omega, by first | rfl | rw [ej] | go_num, trivial⟩
        case measure => have := HJL.out; simp [intOf]; omega
      · have hjL2 : j = L := by omega
        subst hjL2
        have hq0 := QE.out 0
        rw [Nat.add_zero] at hq0
        rw [hq0] at hj2
        have hj3 : w3.cell? ⟨bd, sg + j, none⟩ = some (.int .u8 101) := hj2
        clear hq0 hj2 hjL hj
        have hjN2 : (j : Int) + 1 < N := by have := hLN.out; omega
        have hjc : (j : Int) ≤ cp := by omega
        have hjc2 : (j : Int) + 1 ≤ cp := by omega
        have hNc : (N : Int) ≤ cp := by omega
        have ej : wrap64 ((j : Int) + 1) = ((j + 1 : Nat) : Int) := by have := hLN.out; have := hN24.out; rw [← i64_left']; exact IntWalk.i64_in _ (by omega)
        clear hcpc
        go_upto_region 11 with (fail)
        go_region
        clear hj3 hjN2 hjc hjc2 hNc ej
        have MB : Hid (∀ i, i ≤ j → 0 ≤ (mv (t.take i)).1 ∧ (mv (t.take i)).1 < 1000000000000000000 ∧ (mv (t.take i)).2 ≤ 18) := by
          intro i hi
          obtain ⟨b1, b2, b3⟩ := mv_bound HT.out i (by have := HL.out; omega)
          have b4 := mv_mono (l := t) i
          have b5 := HC.out.2.2
          rw [b5.1] at b4
          have b6 : (mv (t.take i)).2 ≤ 18 := Nat.le_trans b4 b5.2.1
          refine ⟨b1, ?_, b6⟩
          have b7 : (10 : Int) ^ (mv (t.take i)).2 ≤ 10 ^ 18 := ten_le b6
          omega
        go_wp2_with (fail)
        go_loopw [11, 12, 53, 14] (fun s11 s12 s53 _ wr => ∃ i : Nat, i ≤ j ∧ s11 = .int .i64 (mv (t.take i)).1 ∧ s12 = .int .i64 ((mv (t.take i)).2 : Nat) ∧ s53 = .int .i64 (i : Nat) ∧ w3.drew = wr) (fun _ _ s53 _ _ => j - (intOf s53).toNat)
        case atStart => exact ⟨0, Nat.zero_le _, rfl, rfl, rfl, rfl⟩
        case round =>
          obtain ⟨i, hi, rfl, rfl, rfl, rfl⟩ := hrel
          by_cases hij : i < j
          · obtain ⟨z, hz1, hz, hz2⟩ := QT.out i hij
            have hc2 := CE.out i (by have := hLN.out; omega)
            rw [hz] at hc2
            have hij2 : (i : Int) < j := by omega
            have ej := w64_succ (k := i) (by have := hLN.out; have := hN24.out; omega)
            have hmt := mv_take (l := t) (j := i) (by have := HL.out; omega)
            have hz4 : t[i]'(by have := HL.out; omega) = z := by
              rw [List.getElem?_eq_getElem (by have := HL.out; omega)] at hz1
              injection hz1
            rw [hz4] at hmt
            have b1 := MB.out i hi
            have b2 := MB.out (i + 1) hij
            have HIJ := Hq0 hij
            rw [hmt] at b2
            have HMT := Hq0 hmt
            generalize mv (t.take i) = y at *
            obtain ⟨m0, k0⟩ := y
            clear hij hz hz1 hz4 hi hmt
            by_cases h46 : z = 46
            · rw [if_pos h46] at HMT b2
              have hz3 : (z == 46) = true := by simp; exact h46
              have HB2 := Hq0 b2
              clear b2 b1 hz2 h46
              go_wp2_with (fail)
              go_roundw
              case rel => exact ⟨i + 1, HIJ.out, congrArg (Value.int .i64) (congrArg Prod.fst HMT.out).symm, congrArg (fun k : Nat => Value.int .i64 (k : Int)) (congrArg Prod.snd HMT.out).symm, by rw [ej], trivial⟩
              case measure => exact meas2 HIJ.out ej
            · rw [if_neg h46] at HMT b2
              simp only at b1 b2
              have hz3 : (z == 46) = false := by simp; exact h46
              have hz5 : 48 ≤ z ∧ z ≤ 57 := by omega
              have g1 : m0 * 10 < 1000000000000000000 := by omega
              have g2 : 0 ≤ m0 * 10 := by omega
              have g3 : k0 < 19 := by omega
              have f1 := w64_le g2 g1
              have f2 := u8_sub hz5
              have f3 := w64_sub hz5
              have f4 := w64_le b2.1 b2.2.1
              have f5 := w64_succ (k := k0) (by omega)
              clear g1 g2 g3
              clear b1 b2 hz2 hz5 h46
              go_wp2_with (fail)
              go_roundw
              case rel => exact ⟨i + 1, HIJ.out, by rw [HMT.out]; first | rfl | simp only [f1, f2, f3, f4], by rw [HMT.out]; first | rfl | simp only [f5], by first | rfl | rw [ej] | go_num, trivial⟩
              case measure => exact meas2 HIJ.out ej
          · have hij2 : i = j := by omega
            subst hij2
            have hnl : ¬ (i : Int) < i := by omega
            have hmv : mv (t.take i) = (↑M', c) := by
              rw [List.take_of_length_le (by have := HL.out; omega)]; exact HC.out.2.2.1
            rw [hmv]
            clear hij hi hmv
            have hM18 : (M' : Int) < 1000000000000000000 := by
              have h1 := (MB.out i (Nat.le_refl _)).2.1
              rw [List.take_of_length_le (by have := HL.out; omega), HC.out.2.2.1] at h1
              exact h1
            have HM18 := Hq0 hM18
            have en : wrap64 (-(M' : Int)) = -(M' : Int) := w64_neg hM18
            clear hM18 MB QT hnl
            have hN3 : N - (i + 1) = 3 := by have := hLN.out; omega
            try rw [hN3]
            obtain ⟨cq, hcq⟩ : ∃ cq, cp - (i + 1) = cq := ⟨_, rfl⟩
            rw [hcq]
            have hcq3 : 3 ≤ cq := by have := HEX.out; omega
            obtain ⟨so, hso⟩ : ∃ so, sg + (i + 1) = so := ⟨_, rfl⟩
            rw [hso]
            obtain ⟨x1, hx1⟩ : ∃ x1, (a : Int) / 10 = x1 := ⟨_, rfl⟩
            obtain ⟨x2, hx2⟩ : ∃ x2, (a : Int) % 10 = x2 := ⟨_, rfl⟩
            obtain ⟨ch, hch⟩ : ∃ ch, (if ex < 0 then (45 : Int) else 43) = ch := ⟨_, rfl⟩
            have E0 : Hid (w3.cell? ⟨bd, so, none⟩ = some (.int .u8 ch)) := by
              have h1 := CE.out (i + 1) (by have := hLN.out; omega)
              rw [QE.out 1] at h1
              show w3.cell? ⟨bd, so, none⟩ = _
              rw [← hso, h1, ← hch]; rfl
            have E1 : Hid (w3.cell? ⟨bd, so + 1, none⟩ = some (.int .u8 (48 + x1))) := by
              have h1 := CE.out (i + 2) (by have := hLN.out; omega)
              rw [QE.out 2] at h1
              show w3.cell? ⟨bd, so + 1, none⟩ = _
              rw [← hso, show sg + (i + 1) + 1 = sg + (i + 2) by omega, h1, ← hx1, ← HC.out.2.2.2.2.1]; rfl
            have E2 : Hid (w3.cell? ⟨bd, so + 1 + 1, none⟩ = some (.int .u8 (48 + x2))) := by
              have h1 := CE.out (i + 3) (by have := hLN.out; omega)
              rw [QE.out 3] at h1
              show w3.cell? ⟨bd, so + 1 + 1, none⟩ = _
              rw [← hso, show sg + (i + 1) + 1 + 1 = sg + (i + 3) by omega, h1, ← hx2, ← HC.out.2.2.2.2.1]; rfl
            have HX : Hid (0 ≤ x1 ∧ x1 ≤ 9 ∧ 0 ≤ x2 ∧ x2 ≤ 9 ∧ x1 * 10 + x2 = (a : Int)) := by
              have h9 := HC.out.2.2.2.2.2
              show 0 ≤ x1 ∧ x1 ≤ 9 ∧ 0 ≤ x2 ∧ x2 ≤ 9 ∧ x1 * 10 + x2 = (a : Int)
              omega
            have HCH := Hq0 hch
            clear hcq hso hx1 hx2 hch hN3 hjN CE QE
            go_upto_if 68 with (fail)
            go_cut [11] from 69 to 70 (fun s11 wx => s11 = .int .i64 (if neg then -(M' : Int) else M') ∧ w3.drew = wx)
            case first =>
              cases neg <;> (go_wp2_with (fail); go_meet; case rel => exact ⟨by first | rfl | (rw [en]; rfl) | simp [en], rfl⟩)
            case rest =>
              obtain ⟨rfl, rfl⟩ := hcut
              clear en
              have hMs : Hid (S64 (if neg then -(M' : Int) else M')) := by
                have h1 := HM18.out
                show S64 _
                unfold S64
                split <;> omega
              generalize hmm : (if neg then -(M' : Int) else M') = mm at *
              have HM2 := Hq0 hmm
              clear hmm
              have e0 := E0.out
              have hs3 : (1 : Int) ≤ 3 := by decide
              have hcq1 : (3 : Int) ≤ cq := by omega
              go_upto_block 4 with (fail)
              go_cut [15, 10] from 74 to 81 (fun s15 s10 wx => (s15 = .int .i64 (if ex < 0 then -1 else 1) ∧ ∃ cz, s10 = .slice (some ⟨bd, so + 1, none⟩) 2 cz) ∧ w3.drew = wx)
              case first =>
                have h2 := HCH.out
                by_cases hx : ex < 0
                · rw [if_pos hx] at h2
                  have hc1 : (ch == 45) = true := by simp; omega
                  have HXX := Hq0 hx
                  clear h2 hx
                  go_upto_if 74 with (fail)
                  try rw [hc1]
                  go_wp2_with (fail)
                  go_meet
                  case rel => exact ⟨⟨by rw [if_pos HXX.out], _, rfl⟩, rfl⟩
                · rw [if_neg hx] at h2
                  have hc1 : (ch == 45) = false := by simp; omega
                  have hc2 : (ch == 43) = true := by simp; omega
                  have HXX := Hq0 hx
                  clear h2 hx
                  go_upto_if 74 with (fail)
                  try rw [hc1]
                  go_upto_if 78 with (fail)
                  try rw [hc2]
                  go_wp2_with (fail)
                  go_meet
                  case rel => exact ⟨⟨by rw [if_neg (by have := HXX.out; omega)], _, rfl⟩, rfl⟩
              case rest =>
                obtain ⟨⟨rfl, cz, rfl⟩, rfl⟩ := hcut
                clear e0 hs3 hcq1 hcq3
                obtain ⟨es, hes⟩ : ∃ es : Int, (if ex < 0 then -1 else 1) = es := ⟨_, rfl⟩
                rw [hes]
                have HES := Hq0 hes
                clear hes
                have EV : Hid (∀ k, k < 2 → ∃ z, w3.cell? ⟨bd, so + 1 + k, none⟩ = some (.int .u8 (48 + z)) ∧ 0 ≤ z ∧ z ≤ 9 ∧ evk x1 a k * 10 + z = evk x1 a (k + 1) ∧ 0 ≤ evk x1 a k ∧ evk x1 a k ≤ 99) := by
                  intro k hk
                  have h1 := HX.out
                  match k, hk with
                  | 0, _ => exact ⟨x1, E1.out, h1.1, h1.2.1, by show 0 * 10 + x1 = x1; omega, by show (0 : Int) ≤ 0; decide, by show (0 : Int) ≤ 99; decide⟩
                  | 1, _ => exact ⟨x2, E2.out, h1.2.2.1, h1.2.2.2.1, by show x1 * 10 + x2 = (a : Int); omega, by show 0 ≤ x1; omega, by show x1 ≤ 99; omega⟩
                clear E0 E1 E2
                go_wp2_with (fail)
                go_loopw [16, 84, 18] (fun s16 s84 _ wr => ∃ k : Nat, k ≤ 2 ∧ s16 = .int .i64 (evk x1 a k) ∧ s84 = .int .i64 (k : Nat) ∧ w3.drew = wr) (fun _ s84 _ _ => 2 - (intOf s84).toNat)
                case atStart => exact ⟨0, Nat.zero_le _, rfl, rfl, rfl⟩
                case round =>
                  obtain ⟨k, hk, rfl, rfl, rfl⟩ := hrel
                  by_cases hk2 : k < 2
                  · obtain ⟨z, c1, z1, z2, z3, z4, z5⟩ := EV.out k hk2
                    have hk3 : (k : Int) < 2 := by omega
                    have HZ3 := Hq0 z3
                    have HK2 := Hq0 hk2
                    have hk4 : k < 100 := by omega
                    generalize evk x1 a k = y at *
                    have f1 := w64_le (x := y * 10) (by omega) (by omega)
                    have f2 := u8_add z1 z2
                    have f3 := w64_le (x := z) z1 (by omega)
                    have f4 := w64_le (x := y * 10 + z) (by omega) (by omega)
                    have ej := w64_succ hk4
                    have EJ := Hq0 ej
                    clear hk hk2 z1 z2 z3 z4 z5 hk4
                    go_wp2_with (fail)
                    go_roundw
                    case rel => exact ⟨k + 1, HK2.out, by first | (rw [← HZ3.out]; done) | (rw [← HZ3.out]; simp only [f1, f2, f3, f4]), by first | rfl | rw [EJ.out], trivial⟩
                    case measure => first | exact meas3 HK2.out | exact meas2 HK2.out EJ.out
                  · have hk3 : ¬ (k : Int) < 2 := by omega
                    have hev : evk x1 a k = (a : Int) := by
                      have h9 : k = 2 := by omega
                      rw [h9]; rfl
                    rw [hev]
                    clear hk hk2 hev
                    go_upto_region 36 with (fail)
                    have hcd := HC.out.2.2.2
                    have q0 : es * (a : Int) = ex := by
                      rw [← HES.out]
                      split <;> omega
                    have q1 : wrap64 ex = ex := by rw [← i64_left']; exact IntWalk.i64_in _ (by omega)
                    have q2 : wrap64 (ex - c) = ex - c := by rw [← i64_left']; exact IntWalk.i64_in _ (by omega)
                    have q3 : wrap64 (ex - c + 1) = ex - c + 1 := by rw [← i64_left']; exact IntWalk.i64_in _ (by omega)
                    have q4 : IntKind.i32.wrap (ex - c + 1) = ex - c + 1 := by rw [IntKind.wrap_i32]; omega
                    have HNI := Hq0 (fun wx => NewInt_any mm wx hMs.out)
                    obtain ⟨ee, hee⟩ : ∃ ee, ex - (c : Int) + 1 = ee := ⟨_, rfl⟩
                    have HEE := Hq0 hee
                    rw [hee] at q3 q4
                    clear hcd hk3 hee
                    go_wp2_with (fail)
                    refine (HNI.out _).mono ?_
                    rintro r w5 ⟨b, v, rfl, hb, hx, g1⟩
                    have hr : w5.heap[R]? = some dnil := kpb g1 R3.out
                    have hlt : R < b := by have h6 := (Array.getElem?_eq_some_iff.1 R3.out).1; have h7 : w3.heap.size ≤ b := hb; omega
                    have HD := Hq0 (fin_of (e2 := ee) hr hx (by omega) (grown_trans G3.out (grown_trans (grown_drew _) g1)) (by rw [HR.out]; exact Nat.le_refl _))
                    have HBB := Hq0 (show w.heap.size ≤ b by have := HR.out; omega)
                    obtain ⟨r0, r1, r2, r3⟩ := cell_dnil hr
                    clear hr hx g1 hb hlt HNI HX HCH EV
                    have QQ : Hid (wrap32 (wrap64 (wrap64 (wrap64 (es * (a : Int)) - (c : Int)) + 1)) = ee) := by
                      have e32 : wrap32 ee = ee := by have h1 := HEE.out; have h2 := HC.out.2.2.2; unfold wrap32; omega
                      show wrap32 (wrap64 (wrap64 (wrap64 (es * (a : Int)) - (c : Int)) + 1)) = ee
                      rw [q0, q1, q2, HEE.out, q3, e32]
                    have HMM := Hq0 (And.intro HBB.out HEE.out)
                    clear q0 q1 q2 q3 q4 HBB HEE HC HM18 HES
                    generalize (a : Int) = aa at *
                    go_wp2_with (fail)
                    all_goals
                      rw [QQ.out]
                      have hD := HD.out
                      clear HD r0 r1 r2 r3
                      generalize (w5.setCell ⟨R, 0, none⟩ (.pointer (some ⟨b, 0, none⟩))).setCell ⟨R, 1, none⟩ (.int .i32 ee) = w9 at *
                      obtain ⟨s0, s1, hbx, hg5⟩ := hD
                      have HF5 := Hq0 (And.intro hbx hg5)
                      clear hbx hg5
                      refine bodyPost_ret (v := decV b ee) (by simp [results, Tryz.func98, go_sem, s0, s1, decV]; try rfl) rfl ?_
                      have e8 := HM2.out
                      simp only [h, if_true, if_false, Bool.false_eq_true] at e8
                      have e9 := HMM.out.2
                      clear HM2 QQ
                      subst e8 e9
                      exact ⟨b, v, rfl, HMM.out.1, HF5.out.1, HF5.out.2⟩
end Go.Proofs.YtjcfacinlgogaaaGreatDoor
