/- Shortest floats: scaling by a power of ten; small functions. No condition but sizes. Shortest floats: scaling by a power of ten, at the shifts that come up. Shortest floats: the digits. Conditions: exponents within the table, the scale's shift one of those that come up. -/
import Derived.Test.YtjcfacinlgogaaaGreatDoorQ06
import Derived.Test.YtjcfacinlgogaaaGreatDoorQ20
import Derived.Test.YtjcfacinlgogaaaGreatDoorQ27
set_option linter.all false
set_option maxHeartbeats 4000000
set_option maxRecDepth 100000
set_option exponentiation.threshold 2000
namespace Go.Proofs.YtjcfacinlgogaaaGreatDoor
open Go.RowKit
theorem bool264_any (b : Bool) (w : World) :
    Calls Tryz.prog 281 #[.bool b] w fun e w' => e = .returned (.int .u64 (if b then 1 else 0)) ∧ w = w' := by
  cases b <;> (go_enter Tryz.func281, Tryz.ntmps281; go_wp2; go_ret; exact ⟨rfl, rfl⟩)
def scb (hi lo : Nat) (s : Int) : Obj := .cells #[.int .u64 hi, .int .u64 lo, .int .i64 s] 229
theorem cell_scb {w : World} {b hi lo : Nat} {s : Int} (h : w.heap[b]? = some (scb hi lo s)) : w.cell? ⟨b, 0, none⟩ = some (.int .u64 hi) ∧ w.cell? ⟨b, 1, none⟩ = some (.int .u64 lo) ∧ w.cell? ⟨b, 2, none⟩ = some (.int .i64 s) ∧ ∀ i, w.frozen? ⟨b, i, none⟩ = false := by
  refine ⟨?_, ?_, ?_, ?_⟩ <;> simp [World.cell?, World.frozen?, h, scb]
theorem set_scb {w : World} {b hi lo : Nat} {s : Int} (h : w.heap[b]? = some (scb hi lo s)) (hi2 lo2 : Nat) (s2 : Int) :
    (((w.setCell ⟨b, 0, none⟩ (.int .u64 hi2)).setCell ⟨b, 1, none⟩ (.int .u64 lo2)).setCell ⟨b, 2, none⟩ (.int .i64 s2)).heap[b]? = some (scb hi2 lo2 s2) := by
  simp [World.setCell, Array.getElem?_modify, h, scb]
theorem prescale_g {w : World} {b hi lo i : Nat} (e p l s : Int) (ht1 : w.cell? ⟨8, i * 2, none⟩ = some (.int .u64 (hi : Nat))) (ht2 : w.cell? ⟨8, i * 2 + 1, none⟩ = some (.int .u64 (lo : Nat))) (hp : p + 348 = i) (hi2 : i ≤ 695)
    (hb : w.heap[b]? = some (scb 0 0 0)) (hne : b ≠ 8) (hs : s = -(e + l + 3)) (he : -2000 ≤ e) (he2 : e ≤ 2000) (hl : -2000 ≤ l) (hl2 : l ≤ 2000) :
    Calls Tryz.prog 251 #[.pointer (some ⟨b, 0, none⟩), .int .i64 e, .int .i64 p, .int .i64 l] w fun r w' => r = .returned (.tuple #[]) ∧ w'.heap[b]? = some (scb hi lo s) ∧ w.grownBy w' (some b) := by
  subst hs
  obtain ⟨c0, c1, c2, f⟩ := cell_scb hb
  have f0 := f 0; have f1 := f 1; have f2 := f 2
  have HH := Hq0 (set_scb hb hi lo (-(e + l + 3)))
  have HG : Hid (w.grownBy (((w.setCell ⟨b, 0, none⟩ (.int .u64 (hi : Nat))).setCell ⟨b, 1, none⟩ (.int .u64 (lo : Nat))).setCell ⟨b, 2, none⟩ (.int .i64 (-(e + l + 3)))) (some b)) := (((grown_set2 (grown_refl w none) 0 _).set 1 _).set 2 _).one
  have t2' : (w.setCell ⟨b, 0, none⟩ (.int .u64 (hi : Nat))).cell? ⟨8, i * 2 + 1, none⟩ = some (.int .u64 (lo : Nat)) := by
    rw [World.cell?_of_block (a := ⟨8, i * 2 + 1, none⟩) (Below.heap_setCell _ _ _ _ (Ne.symm hne))]; exact ht2
  have ep : p + 348 = (i : Int) := hp
  have ew0 : wrap64 (p + 348) = (i : Int) := by rw [← i64_left', show p + 348 = (i : Int) by omega]; exact IntWalk.i64_in _ (by omega)
  have ew1 : wrap64 (e + l) = e + l := by rw [← i64_left']; exact IntWalk.i64_in _ (by omega)
  have ew2 : wrap64 (e + l + 3) = e + l + 3 := by rw [← i64_left']; exact IntWalk.i64_in _ (by omega)
  have ew3 : wrap64 (-(e + l + 3)) = -(e + l + 3) := by rw [← i64_left']; exact IntWalk.i64_in _ (by omega)
  have hi3 : (i : Int) < 696 := by omega
  clear f hb hp ep
  go_enter Tryz.func251, Tryz.ntmps251
  go_wp2
  refine bodyPost_end (results_none rfl _ _ _) rfl ?_
  exact ⟨rfl, HH.out, HG.out⟩
theorem mul64_any (x y : Nat) (w : World) (hx : x < 18446744073709551616) (hy : y < 18446744073709551616) (a b : Nat) (ha : x * y / 18446744073709551616 = a) (hb : x * y % 18446744073709551616 = b) :
    Calls Tryz.prog 225 #[.int .u64 x, .int .u64 y] w fun e w' => e = .returned (.tuple #[.int .u64 a, .int .u64 b]) ∧ w = w' := by
  subst ha; subst hb
  exact (Tryz.bits_Mul64 x y hx hy w).mono fun e w' ⟨h1, h2⟩ => ⟨h1, h2.symm⟩
theorem bool264_t (w : World) : Calls Tryz.prog 281 #[.bool true] w fun e w' => e = .returned (.int .u64 1) ∧ w = w' := bool264_any true w
theorem bool264_f (w : World) : Calls Tryz.prog 281 #[.bool false] w fun e w' => e = .returned (.int .u64 0) ∧ w = w' := bool264_any false w
theorem or64 (q s : Nat) (hq : q < 18446744073709551616) (hs : s ≤ 1) : bits .or .u64 (q : Int) (s : Int) = (stk q s : Nat) := by
  rw [u64_or_nat q s hq (by omega), stk_or q s hs]
theorem log10P_any (x r : Int) (hr : x * 78913 / 262144 = r) (h0 : -2000 ≤ x) (h1 : x ≤ 2000) (w : World) : Calls Tryz.prog 213 #[.int .i64 x] w fun e w' => e = .returned (.int .i64 r) ∧ w = w' := by
  have e1 : wrap64 (x * 78913) = x * 78913 := by rw [← i64_left']; exact IntWalk.i64_in _ (by omega)
  go_enter Tryz.func213, Tryz.ntmps213
  go_wp2
  go_ret
  exact ⟨by rw [← hr]; rfl, rfl⟩
theorem log2P_any (x r : Int) (hr : x * 108853 / 32768 = r) (h0 : -2000 ≤ x) (h1 : x ≤ 2000) (w : World) : Calls Tryz.prog 252 #[.int .i64 x] w fun e w' => e = .returned (.int .i64 r) ∧ w = w' := by
  have e1 : wrap64 (x * 108853) = x * 108853 := by rw [← i64_left']; exact IntWalk.i64_in _ (by omega)
  go_enter Tryz.func252, Tryz.ntmps252
  go_wp2
  go_ret
  exact ⟨by rw [← hr]; rfl, rfl⟩
theorem skewed_any (x r : Int) (hr : (x * 631305 - 261663) / 2097152 = r) (h0 : -2000 ≤ x) (h1 : x ≤ 2000) (w : World) : Calls Tryz.prog 250 #[.int .i64 x] w fun e w' => e = .returned (.int .i64 r) ∧ w = w' := by
  have e1 : wrap64 (x * 631305) = x * 631305 := by rw [← i64_left']; exact IntWalk.i64_in _ (by omega)
  have e2 : wrap64 (x * 631305 - 261663) = x * 631305 - 261663 := by rw [← i64_left']; exact IntWalk.i64_in _ (by omega)
  go_enter Tryz.func250, Tryz.ntmps250
  go_wp2
  go_ret
  exact ⟨by rw [← hr]; rfl, rfl⟩
theorem nudge_any (x r : Nat) (d : Int) (hr : (x : Int) + d = r) (h1 : x < 4611686018427387904) (hd : -1 ≤ d) (hd2 : d ≤ 1) (w : World) : Calls Tryz.prog 254 #[.int .u64 x, .int .i64 d] w fun e w' => e = .returned (.int .u64 r) ∧ w = w' := by
  have e1 : IntKind.u64.wrap ((x : Int) + IntKind.u64.wrap d) = r := by rw [IntKind.wrap_u64, IntKind.wrap_u64]; omega
  go_enter Tryz.func254, Tryz.ntmps254
  go_wp2
  go_ret
  exact ⟨by rw [← e1]; rfl, rfl⟩
theorem ceil_any (x r : Nat) (hr : (x + 3) / 4 = r) (h1 : x < 4611686018427387904) (w : World) : Calls Tryz.prog 255 #[.int .u64 x] w fun e w' => e = .returned (.int .u64 r) ∧ w = w' := by
  have e1 : IntKind.u64.wrap ((x : Int) + 3) = (x : Int) + 3 := by rw [IntKind.wrap_u64]; omega
  have e2 : ((x : Int) + 3) / 4 = r := by omega
  go_enter Tryz.func255, Tryz.ntmps255
  go_wp2
  go_ret
  exact ⟨by rw [← e2]; rfl, rfl⟩
theorem floor_any (x r : Nat) (hr : x / 4 = r) (h1 : x < 4611686018427387904) (w : World) : Calls Tryz.prog 256 #[.int .u64 x] w fun e w' => e = .returned (.int .u64 r) ∧ w = w' := by
  have e1 : IntKind.u64.wrap (x : Int) = (x : Int) := by rw [IntKind.wrap_u64]; omega
  have e2 : (x : Int) / 4 = r := by omega
  go_enter Tryz.func256, Tryz.ntmps256
  go_wp2
  go_ret
  exact ⟨by rw [← e2]; rfl, rfl⟩
theorem round_any (x r : Nat) (hr : (x + 1 + x / 4 % 2) / 4 = r) (h1 : x < 4611686018427387904) (w : World) : Calls Tryz.prog 257 #[.int .u64 x] w fun e w' => e = .returned (.int .u64 r) ∧ w = w' := by
  have e0 : bits .and .u64 ((x : Int) / 4) 1 = ((x / 4 % 2 : Nat) : Int) := by
    have h := u64_and_nat (x / 4) 1 (by omega) (by decide)
    rw [show x / 4 &&& 1 = x / 4 % 2 from Nat.and_one_is_mod _] at h
    exact h
  have e1 : IntKind.u64.wrap ((x : Int) + 1) = (x : Int) + 1 := by rw [IntKind.wrap_u64]; omega
  have e3 : IntKind.u64.wrap ((x : Int) + 1 + ((x / 4 % 2 : Nat) : Int)) = (x : Int) + 1 + ((x / 4 % 2 : Nat) : Int) := by rw [IntKind.wrap_u64]; omega
  have e2 : ((x : Int) + 1 + ((x / 4 % 2 : Nat) : Int)) / 4 = r := by omega
  generalize ((x / 4 % 2 : Nat) : Int) = y at *
  go_enter Tryz.func257, Tryz.ntmps257
  go_wp2
  go_ret
  exact ⟨by rw [← e2]; rfl, rfl⟩
end Go.Proofs.YtjcfacinlgogaaaGreatDoor
namespace Go.Proofs.YtjcfacinlgogaaaGreatDoor
open Go.RowKit
def usP (P x hiP loP : Nat) : Nat :=
  let hi := x * hiP / 18446744073709551616
  let mid := x * hiP % 18446744073709551616
  let mid2 := x * loP / 18446744073709551616
  if hi % P ≠ 0 then stk (hi / P) 1
  else if mid < mid2 then stk ((hi - 1) / P) 1
  else stk (hi / P) (if 1 < mid - mid2 then 1 else 0)
theorem uscale_5 {w : World} {b hi lo x : Nat} (hb : w.heap[b]? = some (scb hi lo 5)) (hx : x < 18446744073709551616) (hh : hi < 18446744073709551616) (hl : lo < 18446744073709551616) (hx2 : 4611686018427387904 ≤ x) (hh2 : 9223372036854775808 ≤ hi) :
    Calls Tryz.prog 253 #[.int .u64 x, .pointer (some ⟨b, 0, none⟩)] w fun e w' => e = .returned (.int .u64 (usP 32 x hi lo)) ∧ ∃ q, w' = w.drewN q := by
  obtain ⟨c0, c1, c2, f⟩ := cell_scb hb
  obtain ⟨H, hH⟩ : ∃ H, x * hi / 18446744073709551616 = H := ⟨_, rfl⟩
  obtain ⟨M, hM⟩ : ∃ M, x * hi % 18446744073709551616 = M := ⟨_, rfl⟩
  obtain ⟨M2, hM2⟩ : ∃ M2, x * lo / 18446744073709551616 = M2 := ⟨_, rfl⟩
  obtain ⟨L2, hL2⟩ : ∃ L2, x * lo % 18446744073709551616 = L2 := ⟨_, rfl⟩
  have m1 : M < 18446744073709551616 := by rw [← hM]; exact Nat.mod_lt _ (by decide)
  have m2 : M2 < 18446744073709551615 := by
    rw [← hM2]
    have := Nat.mul_le_mul (show x ≤ 18446744073709551615 by omega) (show lo ≤ 18446744073709551615 by omega)
    omega
  have h1 : H < 18446744073709551616 := by
    rw [← hH]
    have := Nat.mul_le_mul (show x ≤ 18446744073709551615 by omega) (show hi ≤ 18446744073709551615 by omega)
    omega
  have h2 : 32 ≤ H := by
    rw [← hH]
    have := Nat.mul_le_mul hx2 hh2
    omega
  have HU : Hid (usP 32 x hi lo = if H % 32 ≠ 0 then stk (H / 32) 1 else if M < M2 then stk ((H - 1) / 32) 1 else stk (H / 32) (if 1 < M - M2 then 1 else 0)) := by
    show _ = _
    unfold usP
    simp only [hH, hM, hM2]
  have C1 := Hq0 (fun w => mul64_any x hi w hx hh H M hH hM)
  have C2 := Hq0 (fun w => mul64_any x lo w hx hl M2 L2 hM2 hL2)
  clear hH hM hM2 hL2 f hb hx2 hh2
  go_enter Tryz.func253, Tryz.ntmps253
  go_wp2_with (fail)
  refine (C1.out _).mono ?_
  rintro e w1 ⟨rfl, rfl⟩
  have e63 : bits .and .i64 5 63 = 5 := by decide
  by_cases hm : H % 32 = 0
  · have e1 : ((H : Int) / 32 * 32 != (H : Int)) = false := by simp; omega
    go_wp2_with (fail)
    refine (C2.out _).mono ?_
    rintro e w2 ⟨rfl, rfl⟩
    go_wp2_with (fail)
    by_cases hlt : M < M2
    · have e2 : decide (M < M2) = true := by simp; omega
      have e3 : IntKind.u64.wrap ((M : Int) - M2) = (M : Int) - M2 + 18446744073709551616 := by rw [IntKind.wrap_u64]; omega
      have e4 : decide (1 < (M : Int) - M2 + 18446744073709551616) = true := by simp; omega
      have HO := or64 ((H - 1) / 32) 1 (by omega) (by omega)
      rw [show (((H - 1) / 32 : Nat) : Int) = ((H : Int) - 1) / 32 by omega] at HO
      have HO2 : bits .or .u64 (((H : Int) - 1) / 32) 1 = (stk ((H - 1) / 32) 1 : Nat) := HO
      have HU2 : Hid (usP 32 x hi lo = stk ((H - 1) / 32) 1) := by show _ = _; rw [HU.out, if_neg (by omega), if_pos hlt]
      clear HU hlt hm HO
      rw [e2]
      refine (bool264_t _).mono ?_
      rintro e w2 ⟨rfl, rfl⟩
      go_wp2_with (fail)
      go_quiet ((go_at_call 281; exact Calls.quiet_of_same ((bool264_t _).mono fun e w' h => ⟨h.1, h.2.symm⟩)))
      go_wp2
      go_ret
      exact ⟨ret_int (by rw [HU2.out]), _, rfl⟩
    · have e2 : decide (M < M2) = false := by simp; omega
      have e3 : IntKind.u64.wrap ((M : Int) - M2) = (M : Int) - M2 := by rw [IntKind.wrap_u64]; omega
      by_cases ht : 1 < M - M2
      · have e4 : decide (1 < (M : Int) - M2) = true := by simp; omega
        have HO := or64 (H / 32) 1 (by omega) (by omega)
        have HO2 : bits .or .u64 ((H : Int) / 32) 1 = (stk (H / 32) 1 : Nat) := HO
        have HU2 : Hid (usP 32 x hi lo = stk (H / 32) 1) := by show _ = _; rw [HU.out, if_neg (by omega), if_neg hlt, if_pos ht]
        clear HU hlt hm ht HO
        rw [e2]
        refine (bool264_f _).mono ?_
        rintro e w2 ⟨rfl, rfl⟩
        go_wp2_with (fail)
        go_quiet ((go_at_call 281; exact Calls.quiet_of_same ((bool264_t _).mono fun e w' h => ⟨h.1, h.2.symm⟩)))
        go_wp2
        go_ret
        exact ⟨ret_int (by rw [HU2.out]), _, rfl⟩
      · have e4 : decide (1 < (M : Int) - M2) = false := by simp; omega
        have HO := or64 (H / 32) 0 (by omega) (by omega)
        have HO2 : bits .or .u64 ((H : Int) / 32) 0 = (stk (H / 32) 0 : Nat) := HO
        have HU2 : Hid (usP 32 x hi lo = stk (H / 32) 0) := by show _ = _; rw [HU.out, if_neg (by omega), if_neg hlt, if_neg ht]
        clear HU hlt hm ht HO
        rw [e2]
        refine (bool264_f _).mono ?_
        rintro e w2 ⟨rfl, rfl⟩
        go_wp2_with (fail)
        go_quiet ((go_at_call 281; exact Calls.quiet_of_same ((bool264_f _).mono fun e w' h => ⟨h.1, h.2.symm⟩)))
        go_wp2
        go_ret
        exact ⟨ret_int (by rw [HU2.out]), _, rfl⟩
  · have e1 : ((H : Int) / 32 * 32 != (H : Int)) = true := by simp; omega
    have HO := or64 (H / 32) 1 (by omega) (by omega)
    have HO : bits .or .u64 ((H : Int) / 32) 1 = (stk (H / 32) 1 : Nat) := HO
    have HU2 : Hid (usP 32 x hi lo = stk (H / 32) 1) := by show _ = _; rw [HU.out, if_pos hm]
    clear HU hm
    go_wp2
    go_ret
    exact ⟨ret_int (by rw [HU2.out, ← HO]), 0, rfl⟩
theorem uscale_6 {w : World} {b hi lo x : Nat} (hb : w.heap[b]? = some (scb hi lo 6)) (hx : x < 18446744073709551616) (hh : hi < 18446744073709551616) (hl : lo < 18446744073709551616) (hx2 : 4611686018427387904 ≤ x) (hh2 : 9223372036854775808 ≤ hi) :
    Calls Tryz.prog 253 #[.int .u64 x, .pointer (some ⟨b, 0, none⟩)] w fun e w' => e = .returned (.int .u64 (usP 64 x hi lo)) ∧ ∃ q, w' = w.drewN q := by
  obtain ⟨c0, c1, c2, f⟩ := cell_scb hb
  obtain ⟨H, hH⟩ : ∃ H, x * hi / 18446744073709551616 = H := ⟨_, rfl⟩
  obtain ⟨M, hM⟩ : ∃ M, x * hi % 18446744073709551616 = M := ⟨_, rfl⟩
  obtain ⟨M2, hM2⟩ : ∃ M2, x * lo / 18446744073709551616 = M2 := ⟨_, rfl⟩
  obtain ⟨L2, hL2⟩ : ∃ L2, x * lo % 18446744073709551616 = L2 := ⟨_, rfl⟩
  have m1 : M < 18446744073709551616 := by rw [← hM]; exact Nat.mod_lt _ (by decide)
  have m2 : M2 < 18446744073709551615 := by
    rw [← hM2]
    have := Nat.mul_le_mul (show x ≤ 18446744073709551615 by omega) (show lo ≤ 18446744073709551615 by omega)
    omega
  have h1 : H < 18446744073709551616 := by
    rw [← hH]
    have := Nat.mul_le_mul (show x ≤ 18446744073709551615 by omega) (show hi ≤ 18446744073709551615 by omega)
    omega
  have h2 : 64 ≤ H := by
    rw [← hH]
    have := Nat.mul_le_mul hx2 hh2
    omega
  have HU : Hid (usP 64 x hi lo = if H % 64 ≠ 0 then stk (H / 64) 1 else if M < M2 then stk ((H - 1) / 64) 1 else stk (H / 64) (if 1 < M - M2 then 1 else 0)) := by
    show _ = _
    unfold usP
    simp only [hH, hM, hM2]
  have C1 := Hq0 (fun w => mul64_any x hi w hx hh H M hH hM)
  have C2 := Hq0 (fun w => mul64_any x lo w hx hl M2 L2 hM2 hL2)
  clear hH hM hM2 hL2 f hb hx2 hh2
  go_enter Tryz.func253, Tryz.ntmps253
  go_wp2_with (fail)
  refine (C1.out _).mono ?_
  rintro e w1 ⟨rfl, rfl⟩
  have e63 : bits .and .i64 6 63 = 6 := by decide
  by_cases hm : H % 64 = 0
  · have e1 : ((H : Int) / 64 * 64 != (H : Int)) = false := by simp; omega
    go_wp2_with (fail)
    refine (C2.out _).mono ?_
    rintro e w2 ⟨rfl, rfl⟩
    go_wp2_with (fail)
    by_cases hlt : M < M2
    · have e2 : decide (M < M2) = true := by simp; omega
      have e3 : IntKind.u64.wrap ((M : Int) - M2) = (M : Int) - M2 + 18446744073709551616 := by rw [IntKind.wrap_u64]; omega
      have e4 : decide (1 < (M : Int) - M2 + 18446744073709551616) = true := by simp; omega
      have HO := or64 ((H - 1) / 64) 1 (by omega) (by omega)
      rw [show (((H - 1) / 64 : Nat) : Int) = ((H : Int) - 1) / 64 by omega] at HO
      have HO2 : bits .or .u64 (((H : Int) - 1) / 64) 1 = (stk ((H - 1) / 64) 1 : Nat) := HO
      have HU2 : Hid (usP 64 x hi lo = stk ((H - 1) / 64) 1) := by show _ = _; rw [HU.out, if_neg (by omega), if_pos hlt]
      clear HU hlt hm HO
      rw [e2]
      refine (bool264_t _).mono ?_
      rintro e w2 ⟨rfl, rfl⟩
      go_wp2_with (fail)
      go_quiet ((go_at_call 281; exact Calls.quiet_of_same ((bool264_t _).mono fun e w' h => ⟨h.1, h.2.symm⟩)))
      go_wp2
      go_ret
      exact ⟨ret_int (by rw [HU2.out]), _, rfl⟩
    · have e2 : decide (M < M2) = false := by simp; omega
      have e3 : IntKind.u64.wrap ((M : Int) - M2) = (M : Int) - M2 := by rw [IntKind.wrap_u64]; omega
      by_cases ht : 1 < M - M2
      · have e4 : decide (1 < (M : Int) - M2) = true := by simp; omega
        have HO := or64 (H / 64) 1 (by omega) (by omega)
        have HO2 : bits .or .u64 ((H : Int) / 64) 1 = (stk (H / 64) 1 : Nat) := HO
        have HU2 : Hid (usP 64 x hi lo = stk (H / 64) 1) := by show _ = _; rw [HU.out, if_neg (by omega), if_neg hlt, if_pos ht]
        clear HU hlt hm ht HO
        rw [e2]
        refine (bool264_f _).mono ?_
        rintro e w2 ⟨rfl, rfl⟩
        go_wp2_with (fail)
        go_quiet ((go_at_call 281; exact Calls.quiet_of_same ((bool264_t _).mono fun e w' h => ⟨h.1, h.2.symm⟩)))
        go_wp2
        go_ret
        exact ⟨ret_int (by rw [HU2.out]), _, rfl⟩
      · have e4 : decide (1 < (M : Int) - M2) = false := by simp; omega
        have HO := or64 (H / 64) 0 (by omega) (by omega)
        have HO2 : bits .or .u64 ((H : Int) / 64) 0 = (stk (H / 64) 0 : Nat) := HO
        have HU2 : Hid (usP 64 x hi lo = stk (H / 64) 0) := by show _ = _; rw [HU.out, if_neg (by omega), if_neg hlt, if_neg ht]
        clear HU hlt hm ht HO
        rw [e2]
        refine (bool264_f _).mono ?_
        rintro e w2 ⟨rfl, rfl⟩
        go_wp2_with (fail)
        go_quiet ((go_at_call 281; exact Calls.quiet_of_same ((bool264_f _).mono fun e w' h => ⟨h.1, h.2.symm⟩)))
        go_wp2
        go_ret
        exact ⟨ret_int (by rw [HU2.out]), _, rfl⟩
  · have e1 : ((H : Int) / 64 * 64 != (H : Int)) = true := by simp; omega
    have HO := or64 (H / 64) 1 (by omega) (by omega)
    have HO : bits .or .u64 ((H : Int) / 64) 1 = (stk (H / 64) 1 : Nat) := HO
    have HU2 : Hid (usP 64 x hi lo = stk (H / 64) 1) := by show _ = _; rw [HU.out, if_pos hm]
    clear HU hm
    go_wp2
    go_ret
    exact ⟨ret_int (by rw [HU2.out, ← HO]), 0, rfl⟩
theorem uscale_7 {w : World} {b hi lo x : Nat} (hb : w.heap[b]? = some (scb hi lo 7)) (hx : x < 18446744073709551616) (hh : hi < 18446744073709551616) (hl : lo < 18446744073709551616) (hx2 : 4611686018427387904 ≤ x) (hh2 : 9223372036854775808 ≤ hi) :
    Calls Tryz.prog 253 #[.int .u64 x, .pointer (some ⟨b, 0, none⟩)] w fun e w' => e = .returned (.int .u64 (usP 128 x hi lo)) ∧ ∃ q, w' = w.drewN q := by
  obtain ⟨c0, c1, c2, f⟩ := cell_scb hb
  obtain ⟨H, hH⟩ : ∃ H, x * hi / 18446744073709551616 = H := ⟨_, rfl⟩
  obtain ⟨M, hM⟩ : ∃ M, x * hi % 18446744073709551616 = M := ⟨_, rfl⟩
  obtain ⟨M2, hM2⟩ : ∃ M2, x * lo / 18446744073709551616 = M2 := ⟨_, rfl⟩
  obtain ⟨L2, hL2⟩ : ∃ L2, x * lo % 18446744073709551616 = L2 := ⟨_, rfl⟩
  have m1 : M < 18446744073709551616 := by rw [← hM]; exact Nat.mod_lt _ (by decide)
  have m2 : M2 < 18446744073709551615 := by
    rw [← hM2]
    have := Nat.mul_le_mul (show x ≤ 18446744073709551615 by omega) (show lo ≤ 18446744073709551615 by omega)
    omega
  have h1 : H < 18446744073709551616 := by
    rw [← hH]
    have := Nat.mul_le_mul (show x ≤ 18446744073709551615 by omega) (show hi ≤ 18446744073709551615 by omega)
    omega
  have h2 : 128 ≤ H := by
    rw [← hH]
    have := Nat.mul_le_mul hx2 hh2
    omega
  have HU : Hid (usP 128 x hi lo = if H % 128 ≠ 0 then stk (H / 128) 1 else if M < M2 then stk ((H - 1) / 128) 1 else stk (H / 128) (if 1 < M - M2 then 1 else 0)) := by
    show _ = _
    unfold usP
    simp only [hH, hM, hM2]
  have C1 := Hq0 (fun w => mul64_any x hi w hx hh H M hH hM)
  have C2 := Hq0 (fun w => mul64_any x lo w hx hl M2 L2 hM2 hL2)
  clear hH hM hM2 hL2 f hb hx2 hh2
  go_enter Tryz.func253, Tryz.ntmps253
  go_wp2_with (fail)
  refine (C1.out _).mono ?_
  rintro e w1 ⟨rfl, rfl⟩
  have e63 : bits .and .i64 7 63 = 7 := by decide
  by_cases hm : H % 128 = 0
  · have e1 : ((H : Int) / 128 * 128 != (H : Int)) = false := by simp; omega
    go_wp2_with (fail)
    refine (C2.out _).mono ?_
    rintro e w2 ⟨rfl, rfl⟩
    go_wp2_with (fail)
    by_cases hlt : M < M2
    · have e2 : decide (M < M2) = true := by simp; omega
      have e3 : IntKind.u64.wrap ((M : Int) - M2) = (M : Int) - M2 + 18446744073709551616 := by rw [IntKind.wrap_u64]; omega
      have e4 : decide (1 < (M : Int) - M2 + 18446744073709551616) = true := by simp; omega
      have HO := or64 ((H - 1) / 128) 1 (by omega) (by omega)
      rw [show (((H - 1) / 128 : Nat) : Int) = ((H : Int) - 1) / 128 by omega] at HO
      have HO2 : bits .or .u64 (((H : Int) - 1) / 128) 1 = (stk ((H - 1) / 128) 1 : Nat) := HO
      have HU2 : Hid (usP 128 x hi lo = stk ((H - 1) / 128) 1) := by show _ = _; rw [HU.out, if_neg (by omega), if_pos hlt]
      clear HU hlt hm HO
      rw [e2]
      refine (bool264_t _).mono ?_
      rintro e w2 ⟨rfl, rfl⟩
      go_wp2_with (fail)
      go_quiet ((go_at_call 281; exact Calls.quiet_of_same ((bool264_t _).mono fun e w' h => ⟨h.1, h.2.symm⟩)))
      go_wp2
      go_ret
      exact ⟨ret_int (by rw [HU2.out]), _, rfl⟩
    · have e2 : decide (M < M2) = false := by simp; omega
      have e3 : IntKind.u64.wrap ((M : Int) - M2) = (M : Int) - M2 := by rw [IntKind.wrap_u64]; omega
      by_cases ht : 1 < M - M2
      · have e4 : decide (1 < (M : Int) - M2) = true := by simp; omega
        have HO := or64 (H / 128) 1 (by omega) (by omega)
        have HO2 : bits .or .u64 ((H : Int) / 128) 1 = (stk (H / 128) 1 : Nat) := HO
        have HU2 : Hid (usP 128 x hi lo = stk (H / 128) 1) := by show _ = _; rw [HU.out, if_neg (by omega), if_neg hlt, if_pos ht]
        clear HU hlt hm ht HO
        rw [e2]
        refine (bool264_f _).mono ?_
        rintro e w2 ⟨rfl, rfl⟩
        go_wp2_with (fail)
        go_quiet ((go_at_call 281; exact Calls.quiet_of_same ((bool264_t _).mono fun e w' h => ⟨h.1, h.2.symm⟩)))
        go_wp2
        go_ret
        exact ⟨ret_int (by rw [HU2.out]), _, rfl⟩
      · have e4 : decide (1 < (M : Int) - M2) = false := by simp; omega
        have HO := or64 (H / 128) 0 (by omega) (by omega)
        have HO2 : bits .or .u64 ((H : Int) / 128) 0 = (stk (H / 128) 0 : Nat) := HO
        have HU2 : Hid (usP 128 x hi lo = stk (H / 128) 0) := by show _ = _; rw [HU.out, if_neg (by omega), if_neg hlt, if_neg ht]
        clear HU hlt hm ht HO
        rw [e2]
        refine (bool264_f _).mono ?_
        rintro e w2 ⟨rfl, rfl⟩
        go_wp2_with (fail)
        go_quiet ((go_at_call 281; exact Calls.quiet_of_same ((bool264_f _).mono fun e w' h => ⟨h.1, h.2.symm⟩)))
        go_wp2
        go_ret
        exact ⟨ret_int (by rw [HU2.out]), _, rfl⟩
  · have e1 : ((H : Int) / 128 * 128 != (H : Int)) = true := by simp; omega
    have HO := or64 (H / 128) 1 (by omega) (by omega)
    have HO : bits .or .u64 ((H : Int) / 128) 1 = (stk (H / 128) 1 : Nat) := HO
    have HU2 : Hid (usP 128 x hi lo = stk (H / 128) 1) := by show _ = _; rw [HU.out, if_pos hm]
    clear HU hm
    go_wp2
    go_ret
    exact ⟨ret_int (by rw [HU2.out, ← HO]), 0, rfl⟩
theorem uscale_8 {w : World} {b hi lo x : Nat} (hb : w.heap[b]? = some (scb hi lo 8)) (hx : x < 18446744073709551616) (hh : hi < 18446744073709551616) (hl : lo < 18446744073709551616) (hx2 : 4611686018427387904 ≤ x) (hh2 : 9223372036854775808 ≤ hi) :
    Calls Tryz.prog 253 #[.int .u64 x, .pointer (some ⟨b, 0, none⟩)] w fun e w' => e = .returned (.int .u64 (usP 256 x hi lo)) ∧ ∃ q, w' = w.drewN q := by
  obtain ⟨c0, c1, c2, f⟩ := cell_scb hb
  obtain ⟨H, hH⟩ : ∃ H, x * hi / 18446744073709551616 = H := ⟨_, rfl⟩
  obtain ⟨M, hM⟩ : ∃ M, x * hi % 18446744073709551616 = M := ⟨_, rfl⟩
  obtain ⟨M2, hM2⟩ : ∃ M2, x * lo / 18446744073709551616 = M2 := ⟨_, rfl⟩
  obtain ⟨L2, hL2⟩ : ∃ L2, x * lo % 18446744073709551616 = L2 := ⟨_, rfl⟩
  have m1 : M < 18446744073709551616 := by rw [← hM]; exact Nat.mod_lt _ (by decide)
  have m2 : M2 < 18446744073709551615 := by
    rw [← hM2]
    have := Nat.mul_le_mul (show x ≤ 18446744073709551615 by omega) (show lo ≤ 18446744073709551615 by omega)
    omega
  have h1 : H < 18446744073709551616 := by
    rw [← hH]
    have := Nat.mul_le_mul (show x ≤ 18446744073709551615 by omega) (show hi ≤ 18446744073709551615 by omega)
    omega
  have h2 : 256 ≤ H := by
    rw [← hH]
    have := Nat.mul_le_mul hx2 hh2
    omega
  have HU : Hid (usP 256 x hi lo = if H % 256 ≠ 0 then stk (H / 256) 1 else if M < M2 then stk ((H - 1) / 256) 1 else stk (H / 256) (if 1 < M - M2 then 1 else 0)) := by
    show _ = _
    unfold usP
    simp only [hH, hM, hM2]
  have C1 := Hq0 (fun w => mul64_any x hi w hx hh H M hH hM)
  have C2 := Hq0 (fun w => mul64_any x lo w hx hl M2 L2 hM2 hL2)
  clear hH hM hM2 hL2 f hb hx2 hh2
  go_enter Tryz.func253, Tryz.ntmps253
  go_wp2_with (fail)
  refine (C1.out _).mono ?_
  rintro e w1 ⟨rfl, rfl⟩
  have e63 : bits .and .i64 8 63 = 8 := by decide
  by_cases hm : H % 256 = 0
  · have e1 : ((H : Int) / 256 * 256 != (H : Int)) = false := by simp; omega
    go_wp2_with (fail)
    refine (C2.out _).mono ?_
    rintro e w2 ⟨rfl, rfl⟩
    go_wp2_with (fail)
    by_cases hlt : M < M2
    · have e2 : decide (M < M2) = true := by simp; omega
      have e3 : IntKind.u64.wrap ((M : Int) - M2) = (M : Int) - M2 + 18446744073709551616 := by rw [IntKind.wrap_u64]; omega
      have e4 : decide (1 < (M : Int) - M2 + 18446744073709551616) = true := by simp; omega
      have HO := or64 ((H - 1) / 256) 1 (by omega) (by omega)
      rw [show (((H - 1) / 256 : Nat) : Int) = ((H : Int) - 1) / 256 by omega] at HO
      have HO2 : bits .or .u64 (((H : Int) - 1) / 256) 1 = (stk ((H - 1) / 256) 1 : Nat) := HO
      have HU2 : Hid (usP 256 x hi lo = stk ((H - 1) / 256) 1) := by show _ = _; rw [HU.out, if_neg (by omega), if_pos hlt]
      clear HU hlt hm HO
      rw [e2]
      refine (bool264_t _).mono ?_
      rintro e w2 ⟨rfl, rfl⟩
      go_wp2_with (fail)
      go_quiet ((go_at_call 281; exact Calls.quiet_of_same ((bool264_t _).mono fun e w' h => ⟨h.1, h.2.symm⟩)))
      go_wp2
      go_ret
      exact ⟨ret_int (by rw [HU2.out]), _, rfl⟩
    · have e2 : decide (M < M2) = false := by simp; omega
      have e3 : IntKind.u64.wrap ((M : Int) - M2) = (M : Int) - M2 := by rw [IntKind.wrap_u64]; omega
      by_cases ht : 1 < M - M2
      · have e4 : decide (1 < (M : Int) - M2) = true := by simp; omega
        have HO := or64 (H / 256) 1 (by omega) (by omega)
        have HO2 : bits .or .u64 ((H : Int) / 256) 1 = (stk (H / 256) 1 : Nat) := HO
        have HU2 : Hid (usP 256 x hi lo = stk (H / 256) 1) := by show _ = _; rw [HU.out, if_neg (by omega), if_neg hlt, if_pos ht]
        clear HU hlt hm ht HO
        rw [e2]
        refine (bool264_f _).mono ?_
        rintro e w2 ⟨rfl, rfl⟩
        go_wp2_with (fail)
        go_quiet ((go_at_call 281; exact Calls.quiet_of_same ((bool264_t _).mono fun e w' h => ⟨h.1, h.2.symm⟩)))
        go_wp2
        go_ret
        exact ⟨ret_int (by rw [HU2.out]), _, rfl⟩
      · have e4 : decide (1 < (M : Int) - M2) = false := by simp; omega
        have HO := or64 (H / 256) 0 (by omega) (by omega)
        have HO2 : bits .or .u64 ((H : Int) / 256) 0 = (stk (H / 256) 0 : Nat) := HO
        have HU2 : Hid (usP 256 x hi lo = stk (H / 256) 0) := by show _ = _; rw [HU.out, if_neg (by omega), if_neg hlt, if_neg ht]
        clear HU hlt hm ht HO
        rw [e2]
        refine (bool264_f _).mono ?_
        rintro e w2 ⟨rfl, rfl⟩
        go_wp2_with (fail)
        go_quiet ((go_at_call 281; exact Calls.quiet_of_same ((bool264_f _).mono fun e w' h => ⟨h.1, h.2.symm⟩)))
        go_wp2
        go_ret
        exact ⟨ret_int (by rw [HU2.out]), _, rfl⟩
  · have e1 : ((H : Int) / 256 * 256 != (H : Int)) = true := by simp; omega
    have HO := or64 (H / 256) 1 (by omega) (by omega)
    have HO : bits .or .u64 ((H : Int) / 256) 1 = (stk (H / 256) 1 : Nat) := HO
    have HU2 : Hid (usP 256 x hi lo = stk (H / 256) 1) := by show _ = _; rw [HU.out, if_pos hm]
    clear HU hm
    go_wp2
    go_ret
    exact ⟨ret_int (by rw [HU2.out, ← HO]), 0, rfl⟩
end Go.Proofs.YtjcfacinlgogaaaGreatDoor
namespace Go.Proofs.YtjcfacinlgogaaaGreatDoor
open Go.RowKit
def ShB (m : Nat) (e p : Int) (mn mx odd : Nat) : Prop :=
  (m = 9223372036854775808 ∧ p = -(((e + 11) * 631305 - 261663) / 2097152) ∧ mn = m - 512 ∧ mx = m + 1024 ∧ odd = 0) ∨
  (m ≠ 9223372036854775808 ∧ p = -((e + 11) * 78913 / 262144) ∧ mn = m - 1024 ∧ mx = m + 1024 ∧ odd = m / 2048 % 2)
def ShO (p : Int) (u1 u2 u3 odd d : Nat) (q : Int) : Prop :=
  ((u1 + odd + 3) / 4 ≤ (u2 - odd) / 4 / 10 * 10 ∧ d = (u2 - odd) / 4 / 10 ∧ q = -(p - 1)) ∨
  ((u2 - odd) / 4 / 10 * 10 < (u1 + odd + 3) / 4 ∧ (u1 + odd + 3) / 4 < (u2 - odd) / 4 ∧ d = (u3 + 1 + u3 / 4 % 2) / 4 ∧ q = -p) ∨
  ((u2 - odd) / 4 / 10 * 10 < (u1 + odd + 3) / 4 ∧ ¬ (u1 + odd + 3) / 4 < (u2 - odd) / 4 ∧ d = (u1 + odd + 3) / 4 ∧ q = -p)
theorem i64_and_one (x : Nat) (h : x < 9223372036854775808) : bits .and .i64 (x : Int) 1 = ((x % 2 : Nat) : Int) := by
  show IntKind.i64.wrap ((BitVec.ofInt 64 (x : Int) &&& BitVec.ofInt 64 ((1 : Nat) : Int)).toNat : Int) = _
  rw [BitVec.toNat_and, ofInt_u64 x (by omega), ofInt_u64 1 (by decide), Nat.and_one_is_mod, IntKind.wrap_i64]
  omega
theorem odd_bit {m : Nat} (h : m < 18446744073709550000) : bits .and .i64 (wrap64 ((m : Int) / 2048)) 1 = ((m / 2048 % 2 : Nat) : Int) := by
  have h1 : m / 2048 < 9007199254740992 := by omega
  have h0 : wrap64 ((m : Int) / 2048) = ((m / 2048 : Nat) : Int) := by rw [← i64_left']; exact IntWalk.i64_in _ (by omega)
  rw [h0]
  exact i64_and_one (m / 2048) (by omega)
theorem shortFloat_any {w : World} {m mn mx odd hi lo i d : Nat} {e p s q : Int} (us : Nat → Nat) (hm : 9223372036854775808 ≤ m) (hm2 : m < 18446744073709550000) (he : -1000 ≤ e) (he2 : e ≤ 1000) (hB : ShB m e p mn mx odd)
    (hp : p + 348 = i) (hi2 : i ≤ 695) (ht1 : w.cell? ⟨8, i * 2, none⟩ = some (.int .u64 (hi : Nat))) (ht2 : w.cell? ⟨8, i * 2 + 1, none⟩ = some (.int .u64 (lo : Nat)))
    (hs : s = -(e + p * 108853 / 32768 + 3)) (hU : ∀ (x b : Nat) (wx : World), wx.heap[b]? = some (scb hi lo s) → 4611686018427387904 ≤ x → x < 18446744073709551616 → Calls Tryz.prog 253 #[.int .u64 x, .pointer (some ⟨b, 0, none⟩)] wx fun e w' => e = .returned (.int .u64 (us x)) ∧ ∃ q, w' = wx.drewN q)
    (h1 : us mn < 1000000000000000000) (h2 : us mx < 1000000000000000000) (h3 : us m < 1000000000000000000) (h4 : 1 ≤ us mx) (hO : ShO p (us mn) (us mx) (us m) odd d q) :
    Calls Tryz.prog 218 #[.int .u64 m, .int .i64 e] w fun r w' => r = .returned (.tuple #[.int .u64 d, .int .i64 q]) ∧ w.grownBy w' none := by
  have HU := Hq0 hU; have HO := Hq0 hO; have HB := Hq0 hB
  have hodd : odd ≤ 1 := by rcases hB with h | h <;> omega
  have hmnx : 4611686018427387904 ≤ mn ∧ mn < 18446744073709551616 ∧ 4611686018427387904 ≤ mx ∧ mx < 18446744073709551616 := by rcases hB with h | h <;> omega
  have HMN := Hq0 hmnx
  have HE := Hq0 (show (-1000 ≤ e ∧ e ≤ 1000) ∧ 9223372036854775808 ≤ m ∧ m < 18446744073709550000 from ⟨⟨he, he2⟩, hm, hm2⟩)
  have HP := Hq0 (show p + 348 = i ∧ i ≤ 695 from ⟨hp, hi2⟩)
  have T1 := Hq0 ht1; have T2 := Hq0 ht2; have HS := Hq0 hs
  clear hU hO hB hp hi2 ht1 ht2 hs hmnx he he2 hm hm2
  go_enter Tryz.func218, Tryz.ntmps218
  have f0 := HE.out
  rcases HB.out with ⟨g1, g2, g3, g4, g5⟩ | ⟨g1, g2, g3, g4, g5⟩
  · have hne : ((m : Int) == 9223372036854775808) = true := by simp; omega
    have f1 : wrap64 (e + 11) = e + 11 := by rw [← i64_left']; exact IntWalk.i64_in _ (by omega)
    have f2 : IntKind.u64.wrap ((m : Int) - 512) = (mn : Int) := by rw [IntKind.wrap_u64]; omega
    have f3 : IntKind.u64.wrap ((m : Int) + 1024) = (mx : Int) := by rw [IntKind.wrap_u64]; omega
    have f4 : -1085 < e := by omega
    have f5 : bits .and .i64 (wrap64 ((m : Int) / 2048)) 1 = (odd : Int) := by rw [odd_bit HE.out.2.2, g1, g5]
    have f6 : wrap64 (-(((e + 11) * 631305 - 261663) / 2097152)) = p := by rw [← i64_left', g2]; exact IntWalk.i64_in _ (by omega)
    clear f0 g1 g2 g3 g4 g5
    go_wp2_with (fail)
    refine (skewed_any (e + 11) _ rfl (by have := HE.out; omega) (by have := HE.out; omega) _).mono ?_
    rintro r w1 ⟨rfl, rfl⟩
    go_upto_region 27 with (fail)
    try rw [f6]
    try rw [f5]
    · clear f1 f2 f3 f4 f5 f6 hne
      have hnew : Hid ((w.alloc (scb 0 0 0)).heap[w.heap.size]? = some (scb 0 0 0)) := heap_new w _
      have hga := Hq0 (grown_new w (scb 0 0 0))
      go_upto_region 28 with (fail)
      have hnew' : Hid ((w.alloc (.cells #[.int .u64 0, .int .u64 0, .int .i64 0] 229)).heap[w.heap.size]? = some (scb 0 0 0)) := hnew
      have hga' : Hid (w.grownBy (w.alloc (.cells #[.int .u64 0, .int .u64 0, .int .i64 0] 229)) none) := hga
      clear hnew hga
      generalize w.alloc (.cells #[.int .u64 0, .int .u64 0, .int .i64 0] 229) = W1 at *
      obtain ⟨b, hb⟩ : ∃ b, b = w.heap.size := ⟨_, rfl⟩
      rw [← hb] at hnew' ⊢
      have HBL := Hq0 hb
      clear hb
      have PR := Hq0 (prescale_g (w := W1) (b := b) e p (p * 108853 / 32768) s (kpc hga'.out T1.out) (kpc hga'.out T2.out) HP.out.1 HP.out.2 hnew'.out (by have h1 := World.block_lt_of_cell? _ _ T1.out; have h2 := HBL.out; show b ≠ _; simp only at h1; omega) HS.out (by have := HE.out; omega) (by have := HE.out; omega) (by have := HP.out; omega) (by have := HP.out; omega))
      go_wp2_with (fail)
      refine (log2P_any p _ rfl (by have := HP.out; omega) (by have := HP.out; omega) _).mono ?_
      rintro r w2 ⟨rfl, rfl⟩
      go_wp2_with (fail)
      refine PR.out.mono ?_
      rintro r w3 ⟨rfl, hsc, hg3⟩
      have HSC := Hq0 hsc
      have HG3 : Hid (w.grownBy w3 none) := Hq0 (grown_own hga'.out hg3 (.inr (by rw [HBL.out]; exact Nat.le_refl _)))
      clear hsc hg3 PR
      go_wp2_with (fail)
      refine (HU.out mn b w3 HSC.out HMN.out.1 HMN.out.2.1).mono ?_
      rintro r w4 ⟨rfl, q4, rfl⟩
      have HO' := HO.out
      obtain ⟨x1, e1⟩ : ∃ x, us mn = x := ⟨_, rfl⟩
      obtain ⟨x2, e2⟩ : ∃ x, us mx = x := ⟨_, rfl⟩
      obtain ⟨x3, e3⟩ : ∃ x, us m = x := ⟨_, rfl⟩
      rw [e1, e2, e3] at HO'
      rw [e1] at h1 ⊢
      rw [e2] at h2 h4
      rw [e3] at h3
      have E2 := Hq0 e2; have E3 := Hq0 e3
      have HOO := Hq0 HO'
      clear HO HO' e1 e2 e3
      go_wp2_with (fail)
      obtain ⟨y1, hy1⟩ : ∃ y, x1 + odd = y := ⟨_, rfl⟩
      have HY1 := Hq0 hy1
      obtain ⟨dmin, hdm⟩ : ∃ y, (y1 + 3) / 4 = y := ⟨_, rfl⟩
      have HDM := Hq0 hdm
      have hy1b : y1 < 1000000000000000001 := by omega
      clear hy1 hdm
      refine (nudge_any x1 y1 (odd : Int) (by have := HY1.out; omega) (by omega) (by omega) (by omega) _).mono ?_
      rintro r w5 ⟨rfl, rfl⟩
      go_wp2_with (fail)
      refine (ceil_any y1 dmin HDM.out (by omega) _).mono ?_
      rintro r w5 ⟨rfl, rfl⟩
      go_wp2_with (fail)
      refine (HU.out mx b (w3.drewN q4) (by exact HSC.out) HMN.out.2.2.1 HMN.out.2.2.2).mono ?_
      rintro r w6 ⟨rfl, q6, rfl⟩
      rw [E2.out]
      have eno : wrap64 (-(odd : Int)) = -(odd : Int) := by rw [← i64_left']; exact IntWalk.i64_in _ (by omega)
      go_wp2_with (fail)
      try rw [eno]
      obtain ⟨y2, hy2⟩ : ∃ y, x2 - odd = y := ⟨_, rfl⟩
      have HY2 := Hq0 hy2
      obtain ⟨dmax, hdx⟩ : ∃ y, y2 / 4 = y := ⟨_, rfl⟩
      have HDX := Hq0 hdx
      have hy2b : y2 < 1000000000000000000 := by omega
      clear hy2 hdx
      refine (nudge_any x2 y2 (-(odd : Int)) (by have := HY2.out; omega) (by omega) (by omega) (by omega) _).mono ?_
      rintro r w7 ⟨rfl, rfl⟩
      go_wp2_with (fail)
      refine (floor_any y2 dmax HDX.out (by omega) _).mono ?_
      rintro r w7 ⟨rfl, rfl⟩
      have hA : dmin < 300000000000000000 := by have := HDM.out; omega
      have hC : dmax < 300000000000000000 := by have := HDX.out; omega
      unfold ShO at HOO
      rw [HY1.out, HDM.out, HY2.out, HDX.out] at HOO
      clear eno h1 h2 h4
      have hd0 : IntKind.u64.wrap ((dmax : Int) / 10 * 10) = (dmax : Int) / 10 * 10 := by rw [IntKind.wrap_u64]; omega
      have eq1 : wrap64 (p - 1) = p - 1 := by rw [← i64_left']; exact IntWalk.i64_in _ (by have := HP.out; omega)
      have eq2 : Hid (wrap64 (-(p - 1)) = -(p - 1)) := Hq0 <| by rw [← i64_left']; exact IntWalk.i64_in _ (by have := HP.out; omega)
      have eq3 : Hid (wrap64 (-p) = -p) := Hq0 <| by rw [← i64_left']; exact IntWalk.i64_in _ (by have := HP.out; omega)
      rcases HOO.out with ⟨o1, o2, o3⟩ | ⟨o1, o2, o3, o4⟩ | ⟨o1, o2, o3, o4⟩
      · have c1 : (dmin : Int) ≤ (dmax : Int) / 10 * 10 := by omega
        have OO := Hq0 (And.intro o2 o3)
        clear o1 o2 o3 HOO
        go_wp2
        go_ret2
        exact ⟨by rw [OO.out.1, OO.out.2, eq2.out]; rfl, grown_trans HG3.out (by first | exact grown_drewN _ _ | exact grown_trans (grown_drewN _ _) (grown_drewN _ _))⟩
      · have c1 : ¬ (dmin : Int) ≤ (dmax : Int) / 10 * 10 := by omega
        have c2 : (dmin : Int) < (dmax : Int) := by omega
        have OO := Hq0 (And.intro o3 o4)
        clear o1 o2 o3 o4 HOO
        go_wp2_with (fail)
        refine (HU.out m b _ (by exact HSC.out) (by have := HE.out; omega) (by have := HE.out; omega)).mono ?_
        rintro r w8 ⟨rfl, q8, rfl⟩
        rw [E3.out]
        go_wp2_with (fail)
        refine (round_any x3 _ rfl (by omega) _).mono ?_
        rintro r w8 ⟨rfl, rfl⟩
        go_wp2
        go_ret2
        exact ⟨by rw [OO.out.1, OO.out.2, eq3.out]; rfl, grown_trans HG3.out (by first | exact grown_drewN _ _ | exact grown_trans (grown_drewN _ _) (grown_drewN _ _) | exact grown_trans (grown_drewN _ _) (grown_trans (grown_drewN _ _) (grown_drewN _ _)))⟩
      · have c1 : ¬ (dmin : Int) ≤ (dmax : Int) / 10 * 10 := by omega
        have c2 : ¬ (dmin : Int) < (dmax : Int) := by omega
        have OO := Hq0 (And.intro o3 o4)
        clear o1 o2 o3 o4 HOO
        go_wp2
        go_ret2
        exact ⟨by rw [OO.out.1, OO.out.2, eq3.out]; rfl, grown_trans HG3.out (by first | exact grown_drewN _ _ | exact grown_trans (grown_drewN _ _) (grown_drewN _ _))⟩
  · have hne : ((m : Int) == 9223372036854775808) = false := by simp; omega
    have f1 : wrap64 (e + 11) = e + 11 := by rw [← i64_left']; exact IntWalk.i64_in _ (by omega)
    have f2 : IntKind.u64.wrap ((m : Int) - 1024) = (mn : Int) := by rw [IntKind.wrap_u64]; omega
    have f3 : IntKind.u64.wrap ((m : Int) + 1024) = (mx : Int) := by rw [IntKind.wrap_u64]; omega
    have f4 : -1085 ≤ e := by omega
    have f5 : bits .and .i64 (wrap64 ((m : Int) / 2048)) 1 = (odd : Int) := by rw [odd_bit HE.out.2.2, g5]
    have f6 : wrap64 (-((e + 11) * 78913 / 262144)) = p := by rw [← i64_left', g2]; exact IntWalk.i64_in _ (by omega)
    clear f0 g1 g2 g3 g4 g5
    go_wp2_with (fail)
    refine (log10P_any (e + 11) _ rfl (by have := HE.out; omega) (by have := HE.out; omega) _).mono ?_
    rintro r w1 ⟨rfl, rfl⟩
    go_upto_region 27 with (fail)
    try rw [f6]
    try rw [f5]
    · clear f1 f2 f3 f4 f5 f6 hne
      have hnew : Hid ((w.alloc (scb 0 0 0)).heap[w.heap.size]? = some (scb 0 0 0)) := heap_new w _
      have hga := Hq0 (grown_new w (scb 0 0 0))
      go_upto_region 28 with (fail)
      have hnew' : Hid ((w.alloc (.cells #[.int .u64 0, .int .u64 0, .int .i64 0] 229)).heap[w.heap.size]? = some (scb 0 0 0)) := hnew
      have hga' : Hid (w.grownBy (w.alloc (.cells #[.int .u64 0, .int .u64 0, .int .i64 0] 229)) none) := hga
      clear hnew hga
      generalize w.alloc (.cells #[.int .u64 0, .int .u64 0, .int .i64 0] 229) = W1 at *
      obtain ⟨b, hb⟩ : ∃ b, b = w.heap.size := ⟨_, rfl⟩
      rw [← hb] at hnew' ⊢
      have HBL := Hq0 hb
      clear hb
      have PR := Hq0 (prescale_g (w := W1) (b := b) e p (p * 108853 / 32768) s (kpc hga'.out T1.out) (kpc hga'.out T2.out) HP.out.1 HP.out.2 hnew'.out (by have h1 := World.block_lt_of_cell? _ _ T1.out; have h2 := HBL.out; show b ≠ _; simp only at h1; omega) HS.out (by have := HE.out; omega) (by have := HE.out; omega) (by have := HP.out; omega) (by have := HP.out; omega))
      go_wp2_with (fail)
      refine (log2P_any p _ rfl (by have := HP.out; omega) (by have := HP.out; omega) _).mono ?_
      rintro r w2 ⟨rfl, rfl⟩
      go_wp2_with (fail)
      refine PR.out.mono ?_
      rintro r w3 ⟨rfl, hsc, hg3⟩
      have HSC := Hq0 hsc
      have HG3 : Hid (w.grownBy w3 none) := Hq0 (grown_own hga'.out hg3 (.inr (by rw [HBL.out]; exact Nat.le_refl _)))
      clear hsc hg3 PR
      go_wp2_with (fail)
      refine (HU.out mn b w3 HSC.out HMN.out.1 HMN.out.2.1).mono ?_
      rintro r w4 ⟨rfl, q4, rfl⟩
      have HO' := HO.out
      obtain ⟨x1, e1⟩ : ∃ x, us mn = x := ⟨_, rfl⟩
      obtain ⟨x2, e2⟩ : ∃ x, us mx = x := ⟨_, rfl⟩
      obtain ⟨x3, e3⟩ : ∃ x, us m = x := ⟨_, rfl⟩
      rw [e1, e2, e3] at HO'
      rw [e1] at h1 ⊢
      rw [e2] at h2 h4
      rw [e3] at h3
      have E2 := Hq0 e2; have E3 := Hq0 e3
      have HOO := Hq0 HO'
      clear HO HO' e1 e2 e3
      go_wp2_with (fail)
      obtain ⟨y1, hy1⟩ : ∃ y, x1 + odd = y := ⟨_, rfl⟩
      have HY1 := Hq0 hy1
      obtain ⟨dmin, hdm⟩ : ∃ y, (y1 + 3) / 4 = y := ⟨_, rfl⟩
      have HDM := Hq0 hdm
      have hy1b : y1 < 1000000000000000001 := by omega
      clear hy1 hdm
      refine (nudge_any x1 y1 (odd : Int) (by have := HY1.out; omega) (by omega) (by omega) (by omega) _).mono ?_
      rintro r w5 ⟨rfl, rfl⟩
      go_wp2_with (fail)
      refine (ceil_any y1 dmin HDM.out (by omega) _).mono ?_
      rintro r w5 ⟨rfl, rfl⟩
      go_wp2_with (fail)
      refine (HU.out mx b (w3.drewN q4) (by exact HSC.out) HMN.out.2.2.1 HMN.out.2.2.2).mono ?_
      rintro r w6 ⟨rfl, q6, rfl⟩
      rw [E2.out]
      have eno : wrap64 (-(odd : Int)) = -(odd : Int) := by rw [← i64_left']; exact IntWalk.i64_in _ (by omega)
      go_wp2_with (fail)
      try rw [eno]
      obtain ⟨y2, hy2⟩ : ∃ y, x2 - odd = y := ⟨_, rfl⟩
      have HY2 := Hq0 hy2
      obtain ⟨dmax, hdx⟩ : ∃ y, y2 / 4 = y := ⟨_, rfl⟩
      have HDX := Hq0 hdx
      have hy2b : y2 < 1000000000000000000 := by omega
      clear hy2 hdx
      refine (nudge_any x2 y2 (-(odd : Int)) (by have := HY2.out; omega) (by omega) (by omega) (by omega) _).mono ?_
      rintro r w7 ⟨rfl, rfl⟩
      go_wp2_with (fail)
      refine (floor_any y2 dmax HDX.out (by omega) _).mono ?_
      rintro r w7 ⟨rfl, rfl⟩
      have hA : dmin < 300000000000000000 := by have := HDM.out; omega
      have hC : dmax < 300000000000000000 := by have := HDX.out; omega
      unfold ShO at HOO
      rw [HY1.out, HDM.out, HY2.out, HDX.out] at HOO
      clear eno h1 h2 h4
      have hd0 : IntKind.u64.wrap ((dmax : Int) / 10 * 10) = (dmax : Int) / 10 * 10 := by rw [IntKind.wrap_u64]; omega
      have eq1 : wrap64 (p - 1) = p - 1 := by rw [← i64_left']; exact IntWalk.i64_in _ (by have := HP.out; omega)
      have eq2 : Hid (wrap64 (-(p - 1)) = -(p - 1)) := Hq0 <| by rw [← i64_left']; exact IntWalk.i64_in _ (by have := HP.out; omega)
      have eq3 : Hid (wrap64 (-p) = -p) := Hq0 <| by rw [← i64_left']; exact IntWalk.i64_in _ (by have := HP.out; omega)
      rcases HOO.out with ⟨o1, o2, o3⟩ | ⟨o1, o2, o3, o4⟩ | ⟨o1, o2, o3, o4⟩
      · have c1 : (dmin : Int) ≤ (dmax : Int) / 10 * 10 := by omega
        have OO := Hq0 (And.intro o2 o3)
        clear o1 o2 o3 HOO
        go_wp2
        go_ret2
        exact ⟨by rw [OO.out.1, OO.out.2, eq2.out]; rfl, grown_trans HG3.out (by first | exact grown_drewN _ _ | exact grown_trans (grown_drewN _ _) (grown_drewN _ _))⟩
      · have c1 : ¬ (dmin : Int) ≤ (dmax : Int) / 10 * 10 := by omega
        have c2 : (dmin : Int) < (dmax : Int) := by omega
        have OO := Hq0 (And.intro o3 o4)
        clear o1 o2 o3 o4 HOO
        go_wp2_with (fail)
        refine (HU.out m b _ (by exact HSC.out) (by have := HE.out; omega) (by have := HE.out; omega)).mono ?_
        rintro r w8 ⟨rfl, q8, rfl⟩
        rw [E3.out]
        go_wp2_with (fail)
        refine (round_any x3 _ rfl (by omega) _).mono ?_
        rintro r w8 ⟨rfl, rfl⟩
        go_wp2
        go_ret2
        exact ⟨by rw [OO.out.1, OO.out.2, eq3.out]; rfl, grown_trans HG3.out (by first | exact grown_drewN _ _ | exact grown_trans (grown_drewN _ _) (grown_drewN _ _) | exact grown_trans (grown_drewN _ _) (grown_trans (grown_drewN _ _) (grown_drewN _ _)))⟩
      · have c1 : ¬ (dmin : Int) ≤ (dmax : Int) / 10 * 10 := by omega
        have c2 : ¬ (dmin : Int) < (dmax : Int) := by omega
        have OO := Hq0 (And.intro o3 o4)
        clear o1 o2 o3 o4 HOO
        go_wp2
        go_ret2
        exact ⟨by rw [OO.out.1, OO.out.2, eq3.out]; rfl, grown_trans HG3.out (by first | exact grown_drewN _ _ | exact grown_trans (grown_drewN _ _) (grown_drewN _ _))⟩
end Go.Proofs.YtjcfacinlgogaaaGreatDoor
