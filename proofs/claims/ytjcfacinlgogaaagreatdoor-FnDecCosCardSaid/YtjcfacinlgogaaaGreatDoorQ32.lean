/- A decimal of a constant float, by the numbers of its shortest text. Conditions: the tables as they are laid; the numbers checked. The decimals of the constants. Conditions: the tables as they are laid. -/
import Derived.Test.YtjcfacinlgogaaaGreatDoorQ22
import Derived.Test.YtjcfacinlgogaaaGreatDoorQ29
import Derived.Test.YtjcfacinlgogaaaGreatDoorQ31
set_option linter.all false
set_option maxRecDepth 100000
set_option exponentiation.threshold 2000
namespace Go.Proofs.YtjcfacinlgogaaaGreatDoor
open Go.RowKit
theorem nd_eq : ∀ (k d : Nat), 10 ^ k ≤ d → d < 10 ^ (k + 1) → Go.Lib.nDigits d = k + 1
  | 0, d, _, h => by rw [Go.Lib.nDigits_small (by simpa using h)]
  | k + 1, d, h1, h2 => by
    have h3 : (10 : Nat) ^ k ≤ d / 10 := by rw [Nat.pow_succ] at h1; omega
    have h4 : d / 10 < 10 ^ (k + 1) := by rw [Nat.pow_succ] at h2; omega
    have h5 : ¬ d < 10 := by
      have := Nat.pow_pos (n := k) (show 0 < 10 by decide)
      rw [Nat.pow_succ] at h1; omega
    rw [Go.Lib.nDigits_big (by omega), nd_eq k (d / 10) h3 h4]
theorem nz_uniq {d nd x y : Nat} (hx : x ≤ nd) (hy : y ≤ nd) (h1 : d % 10 ^ (nd - x) = 0) (h2 : d / 10 ^ (nd - x) % 10 ≠ 0) (g1 : d % 10 ^ (nd - y) = 0) (g2 : d / 10 ^ (nd - y) % 10 ≠ 0) : x = y := by
  have key : ∀ x y : Nat, x ≤ nd → y ≤ nd → x < y → d % 10 ^ (nd - x) = 0 → d / 10 ^ (nd - y) % 10 ≠ 0 → False := by
    intro x y hx hy hlt a1 a2
    have e : nd - x = nd - y + (1 + (y - x - 1)) := by omega
    obtain ⟨k, hk⟩ := Nat.dvd_of_mod_eq_zero a1
    rw [e, Nat.pow_add, Nat.pow_add] at hk
    apply a2
    rw [hk, Nat.mul_assoc, Nat.mul_div_cancel_left _ (Nat.pow_pos (by decide)), Nat.pow_one, Nat.mul_assoc, Nat.mul_mod_right]
  rcases Nat.lt_trichotomy x y with h | h | h
  · exact (key x y hx hy h h1 g2).elim
  · exact h
  · exact (key y x hy hx h g1 h2).elim
theorem dgB_in (d nd i : Nat) : 48 ≤ dgB d nd i ∧ dgB d nd i ≤ 57 := by unfold dgB; omega
theorem dgL_in (d nd nz : Nat) : ∀ x ∈ dgL (dgB d nd) nz, x = 46 ∨ (48 ≤ x ∧ x ≤ 57) := by
  intro x hx
  unfold dgL at hx
  rcases List.mem_cons.1 hx with h | h
  · exact .inr (h ▸ dgB_in _ _ _)
  · split at h
    · rcases List.mem_cons.1 h with h | h
      · exact .inl h
      · obtain ⟨i, _, rfl⟩ := List.mem_map.1 h
        exact .inr (dgB_in _ _ _)
    · cases h
theorem dgL_len (D : Nat → Int) (nz : Nat) (h : nz ≤ 18) : (dgL D nz).length ≤ 20 := by
  unfold dgL
  split <;> simp <;> omega
theorem us_any {sh hi lo : Nat} (hs : sh = 5 ∨ sh = 6 ∨ sh = 7 ∨ sh = 8) (hh : hi < 18446744073709551616) (hl : lo < 18446744073709551616) (hh2 : 9223372036854775808 ≤ hi) :
    ∀ (x b : Nat) (wx : World), wx.heap[b]? = some (scb hi lo (sh : Int)) → 4611686018427387904 ≤ x → x < 18446744073709551616 → Calls Tryz.prog 253 #[.int .u64 x, .pointer (some ⟨b, 0, none⟩)] wx fun e w' => e = .returned (.int .u64 (usP (2 ^ sh) x hi lo)) ∧ ∃ q, w' = wx.drewN q := by
  intro x b wx h1 h2 h3
  rcases hs with rfl | rfl | rfl | rfl
  · exact uscale_5 h1 h3 hh hl h2 hh2
  · exact uscale_6 h1 h3 hh hl h2 hh2
  · exact uscale_7 h1 h3 hh hl h2 hh2
  · exact uscale_8 h1 h3 hh hl h2 hh2
def tabQ : List (Nat × Nat × Nat) := [(363, 16384000000000000000, 0), (364, 10240000000000000000, 0), (365, 12800000000000000000, 0), (366, 16000000000000000000, 0), (367, 10000000000000000000, 0), (368, 12500000000000000000, 0), (369, 15625000000000000000, 0), (370, 9765625000000000000, 0), (371, 12207031250000000000, 0), (372, 15258789062500000000, 0), (373, 9536743164062500000, 0), (374, 11920928955078125000, 0), (375, 14901161193847656250, 0), (379, 18189894035458564759, 12898309332789100544)]
def TabC (w : World) : Prop := (∀ x ∈ tabQ, w.cell? ⟨8, x.1 * 2, none⟩ = some (.int .u64 (x.2.1 : Nat)) ∧ w.cell? ⟨8, x.1 * 2 + 1, none⟩ = some (.int .u64 (x.2.2 : Nat))) ∧ Lib.TabIs Tryz.prog w "internal/strconv.uint64pow10" .u64 Lib.pow10Tab
theorem TabC.same {w w' : World} (h : TabC w) (g : w.grownBy w' none) : TabC w' := ⟨fun x hx => ⟨keepc g (h.1 x hx).1, keepc g (h.1 x hx).2⟩, tab_keep g h.2⟩
def FOk (neg : Bool) (E F W m mn mx odd i hi lo sh d nd nz M : Nat) (e p q : Int) : Prop :=
  fW neg E F = W ∧ (1 ≤ E ∧ E ≤ 2046 ∧ F < 4503599627370496) ∧ e = (E : Int) - 1086 ∧ (4503599627370496 + F) * 2048 = m ∧ m < 18446744073709550000 ∧ (-1000 ≤ e ∧ e ≤ 1000) ∧
  ((m = 9223372036854775808 ∧ p = -(((e + 11) * 631305 - 261663) / 2097152) ∧ mn = m - 512 ∧ mx = m + 1024 ∧ odd = 0) ∨ (m ≠ 9223372036854775808 ∧ p = -((e + 11) * 78913 / 262144) ∧ mn = m - 1024 ∧ mx = m + 1024 ∧ odd = m / 2048 % 2)) ∧
  p + 348 = i ∧ i ≤ 695 ∧ (sh : Int) = -(e + p * 108853 / 32768 + 3) ∧ (sh = 5 ∨ sh = 6 ∨ sh = 7 ∨ sh = 8) ∧ (hi < 18446744073709551616 ∧ lo < 18446744073709551616 ∧ 9223372036854775808 ≤ hi) ∧
  (usP (2 ^ sh) mn hi lo < 1000000000000000000 ∧ usP (2 ^ sh) mx hi lo < 1000000000000000000 ∧ usP (2 ^ sh) m hi lo < 1000000000000000000 ∧ 1 ≤ usP (2 ^ sh) mx hi lo) ∧
  ((((usP (2 ^ sh) mn hi lo) + odd + 3) / 4 ≤ ((usP (2 ^ sh) mx hi lo) - odd) / 4 / 10 * 10 ∧ d = ((usP (2 ^ sh) mx hi lo) - odd) / 4 / 10 ∧ q = -(p - 1)) ∨
   (((usP (2 ^ sh) mx hi lo) - odd) / 4 / 10 * 10 < ((usP (2 ^ sh) mn hi lo) + odd + 3) / 4 ∧ ((usP (2 ^ sh) mn hi lo) + odd + 3) / 4 < ((usP (2 ^ sh) mx hi lo) - odd) / 4 ∧ d = ((usP (2 ^ sh) m hi lo) + 1 + (usP (2 ^ sh) m hi lo) / 4 % 2) / 4 ∧ q = -p) ∨
   (((usP (2 ^ sh) mx hi lo) - odd) / 4 / 10 * 10 < ((usP (2 ^ sh) mn hi lo) + odd + 3) / 4 ∧ ¬ ((usP (2 ^ sh) mn hi lo) + odd + 3) / 4 < ((usP (2 ^ sh) mx hi lo) - odd) / 4 ∧ d = ((usP (2 ^ sh) mn hi lo) + odd + 3) / 4 ∧ q = -p)) ∧
  (1 ≤ nd ∧ nd ≤ 18 ∧ 10 ^ (nd - 1) ≤ d ∧ d < 10 ^ nd) ∧ (-98 ≤ (nd : Int) + q ∧ (nd : Int) + q ≤ 99) ∧ (nz ≤ nd ∧ 1 ≤ nz ∧ d % 10 ^ (nd - nz) = 0 ∧ d / 10 ^ (nd - nz) % 10 ≠ 0) ∧ mv (dgL (dgB d nd) nz) = ((M : Int), nz) ∧
  (FloatKind.f64.format.order W 0 == some Ordering.eq) = false
theorem nff_of {w : World} {neg : Bool} {E F W m mn mx odd i hi lo sh d nd nz M : Nat} {e p q : Int} (hC : TabC w) (hI : (i, hi, lo) ∈ tabQ) (h : FOk neg E F W m mn mx odd i hi lo sh d nd nz M e p q) :
    Calls Tryz.prog 98 #[.float .f64 W, .int .i64 64] w fun r w' => DecNew w w' r (if neg then -(M : Int) else M) ((nd : Int) + q - 1 - nz + 1) := by
  obtain ⟨a1, ⟨a2, a3, a4⟩, a5, a6, a7, a8, a9, b1, b2, b3, b4, ⟨b5, b6, b7⟩, ⟨c1, c2, c3, c4⟩, c5, ⟨d1, d2, d3, d4⟩, ⟨d5, d6⟩, ⟨e1, e2, e3, e4⟩, e5, e6⟩ := h
  have hd18 : d < 1000000000000000000 := by
    have := Nat.pow_le_pow_right (n := 10) (by decide) d2
    omega
  have hd1 : 1 ≤ d := by have := Nat.pow_pos (n := nd - 1) (show 0 < 10 by decide); omega
  have hnd : Go.Lib.nDigits d = nd := by
    have := nd_eq (nd - 1) d d3 (by rw [show nd - 1 + 1 = nd by omega]; exact d4)
    omega
  have hm : 9223372036854775808 ≤ m := by omega
  have hSF : ∀ wx, w.grownBy wx none → Calls Tryz.prog 218 #[.int .u64 (m : Nat), .int .i64 e] wx fun r w' => r = .returned (.tuple #[.int .u64 d, .int .i64 q]) ∧ wx.grownBy w' none := by
    intro wx g
    have hq := (hC.same g).1 _ hI
    exact shortFloat_any (fun x => usP (2 ^ sh) x hi lo) hm a7 a8.1 a8.2 a9 b1 b2 hq.1 hq.2 b3 (us_any b4 b5 b6 b7) c1 c2 c3 c4 c5
  have hWlt : W < 18446744073709551616 := by rw [← a1]; unfold fW; split <;> omega
  have hWf : W % 9223372036854775808 < 9218868437227405312 := by rw [← a1]; unfold fW; split <;> omega
  have hmv := e5
  refine newFromFloat_any (t := dgL (dgB d nd) nz) (ex := (nd : Int) + q - 1) (c := nz) (a := ((nd : Int) + q - 1).natAbs) hWf hWlt ?_ (dgL_in d nd nz) (dgL_len _ _ (by omega)) ⟨_, rfl, by have := dgB_in d nd 0; omega⟩ hmv (by omega) rfl (by omega)
  intro wx bd g hB
  refine appendFloat_any ((ftoa64_any a1 a2 a3 a4 hB a5 a6 (fun wy gy => hSF wy (grown_trans g gy)) hd1 hd18 hnd d5 d6 (hC.same g).2).mono ?_)
  rintro r w' ⟨nz', z1, z2, z3, z4, n, rfl, hl, hb⟩
  have hz : nz' = nz := nz_uniq z1 e1 z3 z4 e3 e4
  subst hz
  exact ⟨n, rfl, n, rfl, hl, hb⟩
theorem NewFromFloat_to {w : World} {W : Nat} {n' e' : Int} (H : ∀ wx, w.grownBy wx none → Calls Tryz.prog 98 #[.float .f64 W, .int .i64 64] wx fun r w' => DecNew wx w' r n' e') (hz : (FloatKind.f64.format.order W 0 == some Ordering.eq) = false) :
    Calls Tryz.prog 68 #[.float .f64 W] w fun r w' => DecNew w w' r n' e' := by
  have h1 : Hid ((w.alloc (.cells #[.pointer none, .int .i32 0] 56)).heap[w.heap.size]? = some dnil) := heap_new w dnil
  have hg := Hq0 (World.grownBy_alloc w (.cells #[.pointer none, .int .i32 0] 56) none)
  have HN := Hq0 (H _ hg.out)
  clear H
  go_enter Tryz.func68, Tryz.ntmps68
  go_wp2_with (fail)
  refine HN.out.mono ?_
  rintro r w1 ⟨b, v, rfl, hb, hx, g1⟩
  have hr := kpb g1 h1.out
  have hlt : w.heap.size < b := by have := (Array.getElem?_eq_some_iff.1 h1.out).1; omega
  have HD := Hq0 (fin_of (e2 := e') hr hx (by omega) (grown_trans hg.out g1) (Nat.le_refl _))
  obtain ⟨r0, r1, r2, r3⟩ := cell_dnil hr
  clear hr hx g1 hb HN hz
  unfold decV
  go_wp2
  have hD := HD.out
  clear HD
  generalize (w1.setCell ⟨w.heap.size, 0, none⟩ (.pointer (some ⟨b, 0, none⟩))).setCell ⟨w.heap.size, 1, none⟩ (.int .i32 e') = w9 at *
  obtain ⟨s0, s1, hbx, hg5⟩ := hD
  have HF5 := Hq0 (And.intro hbx hg5)
  clear hbx hg5 r0 r1 r2 r3
  refine bodyPost_ret (v := decV b e') (by simp [results, Tryz.func68, go_sem, s0, s1, decV]; try rfl) rfl ?_
  exact ⟨b, v, rfl, by omega, HF5.out.1, HF5.out.2⟩
theorem flt_j0 {w : World} : Calls Tryz.prog 68 #[.float .f64 0] w fun r w' => DecNew w w' r 0 0 := by
  have h1 : Hid ((w.alloc (.cells #[.pointer none, .int .i32 0] 56)).heap[w.heap.size]? = some dnil) := heap_new w dnil
  have hg := Hq0 (World.grownBy_alloc w (.cells #[.pointer none, .int .i32 0] 56) none)
  have HN := Hq0 (fun wx => New_any 0 0 wx (by unfold S64; decide))
  go_enter Tryz.func68, Tryz.ntmps68
  go_wp2_with (fail)
  refine (HN.out _).mono ?_
  rintro r w1 ⟨b, v, rfl, hb, hx, g1⟩
  have hr := kpb g1 h1.out
  have hlt : w.heap.size < b := by have := (Array.getElem?_eq_some_iff.1 h1.out).1; omega
  have HD := Hq0 (fin_of (e2 := 0) hr hx (by omega) (grown_trans hg.out g1) (Nat.le_refl _))
  obtain ⟨r0, r1, r2, r3⟩ := cell_dnil hr
  clear hr hx g1 hb HN
  unfold decV
  go_wp2
  have hD := HD.out
  clear HD
  generalize (w1.setCell ⟨w.heap.size, 0, none⟩ (.pointer (some ⟨b, 0, none⟩))).setCell ⟨w.heap.size, 1, none⟩ (.int .i32 0) = w9 at *
  obtain ⟨s0, s1, hbx, hg5⟩ := hD
  have HF5 := Hq0 (And.intro hbx hg5)
  clear hbx hg5 r0 r1 r2 r3
  refine bodyPost_ret (v := decV b 0) (by simp [results, Tryz.func68, go_sem, s0, s1, decV]; try rfl) rfl ?_
  exact ⟨b, v, rfl, by omega, HF5.out.1, HF5.out.2⟩
theorem NewFromFloat_of {w : World} {neg : Bool} {E F W m mn mx odd i hi lo sh d nd nz M : Nat} {e p q : Int} (n' e' : Int) (hC : TabC w) (hI : (i, hi, lo) ∈ tabQ) (h : FOk neg E F W m mn mx odd i hi lo sh d nd nz M e p q) (hn : (if neg then -(M : Int) else M) = n') (he : (nd : Int) + q - 1 - nz + 1 = e') :
    Calls Tryz.prog 68 #[.float .f64 W] w fun r w' => DecNew w w' r n' e' := by
  refine NewFromFloat_to (fun wx g => ?_) ?_
  · have := nff_of (hC.same g) hI h
    rw [hn, he] at this
    exact this
  · unfold FOk at h; exact h.2.2.2.2.2.2.2.2.2.2.2.2.2.2.2.2.2.2
end Go.Proofs.YtjcfacinlgogaaaGreatDoor
namespace Go.Proofs.YtjcfacinlgogaaaGreatDoor
open Go.RowKit
theorem flt_pi4A {w : World} (hC : TabC w) : Calls Tryz.prog 68 #[.float .f64 4605249456957292544] w fun r w' => DecNew w w' r (7853981256484985) (-16) :=
  NewFromFloat_of (neg := false) (E := 1022) (F := 2570637784645632) (m := 14488038219809030144) (mn := 14488038219809029120) (mx := 14488038219809031168) (odd := 0) (i := 364) (hi := 10240000000000000000) (lo := 0) (sh := 8) (d := 7853981256484985) (nd := 16) (nz := 16) (M := 7853981256484985) (e := -64) (p := 16) (q := -16) (7853981256484985) (-16) hC (by decide +kernel) (by unfold FOk; decide +kernel) (by decide) (by decide)
theorem flt_pi4B {w : World} (hC : TabC w) : Calls Tryz.prog 68 #[.float .f64 4495793288086814720] w fun r w' => DecNew w w' r (3774894707930798) (-23) :=
  NewFromFloat_of (neg := false) (E := 998) (F := 1200859971059712) (m := 11682733257585065984) (mn := 11682733257585064960) (mx := 11682733257585067008) (odd := 0) (i := 372) (hi := 15258789062500000000) (lo := 0) (sh := 6) (d := 3774894707930798) (nd := 16) (nz := 16) (M := 3774894707930798) (e := -88) (p := 24) (q := -23) (3774894707930798) (-23) hC (by decide +kernel) (by unfold FOk; decide +kernel) (by decide) (by decide)
theorem flt_pi4C {w : World} (hC : TabC w) : Calls Tryz.prog 68 #[.float .f64 4388835458085048688] w fun r w' => DecNew w w' r (26951514290790595) (-31) :=
  NewFromFloat_of (neg := false) (E := 974) (F := 2329421026185584) (m := 13994026298482851840) (mn := 13994026298482850816) (mx := 13994026298482852864) (odd := 0) (i := 379) (hi := 18189894035458564759) (lo := 12898309332789100544) (sh := 7) (d := 26951514290790595) (nd := 17) (nz := 17) (M := 26951514290790595) (e := -112) (p := 31) (q := -31) (26951514290790595) (-31) hC (by decide +kernel) (by unfold FOk; decide +kernel) (by decide) (by decide)
theorem flt_m4PI {w : World} (hC : TabC w) : Calls Tryz.prog 68 #[.float .f64 4608412980311869570] w fun r w' => DecNew w w' r (12732395447351625) (-16) :=
  NewFromFloat_of (neg := false) (E := 1023) (F := 1230561511852162) (m := 11743562013128003584) (mn := 11743562013128002560) (mx := 11743562013128004608) (odd := 0) (i := 364) (hi := 10240000000000000000) (lo := 0) (sh := 7) (d := 12732395447351625) (nd := 17) (nz := 17) (M := 12732395447351625) (e := -63) (p := 16) (q := -16) (12732395447351625) (-16) hC (by decide +kernel) (by unfold FOk; decide +kernel) (by decide) (by decide)
theorem flt_cos0 {w : World} (hC : TabC w) : Calls Tryz.prog 68 #[.float .f64 13666448263388469915] w fun r w' => DecNew w w' r (-11358536521387682) (-27) :=
  NewFromFloat_of (neg := true) (E := 986) (F := 2526993946385051) (m := 14398655639051360256) (mn := 14398655639051359232) (mx := 14398655639051361280) (odd := 1) (i := 375) (hi := 14901161193847656250) (lo := 0) (sh := 8) (d := 11358536521387682) (nd := 17) (nz := 17) (M := 11358536521387682) (e := -100) (p := 27) (q := -27) (-11358536521387682) (-27) hC (by decide +kernel) (by unfold FOk; decide +kernel) (by decide) (by decide)
theorem flt_cos1 {w : World} (hC : TabC w) : Calls Tryz.prog 68 #[.float .f64 4477121864728985349] w fun r w' => DecNew w w' r (2087570084197473) (-24) :=
  NewFromFloat_of (neg := false) (E := 994) (F := 543835122712325) (m := 10337146368169617408) (mn := 10337146368169616384) (mx := 10337146368169618432) (odd := 1) (i := 373) (hi := 9536743164062500000) (lo := 0) (sh := 6) (d := 2087570084197473) (nd := 16) (nz := 16) (M := 2087570084197473) (e := -92) (p := 25) (q := -24) (2087570084197473) (-24) hC (by decide +kernel) (by unfold FOk; decide +kernel) (by decide) (by decide)
theorem flt_cos2 {w : World} (hC : TabC w) : Calls Tryz.prog 68 #[.float .f64 13732177093698800582] w fun r w' => DecNew w w' r (-2755731417929674) (-22) :=
  NewFromFloat_of (neg := true) (E := 1001) (F := 701829846158278) (m := 10660719561786929152) (mn := 10660719561786928128) (mx := 10660719561786930176) (odd := 0) (i := 371) (hi := 12207031250000000000) (lo := 0) (sh := 6) (d := 2755731417929674) (nd := 16) (nz := 16) (M := 2755731417929674) (e := -85) (p := 23) (q := -22) (-2755731417929674) (-22) hC (by decide +kernel) (by unfold FOk; decide +kernel) (by decide) (by decide)
theorem flt_cos3 {w : World} (hC : TabC w) : Calls Tryz.prog 68 #[.float .f64 4537941361668146421] w fun r w' => DecNew w w' r (24801587288851704) (-21) :=
  NewFromFloat_of (neg := false) (E := 1007) (F := 2816536906056949) (m := 14991639620459407360) (mn := 14991639620459406336) (mx := 14991639620459408384) (odd := 1) (i := 369) (hi := 15625000000000000000) (lo := 0) (sh := 7) (d := 24801587288851704) (nd := 17) (nz := 17) (M := 24801587288851704) (e := -79) (p := 21) (q := -21) (24801587288851704) (-21) hC (by decide +kernel) (by unfold FOk; decide +kernel) (by decide) (by decide)
theorem flt_cos4 {w : World} (hC : TabC w) : Calls Tryz.prog 68 #[.float .f64 13787419979223748497] w fun r w' => DecNew w w' r (-13888888888873056) (-19) :=
  NewFromFloat_of (neg := true) (E := 1013) (F := 1901519842660241) (m := 13117684674622949376) (mn := 13117684674622948352) (mx := 13117684674622950400) (odd := 1) (i := 367) (hi := 10000000000000000000) (lo := 0) (sh := 7) (d := 13888888888873056) (nd := 17) (nz := 17) (M := 13888888888873056) (e := -73) (p := 19) (q := -19) (-13888888888873056) (-19) hC (by decide +kernel) (by unfold FOk; decide +kernel) (by decide) (by decide)
theorem flt_cos5 {w : World} (hC : TabC w) : Calls Tryz.prog 68 #[.float .f64 4586165620538955083] w fun r w' => DecNew w w' r (41666666666666595) (-18) :=
  NewFromFloat_of (neg := false) (E := 1018) (F := 1501199875790155) (m := 12297829382473013248) (mn := 12297829382473012224) (mx := 12297829382473014272) (odd := 1) (i := 366) (hi := 16000000000000000000) (lo := 0) (sh := 6) (d := 41666666666666595) (nd := 17) (nz := 17) (M := 41666666666666595) (e := -68) (p := 18) (q := -18) (41666666666666595) (-18) hC (by decide +kernel) (by unfold FOk; decide +kernel) (by decide) (by decide)
theorem flt_sin0 {w : World} (hC : TabC w) : Calls Tryz.prog 68 #[.float .f64 4460209587652500685] w fun r w' => DecNew w w' r (15896230157654656) (-26) :=
  NewFromFloat_of (neg := false) (E := 990) (F := 1645956555709645) (m := 12594291062948128768) (mn := 12594291062948127744) (mx := 12594291062948129792) (odd := 1) (i := 374) (hi := 11920928955078125000) (lo := 0) (sh := 7) (d := 15896230157654656) (nd := 17) (nz := 17) (M := 15896230157654656) (e := -96) (p := 26) (q := -26) (15896230157654656) (-26) hC (by decide +kernel) (by unfold FOk; decide +kernel) (by decide) (by decide)
theorem flt_sin1 {w : World} (hC : TabC w) : Calls Tryz.prog 68 #[.float .f64 13716528389658582877] w fun r w' => DecNew w w' r (-25050747762857807) (-24) :=
  NewFromFloat_of (neg := true) (E := 997) (F := 3067524315422557) (m := 15505661834840172544) (mn := 15505661834840171520) (mx := 15505661834840173568) (odd := 1) (i := 372) (hi := 15258789062500000000) (lo := 0) (sh := 7) (d := 25050747762857807) (nd := 17) (nz := 17) (M := 25050747762857807) (e := -89) (p := 24) (q := -24) (-25050747762857807) (-24) hC (by decide +kernel) (by unfold FOk; decide +kernel) (by decide) (by decide)
theorem flt_sin2 {w : World} (hC : TabC w) : Calls Tryz.prog 68 #[.float .f64 4523617212962785441] w fun r w' => DecNew w w' r (27557313621385722) (-22) :=
  NewFromFloat_of (neg := false) (E := 1004) (F := 2003187082807457) (m := 13325899182444447744) (mn := 13325899182444446720) (mx := 13325899182444448768) (odd := 1) (i := 370) (hi := 9765625000000000000) (lo := 0) (sh := 6) (d := 27557313621385722) (nd := 17) (nz := 17) (M := 27557313621385722) (e := -82) (p := 22) (q := -22) (27557313621385722) (-22) hC (by decide +kernel) (by unfold FOk; decide +kernel) (by decide) (by decide)
theorem flt_sin3 {w : World} (hC : TabC w) : Calls Tryz.prog 68 #[.float .f64 13774824197404483331] w fun r w' => DecNew w w' r (-1984126982958954) (-19) :=
  NewFromFloat_of (neg := true) (E := 1010) (F := 2816536905506563) (m := 14991639619332216832) (mn := 14991639619332215808) (mx := 14991639619332217856) (odd := 1) (i := 368) (hi := 12500000000000000000) (lo := 0) (sh := 7) (d := 1984126982958954) (nd := 16) (nz := 16) (M := 1984126982958954) (e := -76) (p := 20) (q := -19) (-1984126982958954) (-19) hC (by decide +kernel) (by unfold FOk; decide +kernel) (by decide) (by decide)
theorem flt_sin4 {w : World} (hC : TabC w) : Calls Tryz.prog 68 #[.float .f64 4575957461383575504] w fun r w' => DecNew w w' r (8333333333322118) (-18) :=
  NewFromFloat_of (neg := false) (E := 1016) (F := 300239975151568) (m := 9838263505965187072) (mn := 9838263505965186048) (mx := 9838263505965188096) (odd := 0) (i := 366) (hi := 16000000000000000000) (lo := 0) (sh := 8) (d := 8333333333322118) (nd := 16) (nz := 16) (M := 8333333333322118) (e := -70) (p := 18) (q := -18) (8333333333322118) (-18) hC (by decide +kernel) (by unfold FOk; decide +kernel) (by decide) (by decide)
theorem flt_sin5 {w : World} (hC : TabC w) : Calls Tryz.prog 68 #[.float .f64 13818544856648471880] w fun r w' => DecNew w w' r (-1666666666666663) (-16) :=
  NewFromFloat_of (neg := true) (E := 1020) (F := 1501199875790152) (m := 12297829382473007104) (mn := 12297829382473006080) (mx := 12297829382473008128) (odd := 0) (i := 365) (hi := 12800000000000000000) (lo := 0) (sh := 7) (d := 1666666666666663) (nd := 16) (nz := 16) (M := 1666666666666663) (e := -66) (p := 17) (q := -16) (-1666666666666663) (-16) hC (by decide +kernel) (by unfold FOk; decide +kernel) (by decide) (by decide)
theorem flt_j1 {w : World} (hC : TabC w) : Calls Tryz.prog 68 #[.float .f64 4607182418800017408] w fun r w' => DecNew w w' r (1) (0) :=
  NewFromFloat_of (neg := false) (E := 1023) (F := 0) (m := 9223372036854775808) (mn := 9223372036854775296) (mx := 9223372036854776832) (odd := 0) (i := 364) (hi := 10240000000000000000) (lo := 0) (sh := 7) (d := 1000000000000000) (nd := 16) (nz := 1) (M := 1) (e := -63) (p := 16) (q := -15) (1) (0) hC (by decide +kernel) (by unfold FOk; decide +kernel) (by decide) (by decide)
theorem flt_j2 {w : World} (hC : TabC w) : Calls Tryz.prog 68 #[.float .f64 4611686018427387904] w fun r w' => DecNew w w' r (2) (0) :=
  NewFromFloat_of (neg := false) (E := 1024) (F := 0) (m := 9223372036854775808) (mn := 9223372036854775296) (mx := 9223372036854776832) (odd := 0) (i := 364) (hi := 10240000000000000000) (lo := 0) (sh := 6) (d := 2000000000000000) (nd := 16) (nz := 1) (M := 2) (e := -62) (p := 16) (q := -15) (2) (0) hC (by decide +kernel) (by unfold FOk; decide +kernel) (by decide) (by decide)
theorem flt_j3 {w : World} (hC : TabC w) : Calls Tryz.prog 68 #[.float .f64 4613937818241073152] w fun r w' => DecNew w w' r (3) (0) :=
  NewFromFloat_of (neg := false) (E := 1024) (F := 2251799813685248) (m := 13835058055282163712) (mn := 13835058055282162688) (mx := 13835058055282164736) (odd := 0) (i := 364) (hi := 10240000000000000000) (lo := 0) (sh := 6) (d := 3000000000000000) (nd := 16) (nz := 1) (M := 3) (e := -62) (p := 16) (q := -15) (3) (0) hC (by decide +kernel) (by unfold FOk; decide +kernel) (by decide) (by decide)
theorem flt_j4 {w : World} (hC : TabC w) : Calls Tryz.prog 68 #[.float .f64 4616189618054758400] w fun r w' => DecNew w w' r (4) (0) :=
  NewFromFloat_of (neg := false) (E := 1025) (F := 0) (m := 9223372036854775808) (mn := 9223372036854775296) (mx := 9223372036854776832) (odd := 0) (i := 364) (hi := 10240000000000000000) (lo := 0) (sh := 5) (d := 4000000000000000) (nd := 16) (nz := 1) (M := 4) (e := -61) (p := 16) (q := -15) (4) (0) hC (by decide +kernel) (by unfold FOk; decide +kernel) (by decide) (by decide)
theorem flt_j5 {w : World} (hC : TabC w) : Calls Tryz.prog 68 #[.float .f64 4617315517961601024] w fun r w' => DecNew w w' r (5) (0) :=
  NewFromFloat_of (neg := false) (E := 1025) (F := 1125899906842624) (m := 11529215046068469760) (mn := 11529215046068468736) (mx := 11529215046068470784) (odd := 0) (i := 364) (hi := 10240000000000000000) (lo := 0) (sh := 5) (d := 5000000000000000) (nd := 16) (nz := 1) (M := 5) (e := -61) (p := 16) (q := -15) (5) (0) hC (by decide +kernel) (by unfold FOk; decide +kernel) (by decide) (by decide)
theorem flt_j6 {w : World} (hC : TabC w) : Calls Tryz.prog 68 #[.float .f64 4618441417868443648] w fun r w' => DecNew w w' r (6) (0) :=
  NewFromFloat_of (neg := false) (E := 1025) (F := 2251799813685248) (m := 13835058055282163712) (mn := 13835058055282162688) (mx := 13835058055282164736) (odd := 0) (i := 364) (hi := 10240000000000000000) (lo := 0) (sh := 5) (d := 6000000000000000) (nd := 16) (nz := 1) (M := 6) (e := -61) (p := 16) (q := -15) (6) (0) hC (by decide +kernel) (by unfold FOk; decide +kernel) (by decide) (by decide)
theorem flt_j7 {w : World} (hC : TabC w) : Calls Tryz.prog 68 #[.float .f64 4619567317775286272] w fun r w' => DecNew w w' r (7) (0) :=
  NewFromFloat_of (neg := false) (E := 1025) (F := 3377699720527872) (m := 16140901064495857664) (mn := 16140901064495856640) (mx := 16140901064495858688) (odd := 0) (i := 364) (hi := 10240000000000000000) (lo := 0) (sh := 5) (d := 7000000000000000) (nd := 16) (nz := 1) (M := 7) (e := -61) (p := 16) (q := -15) (7) (0) hC (by decide +kernel) (by unfold FOk; decide +kernel) (by decide) (by decide)
theorem flt_j8 {w : World} (hC : TabC w) : Calls Tryz.prog 68 #[.float .f64 4620693217682128896] w fun r w' => DecNew w w' r (8) (0) :=
  NewFromFloat_of (neg := false) (E := 1026) (F := 0) (m := 9223372036854775808) (mn := 9223372036854775296) (mx := 9223372036854776832) (odd := 0) (i := 363) (hi := 16384000000000000000) (lo := 0) (sh := 8) (d := 800000000000000) (nd := 15) (nz := 1) (M := 8) (e := -60) (p := 15) (q := -14) (8) (0) hC (by decide +kernel) (by unfold FOk; decide +kernel) (by decide) (by decide)
theorem flt_j9 {w : World} (hC : TabC w) : Calls Tryz.prog 68 #[.float .f64 4621256167635550208] w fun r w' => DecNew w w' r (9) (0) :=
  NewFromFloat_of (neg := false) (E := 1026) (F := 562949953421312) (m := 10376293541461622784) (mn := 10376293541461621760) (mx := 10376293541461623808) (odd := 0) (i := 363) (hi := 16384000000000000000) (lo := 0) (sh := 8) (d := 900000000000000) (nd := 15) (nz := 1) (M := 9) (e := -60) (p := 15) (q := -14) (9) (0) hC (by decide +kernel) (by unfold FOk; decide +kernel) (by decide) (by decide)
theorem flt_j10 {w : World} (hC : TabC w) : Calls Tryz.prog 68 #[.float .f64 4621819117588971520] w fun r w' => DecNew w w' r (1) (1) :=
  NewFromFloat_of (neg := false) (E := 1026) (F := 1125899906842624) (m := 11529215046068469760) (mn := 11529215046068468736) (mx := 11529215046068470784) (odd := 0) (i := 363) (hi := 16384000000000000000) (lo := 0) (sh := 8) (d := 1000000000000000) (nd := 16) (nz := 1) (M := 1) (e := -60) (p := 15) (q := -14) (1) (1) hC (by decide +kernel) (by unfold FOk; decide +kernel) (by decide) (by decide)
theorem flt_j11 {w : World} (hC : TabC w) : Calls Tryz.prog 68 #[.float .f64 4622382067542392832] w fun r w' => DecNew w w' r (11) (0) :=
  NewFromFloat_of (neg := false) (E := 1026) (F := 1688849860263936) (m := 12682136550675316736) (mn := 12682136550675315712) (mx := 12682136550675317760) (odd := 0) (i := 363) (hi := 16384000000000000000) (lo := 0) (sh := 8) (d := 1100000000000000) (nd := 16) (nz := 2) (M := 11) (e := -60) (p := 15) (q := -14) (11) (0) hC (by decide +kernel) (by unfold FOk; decide +kernel) (by decide) (by decide)
theorem flt_j12 {w : World} (hC : TabC w) : Calls Tryz.prog 68 #[.float .f64 4622945017495814144] w fun r w' => DecNew w w' r (12) (0) :=
  NewFromFloat_of (neg := false) (E := 1026) (F := 2251799813685248) (m := 13835058055282163712) (mn := 13835058055282162688) (mx := 13835058055282164736) (odd := 0) (i := 363) (hi := 16384000000000000000) (lo := 0) (sh := 8) (d := 1200000000000000) (nd := 16) (nz := 2) (M := 12) (e := -60) (p := 15) (q := -14) (12) (0) hC (by decide +kernel) (by unfold FOk; decide +kernel) (by decide) (by decide)
theorem c_pi4A {w : World} (hC : TabC w) : Calls Tryz.prog 60 #[] w fun r w' => DecNew w w' r (7853981256484985) (-16) := by
  have h1 : Hid ((w.alloc (.cells #[.pointer none, .int .i32 0] 56)).heap[w.heap.size]? = some dnil) := heap_new w dnil
  have hg := Hq0 (World.grownBy_alloc w (.cells #[.pointer none, .int .i32 0] 56) none)
  have HN := Hq0 (flt_pi4A (hC.same hg.out))
  clear hC
  go_enter Tryz.func60, Tryz.ntmps60
  go_wp2_with (fail)
  refine HN.out.mono ?_
  rintro r w1 ⟨b, v, rfl, hb, hx, g1⟩
  have hr := kpb g1 h1.out
  have hlt : w.heap.size < b := by have := (Array.getElem?_eq_some_iff.1 h1.out).1; omega
  have HD := Hq0 (fin_of (e2 := -16) hr hx (by omega) (grown_trans hg.out g1) (Nat.le_refl _))
  obtain ⟨r0, r1, r2, r3⟩ := cell_dnil hr
  clear hr hx g1 hb HN
  unfold decV
  go_wp2
  have hD := HD.out
  clear HD
  generalize (w1.setCell ⟨w.heap.size, 0, none⟩ (.pointer (some ⟨b, 0, none⟩))).setCell ⟨w.heap.size, 1, none⟩ (.int .i32 (-16)) = w9 at *
  obtain ⟨s0, s1, hbx, hg5⟩ := hD
  have HF5 := Hq0 (And.intro hbx hg5)
  clear hbx hg5 r0 r1 r2 r3
  refine bodyPost_ret (v := decV b (-16)) (by simp [results, Tryz.func60, go_sem, s0, s1, decV]; try rfl) rfl ?_
  exact ⟨b, v, rfl, by omega, HF5.out.1, HF5.out.2⟩
theorem c_pi4B {w : World} (hC : TabC w) : Calls Tryz.prog 61 #[] w fun r w' => DecNew w w' r (3774894707930798) (-23) := by
  have h1 : Hid ((w.alloc (.cells #[.pointer none, .int .i32 0] 56)).heap[w.heap.size]? = some dnil) := heap_new w dnil
  have hg := Hq0 (World.grownBy_alloc w (.cells #[.pointer none, .int .i32 0] 56) none)
  have HN := Hq0 (flt_pi4B (hC.same hg.out))
  clear hC
  go_enter Tryz.func61, Tryz.ntmps61
  go_wp2_with (fail)
  refine HN.out.mono ?_
  rintro r w1 ⟨b, v, rfl, hb, hx, g1⟩
  have hr := kpb g1 h1.out
  have hlt : w.heap.size < b := by have := (Array.getElem?_eq_some_iff.1 h1.out).1; omega
  have HD := Hq0 (fin_of (e2 := -23) hr hx (by omega) (grown_trans hg.out g1) (Nat.le_refl _))
  obtain ⟨r0, r1, r2, r3⟩ := cell_dnil hr
  clear hr hx g1 hb HN
  unfold decV
  go_wp2
  have hD := HD.out
  clear HD
  generalize (w1.setCell ⟨w.heap.size, 0, none⟩ (.pointer (some ⟨b, 0, none⟩))).setCell ⟨w.heap.size, 1, none⟩ (.int .i32 (-23)) = w9 at *
  obtain ⟨s0, s1, hbx, hg5⟩ := hD
  have HF5 := Hq0 (And.intro hbx hg5)
  clear hbx hg5 r0 r1 r2 r3
  refine bodyPost_ret (v := decV b (-23)) (by simp [results, Tryz.func61, go_sem, s0, s1, decV]; try rfl) rfl ?_
  exact ⟨b, v, rfl, by omega, HF5.out.1, HF5.out.2⟩
theorem c_pi4C {w : World} (hC : TabC w) : Calls Tryz.prog 62 #[] w fun r w' => DecNew w w' r (26951514290790595) (-31) := by
  have h1 : Hid ((w.alloc (.cells #[.pointer none, .int .i32 0] 56)).heap[w.heap.size]? = some dnil) := heap_new w dnil
  have hg := Hq0 (World.grownBy_alloc w (.cells #[.pointer none, .int .i32 0] 56) none)
  have HN := Hq0 (flt_pi4C (hC.same hg.out))
  clear hC
  go_enter Tryz.func62, Tryz.ntmps62
  go_wp2_with (fail)
  refine HN.out.mono ?_
  rintro r w1 ⟨b, v, rfl, hb, hx, g1⟩
  have hr := kpb g1 h1.out
  have hlt : w.heap.size < b := by have := (Array.getElem?_eq_some_iff.1 h1.out).1; omega
  have HD := Hq0 (fin_of (e2 := -31) hr hx (by omega) (grown_trans hg.out g1) (Nat.le_refl _))
  obtain ⟨r0, r1, r2, r3⟩ := cell_dnil hr
  clear hr hx g1 hb HN
  unfold decV
  go_wp2
  have hD := HD.out
  clear HD
  generalize (w1.setCell ⟨w.heap.size, 0, none⟩ (.pointer (some ⟨b, 0, none⟩))).setCell ⟨w.heap.size, 1, none⟩ (.int .i32 (-31)) = w9 at *
  obtain ⟨s0, s1, hbx, hg5⟩ := hD
  have HF5 := Hq0 (And.intro hbx hg5)
  clear hbx hg5 r0 r1 r2 r3
  refine bodyPost_ret (v := decV b (-31)) (by simp [results, Tryz.func62, go_sem, s0, s1, decV]; try rfl) rfl ?_
  exact ⟨b, v, rfl, by omega, HF5.out.1, HF5.out.2⟩
theorem c_m4PI {w : World} (hC : TabC w) : Calls Tryz.prog 63 #[] w fun r w' => DecNew w w' r (12732395447351625) (-16) := by
  have h1 : Hid ((w.alloc (.cells #[.pointer none, .int .i32 0] 56)).heap[w.heap.size]? = some dnil) := heap_new w dnil
  have hg := Hq0 (World.grownBy_alloc w (.cells #[.pointer none, .int .i32 0] 56) none)
  have HN := Hq0 (flt_m4PI (hC.same hg.out))
  clear hC
  go_enter Tryz.func63, Tryz.ntmps63
  go_wp2_with (fail)
  refine HN.out.mono ?_
  rintro r w1 ⟨b, v, rfl, hb, hx, g1⟩
  have hr := kpb g1 h1.out
  have hlt : w.heap.size < b := by have := (Array.getElem?_eq_some_iff.1 h1.out).1; omega
  have HD := Hq0 (fin_of (e2 := -16) hr hx (by omega) (grown_trans hg.out g1) (Nat.le_refl _))
  obtain ⟨r0, r1, r2, r3⟩ := cell_dnil hr
  clear hr hx g1 hb HN
  unfold decV
  go_wp2
  have hD := HD.out
  clear HD
  generalize (w1.setCell ⟨w.heap.size, 0, none⟩ (.pointer (some ⟨b, 0, none⟩))).setCell ⟨w.heap.size, 1, none⟩ (.int .i32 (-16)) = w9 at *
  obtain ⟨s0, s1, hbx, hg5⟩ := hD
  have HF5 := Hq0 (And.intro hbx hg5)
  clear hbx hg5 r0 r1 r2 r3
  refine bodyPost_ret (v := decV b (-16)) (by simp [results, Tryz.func63, go_sem, s0, s1, decV]; try rfl) rfl ?_
  exact ⟨b, v, rfl, by omega, HF5.out.1, HF5.out.2⟩
end Go.Proofs.YtjcfacinlgogaaaGreatDoor
