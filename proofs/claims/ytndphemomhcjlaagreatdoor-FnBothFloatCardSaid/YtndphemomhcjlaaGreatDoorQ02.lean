/- math/bits and single words: sums, differences, products with carries. Conditions: the arguments are words. The loops over words: sums, differences, products of a number and a word. Conditions: the slices are of one length; each of what is read is either what is written, or lies in another block. -/
import Derived.Test.YtndphemomhcjlaaGreatDoorQ01
import Derived.Test.YtndphemomhcjlaaGreatDoorShelf
set_option linter.all false

namespace Go.Proofs.YtndphemomhcjlaaGreatDoor
open Go.RowKit

theorem sym {P : Program} {f : FuncId} {args : Array Value} {w : World} {v : Value} (h : Calls P f args w fun e w' => e = .returned v ∧ w' = w) : Calls P f args w fun e w' => e = .returned v ∧ w = w' :=
  h.mono fun _ _ ⟨a, b⟩ => ⟨a, b.symm⟩
theorem qs {P : Program} {f : FuncId} {args : Array Value} {w : World} {v : Value} (h : Calls P f args w fun e w' => e = .returned v ∧ w = w') : Calls P f args w fun e w' => e = .returned v ∧ w' = w :=
  h.mono fun _ _ ⟨a, b⟩ => ⟨a, b.symm⟩

theorem run_add64 (x y c : Int) (hx : U64 x) (hy : U64 y) (hc : Bit c) (w : World) : (callFunc 241 #[.int .u64 x, .int .u64 y, .int .u64 c]).run Tryz.prog w =
    .ok (.value (.tuple #[.int .u64 (alo x y c), .int .u64 (ahi x y c)])) w := by
  obtain ⟨x, rfl⟩ := Int.eq_ofNat_of_zero_le hx.1
  obtain ⟨y, rfl⟩ := Int.eq_ofNat_of_zero_le hy.1
  obtain ⟨c, rfl⟩ := Int.eq_ofNat_of_zero_le hc.1
  have h1 := hx.2; have h2 := hy.2; have h3 := hc.2
  unfold B64 at *
  rw [run_callFunc_extern (P := Tryz.prog) (f := 241) Tryz.func241 (by kernel_rfl) (by kernel_rfl) (by kernel_rfl) (e := add64Entry) (by kernel_rfl), Go.run_add64 x y c (by omega) (by omega) (by omega) (by omega)]
  simp only [Result.andThen, alo, ahi, B64]

theorem run_sub64 (x y c : Int) (hx : U64 x) (hy : U64 y) (hc : Bit c) (w : World) : (callFunc 238 #[.int .u64 x, .int .u64 y, .int .u64 c]).run Tryz.prog w =
    .ok (.value (.tuple #[.int .u64 (slo x y c), .int .u64 (shi x y c)])) w := by
  obtain ⟨x, rfl⟩ := Int.eq_ofNat_of_zero_le hx.1
  obtain ⟨y, rfl⟩ := Int.eq_ofNat_of_zero_le hy.1
  obtain ⟨c, rfl⟩ := Int.eq_ofNat_of_zero_le hc.1
  have h1 := hx.2; have h2 := hy.2; have h3 := hc.2
  unfold B64 at *
  rw [run_callFunc_extern (P := Tryz.prog) (f := 238) Tryz.func238 (by kernel_rfl) (by kernel_rfl) (by kernel_rfl) (e := Go.Proofs.sub64Entry) (by kernel_rfl), Go.Proofs.run_sub64 x y c (by omega)]
  have e1 : (((x + 18446744073709551616 - y - c) % 18446744073709551616 : Nat) : Int) = slo x y c := by unfold slo B64; omega
  have e2 : ((if x < y + c then 1 else 0 : Nat) : Int) = shi x y c := by unfold shi; split <;> split <;> omega
  rw [e1, e2]
  rfl

theorem bits_Add (x y c : Int) (w : World) (hx : U64 x) (hy : U64 y) (hc : Bit c) :
    Calls Tryz.prog 229 #[.int .u64 x, .int .u64 y, .int .u64 c] w fun e w' => e = .returned (.tuple #[.int .u64 (alo x y c), .int .u64 (ahi x y c)]) ∧ w = w' := by
  go_enter Tryz.func229, Tryz.ntmps229
  go_wp2_with (simp only [run_add64 x y c hx hy hc])
  go_ret2
  exact ⟨rfl, rfl⟩

theorem bits_Sub (x y c : Int) (w : World) (hx : U64 x) (hy : U64 y) (hc : Bit c) :
    Calls Tryz.prog 223 #[.int .u64 x, .int .u64 y, .int .u64 c] w fun e w' => e = .returned (.tuple #[.int .u64 (slo x y c), .int .u64 (shi x y c)]) ∧ w = w' := by
  go_enter Tryz.func223, Tryz.ntmps223
  go_wp2_with (simp only [run_sub64 x y c hx hy hc])
  go_ret2
  exact ⟨rfl, rfl⟩

theorem bits_Mul (x y : Int) (w : World) (hx : U64 x) (hy : U64 y) :
    Calls Tryz.prog 190 #[.int .u64 x, .int .u64 y] w fun e w' => e = .returned (.tuple #[.int .u64 (mhi x y), .int .u64 (mlo x y)]) ∧ w = w' := by
  obtain ⟨x, rfl⟩ := Int.eq_ofNat_of_zero_le hx.1
  obtain ⟨y, rfl⟩ := Int.eq_ofNat_of_zero_le hy.1
  have h1 := hx.2; have h2 := hy.2
  unfold B64 at *
  exact sym (Tryz.bits_Mul x y (by omega) (by omega) w)

theorem bits_Mul64 (x y : Int) (w : World) (hx : U64 x) (hy : U64 y) :
    Calls Tryz.prog 206 #[.int .u64 x, .int .u64 y] w fun e w' => e = .returned (.tuple #[.int .u64 (mhi x y), .int .u64 (mlo x y)]) ∧ w = w' := by
  obtain ⟨x, rfl⟩ := Int.eq_ofNat_of_zero_le hx.1
  obtain ⟨y, rfl⟩ := Int.eq_ofNat_of_zero_le hy.1
  have h1 := hx.2; have h2 := hy.2
  unfold B64 at *
  exact sym (Tryz.bits_Mul64 x y (by omega) (by omega) w)

theorem mulWW (x y : Int) (w : World) (hx : U64 x) (hy : U64 y) :
    Calls Tryz.prog 143 #[.int .u64 x, .int .u64 y] w fun e w' => e = .returned (.tuple #[.int .u64 (mhi x y), .int .u64 (mlo x y)]) ∧ w = w' := by
  go_enter Tryz.func143, Tryz.ntmps143
  go_wp2_with (go_at_call 190; refine (bits_Mul _ _ _ hx hy).mono ?_; rintro e w' ⟨rfl, rfl⟩)
  go_ret2
  exact ⟨rfl, rfl⟩

/-- x * y + c: its two words -/
def malo (x y c : Int) : Int := (x * y + c) % B64
def mahi (x y c : Int) : Int := (x * y + c) / B64
theorem malo_u (x y c : Int) : U64 (malo x y c) := ⟨Int.emod_nonneg _ (by decide), Int.emod_lt_of_pos _ (by decide)⟩
theorem malo_mahi (x y c : Int) : malo x y c + B64 * mahi x y c = x * y + c := by unfold malo mahi; exact Int.emod_add_mul_ediv _ _
theorem mahi_u {x y c : Int} (hx : U64 x) (hy : U64 y) (hc : U64 c) : U64 (mahi x y c) := by
  have h := malo_mahi x y c
  have h2 := mul_le_sq hx hy
  have h3 := Int.mul_nonneg hx.1 hy.1
  have h4 := malo_u x y c
  unfold U64 B64 at *; omega
theorem mahi_eq {x y c : Int} (hx : U64 x) (hy : U64 y) (hc : U64 c) : alo (mlo x y) c 0 = malo x y c ∧ mhi x y + ahi (mlo x y) c 0 = mahi x y c := by
  have h := malo_mahi x y c
  have h1 := mlo_mhi x y
  have h2 := alo_ahi (mlo x y) c 0
  have h3 := malo_u x y c
  have h4 := alo_u (mlo x y) c 0
  unfold U64 B64 at *; omega

theorem wrap_u64 {x : Int} (h : U64 x) : IntKind.u64.wrap x = x := by
  have := h.1; have := h.2; unfold B64 at *
  show x % 18446744073709551616 = x; omega

theorem mulAddWWW_g (x y c : Int) (w : World) (hx : U64 x) (hy : U64 y) (hc : U64 c) :
    Calls Tryz.prog 239 #[.int .u64 x, .int .u64 y, .int .u64 c] w fun e w' => e = .returned (.tuple #[.int .u64 (mahi x y c), .int .u64 (malo x y c)]) ∧ w = w' := by
  have hm := mlo_u x y
  obtain ⟨e1, e2⟩ := mahi_eq hx hy hc
  have hw : IntKind.u64.wrap (mhi x y + ahi (mlo x y) c 0) = mahi x y c := by rw [e2]; exact wrap_u64 (mahi_u hx hy hc)
  have H := Lib.hid hw; have H1 := Lib.hid e1; clear hw e1 e2
  go_enter Tryz.func239, Tryz.ntmps239
  go_wp2_with (first | (go_at_call 190; refine (bits_Mul _ _ _ hx hy).mono ?_; rintro e w' ⟨rfl, rfl⟩) | (go_at_call 229; refine (bits_Add _ _ _ _ hm hc bit0).mono ?_; rintro e w' ⟨rfl, rfl⟩))
  go_ret2
  exact ⟨congrArg Ending.returned (by simp only [Array.getD_eq_getD_getElem?]; rw [← H.out, ← H1.out]; rfl), rfl⟩

theorem bitLen_le64 (x : Nat) (h : x < 18446744073709551616) : Lib.bitLen x ≤ 64 := by
  by_cases h0 : x = 0
  · rw [h0]; decide
  · obtain ⟨h1, h2, h3⟩ := Lib.bitLenAux_bounds 64 x h h0
    unfold Lib.bitLen
    have : 2 ^ (Lib.bitLenAux 64 x - 1) < 2 ^ 64 := Nat.lt_of_le_of_lt h2 h
    have := (Nat.pow_lt_pow_iff_right (by decide : 1 < 2)).1 this
    omega
/-- the number of zeros ahead of a word's highest bit -/
def nlzI (x : Int) : Int := 64 - (Lib.bitLen x.toNat : Int)
theorem nlz_any (x : Int) (w : World) (hx : U64 x) :
    Calls Tryz.prog 155 #[.int .u64 x] w fun e w' => e = .returned (.int .u64 (nlzI x)) ∧ w = w' := by
  have h0 := hx.1; have h1 := hx.2
  unfold B64 at h1
  have hb := bitLen_le64 x.toNat (by omega)
  go_enter Tryz.func155, Tryz.ntmps155
  go_wp2_with (go_at_call 202; refine (sym (Tryz.bits_LeadingZeros _ _ h0 (by omega))).mono ?_; rintro e w' ⟨rfl, rfl⟩)
  go_ret
  exact ⟨ret_int (by unfold nlzI; first | rfl | (show _ % _ = _; omega)), rfl⟩
end Go.Proofs.YtndphemomhcjlaaGreatDoor

namespace Go.Proofs.YtndphemomhcjlaaGreatDoor
open Go.RowKit

/-- after j words of z have been written: they are Z, F tells what they and the carry are worth -/
def VRel (F : Int → Int → Prop) (w : World) (bz oz : Nat) (L : List Int) (j : Nat) (cc : Int) (wr : World) : Prop :=
  ∃ Z : List Int, Z.length = j ∧ wfL Z ∧ F (val Z) cc ∧ Upd w wr bz (spl L oz Z)

theorem VRel.start {F : Int → Int → Prop} {w : World} {bz oz : Nat} {L : List Int} {c : Int} (hz : w.heap[bz]? = some (blk L)) (h : F 0 c) : VRel F w bz oz L 0 c w :=
  ⟨[], rfl, wfL_nil, h, by rw [spl_nil]; exact Upd.refl hz⟩

theorem VRel.step {F F' : Int → Int → Prop} {w wr : World} {bz oz : Nat} {L : List Int} {j : Nat} {cc z c' : Int} (h : VRel F w bz oz L j cc wr) (hj : oz + j < L.length) (hz : U64 z)
    (hF : ∀ v, F v cc → F' (v + B64 ^ j * z) c') (nq : Nat) : VRel F' w bz oz L (j + 1) c' ((wr.drewN nq).setCell ⟨bz, oz + j, none⟩ (.int .u64 z)) := by
  obtain ⟨Z, hZ, wZ, hv, hu⟩ := h
  refine ⟨Z ++ [z], by simp [hZ], wfL_snoc wZ hz, by rw [val_snoc, hZ]; exact hF _ hv, ?_⟩
  rw [← spl_snoc _ _ _ _ (by omega), hZ]; exact (hu.drewN nq).set _ _

theorem VRel.read {F : Int → Int → Prop} {w wr : World} {bz oz bx ox : Nat} {L X : List Int} {j : Nat} {cc : Int} (h : VRel F w bz oz L j cc wr) (hX : At w bx ox X) (ha : bx = bz → ox = oz)
    (hL : w.heap[bz]? = some (blk L)) (hl : oz + X.length ≤ L.length) (hj : j < X.length) : wr.cell? ⟨bx, ox + j, none⟩ = some (.int .u64 (X[j]?.getD 0)) := by
  obtain ⟨Z, rfl, wZ, hv, hu⟩ := h
  exact At.upd hX ha hL hl hu hj

theorem VRel.room {F : Int → Int → Prop} {w wr : World} {bz oz : Nat} {L : List Int} {j : Nat} {cc : Int} (h : VRel F w bz oz L j cc wr) (i : Nat) (hi : i < L.length) (hl : oz + j ≤ L.length) :
    ∃ v, wr.cell? ⟨bz, i, none⟩ = some (.int .u64 v) := by
  obtain ⟨Z, rfl, wZ, hv, hu⟩ := h
  exact ⟨_, cell_blk hu.here _ (by rw [spl_length _ _ _ hl]; exact hi)⟩
theorem VRel.free {F : Int → Int → Prop} {w wr : World} {bz oz : Nat} {L : List Int} {j : Nat} {cc : Int} (h : VRel F w bz oz L j cc wr) (i : Nat) : wr.frozen? ⟨bz, i, none⟩ = false := by
  obtain ⟨Z, rfl, wZ, hv, hu⟩ := h
  exact frozen_blk hu.here _

def AddF (X Y : List Int) (j : Nat) (v c : Int) : Prop := Bit c ∧ v + B64 ^ j * c = val (X.take j) + val (Y.take j)
def SubF (X Y : List Int) (j : Nat) (v c : Int) : Prop := Bit c ∧ v - B64 ^ j * c = val (X.take j) - val (Y.take j)
def MulF (X : List Int) (y r : Int) (j : Nat) (v c : Int) : Prop := U64 c ∧ v + B64 ^ j * c = val (X.take j) * y + r
def AddMulF (X Y : List Int) (m a : Int) (j : Nat) (v c : Int) : Prop := U64 c ∧ v + B64 ^ j * c = val (X.take j) + val (Y.take j) * m + a

theorem AddF.step {X Y : List Int} {j : Nat} {v c : Int} (wx : wfL X) (wy : wfL Y) (hx : j < X.length) (hy : j < Y.length) (h : AddF X Y j v c) :
    AddF X Y (j + 1) (v + B64 ^ j * alo (X[j]?.getD 0) (Y[j]?.getD 0) c) (ahi (X[j]?.getD 0) (Y[j]?.getD 0) c) := by
  obtain ⟨hc, h⟩ := h
  refine ⟨ahi_b (getD_u64 wx _ hx) (getD_u64 wy _ hy) hc, ?_⟩
  rw [val_take_succ X j hx, val_take_succ Y j hy, Int.pow_succ]
  have := alo_ahi (X[j]?.getD 0) (Y[j]?.getD 0) c
  grind
theorem SubF.step {X Y : List Int} {j : Nat} {v c : Int} (wx : wfL X) (wy : wfL Y) (hx : j < X.length) (hy : j < Y.length) (h : SubF X Y j v c) :
    SubF X Y (j + 1) (v + B64 ^ j * slo (X[j]?.getD 0) (Y[j]?.getD 0) c) (shi (X[j]?.getD 0) (Y[j]?.getD 0) c) := by
  obtain ⟨hc, h⟩ := h
  refine ⟨shi_b _ _ _, ?_⟩
  rw [val_take_succ X j hx, val_take_succ Y j hy, Int.pow_succ]
  have := slo_shi (getD_u64 wx _ hx) (getD_u64 wy _ hy) hc
  grind
theorem MulF.step {X : List Int} {y r : Int} {j : Nat} {v c : Int} (wx : wfL X) (hy : U64 y) (hx : j < X.length) (h : MulF X y r j v c) :
    MulF X y r (j + 1) (v + B64 ^ j * malo (X[j]?.getD 0) y c) (mahi (X[j]?.getD 0) y c) := by
  obtain ⟨hc, h⟩ := h
  refine ⟨mahi_u (getD_u64 wx _ hx) hy hc, ?_⟩
  rw [val_take_succ X j hx, Int.pow_succ]
  have := malo_mahi (X[j]?.getD 0) y c
  grind
/-- the carry of x + y * m + c -/
def amc (x y m c : Int) : Int := ahi (malo y m x) c 0 + mahi y m x
theorem amc_u {x y m c : Int} (hx : U64 x) (hy : U64 y) (hm : U64 m) (hc : U64 c) : U64 (amc x y m c) := by
  have h := malo_mahi y m x
  have h1 := alo_ahi (malo y m x) c 0
  have h2 := mul_le_sq hy hm
  have h3 := Int.mul_nonneg hy.1 hm.1
  have h4 := alo_u (malo y m x) c 0
  have h5 := mahi_u hy hm hx
  have h6 := ahi_b (malo_u y m x) hc bit0
  unfold amc U64 Bit B64 at *; omega
theorem AddMulF.step {X Y : List Int} {m a : Int} {j : Nat} {v c : Int} (wx : wfL X) (wy : wfL Y) (hm : U64 m) (hx : j < X.length) (hy : j < Y.length) (h : AddMulF X Y m a j v c) :
    AddMulF X Y m a (j + 1) (v + B64 ^ j * alo (malo (Y[j]?.getD 0) m (X[j]?.getD 0)) c 0) (amc (X[j]?.getD 0) (Y[j]?.getD 0) m c) := by
  obtain ⟨hc, h⟩ := h
  refine ⟨amc_u (getD_u64 wx _ hx) (getD_u64 wy _ hy) hm hc, ?_⟩
  rw [val_take_succ X j hx, val_take_succ Y j hy, Int.pow_succ]
  have h1 := malo_mahi (Y[j]?.getD 0) m (X[j]?.getD 0)
  have h2 := alo_ahi (malo (Y[j]?.getD 0) m (X[j]?.getD 0)) c 0
  unfold amc
  grind

set_option maxRecDepth 100000 in
theorem addVV_g (bz oz bx ox by_ oy n cz cx cy : Nat) (L X Y : List Int) (w : World) (hn : n ≤ 9223372036854775807) (hz : w.heap[bz]? = some (blk L)) (hl : oz + n ≤ L.length)
    (hX : At w bx ox X) (hY : At w by_ oy Y) (lx : X.length = n) (ly : Y.length = n) (wx : wfL X) (wy : wfL Y) (ax : bx = bz → ox = oz) (ay : by_ = bz → oy = oz) :
    Calls Tryz.prog 226 #[.slice (some ⟨bz, oz, none⟩) n cz, .slice (some ⟨bx, ox, none⟩) n cx, .slice (some ⟨by_, oy, none⟩) n cy] w fun e w' =>
      ∃ c, e = .returned (.int .u64 c) ∧ VRel (AddF X Y n) w bz oz L n c w' := by
  have HX := Lib.hid hX; have HY := Lib.hid hY; have Hl := Lib.hid hl; have Hz := Lib.hid hz; have Lx := Lib.hid lx; have Ly := Lib.hid ly
  have Ax := Lib.hid ax; have Ay := Lib.hid ay
  clear hX hY hl hz lx ly ax ay
  go_enter Tryz.func226, Tryz.ntmps226
  go_wp2
  go_loopw [6, 25] (fun c i wr => ∃ (j : Nat) (cc : Int), j ≤ n ∧ i = .int .i64 j ∧ c = .int .u64 cc ∧ VRel (AddF X Y j) w bz oz L j cc wr) (fun _ i _ => n - (intOf i).toNat)
  case atStart => exact ⟨0, 0, Nat.zero_le _, rfl, rfl, .start Hz.out ⟨bit0, by simp [val]⟩⟩
  case round =>
    obtain ⟨j, cc, hj, rfl, rfl, hR⟩ := hrel
    have HR := Lib.hid hR
    clear hR
    by_cases hlt : j < n
    · have hl := Hl.out; have lx := Lx.out; have ly := Ly.out
      have bc : Bit cc := by obtain ⟨Z, _, _, h, _⟩ := HR.out; exact h.1
      have g1 := HR.out.read HX.out Ax.out Hz.out (by omega) (by omega)
      have g2 := HR.out.read HY.out Ay.out Hz.out (by omega) (by omega)
      obtain ⟨zj, g3⟩ := HR.out.room (oz + j) (by omega) (by omega)
      have g4 := HR.out.free (oz + j)
      have hn1 := Lib.hid (fun nq => HR.out.step (F' := AddF X Y (j + 1)) (by omega) (alo_u _ _ _) (fun v h => h.step wx wy (by omega) (by omega)) nq)
      have u1 := getD_u64 wx j (by omega)
      have u2 := getD_u64 wy j (by omega)
      clear hl lx ly
      generalize X[j]?.getD 0 = xj at *
      generalize Y[j]?.getD 0 = yj at *
      go_wp2_with (fail)
      go_quiet ((go_at_call 229; exact Calls.quiet_of_same (qs <| bits_Add _ _ _ _ u1 u2 bc)))
      go_wp2
      go_roundw
      case rel => exact ⟨j + 1, _, by omega, by go_num, rfl, hn1.out _⟩
      case measure => simp [intOf]; omega
    · obtain rfl : j = n := by omega
      go_wp2
      go_ret
      exact ⟨_, rfl, HR.out⟩

set_option maxRecDepth 100000 in
theorem subVV_g (bz oz bx ox by_ oy n cz cx cy : Nat) (L X Y : List Int) (w : World) (hn : n ≤ 9223372036854775807) (hz : w.heap[bz]? = some (blk L)) (hl : oz + n ≤ L.length)
    (hX : At w bx ox X) (hY : At w by_ oy Y) (lx : X.length = n) (ly : Y.length = n) (wx : wfL X) (wy : wfL Y) (ax : bx = bz → ox = oz) (ay : by_ = bz → oy = oz) :
    Calls Tryz.prog 222 #[.slice (some ⟨bz, oz, none⟩) n cz, .slice (some ⟨bx, ox, none⟩) n cx, .slice (some ⟨by_, oy, none⟩) n cy] w fun e w' =>
      ∃ c, e = .returned (.int .u64 c) ∧ VRel (SubF X Y n) w bz oz L n c w' := by
  have HX := Lib.hid hX; have HY := Lib.hid hY; have Hl := Lib.hid hl; have Hz := Lib.hid hz; have Lx := Lib.hid lx; have Ly := Lib.hid ly
  have Ax := Lib.hid ax; have Ay := Lib.hid ay
  clear hX hY hl hz lx ly ax ay
  go_enter Tryz.func222, Tryz.ntmps222
  go_wp2
  go_loopw [6, 25] (fun c i wr => ∃ (j : Nat) (cc : Int), j ≤ n ∧ i = .int .i64 j ∧ c = .int .u64 cc ∧ VRel (SubF X Y j) w bz oz L j cc wr) (fun _ i _ => n - (intOf i).toNat)
  case atStart => exact ⟨0, 0, Nat.zero_le _, rfl, rfl, .start Hz.out ⟨bit0, by simp [val]⟩⟩
  case round =>
    obtain ⟨j, cc, hj, rfl, rfl, hR⟩ := hrel
    have HR := Lib.hid hR
    clear hR
    by_cases hlt : j < n
    · have hl := Hl.out; have lx := Lx.out; have ly := Ly.out
      have bc : Bit cc := by obtain ⟨Z, _, _, h, _⟩ := HR.out; exact h.1
      have g1 := HR.out.read HX.out Ax.out Hz.out (by omega) (by omega)
      have g2 := HR.out.read HY.out Ay.out Hz.out (by omega) (by omega)
      obtain ⟨zj, g3⟩ := HR.out.room (oz + j) (by omega) (by omega)
      have g4 := HR.out.free (oz + j)
      have hn1 := Lib.hid (fun nq => HR.out.step (F' := SubF X Y (j + 1)) (by omega) (slo_u _ _ _) (fun v h => h.step wx wy (by omega) (by omega)) nq)
      have u1 := getD_u64 wx j (by omega)
      have u2 := getD_u64 wy j (by omega)
      clear hl lx ly
      generalize X[j]?.getD 0 = xj at *
      generalize Y[j]?.getD 0 = yj at *
      go_wp2_with (fail)
      go_quiet ((go_at_call 223; exact Calls.quiet_of_same (qs <| bits_Sub _ _ _ _ u1 u2 bc)))
      go_wp2
      go_roundw
      case rel => exact ⟨j + 1, _, by omega, by go_num, rfl, hn1.out _⟩
      case measure => simp [intOf]; omega
    · obtain rfl : j = n := by omega
      go_wp2
      go_ret
      exact ⟨_, rfl, HR.out⟩

set_option maxRecDepth 100000 in
theorem mulAddVWW_g (bz oz bx ox n cz cx : Nat) (L X : List Int) (y r : Int) (w : World) (hn : n ≤ 9223372036854775807) (hz : w.heap[bz]? = some (blk L)) (hl : oz + n ≤ L.length)
    (hX : At w bx ox X) (lx : X.length = n) (wx : wfL X) (ax : bx = bz → ox = oz) (hy : U64 y) (hr : U64 r) :
    Calls Tryz.prog 227 #[.slice (some ⟨bz, oz, none⟩) n cz, .slice (some ⟨bx, ox, none⟩) n cx, .int .u64 y, .int .u64 r] w fun e w' =>
      ∃ c, e = .returned (.int .u64 c) ∧ VRel (MulF X y r n) w bz oz L n c w' := by
  have HX := Lib.hid hX; have Hl := Lib.hid hl; have Hz := Lib.hid hz; have Lx := Lib.hid lx
  have Ax := Lib.hid ax
  clear hX hl hz lx ax
  go_enter Tryz.func227, Tryz.ntmps227
  go_wp2
  go_loopw [8, 19] (fun c i wr => ∃ (j : Nat) (cc : Int), j ≤ n ∧ i = .int .i64 j ∧ c = .int .u64 cc ∧ VRel (MulF X y r j) w bz oz L j cc wr) (fun _ i _ => n - (intOf i).toNat)
  case atStart => exact ⟨0, r, Nat.zero_le _, rfl, rfl, .start Hz.out ⟨hr, by simp [val]⟩⟩
  case round =>
    obtain ⟨j, cc, hj, rfl, rfl, hR⟩ := hrel
    have HR := Lib.hid hR
    clear hR
    by_cases hlt : j < n
    · have hl := Hl.out; have lx := Lx.out
      have bc : U64 cc := by obtain ⟨Z, _, _, h, _⟩ := HR.out; exact h.1
      have g1 := HR.out.read HX.out Ax.out Hz.out (by omega) (by omega)
      obtain ⟨zj, g3⟩ := HR.out.room (oz + j) (by omega) (by omega)
      have g4 := HR.out.free (oz + j)
      have hn1 := Lib.hid (HR.out.step (F' := MulF X y r (j + 1)) (by omega) (malo_u _ _ _) (fun v h => h.step wx hy (by omega)) 0)
      have u1 := getD_u64 wx j (by omega)
      clear hl lx
      generalize X[j]?.getD 0 = xj at *
      go_wp2_with (go_at_call 239; refine (mulAddWWW_g _ _ _ _ u1 hy bc).mono ?_; rintro e w' ⟨rfl, rfl⟩)
      go_roundw
      case rel => exact ⟨j + 1, _, by omega, by go_num, rfl, hn1.out⟩
      case measure => simp [intOf]; omega
    · obtain rfl : j = n := by omega
      go_wp2
      go_ret
      exact ⟨_, rfl, HR.out⟩

set_option maxRecDepth 100000 in
theorem addMulVVWW_g (bz oz bx ox by_ oy n cz cx cy : Nat) (L X Y : List Int) (m a : Int) (w : World) (hn : n ≤ 9223372036854775807) (hz : w.heap[bz]? = some (blk L)) (hl : oz + n ≤ L.length)
    (hX : At w bx ox X) (hY : At w by_ oy Y) (lx : X.length = n) (ly : Y.length = n) (wx : wfL X) (wy : wfL Y) (ax : bx = bz → ox = oz) (ay : by_ = bz → oy = oz) (hm : U64 m) (ha : U64 a) :
    Calls Tryz.prog 225 #[.slice (some ⟨bz, oz, none⟩) n cz, .slice (some ⟨bx, ox, none⟩) n cx, .slice (some ⟨by_, oy, none⟩) n cy, .int .u64 m, .int .u64 a] w fun e w' =>
      ∃ c, e = .returned (.int .u64 c) ∧ VRel (AddMulF X Y m a n) w bz oz L n c w' := by
  have HX := Lib.hid hX; have HY := Lib.hid hY; have Hl := Lib.hid hl; have Hz := Lib.hid hz; have Lx := Lib.hid lx; have Ly := Lib.hid ly
  have Ax := Lib.hid ax; have Ay := Lib.hid ay
  clear hX hY hl hz lx ly ax ay
  go_enter Tryz.func225, Tryz.ntmps225
  go_wp2
  go_loopw [10, 32] (fun c i wr => ∃ (j : Nat) (cc : Int), j ≤ n ∧ i = .int .i64 j ∧ c = .int .u64 cc ∧ VRel (AddMulF X Y m a j) w bz oz L j cc wr) (fun _ i _ => n - (intOf i).toNat)
  case atStart => exact ⟨0, a, Nat.zero_le _, rfl, rfl, .start Hz.out ⟨ha, by simp [val]⟩⟩
  case round =>
    obtain ⟨j, cc, hj, rfl, rfl, hR⟩ := hrel
    have HR := Lib.hid hR
    clear hR
    by_cases hlt : j < n
    · have hl := Hl.out; have lx := Lx.out; have ly := Ly.out
      have bc : U64 cc := by obtain ⟨Z, _, _, h, _⟩ := HR.out; exact h.1
      have g1 := HR.out.read HX.out Ax.out Hz.out (by omega) (by omega)
      have g2 := HR.out.read HY.out Ay.out Hz.out (by omega) (by omega)
      obtain ⟨zj, g3⟩ := HR.out.room (oz + j) (by omega) (by omega)
      have g4 := HR.out.free (oz + j)
      have hn1 := Lib.hid (fun nq => HR.out.step (F' := AddMulF X Y m a (j + 1)) (by omega) (alo_u _ _ _) (fun v h => h.step wx wy hm (by omega) (by omega)) nq)
      have u1 := getD_u64 wx j (by omega)
      have u2 := getD_u64 wy j (by omega)
      have u3 := malo_u (Y[j]?.getD 0) m (X[j]?.getD 0)
      have u4 := Lib.hid (wrap_u64 (amc_u u1 u2 hm bc))
      clear hl lx ly
      generalize X[j]?.getD 0 = xj at *
      generalize Y[j]?.getD 0 = yj at *
      go_wp2_with (fail)
      go_quiet ((go_at_call 239; exact Calls.quiet_of_same (qs <| mulAddWWW_g _ _ _ _ u2 hm u1)))
      go_wp2_with (go_at_call 229; refine (bits_Add _ _ _ _ u3 bc bit0).mono ?_; rintro e w' ⟨rfl, rfl⟩)
      go_roundw
      case rel => exact ⟨j + 1, _, by omega, by go_num, by exact congrArg (Value.int .u64) u4.out, hn1.out _⟩
      case measure => simp [intOf]; omega
    · obtain rfl : j = n := by omega
      go_wp2
      go_ret
      exact ⟨_, rfl, HR.out⟩
end Go.Proofs.YtndphemomhcjlaaGreatDoor
