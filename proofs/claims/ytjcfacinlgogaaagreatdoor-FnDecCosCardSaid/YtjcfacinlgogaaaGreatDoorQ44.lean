/- Whole numbers of limbs: compared; out of a machine number; as text. No condition. A number of limbs out of its digits. Conditions: at most 1000 digits. A whole number out of its text. Conditions: at most 1000 digits. -/
import Derived.Test.YtjcfacinlgogaaaGreatDoorQ38
import Derived.Test.YtjcfacinlgogaaaGreatDoorQ43
set_option linter.all false
set_option maxHeartbeats 4000000
set_option maxRecDepth 100000
set_option exponentiation.threshold 3000
open Go.RowKit
namespace Go.Proofs.YtjcfacinlgogaaaGreatDoor
def wcmp (n m : Int) : Int := if n < m then -1 else if n = m then 0 else 1
theorem wcmp_eq (n m : Int) : wcmp n m = if decide (n < 0) = decide (m < 0) then (if n < 0 then ncmp m.natAbs n.natAbs else ncmp n.natAbs m.natAbs) else if n < 0 then -1 else 1 := by
  unfold wcmp
  by_cases h1 : n < 0
  · by_cases h2 : m < 0
    · rw [decide_eq_true h1, decide_eq_true h2, if_pos rfl, if_pos h1]
      rcases Int.lt_trichotomy n m with h | h | h
      · rw [if_pos h, ncmp_lt (by omega)]
      · rw [if_neg (by omega), if_pos h, ncmp_eq (by omega)]
      · rw [if_neg (by omega), if_neg (by omega), ncmp_gt (by omega)]
    · rw [decide_eq_true h1, decide_eq_false h2, if_pos (show n < m by omega), if_neg (show ¬ true = false by decide), if_pos h1]
  · by_cases h2 : m < 0
    · rw [decide_eq_false h1, decide_eq_true h2, if_neg (show ¬ n < m by omega), if_neg (show ¬ n = m by omega), if_neg (show ¬ false = true by decide), if_neg h1]
    · rw [decide_eq_false h1, decide_eq_false h2, if_pos rfl, if_neg h1]
      rcases Int.lt_trichotomy n m with h | h | h
      · rw [if_pos h, ncmp_lt (by omega)]
      · rw [if_neg (by omega), if_pos h, ncmp_eq (by omega)]
      · rw [if_neg (by omega), if_neg (by omega), ncmp_gt (by omega)]
theorem WCmp_any {w : World} {base1 base2 tn tm : Nat} {x y : Value} {n m : Int} (hx : WhV w base1 x n tn) (hy : WhV w base2 y m tm) : Calls Tryz.prog 45 #[x, y] w fun e w' => e = .returned (.int .i64 (wcmp n m)) ∧ w.grownBy w' none := by
  obtain ⟨xv, rfl, hxv⟩ := hx
  obtain ⟨yv, rfl, hyv⟩ := hy
  rw [wcmp_eq]
  have HC := Hq0 (fun (wx : World) (g : w.grownBy wx none) => NatCmp_any (hxv.same g) (hyv.same g))
  have HD := Hq0 (fun (wx : World) (g : w.grownBy wx none) => NatCmp_any (hyv.same g) (hxv.same g))
  obtain ⟨a1, cap1, rfl, _⟩ := hxv.own.slice
  obtain ⟨a2, cap2, rfl, _⟩ := hyv.own.slice
  generalize ncmp n.natAbs m.natAbs = c1 at *
  generalize ncmp m.natAbs n.natAbs = c2 at *
  clear hxv hyv
  obtain ⟨W0, hW0, g0, ha, hb⟩ := box2 w (.cells #[.bool (decide (n < 0)), .slice a1 tn cap1] 28) (.cells #[.bool (decide (m < 0)), .slice a2 tm cap2] 28)
  obtain ⟨x0, x1, _, _⟩ := cell_two ha
  obtain ⟨z0, z1, _, _⟩ := cell_two hb
  have G0 := Hq0 g0
  clear ha hb g0
  by_cases h1 : n < 0 <;> by_cases h2 : m < 0
  all_goals
    simp only [h1, h2, if_true, if_false, decide_true, decide_false, Bool.false_eq_true, reduceCtorEq] at hW0 x0 z0 ⊢
    clear h1 h2
  · have e1 : (true != true) = false := rfl
    go_enter Tryz.func45, Tryz.ntmps45
    go_upto_region 1 with (fail)
    rw [← hW0]; clear hW0
    go_wp2_with (fail)
    refine (HD.out _ G0.out).mono ?_
    rintro r w2 ⟨rfl, g2⟩
    go_wp2_with (fail)
    refine bodyPost_ret (v := .int .i64 c2) (by simp [results, Tryz.func45, go_sem]; try rfl) rfl ?_
    exact ⟨rfl, grown_trans G0.out g2⟩
  · have e1 : (true != false) = true := rfl
    go_enter Tryz.func45, Tryz.ntmps45
    go_upto_region 1 with (fail)
    rw [← hW0]; clear hW0
    go_wp2_with (fail)
    refine bodyPost_ret (v := .int .i64 (-1)) (by simp [results, Tryz.func45, go_sem]; try rfl) rfl ?_
    exact ⟨rfl, G0.out⟩
  · have e1 : (false != true) = true := rfl
    go_enter Tryz.func45, Tryz.ntmps45
    go_upto_region 1 with (fail)
    rw [← hW0]; clear hW0
    go_wp2_with (fail)
    refine bodyPost_ret (v := .int .i64 1) (by simp [results, Tryz.func45, go_sem]; try rfl) rfl ?_
    exact ⟨rfl, G0.out⟩
  · have e1 : (false != false) = false := rfl
    go_enter Tryz.func45, Tryz.ntmps45
    go_upto_region 1 with (fail)
    rw [← hW0]; clear hW0
    go_wp2_with (fail)
    refine (HC.out _ G0.out).mono ?_
    rintro r w2 ⟨rfl, g2⟩
    go_wp2_with (fail)
    refine bodyPost_ret (v := .int .i64 c1) (by simp [results, Tryz.func45, go_sem]; try rfl) rfl ?_
    exact ⟨rfl, grown_trans G0.out g2⟩
theorem zero_wh (w : World) (base : Nat) : WhV w base (.agg #[.bool false, .slice none 0 0]) 0 0 :=
  ⟨.slice none 0 0, rfl, ⟨by decide, .inl ⟨rfl, rfl⟩⟩, by decide, .inl rfl⟩
theorem WSign_any {w : World} {base t : Nat} {x : Value} {n : Int} (hx : WhV w base x n t) : Calls Tryz.prog 39 #[x] w fun e w' => e = .returned (.int .i64 (wcmp n 0)) ∧ w.grownBy w' none := by
  have HC := Hq0 (fun (wx : World) (g : w.grownBy wx none) => WCmp_any (hx.same g) (zero_wh wx 0))
  obtain ⟨xv, rfl, hxv⟩ := hx
  obtain ⟨a1, cap1, rfl, _⟩ := hxv.own.slice
  obtain ⟨b, hb⟩ : ∃ b, decide (n < 0) = b := ⟨_, rfl⟩
  rw [hb] at HC ⊢
  generalize wcmp n 0 = c at *
  clear hxv hb
  obtain ⟨W0, hW0⟩ : ∃ W0, W0 = w.alloc (.cells #[.bool b, .slice a1 t cap1] 28) := ⟨_, rfl⟩
  have g0 : w.grownBy W0 none := by rw [hW0]; exact grown_new _ _
  obtain ⟨x0, x1, _, _⟩ := cell_two (hW0 ▸ heap_new w (.cells #[.bool b, .slice a1 t cap1] 28) : W0.heap[w.heap.size]? = some _)
  have G0 := Hq0 g0
  clear g0
  go_enter Tryz.func39, Tryz.ntmps39
  go_upto_region 1 with (fail)
  rw [← hW0]; clear hW0
  go_wp2_with (fail)
  refine (HC.out _ G0.out).mono ?_
  rintro r w2 ⟨rfl, g2⟩
  go_wp2_with (fail)
  refine bodyPost_ret (v := .int .i64 c) (by simp [results, Tryz.func39, go_sem]; try rfl) rfl ?_
  exact ⟨rfl, grown_trans G0.out g2⟩
theorem WholeOf_any (n : Nat) (w : World) (hn : n < 9223372036854775808) : Calls Tryz.prog 24 #[.int .i64 n] w fun e w' => WhR w n e w' := by
  have ht : ¬ (n : Int) < 0 := by omega
  have hd : decide ((n : Int) < 0) = false := decide_eq_false ht
  have hab : (n : Int).natAbs = n := by omega
  have hw : IntKind.u64.wrap (n : Int) = n := IntWalk.u64_in _ (by omega)
  obtain ⟨W0, hW0⟩ : ∃ W0, W0 = w.alloc (.cells #[.bool false, .slice none 0 0] 28) := ⟨_, rfl⟩
  have g0 : w.grownBy W0 none := by rw [hW0]; exact grown_new _ _
  have HR := Hq0 (hW0 ▸ heap_new w (.cells #[.bool false, .slice none 0 0] 28) : W0.heap[w.heap.size]? = some _)
  have G0 := Hq0 g0
  have HF := Hq0 (NatFrom_any n W0 (by omega))
  have HH := Hq0 (And.intro hd hab)
  clear g0 hn hd hab
  go_enter Tryz.func24, Tryz.ntmps24
  go_upto_region 1 with (fail)
  rw [← hW0]; clear hW0
  go_wp2_with (fail)
  try rw [hw]
  refine HF.out.mono ?_
  rintro r w2 ⟨v, t, rfl, hv, g2⟩
  obtain ⟨a, cap, rfl, _⟩ := hv.own.slice
  have HV := Hq0 hv
  have HRR := Hq0 (kpb g2 HR.out)
  obtain ⟨y0, y1, y2, y3⟩ := cell_two HRR.out
  obtain ⟨o1, o2⟩ := st_var HRR.out (.bool false) (.slice a t cap)
  have HN := Hq0 (own_wh HV.out HRR.out o1)
  have G9 := Hq0 (grown_own (grown_trans G0.out g2) o1 (.inr (Nat.le_refl _)))
  clear hv g2
  go_wp2
  generalize (w2.setCell ⟨w.heap.size, 0, none⟩ (.bool false)).setCell ⟨w.heap.size, 1, none⟩ (.slice a t cap) = w9 at *
  clear y0 y1 y2 y3
  obtain ⟨s0, s1, _, _⟩ := cell_two o2
  refine bodyPost_ret (v := .agg #[.bool false, .slice a t cap]) (by simp [results, Tryz.func24, go_sem, s0, s1]; try rfl) rfl ?_
  exact ⟨_, t, rfl, ⟨_, by rw [HH.out.1], by rw [HH.out.2]; exact HN.out.base G0.out.size⟩, G9.out⟩
def WsB (w : World) (n : Int) (e : Ending) (w' : World) : Prop := ∃ s q, e = .returned (.string s) ∧ TxtD s (decide (n < 0)) n.natAbs q ∧ w.grownBy w' none
theorem txt_neg {s : ByteArray} {c q : Nat} (h : TxtD s false c q) : TxtD (⟨#[45]⟩ ++ s) true c q := by
  refine ⟨?_, h.q1, h.lt, h.top⟩
  rw [h.here]
  have e : digB true c q = 45 :: digB false c q := rfl
  rw [e]
  apply ByteArray.ext
  simp [mkS]
theorem TxtD.size {s : ByteArray} {neg : Bool} {c q : Nat} (h : TxtD s neg c q) : s.size = (if neg then 1 else 0) + q := by
  rw [h.here]
  unfold mkS digB
  rw [ByteArray.size]
  cases neg <;> simp [Nat.add_comm]
theorem TxtD.qle {s : ByteArray} {neg : Bool} {c q : Nat} (h : TxtD s neg c q) (k : Nat) (hk : 1 ≤ k) (hc : c < 10 ^ k) : q ≤ k := by
  rcases h.top with e | e
  · omega
  · refine Classical.byContradiction fun h2 => ?_
    have : 10 ^ k ≤ 10 ^ (q - 1) := Nat.pow_le_pow_right (by decide) (by omega)
    omega
theorem WString_any {w : World} {base t : Nat} {x : Value} {n : Int} (hx : WhV w base x n t) (hn : n.natAbs < 10 ^ 2000) : Calls Tryz.prog 35 #[x] w fun e w' => WsB w n e w' := by
  obtain ⟨xv, rfl, hxv⟩ := hx
  have HC := Hq0 (fun (wx : World) (g : w.grownBy wx none) => natString_any (hxv.same g) hn)
  unfold WsB
  obtain ⟨a1, cap1, rfl, _⟩ := hxv.own.slice
  obtain ⟨b, hb⟩ : ∃ b, decide (n < 0) = b := ⟨_, rfl⟩
  rw [hb]
  have HN := Hq0 hn
  clear hxv hb hn
  obtain ⟨W0, hW0⟩ : ∃ W0, W0 = w.alloc (.cells #[.bool b, .slice a1 t cap1] 28) := ⟨_, rfl⟩
  have g0 : w.grownBy W0 none := by rw [hW0]; exact grown_new _ _
  obtain ⟨x0, x1, _, _⟩ := cell_two (hW0 ▸ heap_new w (.cells #[.bool b, .slice a1 t cap1] 28) : W0.heap[w.heap.size]? = some _)
  have G0 := Hq0 g0
  clear g0
  cases b
  all_goals
    go_enter Tryz.func35, Tryz.ntmps35
    go_upto_region 1 with (fail)
    rw [← hW0]; clear hW0
    go_wp2_with (fail)
    refine (HC.out _ G0.out).mono ?_
    rintro r w2 ⟨s, q, rfl, hs, g2⟩
    have HS := Hq0 hs
    have hsz : ¬ 9223372036854775807 < 1 + s.size := by
      rw [hs.size]
      have := hs.qle 2000 (by decide) HN.out
      simp only [Bool.false_eq_true, if_false]
      omega
    clear hs
    go_wp2_with (fail)
  · refine bodyPost_ret (v := .string s) (by simp [results, Tryz.func35, go_sem]; try rfl) rfl ?_
    exact ⟨s, q, rfl, HS.out, grown_trans G0.out g2⟩
  · refine bodyPost_ret (v := .string (⟨#[45]⟩ ++ s)) (by simp [results, Tryz.func35, go_sem]; try rfl) rfl ?_
    exact ⟨_, q, rfl, txt_neg HS.out, grown_trans G0.out g2⟩
end Go.Proofs.YtjcfacinlgogaaaGreatDoor
open Go.RowKit
namespace Go.Proofs.YtjcfacinlgogaaaGreatDoor
theorem loop_ne (bs : ByteArray) : ∀ (k i : Nat) (r : List UInt8), bs.size - i = k → (r ≠ [] ∨ i < bs.size) → ByteArray.toList.loop bs i r ≠ [] := by
  intro k
  induction k with
  | zero =>
    intro i r h1 h2
    rw [ByteArray.toList.loop.eq_def, if_neg (by omega)]
    intro e
    exact h2.resolve_right (by omega) (List.reverse_eq_nil_iff.1 e)
  | succ k ih =>
    intro i r h1 h2
    rw [ByteArray.toList.loop.eq_def, if_pos (by omega)]
    exact ih (i + 1) _ (by omega) (.inl (by simp))
theorem str_ne {s : ByteArray} (h : 0 < s.size) : s.toList.isEmpty = false := by
  have := loop_ne s _ 0 [] rfl (.inr h)
  rw [show s.toList = ByteArray.toList.loop s 0 [] from rfl]
  cases hl : ByteArray.toList.loop s 0 [] with
  | nil => exact absurd hl this
  | cons a l => rfl
structure DgT (s : ByteArray) (c m : Nat) : Prop where
  size : s.size = m
  lt : c < 10 ^ m
  byte : ∀ i (h : i < s.size), (s[i]'h).toNat = 48 + c / 10 ^ (m - 1 - i) % 10
def seg (c m i0 x : Nat) : Nat := c / 10 ^ (m - x) % 10 ^ (x - i0)
theorem seg_start (c m i0 : Nat) : seg c m i0 i0 = 0 := by unfold seg; rw [Nat.sub_self, Nat.pow_zero, Nat.mod_one]
theorem seg_lt8 (c m i0 x : Nat) (h : x < i0 + 9) : seg c m i0 x < 100000000 := by
  unfold seg
  refine Nat.lt_of_lt_of_le (Nat.mod_lt _ (Nat.pow_pos (by decide))) ?_
  exact Nat.le_trans (Nat.pow_le_pow_right (by decide) (show x - i0 ≤ 8 by omega)) (by decide)
theorem seg_step {c m i0 x : Nat} (h : x < m) (hi : i0 ≤ x) : seg c m i0 (x + 1) = seg c m i0 x * 10 + c / 10 ^ (m - 1 - x) % 10 := by
  unfold seg
  rw [show m - (x + 1) = m - 1 - x by omega, show x + 1 - i0 = (x - i0) + 1 by omega, Nat.pow_succ', Nat.mod_mul]
  rw [show m - x = (m - 1 - x) + 1 by omega, Nat.pow_succ (m := m - 1 - x), ← Nat.div_div_eq_div_mul]
  omega
theorem seg_limb {c m i : Nat} (hc : c < 10 ^ m) (h : 9 * i < m) : seg c m (m - 9 * i - 9) (m - 9 * i) = c / 10 ^ (9 * i) % 1000000000 := by
  unfold seg
  rw [show m - (m - 9 * i) = 9 * i by omega]
  by_cases h9 : 9 * i + 9 ≤ m
  · rw [show m - 9 * i - (m - 9 * i - 9) = 9 by omega]
  · rw [show m - 9 * i - 9 = 0 by omega, Nat.sub_zero]
    have h1 : c / 10 ^ (9 * i) < 10 ^ (m - 9 * i) := by
      rw [Nat.div_lt_iff_lt_mul (Nat.pow_pos (by decide)), ← Nat.pow_add, show m - 9 * i + 9 * i = m by omega]; exact hc
    have h2 : (10 : Nat) ^ (m - 9 * i) ≤ 1000000000 := Nat.le_trans (Nat.pow_le_pow_right (by decide) (show m - 9 * i ≤ 9 by omega)) (by decide)
    rw [Nat.mod_eq_of_lt h1, Nat.mod_eq_of_lt (by omega)]
def NoR (w : World) (c : Nat) (r : Ending) (w' : World) : Prop := ∃ v t, r = .returned (.tuple #[v, .bool true]) ∧ NatOf w' w.heap.size v c t ∧ w.grownBy w' none
theorem parse_any {s : ByteArray} {c m : Nat} (w : World) (h : DgT s c m) (hm : m ≤ 1000) (hm0 : 0 < m) : Calls Tryz.prog 47 #[.string s] w fun r w' => NoR w c r w' := by
  obtain ⟨i0, hi0, hz0, hz1, hz2⟩ := info_parts inf79
  have hsz := h.size
  have HD := Hq0 h
  have HSZ := Hq0 hsz
  clear h
  go_enter Tryz.func47, Tryz.ntmps47
  go_wp2_with (fail)
  go_loopw [4, 5] (fun s4 s5 wx => ∃ i : Nat, s5 = .int .i64 ((m : Int) - 9 * i) ∧ 9 * i ≤ m + 8 ∧ wx.ownsRow w.heap.size 73 1 s4 i (lim9 c i) ∧ w.grownBy wx none) (fun _ s5 _ => (intOf s5).toNat)
  case atStart => exact ⟨0, congrArg (Value.int .i64) (by omega), by omega, World.ownsRow_nil _ _ _ _, grown_refl _ _⟩
  case round =>
    obtain ⟨i, rfl, hi, how, hg⟩ := hrel
    have HO := Hq0 how; have HG := Hq0 hg
    clear how hg
    by_cases hpos : 9 * i < m
    · have hp : (0 : Int) < (m : Int) - 9 * i := by omega
      have HP := Hq0 hpos
      obtain ⟨e, he⟩ : ∃ e : Nat, m - 9 * i = e := ⟨_, rfl⟩
      have he2 : (m : Int) - 9 * i = e := by omega
      obtain ⟨b, hb⟩ : ∃ b : Nat, m - 9 * i - 9 = b := ⟨_, rfl⟩
      have hb2 : max 0 ((e : Int) - 9) = b := by omega
      rw [he2] at hp ⊢
      have hem : e ≤ m := by omega
      have hbe : b ≤ e := by omega
      have heb : e ≤ b + 9 := by omega
      have HL := Hq0 (show seg c m b e = c / 10 ^ (9 * i) % 1000000000 from by rw [← hb, ← he]; exact seg_limb HD.out.lt hpos)
      have HE := Hq0 (And.intro he he2)
      clear hpos he he2 hb
      go_upto_block 2 with (fail)
      go_cut [6, 7] from 10 to 39 (fun s6 s7 wx => s6 = .int .u32 ((seg c m b e : Nat) : Int) ∧ wr = wx)
      case first =>
        go_wp2_with (fail)
        go_loopw [6, 7] (fun s6 s7 wx => ∃ x : Nat, s7 = .int .i64 x ∧ b ≤ x ∧ x ≤ e ∧ s6 = .int .u32 ((seg c m b x : Nat) : Int) ∧ wr = wx) (fun _ s7 _ => e - (intOf s7).toNat)
        case atStart => exact ⟨b, rfl, Nat.le_refl _, hbe, by rw [seg_start]; rfl, rfl⟩
        case round =>
          obtain ⟨x, rfl, hbx, hxe, rfl, rfl⟩ := hrel
          by_cases hx : x < e
          · have hx2 : (x : Int) < e := by omega
            have hj1 : x < s.size := by omega
            have hbx2 := HD.out.byte x hj1
            have hst := seg_step (c := c) (m := m) (i0 := b) (x := x) (by omega) hbx
            have hn8 := seg_lt8 c m b x (by omega)
            have hdd := Nat.mod_lt (c / 10 ^ (m - 1 - x)) (show 0 < 10 by decide)
            generalize c / 10 ^ (m - 1 - x) % 10 = d at hbx2 hst hdd
            generalize seg c m b x = n at hst hn8 ⊢
            have hj2 : (x : Int) < m := by omega
            have hbyte : ((s[x]'hj1).toNat : Int) = 48 + d := by omega
            have c1 : ¬ (((s[x]'hj1).toNat : Int) < 48) := by omega
            have c2 : ¬ ((57 : Int) < (s[x]'hj1).toNat) := by omega
            have HST := Hq0 hst; have HB := Hq0 hbx2; have HBX := Hq0 (And.intro hbx hdd)
            clear hst hbx2 hbyte
            go_wp2_with (fail)
            go_roundw
            case rel =>
              refine ⟨x + 1, by go_num, by have := HBX.out; omega, by omega, ?_, trivial⟩
              rw [HST.out]
              have hb := HB.out
              congr 1
              omega
            case measure => simp [intOf]; omega
          · have hx2 : ¬ (x : Int) < e := by omega
            have hxx : e = x := by omega
            subst hxx
            go_wp2_with (fail)
            go_meet
            exact ⟨rfl, rfl⟩
      case rest =>
        obtain ⟨rfl, rfl⟩ := hcut
        rw [HL.out]
        obtain ⟨z, hz⟩ : ∃ z, c / 10 ^ (9 * i) % 1000000000 = z := ⟨_, rfl⟩
        rw [hz]
        have HZ := Hq0 hz
        clear hz
        have hgs := HG.out.size
        go_wp2_with (at_builtin; refine wpList_append_own _ rfl (.tmp 40) (.tmp 42) 26 rfl w.heap.size 73 i0 _ 1 4 und35 hi0 hz0 hz1 hz2 rfl (by decide) _ i (lim9 c i) rfl (HO.out.alloc _) ⟨wr.heap.size, 0, none⟩ 1 1 [_] rfl rfl (cell_one_new _ _ _) (ints_oneCell .u32 [_]) (by simp only [maxLen]; omega) (by omega) (by simp; omega) ?_; intro v' w' hown' hg' hv')
        go_roundw
        case rel =>
          have hE := HE.out
          refine ⟨i + 1, congrArg (Value.int .i64) (by omega), by omega, ?_, grown_ownb (grown_trans HG.out (grown_new _ _)) hg' fun b hb => (HO.out.lt b hb).1⟩
          rw [lim9_succ, HZ.out]; exact hown'
        case measure => simp [intOf]; omega
    · obtain ⟨z, hz⟩ : ∃ z : Int, (m : Int) - 9 * i = z := ⟨_, rfl⟩
      have hp : ¬ (0 : Int) < z := by omega
      rw [hz]
      clear hz
      have HT := Hq0 (natTrim_any HO.out (Nat.lt_of_lt_of_le HD.out.lt (Nat.pow_le_pow_right (by decide) (show m ≤ 9 * i by omega))))
      have hte := str_ne (s := s) (by omega)
      clear hi hpos
      go_wp2_with (fail)
      refine HT.out.mono ?_
      rintro r w2 ⟨a, cap, t', rfl, rfl, hn, _, rfl⟩
      have HN := Hq0 hn
      clear hn HT
      go_wp2_with (fail)
      refine bodyPost_ret (v := .tuple #[.slice a t' cap, .bool true]) (by simp [results, Tryz.func47, go_sem, hte]; try rfl) rfl ?_
      exact ⟨_, t', rfl, HN.out, HG.out⟩
end Go.Proofs.YtjcfacinlgogaaaGreatDoor
open Go.RowKit
namespace Go.Proofs.YtjcfacinlgogaaaGreatDoor
structure SgT (s : ByteArray) (neg : Bool) (c m : Nat) : Prop where
  pos : neg = false → DgT s c m
  neg : neg = true → (∀ h : 0 < s.size, (s[0]'h).toNat = 45) ∧ 0 < s.size ∧ DgT (s.extract 1 s.size) c m
theorem mkS_size (L : List Nat) : (mkS L).size = L.length := by unfold mkS; rw [ByteArray.size]; simp
theorem mkS_get (L : List Nat) (i : Nat) (h : i < (mkS L).size) (h2 : i < L.length) (hb : L[i] < 256) : ((mkS L)[i]'h).toNat = L[i] := by
  have e : (mkS L)[i]'h = UInt8.ofNat L[i] := by
    show (List.map UInt8.ofNat L).toArray[i]'(by simpa using h2) = _
    rw [List.getElem_toArray, List.getElem_map]
  rw [e, UInt8.toNat_ofNat', Nat.mod_eq_of_lt hb]
theorem TxtD.dg {s : ByteArray} {c q : Nat} (h : TxtD s false c q) : DgT s c q := by
  have hz := h.size
  simp at hz
  refine ⟨hz, h.lt, fun i hi => ?_⟩
  have h1 := h.here
  subst h1
  have h2 : i < (digB false c q).length := by unfold digB; simp; omega
  have h3 : (digB false c q)[i] = 48 + c / 10 ^ (q - 1 - i) % 10 := by unfold digB; simp
  rw [mkS_get _ i hi h2 (digB_lt _ _ _ _ (List.getElem_mem h2)), h3]
theorem TxtD.sg {s : ByteArray} {neg : Bool} {c q : Nat} (h : TxtD s neg c q) : SgT s neg c q := by
  constructor
  · rintro rfl; exact h.dg
  · rintro rfl
    have hz := h.size
    simp at hz
    have h1 := h.here
    have hl : (digB true c q).length = 1 + q := by unfold digB; simp; omega
    refine ⟨fun h0 => ?_, by omega, ⟨?_, h.lt, fun i hi => ?_⟩⟩
    · subst h1
      rw [mkS_get _ 0 h0 (by omega) (digB_lt _ _ _ _ (List.getElem_mem _))]
      unfold digB; simp
    · rw [ByteArray.size_extract]; omega
    · subst h1
      rw [ByteArray.size_extract] at hi
      rw [ByteArray.getElem_extract, mkS_get _ (1 + i) (by omega) (by omega) (digB_lt _ _ _ _ (List.getElem_mem _))]
      unfold digB
      rw [List.getElem_append_right (by simp)]
      simp
def WpR (w : World) (n : Int) (r : Ending) (w' : World) : Prop := ∃ x t, r = .returned (.tuple #[x, .bool true]) ∧ WhV w' w.heap.size x n t ∧ w.grownBy w' none
theorem ParseWhole_any {s : ByteArray} {neg : Bool} {c m : Nat} (w : World) (h : SgT s neg c m) (hm : m ≤ 1000) (hm0 : 0 < m) : Calls Tryz.prog 44 #[.string s] w fun r w' => WpR w (if neg then -(c : Int) else c) r w' := by
  have hs0 : 0 < s.size := by
    cases neg
    · have := (h.pos rfl).size; omega
    · exact (h.neg rfl).2.1
  have hs1 : (0 : Int) < s.size := by omega
  have hte := str_ne hs0
  have hb45 : (((s[0]'hs0).toNat : Int) == 45) = neg := by
    cases neg
    · have := (h.pos rfl).byte 0 hs0
      simp; omega
    · rw [(h.neg rfl).1 hs0]; rfl
  have hb43 : (((s[0]'hs0).toNat : Int) == 43) = false := by
    cases neg
    · have := (h.pos rfl).byte 0 hs0
      simp; omega
    · rw [(h.neg rfl).1 hs0]; rfl
  have HS := Hq0 (sgn_whole (neg := neg) (c := c) rfl)
  obtain ⟨n, hn⟩ : ∃ n : Int, (if neg then -(c : Int) else c) = n := ⟨_, rfl⟩
  rw [hn] at HS ⊢
  clear hn
  have H := Hq0 h
  obtain ⟨W0, hW0⟩ : ∃ W0, W0 = w.alloc (.cells #[.bool false, .slice none 0 0] 28) := ⟨_, rfl⟩
  have g0 : w.grownBy W0 none := by rw [hW0]; exact grown_new _ _
  have HR := Hq0 (hW0 ▸ heap_new w (.cells #[.bool false, .slice none 0 0] 28) : W0.heap[w.heap.size]? = some _)
  have G0 := Hq0 g0
  clear g0 h
  go_enter Tryz.func44, Tryz.ntmps44
  go_upto_region 1 with (fail)
  rw [← hW0]
  clear hW0
  go_cut [4] from 7 to 13 (fun s4 wx => s4 = .bool neg ∧ W0 = wx)
  case first =>
    go_wp2_with (fail)
    go_meet
    exact ⟨rfl, rfl⟩
  case rest =>
    obtain ⟨rfl, rfl⟩ := hcut
    go_upto_region 2 with (fail)
    go_cut [25] from 14 to 25 (fun s25 wx => s25 = .bool neg ∧ W0 = wx)
    case first =>
      cases neg with
      | true =>
        go_wp2_with (fail)
        go_meet
        exact ⟨rfl, rfl⟩
      | false =>
        go_wp2_with (fail)
        go_meet
        exact ⟨rfl, rfl⟩
    case rest =>
    obtain ⟨rfl, rfl⟩ := hcut
    go_upto_if 25 with (fail)
    go_cut [0] from 26 to 27 (fun s0 wx => ∃ t, s0 = .string t ∧ DgT t c m ∧ W0 = wx)
    case first =>
      cases neg with
      | true =>
        go_wp2_with (fail)
        go_meet
        exact ⟨_, rfl, (H.out.neg rfl).2.2, rfl⟩
      | false =>
        go_wp2_with (fail)
        go_meet
        exact ⟨s, rfl, H.out.pos rfl, rfl⟩
    case rest =>
      obtain ⟨t, rfl, hd, rfl⟩ := hcut
      have HP := Hq0 (parse_any W0 hd hm hm0)
      clear hd hs0 hs1 hte hb45 hb43
      go_wp2_with (fail)
      refine HP.out.mono ?_
      rintro r w2 ⟨v, tv, rfl, hv, g2⟩
      have hW := wholeOf_any neg hv
      unfold wholeV at hW
      rw [HS.out.1] at hW
      have HW := Hq0 hW
      have HV := Hq0 hv
      have G2 := Hq0 (grown_trans G0.out g2)
      have HRR := Hq0 (kpb g2 HR.out)
      have HSN := Hq0 (HS.out.2)
      generalize hbs : decide (n < 0) = bs at *
      have HBS := Hq0 hbs
      obtain ⟨a, cap, rfl, _⟩ := hv.own.slice
      clear hv hW g2 hbs HP
      go_wp2_with (fail)
      refine HW.out.mono ?_
      rintro r w3 ⟨rfl, g3⟩
      have HRR := Hq0 (kpb g3 HRR.out)
      obtain ⟨y0, y1, y2, y3⟩ := cell_two HRR.out
      obtain ⟨o1, o2⟩ := st_var HRR.out (.bool bs) (.slice a tv cap)
      have HN := Hq0 (own_wh (HV.out.same g3) HRR.out o1)
      have G9 := Hq0 (grown_own (grown_trans G2.out g3) o1 (.inr (Nat.le_refl _)))
      clear g3
      go_wp2
      generalize (w3.setCell ⟨w.heap.size, 0, none⟩ (.bool bs)).setCell ⟨w.heap.size, 1, none⟩ (.slice a tv cap) = w9 at *
      clear y0 y1 y2 y3
      obtain ⟨s0, s1, _, _⟩ := cell_two o2
      refine bodyPost_ret (v := .tuple #[.agg #[.bool bs, .slice a tv cap], .bool true]) (by simp [results, Tryz.func44, go_sem, s0, s1]; try rfl) rfl ?_
      exact ⟨_, tv, rfl, ⟨_, by rw [HBS.out], by rw [HSN.out]; exact HN.out.base G0.out.size⟩, G9.out⟩
end Go.Proofs.YtjcfacinlgogaaaGreatDoor
