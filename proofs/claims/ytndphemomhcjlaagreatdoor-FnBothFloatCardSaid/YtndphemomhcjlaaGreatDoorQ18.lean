/- The reading of a decimal's text. Conditions: at most nineteen digits of worth. A decimal's text is no special number. The parsing of a decimal's text gives the nearest float. Conditions: at most nineteen digits and places. The parsing of a decimal's text: the doors. -/
import Derived.Test.YtndphemomhcjlaaGreatDoorQ17
import Derived.WalkMore
import Derived.Deep.CutBlock
set_option linter.all false

namespace Go.Proofs.YtndphemomhcjlaaGreatDoor
open Go.RowKit

/-- what the reading gives -/
def RdRes (w : World) (s : ByteArray) (neg : Bool) (c k : Nat) (e : Ending) (w' : World) : Prop :=
  e = .returned (.tuple #[.int .u64 c, .int .i64 (if c = 0 then 0 else -(k : Int)), .bool neg, .bool false, .bool false, .int .i64 s.size, .bool true]) ∧ w = w'

theorem mul_add_wrap {V d x c : Nat} (hx : 48 + d = x) (h : 10 * V + d ≤ c) (hc : c < 10000000000000000000) : IntKind.u64.wrap (IntKind.u64.wrap ((V : Int) * 10) + ((x : Int) - 48)) = ((10 * V + d : Nat) : Int) := by
  rw [IntKind.wrap_u64, IntKind.wrap_u64]; omega
/-- the reading's loop, in its slots -/
def LpR (c k m g : Nat) (s2 s5 s7 s9 s13 s14 s15 s16 s17 : Value) : Prop :=
  ∃ (j nd : Nat) (dp : Int) (sd sg : Bool), j ≤ m + pnt k ∧ s7 = .int .i64 ((g : Int) + j) ∧ s2 = .int .u64 ((c / 10 ^ (m - dgs m k j) : Nat) : Int) ∧ s5 = .bool false ∧ s9 = .bool false ∧ s13 = .bool sd ∧ (sd = true ↔ k ≠ 0 ∧ m - k < j) ∧
    s14 = .bool sg ∧ (0 < j → sg = true) ∧ s15 = .int .i64 nd ∧ s16 = .int .i64 nd ∧ s17 = .int .i64 dp ∧ RdAt c k m j nd dp

set_option maxHeartbeats 4000000 in
set_option maxRecDepth 100000 in
theorem readFloat_any {s : ByteArray} {neg : Bool} {c k m : Nat} (w : World) (h : IsTxt s neg c k m) (hc : c < 10000000000000000000) :
    Calls Tryz.prog 113 #[.string s] w fun e w' => RdRes w s neg c k e w' := by
  have hsz := h.size
  have hkm := h.km
  have hm20 := h.m20
  have s1 : sgn neg ≤ 1 := by unfold sgn; split <;> omega
  have s2 : pnt k ≤ 1 := by unfold pnt; split <;> omega
  have hlt : sgn neg < s.size := by omega
  have h0lt : 0 < s.size := by omega
  have hb0 := h.byte (sgn neg) hlt (Nat.le_refl _)
  rw [Nat.sub_self] at hb0
  have H := Lib.hid h
  have hle : s.size ≤ 22 := by omega
  have hne : ¬ s = ByteArray.empty := fun e => by rw [e] at h0lt; simp at h0lt
  have HSZ := Lib.hid hsz
  clear h hsz
  go_enter Tryz.func113, Tryz.ntmps113
  go_wp2_with (fail)
  go_step3
  go_upto_block 0 with (fail)
  go_cut [4, 7] from 18 to 35 (fun s4 s7 wx => s4 = .bool neg ∧ s7 = .int .i64 (sgn neg : Nat) ∧ w = wx)
  case first =>
    cases neg with
    | true =>
      have hs0 := H.out.sign h0lt rfl
      have t1 : (((s[0]'h0lt).toNat : Int) == 43) = false := by rw [hs0]; rfl
      have t2 : (((s[0]'h0lt).toNat : Int) == 45) = true := by rw [hs0]; rfl
      clear hb0 hs0
      go_wp2_with (fail)
      go_meet
      exact ⟨rfl, rfl, rfl⟩
    | false =>
      have hs0 : 48 ≤ (s[0]'h0lt).toNat := by
        have e := tb_digit (c := c) (m := m) (k := k) (j := 0) (by omega)
        have h1 : (s[0]'h0lt).toNat = tb c m k 0 := hb0
        omega
      have t1 : (((s[0]'h0lt).toNat : Int) == 43) = false := by simp; omega
      have t2 : (((s[0]'h0lt).toNat : Int) == 45) = false := by simp; omega
      clear hb0 hs0
      go_wp2_with (fail)
      go_meet
      exact ⟨rfl, rfl, rfl⟩
  case rest =>
    obtain ⟨rfl, rfl, rfl⟩ := hcut
    clear hb0
    obtain ⟨g, hg⟩ : ∃ g, sgn neg = g := ⟨_, rfl⟩
    rw [hg] at s1 hlt
    have HG := Lib.hid hg
    rw [hg]
    clear hg
    go_upto_region 12 with (fail)
    go_cut [54] from 36 to 54 (fun s54 wx => s54 = .bool false ∧ w = wx)
    case first =>
      by_cases h2 : g + 2 < s.size
      · have h1lt : g + 1 < s.size := by omega
        have t0 : (g : Int) + 2 < s.size := by omega
        have hx1 : bits .or .u8 ((s[g + 1]'h1lt).toNat : Int) 32 = ((s[g + 1]'h1lt).toNat : Int) ∧ (((s[g + 1]'h1lt).toNat : Int) == 120) = false := by
          have hb1 := H.out.byte (g + 1) h1lt (by rw [HG.out]; omega)
          have hr := tb_range (c := c) (m := m) (k := k) (j := g + 1 - sgn neg)
          rw [← hb1] at hr
          generalize (s[g + 1]'h1lt).toNat = x at *
          exact ⟨lower_same x (by omega) (by omega), by simp; omega⟩
        obtain ⟨e1, e2⟩ := hx1
        by_cases h3 : (s[g]'hlt).toNat = 48
        · have e3 : (((s[g]'hlt).toNat : Int) == 48) = true := by simp; omega
          clear h3
          go_wp2_with (go_at_call 164; refine (Tryz.internal_strconv_lower _ _).mono ?_; rintro e w2 ⟨rfl, rfl⟩)
          go_meet
          exact ⟨rfl, rfl⟩
        · have e3 : (((s[g]'hlt).toNat : Int) == 48) = false := by simp; omega
          clear h3
          go_wp2_with (fail)
          go_meet
          exact ⟨rfl, rfl⟩
      · have t0 : ¬ ((g : Int) + 2 < s.size) := by omega
        go_wp2_with (fail)
        go_meet
        exact ⟨rfl, rfl⟩
    case rest =>
      obtain ⟨rfl, rfl⟩ := hcut
      go_wp2_with (fail)
      go_step3
      go_wp2_with (fail)
      go_loopw [2, 5, 7, 9, 13, 14, 15, 16, 17] (fun s2 s5 s7 s9 s13 s14 s15 s16 s17 wr => LpR c k m g s2 s5 s7 s9 s13 s14 s15 s16 s17 ∧ w = wr) (fun _ _ s7 _ _ _ _ _ _ _ => s.size - (intOf s7).toNat)
      case atStart =>
        refine ⟨⟨0, 0, 0, false, false, by omega, by simp, ?_, rfl, rfl, rfl, by simp, rfl, by omega, rfl, rfl, rfl, RdAt.start H.out.cm⟩, rfl⟩
        have e : dgs m k 0 = 0 := by unfold dgs; split <;> rfl
        rw [e, Nat.sub_zero, Nat.div_eq_of_lt H.out.cm]; rfl
      case round =>
        obtain ⟨⟨j, nd, dp, sd, sg, hj, rfl, rfl, rfl, rfl, rfl, hsd, rfl, hsg, rfl, rfl, rfl, hr⟩, rfl⟩ := hrel
        obtain ⟨V, hV⟩ : ∃ V, c / 10 ^ (m - dgs m k j) = V := ⟨_, rfl⟩
        have HR := Lib.hid hr; have HV := Lib.hid hV; have HSD := Lib.hid hsd; have HSG := Lib.hid hsg
        rw [hV]
        clear hr hV hsd hsg
        by_cases hj2 : j < m + pnt k
        · have hi : g + j < s.size := by rw [HSZ.out, HG.out]; omega
          have hii : (g : Int) + j < s.size := by omega
          have hbx := H.out.byte (g + j) hi (by rw [HG.out]; omega)
          rw [show g + j - sgn neg = j by rw [HG.out]; omega] at hbx
          have hndl : nd ≤ 19 := (HR.out.isnd).lt (V_le _ _ _) hc
          have hdg : dgs m k j ≤ j := by unfold dgs; split <;> omega
          have hdpb : -50 ≤ dp ∧ dp ≤ 50 := by
            have h := HR.out.isdp
            split at h <;> omega
          obtain ⟨dp1, dp2⟩ := hdpb
          by_cases hp : k ≠ 0 ∧ j = m - k
          · have hsd : sd = false := Bool.eq_false_iff.2 (fun e => by have := HSD.out.1 e; omega)
            subst hsd
            obtain ⟨hk0, hjm⟩ := hp
            have hb : (s[g + j]'hi).toNat = 46 := by rw [hbx, hjm]; exact tb_point hk0
            have HP := Lib.hid (show k ≠ 0 ∧ j = m - k from ⟨hk0, hjm⟩)
            clear hbx hjm hk0
            go_wp2_with (fail)
            go_roundw
            case rel =>
              obtain ⟨hk0, rfl⟩ := HP.out
              refine ⟨⟨m - k + 1, nd, nd, true, sg, by unfold pnt; rw [if_neg hk0]; omega, by go_num, ?_, rfl, rfl, rfl, ⟨fun _ => ⟨hk0, by omega⟩, fun _ => rfl⟩, rfl, fun _ => HSG.out (by omega), rfl, rfl, rfl, HR.out.point hk0⟩, trivial⟩
              have e : dgs m k (m - k + 1) = dgs m k (m - k) := by unfold dgs; rw [if_pos ⟨hk0, by omega⟩, if_neg (by omega)]; rfl
              rw [e, HV.out]
            case measure => simp [intOf]; omega
          · obtain ⟨d1, d2, d3⟩ := HR.out.digit hj2 hp hkm
            have hb0 := hbx
            rw [tb_digit hp] at hb0
            obtain ⟨d, hd⟩ : ∃ d, c / 10 ^ (m - 1 - dgs m k j) % 10 = d := ⟨_, rfl⟩
            have hd10 : d < 10 := by rw [← hd]; exact Nat.mod_lt _ (by decide)
            rw [hd] at d1 d2 d3 hb0
            rw [HV.out] at d1
            obtain ⟨x, hx⟩ : ∃ x, 48 + d = x := ⟨_, rfl⟩
            rw [hx] at hb0
            have hVle : 10 * V + d ≤ c := by rw [← d1]; exact V_le _ _ _
            have hsd' : ∀ b : Bool, (b = true ↔ k ≠ 0 ∧ m - k < j + 1) ↔ (b = true ↔ k ≠ 0 ∧ m - k < j) := by
              intro b
              have : (k ≠ 0 ∧ m - k < j + 1) ↔ (k ≠ 0 ∧ m - k < j) := by omega
              rw [this]
            have t95 : (((x : Nat) : Int) == 95) = false := by simp; omega
            have t46 : (((x : Nat) : Int) == 46) = false := by simp; omega
            have u48 : (48 : Int) ≤ x := by omega
            have u57 : (x : Int) ≤ 57 := by omega
            have HSD2 := Lib.hid ((hsd' sd).2 HSD.out)
            have D1 := Lib.hid d1; have D2 := Lib.hid d2; have D3 := Lib.hid d3; have HX := Lib.hid hx
            clear hbx hsd' d1 d2 d3 hx hd
            by_cases hz : d = 0 ∧ nd = 0
            · obtain ⟨z1, z2⟩ := hz
              have t48 : (((x : Nat) : Int) == 48) = true := by have := HX.out; simp; omega
              have tn : ((nd : Int) == 0) = true := by simp; omega
              have Z := Lib.hid (show _ ∧ _ from ⟨z1, z2⟩)
              clear z1 z2 hp
              go_wp2_with (fail)
              go_roundw
              case rel =>
                refine ⟨⟨j + 1, nd, dp - 1, sd, true, by omega, by go_num, ?_, rfl, rfl, rfl, HSD2.out, rfl, fun _ => rfl, rfl, rfl, rfl, D2.out Z.out.1 Z.out.2⟩, trivial⟩
                rw [D1.out]
                have h1 := HR.out.isnd.zero_iff.1 Z.out.2
                rw [HV.out] at h1
                rw [h1, Z.out.1]
              case measure => simp [intOf]; omega
            · have hn19 : nd < 19 := by
                have h1 := (D3.out hz).isnd.lt (V_le _ _ _) hc
                omega
              have hn19' : (nd : Int) < 19 := by omega
              have HZ := Lib.hid hz
              have HVL := Lib.hid hVle
              clear hVle
              by_cases hd0 : d = 0
              · have t48 : (((x : Nat) : Int) == 48) = true := by have := HX.out; simp; omega
                have tn : ((nd : Int) == 0) = false := by simp; omega
                clear hz hp hd0
                go_wp2_with (fail)
                go_roundw
                case rel =>
                  refine ⟨⟨j + 1, nd + 1, dp, sd, true, by omega, by go_num, ?_, rfl, rfl, rfl, HSD2.out, rfl, fun _ => rfl, by go_num, by go_num, rfl, D3.out HZ.out⟩, trivial⟩
                  rw [D1.out]
                  exact congrArg (Value.int .u64) (mul_add_wrap HX.out HVL.out hc)
                case measure => simp [intOf]; omega
              · have t48 : (((x : Nat) : Int) == 48) = false := by have := HX.out; simp; omega
                clear hz hp hd0
                go_wp2_with (fail)
                go_roundw
                case rel =>
                  refine ⟨⟨j + 1, nd + 1, dp, sd, true, by omega, by go_num, ?_, rfl, rfl, rfl, HSD2.out, rfl, fun _ => rfl, by go_num, by go_num, rfl, D3.out HZ.out⟩, trivial⟩
                  rw [D1.out]
                  exact congrArg (Value.int .u64) (mul_add_wrap HX.out HVL.out hc)
                case measure => simp [intOf]; omega
        · obtain rfl : j = m + pnt k := by omega
          obtain ⟨e1, e2, e3⟩ := HR.out.done hkm
          have hVc : V = c := by rw [← HV.out]; exact e1
          subst hVc
          have hsg2 : sg = true := HSG.out (by omega)
          subst hsg2
          have hil : (g : Int) + ((m + pnt k : Nat) : Int) = (s.size : Int) := by rw [HSZ.out, HG.out]; omega
          have E2 := Lib.hid e2
          have E3 := Lib.hid e3
          have hE : ¬ ((s.size : Int) < s.size) := by omega
          rw [hil]
          clear hil e1 e2 e3 HSG
          by_cases hk0 : k = 0
          · have hsd : sd = false := Bool.eq_false_iff.2 (fun e => by have := HSD.out.1 e; exact this.1 hk0)
            subst hsd
            have K0 := Lib.hid hk0
            clear hk0 hj2 HV HR HSD
            by_cases hc0 : V = 0
            · have t0 : ((V : Int) != 0) = false := by simp; omega
              have C0 := Lib.hid hc0
              clear hc0
              go_wp2_with (fail)
              refine bodyPost_ret (v := .tuple #[.int .u64 V, .int .i64 0, .bool neg, .bool false, .bool false, .int .i64 s.size, .bool true]) (by simp [results, Tryz.func113, go_sem]; try rfl) rfl ?_
              exact ⟨by rw [if_pos C0.out], rfl⟩
            · have t0 : ((V : Int) != 0) = true := by simp; omega
              have C0 := Lib.hid hc0
              clear hc0
              go_wp2_with (fail)
              refine bodyPost_ret (v := .tuple #[.int .u64 V, .int .i64 0, .bool neg, .bool false, .bool false, .int .i64 s.size, .bool true]) (by simp [results, Tryz.func113, go_sem]; try rfl) rfl ?_
              exact ⟨by rw [if_neg C0.out, K0.out]; rfl, rfl⟩
          · have hsd : sd = true := HSD.out.2 ⟨hk0, by unfold pnt; rw [if_neg hk0]; omega⟩
            subst hsd
            have K0 := Lib.hid hk0
            have hdn : dp - nd = -(k : Int) := E3.out hk0
            clear hk0 hj2 HV HR HSD E3
            by_cases hc0 : V = 0
            · have t0 : ((V : Int) != 0) = false := by simp; omega
              have C0 := Lib.hid hc0
              clear hc0
              go_wp2_with (fail)
              refine bodyPost_ret (v := .tuple #[.int .u64 V, .int .i64 0, .bool neg, .bool false, .bool false, .int .i64 s.size, .bool true]) (by simp [results, Tryz.func113, go_sem]; try rfl) rfl ?_
              exact ⟨by rw [if_pos C0.out], rfl⟩
            · have t0 : ((V : Int) != 0) = true := by simp; omega
              have C0 := Lib.hid hc0
              clear hc0
              go_wp2_with (fail)
              refine bodyPost_ret (v := .tuple #[.int .u64 V, .int .i64 (-(k : Int)), .bool neg, .bool false, .bool false, .int .i64 s.size, .bool true]) (by simp [results, Tryz.func113, go_sem]; try rfl) rfl ?_
              exact ⟨by rw [if_neg C0.out], rfl⟩
end Go.Proofs.YtndphemomhcjlaaGreatDoor

namespace Go.Proofs.YtndphemomhcjlaaGreatDoor
open Go.RowKit

set_option maxRecDepth 100000 in
theorem cpl_any {t : ByteArray} (w : World) (h : 0 < t.size) (h1 : 48 ≤ (t[0]'h).toNat) (h2 : (t[0]'h).toNat ≤ 57) (hm : t.size ≤ 22) :
    Calls Tryz.prog 161 #[.string t, .string ⟨#[105, 110, 102, 105, 110, 105, 116, 121]⟩] w fun e w' => e = .returned (.int .i64 0) ∧ w = w' := by
  have k1 : ¬ ((65 : Int) ≤ ((t[0]'h).toNat : Int)) := by omega
  have k2 : ((((t[0]'h).toNat : Nat) : Int) != 105) = true := by simp; omega
  have hne : ¬ t = ByteArray.empty := fun e => by rw [e] at h; simp at h
  have hp : ((⟨#[105, 110, 102, 105, 110, 105, 116, 121]⟩ : ByteArray)[0]'(by decide)).toNat = 105 := rfl
  obtain ⟨n, hn, n1⟩ : ∃ n : Int, min (8 : Int) (t.size : Int) = n ∧ 0 < n := ⟨_, rfl, by omega⟩
  go_enter Tryz.func161, Tryz.ntmps161
  go_wp2_with (fail)
  go_loopw [6, 7] (fun s6 s7 wr => s6 = .int .i64 0 ∧ w = wr) (fun _ _ _ => 0)
  case atStart => exact ⟨rfl, rfl⟩
  case round =>
    obtain ⟨rfl, rfl⟩ := hrel
    go_wp2
    go_ret
    exact ⟨rfl, rfl⟩

set_option maxRecDepth 100000 in
theorem special_any {s : ByteArray} {neg : Bool} {c k m : Nat} (w : World) (h : IsTxt s neg c k m) :
    Calls Tryz.prog 112 #[.string s] w fun e w' => e = .returned (.tuple #[.float .f64 0, .int .i64 0, .bool false]) ∧ w = w' := by
  have hsz := h.size
  have hkm := h.km
  have hm20 := h.m20
  have s2 : pnt k ≤ 1 := by unfold pnt; split <;> omega
  have s1 : sgn neg ≤ 1 := by unfold sgn; split <;> omega
  have h0lt : 0 < s.size := by omega
  have hlt : sgn neg < s.size := by omega
  have hb0 := h.byte (sgn neg) hlt (Nat.le_refl _)
  rw [Nat.sub_self] at hb0
  have e0 := tb_digit (c := c) (m := m) (k := k) (j := 0) (by omega)
  have b1 : 48 ≤ (s[sgn neg]'hlt).toNat := by omega
  have b2 : (s[sgn neg]'hlt).toNat ≤ 57 := by omega
  have hne : ¬ s = ByteArray.empty := fun e => by rw [e] at h0lt; simp at h0lt
  have hle : s.size ≤ 22 := by omega
  cases neg with
  | false =>
    have b1 : 48 ≤ (s[0]'h0lt).toNat := b1
    have b2 : (s[0]'h0lt).toNat ≤ 57 := b2
    have t1 : (((s[0]'h0lt).toNat : Int) == 43) = false := by simp; omega
    have t2 : (((s[0]'h0lt).toNat : Int) == 45) = false := by simp; omega
    have t3 : (((s[0]'h0lt).toNat : Int) == 105) = false := by simp; omega
    have t4 : (((s[0]'h0lt).toNat : Int) == 73) = false := by simp; omega
    have t5 : (((s[0]'h0lt).toNat : Int) == 110) = false := by simp; omega
    have t6 : (((s[0]'h0lt).toNat : Int) == 78) = false := by simp; omega
    clear hb0 b1 b2 e0 h hsz
    go_enter Tryz.func112, Tryz.ntmps112
    go_wp2
    refine bodyPost_ret (v := .tuple #[.float .f64 0, .int .i64 0, .bool false]) (by simp [results, Tryz.func112, go_sem]; try rfl) rfl ?_
    exact ⟨rfl, rfl⟩
  | true =>
    have hs0 := h.sign h0lt rfl
    have t1 : (((s[0]'h0lt).toNat : Int) == 43) = false := by rw [hs0]; rfl
    have t2 : (((s[0]'h0lt).toNat : Int) == 45) = true := by rw [hs0]; rfl
    have hz : (s.extract 1 s.size).size = s.size - 1 := by simp [ByteArray.size_extract]
    have h1lt : 1 < s.size := hlt
    have hz0 : 0 < (s.extract 1 s.size).size := by omega
    have hx : (s.extract 1 s.size)[0]'hz0 = s[1]'h1lt := by rw [ByteArray.getElem_extract]
    have HC := Lib.hid (cpl_any w hz0 (by rw [hx]; exact b1) (by rw [hx]; exact b2) (by omega))
    clear hb0 e0 h hsz hs0 hx hz hz0 b1 b2
    go_enter Tryz.func112, Tryz.ntmps112
    go_wp2_with (fail)
    refine HC.out.mono ?_
    rintro e w1 ⟨rfl, rfl⟩
    clear HC
    go_wp2
    refine bodyPost_ret (v := .tuple #[.float .f64 0, .int .i64 0, .bool false]) (by simp [results, Tryz.func112, go_sem]; try rfl) rfl ?_
    exact ⟨rfl, rfl⟩
end Go.Proofs.YtndphemomhcjlaaGreatDoor

namespace Go.Proofs.YtndphemomhcjlaaGreatDoor
open Go.RowKit

/-- the word of a float that is nearest to c / 10^k -/
def FltW (neg : Bool) (c k W : Nat) : Prop := (c = 0 ∧ W = sgw neg) ∨ (c ≠ 0 ∧ ∃ g, W = Ieee.double.word neg g ∧ Rung c (10 ^ k) g ∧ 4503599627370496 ≤ g ∧ g < 9218868437227405312)
def AtRes (w : World) (n : Nat) (neg : Bool) (c k : Nat) (e : Ending) (w' : World) : Prop :=
  ∃ W : Nat, e = .returned (.tuple #[.float .f64 W, .int .i64 n, .nilIface]) ∧ FltW neg c k W ∧ w.grownBy w' none

theorem read_zero {s : ByteArray} {neg : Bool} {k m : Nat} (w : World) (h : IsTxt s neg 0 k m) :
    Calls Tryz.prog 113 #[.string s] w fun e w' => e = .returned (.tuple #[.int .u64 0, .int .i64 0, .bool neg, .bool false, .bool false, .int .i64 s.size, .bool true]) ∧ w = w' :=
  (readFloat_any w h (by decide)).mono fun e w' (h : RdRes _ _ _ _ _ _ _) => ⟨by rw [h.1, if_pos rfl]; rfl, h.2⟩
theorem read_some {s : ByteArray} {neg : Bool} {c k m : Nat} (w : World) (h : IsTxt s neg c k m) (hc : c < 10000000000000000000) (h0 : c ≠ 0) :
    Calls Tryz.prog 113 #[.string s] w fun e w' => e = .returned (.tuple #[.int .u64 c, .int .i64 (-(k : Int)), .bool neg, .bool false, .bool false, .int .i64 s.size, .bool true]) ∧ w = w' :=
  (readFloat_any w h hc).mono fun e w' (h : RdRes _ _ _ _ _ _ _) => ⟨by rw [h.1, if_neg h0], h.2⟩

set_option maxHeartbeats 1000000 in
set_option maxRecDepth 100000 in
theorem atof64_any {s : ByteArray} {neg : Bool} {c k m : Nat} {w : World} (h : IsTxt s neg c k m) (hc : c < 10000000000000000000) (hk : k ≤ 19) (hS : TabS w) (hP : TabP w) (hPb : 16 < w.heap.size) :
    Calls Tryz.prog 90 #[.string s] w fun e w' => AtRes w s.size neg c k e w' := by
  have HSp := Lib.hid (special_any w h)
  have ho := hS.opt
  have HS := Lib.hid hS; have HP := Lib.hid hP
  have hsf := run_sfrom
  by_cases h0 : c = 0
  · subst h0
    have HRd := Lib.hid (read_zero w h)
    clear h hS hP
    cases neg with
    | false =>
      have o1 : bits .or .u64 0 0 = 0 := by decide
      go_enter Tryz.func90, Tryz.ntmps90
      go_wp2_with (fail)
      refine HSp.out.mono ?_
      rintro e w1 ⟨rfl, rfl⟩
      go_wp2_with (fail)
      refine HRd.out.mono ?_
      rintro e w1 ⟨rfl, rfl⟩
      go_wp2_with (fail)
      refine (bool264_f _).mono ?_
      rintro e w1 ⟨rfl, rfl⟩
      go_wp2_with (fail)
      go_ret3
      exact ⟨0, rfl, .inl ⟨rfl, rfl⟩, grown_refl _ _⟩
    | true =>
      have o1 : bits .or .u64 9223372036854775808 0 = 9223372036854775808 := by decide
      go_enter Tryz.func90, Tryz.ntmps90
      go_wp2_with (fail)
      refine HSp.out.mono ?_
      rintro e w1 ⟨rfl, rfl⟩
      go_wp2_with (fail)
      refine HRd.out.mono ?_
      rintro e w1 ⟨rfl, rfl⟩
      go_wp2_with (fail)
      refine (bool264_t _).mono ?_
      rintro e w1 ⟨rfl, rfl⟩
      go_wp2_with (fail)
      go_ret3
      exact ⟨9223372036854775808, rfl, .inl ⟨rfl, rfl⟩, grown_refl _ _⟩
  · have HRd := Lib.hid (read_some w h hc h0)
    have c0 : ((c : Int) == 0) = false := by simp; omega
    have p1 : ¬ (310 < -(k : Int)) := by omega
    have p2 : ¬ (-(k : Int) < -345) := by omega
    have hz := h.size
    have hm20 := h.m20
    have s1 : sgn neg ≤ 1 := by unfold sgn; split <;> omega
    have s2 : pnt k ≤ 1 := by unfold pnt; split <;> omega
    have hle : s.size ≤ 22 := by omega
    clear h hS hP hz hm20 s1 s2
    have HB : Hid (Calls Tryz.prog 121 #[.bool neg] w fun e w' => e = .returned (.int .u64 (if neg then 1 else 0)) ∧ w = w') := bool264_any neg w
    by_cases hs : c < 4503599627370496
    · have HE := Lib.hid (exact_yes neg HS.out (by omega) hs hk)
      clear hs
      cases neg <;>
        (go_enter Tryz.func90, Tryz.ntmps90
         go_wp2_with (fail)
         refine HSp.out.mono ?_
         rintro e w1 ⟨rfl, rfl⟩
         go_wp2_with (fail)
         refine HRd.out.mono ?_
         rintro e w1 ⟨rfl, rfl⟩
         go_wp2_with (fail)
         first
           | (refine (bool264_f _).mono ?_; rintro e w1 ⟨rfl, rfl⟩)
           | (refine (bool264_t _).mono ?_; rintro e w1 ⟨rfl, rfl⟩)
         go_wp2_with (fail)
         refine HE.out.mono ?_
         rintro e w1 ⟨g, rfl, g1, g2, g3, rfl⟩
         have HG := Lib.hid g1
         clear g1 HE
         go_wp2_with (fail)
         go_ret3
         exact ⟨_, rfl, .inr ⟨h0, g, rfl, HG.out, g2, g3⟩, grown_refl _ _⟩)
    · have HE := Lib.hid (exact_no (c := c) (-(k : Int)) neg HS.out (by omega) (by omega))
      have HF : Hid (Calls Tryz.prog 124 #[.int .u64 c, .int .i64 (-(k : Int)), .int .u64 (sgw neg : Nat)] w fun e w' => PfRes w neg c k e w') := parseFloat64_any neg HP.out hPb hk (by omega) (by omega)
      clear hs
      cases neg <;>
        (go_enter Tryz.func90, Tryz.ntmps90
         go_wp2_with (fail)
         refine HSp.out.mono ?_
         rintro e w1 ⟨rfl, rfl⟩
         go_wp2_with (fail)
         refine HRd.out.mono ?_
         rintro e w1 ⟨rfl, rfl⟩
         go_wp2_with (fail)
         first
           | (refine (bool264_f _).mono ?_; rintro e w1 ⟨rfl, rfl⟩)
           | (refine (bool264_t _).mono ?_; rintro e w1 ⟨rfl, rfl⟩)
         go_wp2_with (fail)
         refine HE.out.mono ?_
         rintro e w1 ⟨rfl, rfl⟩
         go_wp2_with (fail)
         refine HF.out.mono ?_
         rintro e w1 ⟨g, rfl, g1, g2, g3, g4⟩
         have HG := Lib.hid g1; have HG4 := Lib.hid g4
         clear g1 g4 HE HF
         go_wp2_with (fail)
         go_ret3
         exact ⟨_, rfl, .inr ⟨h0, g, rfl, HG.out, g2, g3⟩, HG4.out⟩)
end Go.Proofs.YtndphemomhcjlaaGreatDoor

namespace Go.Proofs.YtndphemomhcjlaaGreatDoor
open Go.RowKit

def PsRes (w : World) (neg : Bool) (c k : Nat) (e : Ending) (w' : World) : Prop :=
  ∃ W : Nat, e = .returned (.tuple #[.float .f64 W, .nilIface]) ∧ FltW neg c k W ∧ w.grownBy w' none

theorem prefix_any {s : ByteArray} {neg : Bool} {c k m : Nat} {w : World} (h : IsTxt s neg c k m) (hc : c < 10000000000000000000) (hk : k ≤ 19) (hS : TabS w) (hP : TabP w) (hPb : 16 < w.heap.size) :
    Calls Tryz.prog 62 #[.string s, .int .i64 64] w fun e w' => AtRes w s.size neg c k e w' := by
  have H := Lib.hid (atof64_any h hc hk hS hP hPb)
  clear h hc hk hS hP hPb
  go_enter Tryz.func62, Tryz.ntmps62
  go_wp2_with (fail)
  refine H.out.mono ?_
  rintro e w1 ⟨W, rfl, h1, h2⟩
  have H1 := Lib.hid h1; have H2 := Lib.hid h2
  clear h1 h2 H
  go_wp2
  go_ret3
  exact ⟨W, rfl, H1.out, H2.out⟩
theorem iparse_any {s : ByteArray} {neg : Bool} {c k m : Nat} {w : World} (h : IsTxt s neg c k m) (hc : c < 10000000000000000000) (hk : k ≤ 19) (hS : TabS w) (hP : TabP w) (hPb : 16 < w.heap.size) :
    Calls Tryz.prog 38 #[.string s, .int .i64 64] w fun e w' => PsRes w neg c k e w' := by
  have H := Lib.hid (prefix_any h hc hk hS hP hPb)
  clear h hc hk hS hP hPb
  go_enter Tryz.func38, Tryz.ntmps38
  go_wp2_with (fail)
  refine H.out.mono ?_
  rintro e w1 ⟨W, rfl, h1, h2⟩
  have H1 := Lib.hid h1; have H2 := Lib.hid h2
  clear h1 h2 H
  go_wp2
  go_ret2
  exact ⟨W, rfl, H1.out, H2.out⟩
theorem ParseFloat_any {s : ByteArray} {neg : Bool} {c k m : Nat} {w : World} (h : IsTxt s neg c k m) (hc : c < 10000000000000000000) (hk : k ≤ 19) (hS : TabS w) (hP : TabP w) (hPb : 16 < w.heap.size) :
    Calls Tryz.prog 21 #[.string s, .int .i64 64] w fun e w' => PsRes w neg c k e w' := by
  have H := Lib.hid (iparse_any h hc hk hS hP hPb)
  clear h hc hk hS hP hPb
  go_enter Tryz.func21, Tryz.ntmps21
  go_wp2_with (fail)
  refine H.out.mono ?_
  rintro e w1 ⟨W, rfl, h1, h2⟩
  have H1 := Lib.hid h1; have H2 := Lib.hid h2
  clear h1 h2 H
  go_wp2
  go_ret2
  exact ⟨W, rfl, H1.out, H2.out⟩
end Go.Proofs.YtndphemomhcjlaaGreatDoor
