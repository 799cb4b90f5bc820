/- A whole number out of its text. Conditions: at most nineteen digits of worth. -/
import Derived.Test.YtndphemomhcjlaaGreatDoorQ22
set_option linter.all false

namespace Go.Proofs.YtndphemomhcjlaaGreatDoor
open Go.RowKit

set_option maxHeartbeats 4000000 in
set_option maxRecDepth 100000 in
theorem whole_any {s : ByteArray} {neg : Bool} {c m : Nat} (w : World) (h : IsTxt s neg c 0 m) (hn : (c = 0 ∧ m = 1) ∨ 10 ^ (m - 1) ≤ c) (hz : c = 0 → neg = false) (hc : c < 10000000000000000000) :
    Calls Tryz.prog 22 #[.string s] w fun e w' => WhRes w (if neg then -(c : Int) else c) e w' := by
  have hsz := h.size
  have hp0 : pnt 0 = 0 := rfl
  rw [hp0, Nat.add_zero] at hsz
  have hm0 := h.km
  have hm20 := h.m20
  have s1 : sgn neg ≤ 1 := by unfold sgn; split <;> omega
  have h0lt : 0 < s.size := by omega
  have hlen : (0 : Int) < s.size := by omega
  have hle : s.size ≤ 21 := by omega
  have HT := Lib.hid h
  have HN := Lib.hid hn; have HC := Lib.hid hc; have HZ := Lib.hid hz
  have HSZ := Lib.hid hsz
  clear h hn hc hp0 hz hsz
  obtain ⟨i0, hi0, hz0, hz1, hz2⟩ := info_parts inf22
  go_enter Tryz.func22, Tryz.ntmps22
  go_upto_region 1 with (fail)
  go_cut [4] from 13 to 20 (fun s4 wx => s4 = .bool neg ∧ w = wx)
  case first =>
    have hg0 := first_neg HT.out h0lt
    go_wp2_with (fail)
    go_meet
    exact ⟨rfl, rfl⟩
  case rest =>
    obtain ⟨rfl, rfl⟩ := hcut
    go_upto_if 21 with (fail)
    go_cut [0] from 21 to 23 (fun s0 wx => ∃ t, s0 = .string t ∧ IsDig t c m ∧ w = wx)
    case first =>
      cases neg with
      | true =>
        go_wp2_with (fail)
        go_meet
        exact ⟨_, rfl, dig_neg HT.out HN.out, rfl⟩
      | false =>
        go_wp2_with (fail)
        go_meet
        exact ⟨s, rfl, dig_pos HT.out HN.out, rfl⟩
    case rest =>
      obtain ⟨t, rfl, hd, rfl⟩ := hcut
      have htz := hd.size
      have hd0 : 0 < t.size := by omega
      have hd1 : (0 : Int) < t.size := by omega
      have d1 : ¬ t = ByteArray.empty := fun e => by rw [e] at hd0; simp at hd0
      have d2 : ¬ ((400 : Int) < t.size) := by omega
      have HD := Lib.hid hd
      have HTZ := Lib.hid htz
      clear hd h0lt hlen hle s1 htz
      go_upto_region 4 with (fail)
      go_cut [44] from 24 to 44 (fun s44 wx => s44 = .bool false ∧ w = wx)
      case first =>
        by_cases hc0 : c = 0
        · have hng := HZ.out hc0
          subst hng
          have hm1 : m = 1 := by
            rcases HD.out.nd with h | h
            · exact h.2
            · rw [hc0] at h; have := Nat.pow_pos (n := m - 1) (show 0 < 10 by decide); omega
          have d3 : ¬ ((1 : Int) < t.size) := by rw [HTZ.out, hm1]; decide
          have d4 : (((t[0]'hd0).toNat : Int) == 48) = true := by rw [HD.out.byte 0 hd0, hc0]; simp
          clear hm1 hc0
          go_wp2_with (fail)
          go_meet
          exact ⟨congrArg Value.bool (by simp [d1]), rfl⟩
        · have d4 : (((t[0]'hd0).toNat : Int) == 48) = false := by
            have := HD.out.first hc0 hd0
            simpa using this
          clear hc0
          go_wp2_with (fail)
          go_meet
          exact ⟨congrArg Value.bool (by simp [d1]), rfl⟩
      case rest =>
        obtain ⟨rfl, rfl⟩ := hcut
        clear hd0 hd1 d1 d2
        go_wp2_with (fail)
        go_loopw [5, 6] (fun s5 s6 wr => WhL w c m s5 s6 wr) (fun _ s6 _ => m - (intOf s6).toNat)
        case atStart =>
          exact ⟨[], 0, rfl, Nat.zero_le _, by rw [pre_zero HD.out.cm]; exact Lm.nil, World.ownsRow_nil _ _ _ _, grown_refl _ _⟩
        case round =>
          obtain ⟨L, i, rfl, him, hL, how, hg⟩ := hrel
          have HL := Lib.hid hL; have HO := Lib.hid how; have HG := Lib.hid hg
          clear hL how hg
          by_cases hi : i < m
          · have hi2 : (i : Int) < t.size := by rw [HTZ.out]; omega
            go_upto_block 2 with (fail)
            go_cut [6, 7, 8] from 49 to 78 (fun s6 s7 s8 wx => ∃ i2 n sc : Nat, s6 = .int .i64 i2 ∧ s7 = .int .u64 n ∧ s8 = .int .u64 sc ∧ Ck c m i i2 n sc ∧ (i2 = m ∨ i2 = i + 9) ∧ wr = wx)
            case first =>
              go_wp2_with (fail)
              go_loopw [6, 7, 8] (fun s6 s7 s8 wx => ∃ i2 n sc : Nat, s6 = .int .i64 i2 ∧ s7 = .int .u64 n ∧ s8 = .int .u64 sc ∧ Ck c m i i2 n sc ∧ wr = wx) (fun s6 _ _ _ => m - (intOf s6).toNat)
              case atStart => exact ⟨i, 0, 1, rfl, rfl, rfl, Ck.start c him, rfl⟩
              case round =>
                obtain ⟨i2, n, sc, rfl, rfl, rfl, hk, rfl⟩ := hrel
                obtain ⟨b1, b2, b3⟩ := hk.sc_le
                have b4 := hk.lt
                have b5 := hk.i0i
                have b6 := hk.im
                have HK := Lib.hid hk; have B5 := Lib.hid b5
                clear hk
                by_cases hj : i2 < m
                · have hj1 : i2 < t.size := by rw [HTZ.out]; exact hj
                  have hj2 : (i2 : Int) < t.size := by omega
                  by_cases h9 : i2 < i + 9
                  · have h9' : (sc : Int) < 1000000000 := by have := b3.2 h9; omega
                    have hbx := HD.out.byte i2 hj1
                    have hst := HK.out.step hj h9
                    have hdd := Nat.mod_lt (c / 10 ^ (m - 1 - i2)) (show 0 < 10 by decide)
                    generalize c / 10 ^ (m - 1 - i2) % 10 = d at hbx hst hdd
                    have c1 : ¬ (((t[i2]'hj1).toNat : Int) < 48) := by omega
                    have c2 : ¬ ((57 : Int) < (t[i2]'hj1).toNat) := by omega
                    have HST := Lib.hid hst; have HB := Lib.hid hbx
                    have HH := Lib.hid (show _ ∧ _ ∧ _ ∧ _ from ⟨b1, b4, hdd, h9⟩)
                    clear hst hbx b3 h9 hdd
                    go_wp2_with (fail)
                    go_roundw
                    case rel =>
                      obtain ⟨k1, k2, k3, k4⟩ := HH.out
                      refine ⟨i2 + 1, n * 10 + d, sc * 10, by go_num, ?_, by go_num, HST.out, trivial⟩
                      · have hb := HB.out
                        congr 1
                        omega
                    case measure => simp [intOf]; omega
                  · have h9' : ¬ ((sc : Int) < 1000000000) := by have := fun h => h9 (b3.1 h); omega
                    have B9 := Lib.hid h9
                    clear b3 h9
                    go_wp2_with (fail)
                    go_meet
                    exact ⟨i2, n, sc, rfl, rfl, rfl, HK.out, .inr (by have := B9.out; have := HK.out.le9; omega), rfl⟩
                · have hj2 : ¬ ((i2 : Int) < t.size) := by rw [HTZ.out]; omega
                  have BJ := Lib.hid hj
                  clear hj b3
                  go_wp2_with (fail)
                  go_meet
                  exact ⟨i2, n, sc, rfl, rfl, rfl, HK.out, .inl (by have := BJ.out; omega), rfl⟩
            case rest =>
              obtain ⟨i2, n, sc, rfl, rfl, rfl, hk, hend, rfl⟩ := hcut
              obtain ⟨b1, b2, b3⟩ := hk.sc_le
              have b4 := hk.lt
              have HK := Lib.hid hk; have HE := Lib.hid hend
              obtain ⟨a, cap, hu5, hac⟩ := HO.out.slice
              subst hu5
              have HA := Lib.hid hac
              have hl2 : L.length ≤ 2 := HL.out.short (by have := pre_le c m i; have := HC.out; omega)
              have i1 := hk.i0i
              have i3 : i < i2 := by have := hk.i0i; omega
              have i4 := hk.im
              clear hk hend b3 hac
              go_upto_block 4 with (fail)
              go_cut [7] from 80 to 99 (fun s7 wx => ∃ (A : List Nat) (n2 : Nat), s7 = .int .u64 n2 ∧ Lp L A sc n n2 L.length ∧ wx.ownsRow w.heap.size 22 1 (.slice a L.length cap) L.length (limV A) ∧ w.grownBy wx none)
              case first =>
                go_wp2_with (fail)
                go_loopw [7, 81] (fun s7 s81 wx => ∃ (A : List Nat) (n2 k : Nat), s7 = .int .u64 n2 ∧ s81 = .int .i64 k ∧ Lp L A sc n n2 k ∧ wx.ownsRow w.heap.size 22 1 (.slice a L.length cap) L.length (limV (A ++ L.drop k)) ∧ w.grownBy wx none) (fun _ s81 _ => L.length - (intOf s81).toNat)
                case atStart => exact ⟨[], n, 0, rfl, rfl, Lp.start L (by omega), HO.out, HG.out⟩
                case round =>
                  obtain ⟨A, n2, k, rfl, rfl, hp, how, hg⟩ := hrel
                  by_cases hkl : k < L.length
                  · rcases HA.out with ⟨h1, h2⟩ | ⟨g, rfl, hgb⟩
                    · omega
                    · obtain ⟨x1, x2⟩ := hp.bound HL.out.lt b1 hkl
                      have hx := how.cellAt k (by omega)
                      have hfz := how.frozenAt k
                      rw [limV_mid hp.len hkl] at hx
                      have hst := hp.step HL.out.lt b1 hkl
                      have hsm := hp.small
                      generalize L[k] = x at *
                      have x3 : (x : Int) * sc ≤ 4294967295000000000 := by rw [← Int.natCast_mul]; omega
                      have x4 : (0 : Int) ≤ (x : Int) * sc := by rw [← Int.natCast_mul]; omega
                      have HW := Lib.hid how; have HST := Lib.hid hst; have HGG := Lib.hid hg; have HP := Lib.hid hp
                      clear how hst hg hp x2
                      go_wp2_with (fail)
                      go_roundw
                      case rel =>
                        have ez : bits .and .u64 ((n2 : Int) + x * sc) 4294967295 = (((n2 + x * sc) % 4294967296 : Nat) : Int) := by
                          rw [and32 _ ⟨by omega, by unfold B64; omega⟩]; simp
                        rw [ez]
                        refine ⟨_, _, k + 1, congrArg (Value.int .u64) (by simp), congrArg (Value.int .i64) (by omega), HST.out, ?_, gset hgb _ _ HGG.out⟩
                        have h2 := (HW.out.stored k (.int .u64 (((n2 + x * sc) % 4294967296 : Nat) : Int))).1
                        rw [limV_set HP.out.len hkl] at h2
                        exact h2
                      case measure => simp [intOf]; omega
                  · have hkk : k = L.length := by have := hp.kl; omega
                    subst hkk
                    rw [List.drop_length, List.append_nil] at how
                    have HW := Lib.hid how; have HGG := Lib.hid hg; have HP := Lib.hid hp
                    clear how hg hp
                    go_wp2_with (fail)
                    go_meet
                    exact ⟨A, n2, rfl, HP.out, HW.out, HGG.out⟩
              case rest =>
                obtain ⟨A, n2, rfl, hp, how, hg⟩ := hcut
                obtain ⟨d1, d2⟩ := hp.done HL.out b2 HK.out.eq
                have hsm := hp.small
                have HW := Lib.hid how; have HGG := Lib.hid hg
                by_cases hn0 : n2 = 0
                · have hl3 := d1 hn0
                  have hle := hp.len
                  have HL3 := Lib.hid hl3; have HLE := Lib.hid hle
                  subst hn0
                  clear d1 d2 how hg hp hl3 hle
                  go_wp2_with (fail)
                  go_roundw
                  case rel => exact ⟨A, i2, rfl, i4, HL3.out, by rw [HLE.out]; exact HW.out, HGG.out⟩
                  case measure => simp [intOf]; omega
                · have hl3 := d2 hn0
                  have hle := hp.len
                  have HL3 := Lib.hid hl3; have HLE := Lib.hid hle
                  have hnp : (0 : Int) < n2 := by omega
                  have hsz := hg.size
                  clear d1 d2 how hg hp hl3 hle
                  go_wp2_with (at_builtin; refine wpList_append_own _ rfl (.tmp 102) (.tmp 104) 84 rfl w.heap.size 22 i0 _ 1 8 und84 hi0 hz0 hz1 hz2 rfl (by decide) (.slice a L.length cap) L.length (limV A) rfl (HW.out.alloc _) ⟨wc.heap.size, 0, none⟩ 1 1 [.int .u64 n2] rfl rfl (cell_one_new _ _ _) (ints_oneCell .u64 [(n2 : Int)]) (by simp only [maxLen]; omega) (by omega) (by simp; omega) ?_; intro v' w' hown' hg' hv')
                  go_roundw
                  case rel =>
                    refine ⟨A ++ [n2], i2, rfl, i4, HL3.out, ?_, grown_ownb (grown_trans HGG.out (grown_new _ _)) hg' fun b hb => (HW.out.lt b hb).1⟩
                    rw [List.length_append, List.length_singleton, HLE.out, limV_app]; exact hown'
                  case measure => simp [intOf]; omega
          · have hi2 : ¬ ((i : Int) < t.size) := by rw [HTZ.out]; omega
            have him2 : i = m := by omega
            subst him2
            have hL2 := HL.out
            rw [pre_all] at hL2
            have HL2 := Lib.hid hL2
            have hl2 := hL2.short (by have := HC.out; omega)
            obtain ⟨a, cap, hu5, hac⟩ := HO.out.slice
            subst hu5
            have HA := Lib.hid hac
            clear hL2 hac HL
            go_upto_block 6 with (fail)
            go_cut [10] from 107 to 133 (fun s10 wx => ∃ l : List Int, IsNat wx s10 l ∧ wfL l ∧ l.length ≤ 2 ∧ val l = c ∧ w.grownBy wx none)
            case first =>
              have HLL := Lib.hid hl2
              go_wp2_with (fail)
              go_loopw [10, 108] (fun s10 s108 wx => ∃ j : Nat, j ≤ L.length ∧ s108 = .int .i64 j ∧ (j < L.length → wx.ownsRow w.heap.size 22 1 (.slice a L.length cap) L.length (limV L)) ∧ w.grownBy wx none ∧ WdAt w wx L j s10) (fun _ s108 _ => L.length - (intOf s108).toNat)
              case atStart => exact ⟨0, Nat.zero_le _, rfl, fun _ => HO.out, HG.out, .inl ⟨rfl, rfl⟩⟩
              case round =>
                obtain ⟨j, hj, rfl, how, hg, hwd⟩ := hrel
                have HGG := Lib.hid hg
                by_cases hjl : j < L.length
                · have hjl2 : (j : Int) < L.length := by omega
                  rcases HA.out with ⟨h1, h2⟩ | ⟨g, rfl, hgb⟩
                  · omega
                  · have how := how hjl
                    have HW := Lib.hid how
                    have hx := how.cellAt j (by omega)
                    rw [show (limV L)[j]? = some (.int .u64 (L[j] : Int)) by unfold limV; rw [List.getElem?_map, List.getElem?_eq_getElem hjl]; rfl] at hx
                    rcases hwd with ⟨rfl, rfl⟩ | ⟨hj0, b, cap2, M, hb, rfl, hbk, hc1, hc2⟩
                    · generalize hLj : L[0] = x at hx
                      have HX := Lib.hid hLj
                      clear hg how hLj
                      go_wp2_with (at_builtin; refine wpList_append_nil1 rfl (.tmp 114) (.tmp 119) rfl rfl _ x rfl (cell_new1 _ _ _) ?_; intro M w2 hb2 hc2 hg2)
                      go_roundw
                      case rel =>
                        have hg3 := grown_trans (grown_new wr _) hg2
                        refine ⟨1, by omega, rfl, fun _ => HW.out.kept hg3 (own_any _), grown_trans HGG.out hg3, .inr ⟨by decide, _, _, M, ?_, rfl, ?_, rfl, hc2⟩⟩
                        · have := HGG.out.size; have := (grown_new wr (.cells #[.int .u64 (x : Int)] 87)).size; omega
                        · rw [size_alloc] at hb2; rw [hb2]; unfold wd; rw [if_pos rfl, List.getElem?_eq_getElem hjl, HX.out]; rfl
                      case measure => simp [intOf]; omega
                    · have hj1 : j = 1 := by omega
                      subst hj1
                      have hll : L.length = 2 := by omega
                      have cb := cell_blk hbk 0 (by simp)
                      have fb := frozen_blk' hbk 0
                      have hlb : b < wr.heap.size := (Array.getElem?_eq_some_iff.1 hbk).1
                      have hyb := HL2.out.lt _ (List.getElem_mem hjl)
                      have hxb := HL2.out.lt _ (List.getElem_mem (show 0 < L.length by omega))
                      have e0 : wd L 1 = (L[0] : Int) := by unfold wd; rw [if_pos rfl, List.getElem?_eq_getElem (by omega)]; rfl
                      rw [e0] at cb
                      simp only [List.getElem?_cons_zero, Option.getD_some] at cb
                      have e1 : wd L 2 = (L[0] : Int) + 4294967296 * (L[1] : Int) := by unfold wd; rw [if_neg (by decide), List.getElem?_eq_getElem (by omega), List.getElem?_eq_getElem hjl]; simp
                      generalize L[0] = x at *
                      generalize L[1] = y at *
                      have HBK := Lib.hid hbk; have E1 := Lib.hid e1; have HCC := Lib.hid hc2
                      clear hg how hbk e0 e1 hjl hc2
                      rw [hll]
                      go_upto_region 30 with (fail)
                      clear hi2 him hi
                      have hwsz := HGG.out.size
                      go_region
                      all_goals
                        go_wp2_with (fail)
                        go_roundw
                      case rel =>
                        rw [or_hi hxb hyb]
                        refine ⟨2, by omega, rfl, fun h => by omega, grown_trans (gset hb _ _ HGG.out) (grown_drew _), .inr ⟨by decide, b, cap2, M, hb, rfl, ?_, hc1, HCC.out⟩⟩
                        rw [E1.out]
                        exact blk_set0 HBK.out _
                      case measure => simp [intOf]
                · have hjj : j = L.length := by omega
                  subst hjj
                  have HWD := Lib.hid hwd
                  clear hg how hwd
                  go_wp2_with (fail)
                  go_meet
                  exact wd_done HL2.out HWD.out HLL.out HGG.out
            case rest =>
              obtain ⟨l, hl, hwf, hlen, hval, hg⟩ := hcut
              have HI := Lib.hid hl; have HWF := Lib.hid hwf; have HV := Lib.hid hval; have HG2 := Lib.hid hg
              clear hl hwf hval hg
              go_wp2_with (fail)
              refine (SetBits_any (g := false) (z := .slice none 0 0) (heap_new _ _) (HI.out.grown (grown_new _ _) (isNat_any _)) HWF.out (by omega)).mono ?_
              rintro e w2 ⟨rfl, v', hb, hg3⟩
              have hc2 : val l = (c : Int) := HV.out
              rw [hc2] at hb
              have HB := Lib.hid hb
              have HG3 := Lib.hid (grown_own (grown_trans HG2.out (grown_new _ _)) hg3 (.inr HG2.out.size))
              clear hb hg3 hc2
              cases neg with
              | true =>
                go_wp2_with (fail)
                refine (Neg_same HB.out).mono ?_
                rintro e w3 ⟨rfl, q, rfl⟩
                go_wp2_with (fail)
                refine bodyPost_ret (v := .tuple #[.pointer (some ⟨wc.heap.size, 0, none⟩), .bool true]) (by simp [results, Tryz.func22, go_sem]; try rfl) rfl ?_
                exact ⟨_, v', rfl, box_flip HB.out q (by simp) (by simp), gset HG2.out.size _ _ (grown_trans HG3.out (grown_drewN _ _))⟩
              | false =>
                go_wp2_with (fail)
                refine bodyPost_ret (v := .tuple #[.pointer (some ⟨wc.heap.size, 0, none⟩), .bool true]) (by simp [results, Tryz.func22, go_sem]; try rfl) rfl ?_
                exact ⟨_, v', rfl, HB.out.c, HG3.out⟩
end Go.Proofs.YtndphemomhcjlaaGreatDoor
