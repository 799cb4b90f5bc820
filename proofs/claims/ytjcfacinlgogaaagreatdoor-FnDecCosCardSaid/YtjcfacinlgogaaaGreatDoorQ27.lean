/- A whole number out of its text. Conditions: at most nineteen digits of worth. The other decimal out of its parts, and its float. -/
import Derived.Test.YtjcfacinlgogaaaGreatDoorQ08
import Derived.Test.YtjcfacinlgogaaaGreatDoorQ20
import Derived.Test.YtjcfacinlgogaaaGreatDoorQ26
set_option linter.all false
set_option maxHeartbeats 4000000
set_option maxRecDepth 100000
namespace Go.Proofs.YtjcfacinlgogaaaGreatDoor
open Go.RowKit
theorem whole_any {s : ByteArray} {neg : Bool} {c m : Nat} (w : World) (h : IsTxt s neg c 0 m) (hn : (c = 0 ∧ m = 1) ∨ 10 ^ (m - 1) ≤ c) (hz : c = 0 → neg = false) (hc : c < 10000000000000000000) :
    Calls Tryz.prog 51 #[.string s] w fun e w' => WhRes w (if neg then -(c : Int) else c) e w' := by
  have hsz := h.size
  have hp0 : pnt 0 = 0 := rfl
  rw [hp0, Nat.add_zero] at hsz
  have hm0 := h.km
  have hm20 := h.m20
  have s1 : sgn neg ≤ 1 := by unfold sgn; split <;> omega
  have h0lt : 0 < s.size := by omega
  have hlen : (0 : Int) < s.size := by omega
  have hle : s.size ≤ 21 := by omega
  have HT := Hq0 h
  have HN := Hq0 hn; have HC := Hq0 hc; have HZ := Hq0 hz
  have HSZ := Hq0 hsz
  clear h hn hc hp0 hz hsz
  obtain ⟨i0, hi0, hz0, hz1, hz2⟩ := info_parts inf22
  go_enter Tryz.func51, Tryz.ntmps51
  go_upto_region 1 with (fail)
  go_cut [4] from 13 to 20 (fun s4 wx => s4 = .bool neg ∧ w = wx)
  case first =>
    have hg0 := first_neg HT.out h0lt
    go_wp2_with (fail)
    go_meet
    exact ⟨rfl, rfl⟩
  case rest =>
    obtain ⟨rfl, rfl⟩ := hcut
    go_upto_if 21 with (fail)
    go_cut [0] from 21 to 23 (fun s0 wx => ∃ t, s0 = .string t ∧ IsDig t c m ∧ w = wx)
    case first =>
      cases neg with
      | true =>
        go_wp2_with (fail)
        go_meet
        exact ⟨_, rfl, dig_neg HT.out HN.out, rfl⟩
      | false =>
        go_wp2_with (fail)
        go_meet
        exact ⟨s, rfl, dig_pos HT.out HN.out, rfl⟩
    case rest =>
      obtain ⟨t, rfl, hd, rfl⟩ := hcut
      have htz := hd.size
      have hd0 : 0 < t.size := by omega
      have hd1 : (0 : Int) < t.size := by omega
      have d1 : ¬ t = ByteArray.empty := fun e => by rw [e] at hd0; simp at hd0
      have d2 : ¬ ((400 : Int) < t.size) := by omega
      have HD := Hq0 hd
      have HTZ := Hq0 htz
      clear hd h0lt hlen hle s1 htz
      go_upto_region 4 with (fail)
      go_cut [44] from 24 to 44 (fun s44 wx => s44 = .bool false ∧ w = wx)
      case first =>
        by_cases hc0 : c = 0
        · have hng := HZ.out hc0
          subst hng
          have hm1 : m = 1 := by
            rcases HD.out.nd with h | h
            · exact h.2
            · rw [hc0] at h; have := Nat.pow_pos (n := m - 1) (show 0 < 10 by decide); omega
          have d3 : ¬ ((1 : Int) < t.size) := by rw [HTZ.out, hm1]; decide
          have d4 : (((t[0]'hd0).toNat : Int) == 48) = true := by rw [HD.out.byte 0 hd0, hc0]; simp
          clear hm1 hc0
          go_wp2_with (fail)
          go_meet
          exact ⟨congrArg Value.bool (by simp [d1]), rfl⟩
        · have d4 : (((t[0]'hd0).toNat : Int) == 48) = false := by
            have := HD.out.first hc0 hd0
            simpa using this
          clear hc0
          go_wp2_with (fail)
          go_meet
          exact ⟨congrArg Value.bool (by simp [d1]), rfl⟩
      case rest =>
        obtain ⟨rfl, rfl⟩ := hcut
        clear hd0 hd1 d1 d2
        go_wp2_with (fail)
        go_loopw [5, 6] (fun s5 s6 wr => WhL w c m s5 s6 wr) (fun _ s6 _ => m - (intOf s6).toNat)
        case atStart =>
          exact ⟨[], 0, rfl, Nat.zero_le _, by rw [pre_zero HD.out.cm]; exact Lm.nil, World.ownsRow_nil _ _ _ _, grown_refl _ _⟩
        case round =>
          obtain ⟨L, i, rfl, him, hL, how, hg⟩ := hrel
          have HL := Hq0 hL; have HO := Hq0 how; have HG := Hq0 hg
          clear hL how hg
          by_cases hi : i < m
          · have hi2 : (i : Int) < t.size := by rw [HTZ.out]; omega
            go_upto_block 2 with (fail)
            go_cut [6, 7, 8] from 49 to 78 (fun s6 s7 s8 wx => ∃ i2 n sc : Nat, s6 = .int .i64 i2 ∧ s7 = .int .u64 n ∧ s8 = .int .u64 sc ∧ Ck c m i i2 n sc ∧ (i2 = m ∨ i2 = i + 9) ∧ wr = wx)
            case first =>
              go_wp2_with (fail)
              go_loopw [6, 7, 8] (fun s6 s7 s8 wx => ∃ i2 n sc : Nat, s6 = .int .i64 i2 ∧ s7 = .int .u64 n ∧ s8 = .int .u64 sc ∧ Ck c m i i2 n sc ∧ wr = wx) (fun s6 _ _ _ => m - (intOf s6).toNat)
              case atStart => exact ⟨i, 0, 1, rfl, rfl, rfl, Ck.start c him, rfl⟩
              case round =>
                obtain ⟨i2, n, sc, rfl, rfl, rfl, hk, rfl⟩ := hrel
                obtain ⟨b1, b2, b3⟩ := hk.sc_le
                have b4 := hk.lt
                have b5 := hk.i0i
                have b6 := hk.im
                have HK := Hq0 hk; have B5 := Hq0 b5
                clear hk
                by_cases hj : i2 < m
                · have hj1 : i2 < t.size := by rw [HTZ.out]; exact hj
                  have hj2 : (i2 : Int) < t.size := by omega
                  by_cases h9 : i2 < i + 9
                  · have h9' : (sc : Int) < 1000000000 := by have := b3.2 h9; omega
                    have hbx := HD.out.byte i2 hj1
                    have hst := HK.out.step hj h9
                    have hdd := Nat.mod_lt (c / 10 ^ (m - 1 - i2)) (show 0 < 10 by decide)
                    generalize c / 10 ^ (m - 1 - i2) % 10 = d at hbx hst hdd
                    have c1 : ¬ (((t[i2]'hj1).toNat : Int) < 48) := by omega
                    have c2 : ¬ ((57 : Int) < (t[i2]'hj1).toNat) := by omega
                    have HST := Hq0 hst; have HB := Hq0 hbx
                    have HH := Hq0 (show _ ∧ _ ∧ _ ∧ _ from ⟨b1, b4, hdd, h9⟩)
                    clear hst hbx b3 h9 hdd
                    go_wp2_with (fail)
                    go_roundw
                    case rel =>
                      obtain ⟨k1, k2, k3, k4⟩ := HH.out
                      refine ⟨i2 + 1, n * 10 + d, sc * 10, by go_num, ?_, by go_num, HST.out, trivial⟩
                      · have hb := HB.out
                        congr 1
                        omega
                    case measure => simp [intOf]; omega
                  · have h9' : ¬ ((sc : Int) < 1000000000) := by have := fun h => h9 (b3.1 h); omega
                    have B9 := Hq0 h9
                    clear b3 h9
                    go_wp2_with (fail)
                    go_meet
                    exact ⟨i2, n, sc, rfl, rfl, rfl, HK.out, .inr (by have := B9.out; have := HK.out.le9; omega), rfl⟩
                · have hj2 : ¬ ((i2 : Int) < t.size) := by rw [HTZ.out]; omega
                  have BJ := Hq0 hj
                  clear hj b3
                  go_wp2_with (fail)
                  go_meet
                  exact ⟨i2, n, sc, rfl, rfl, rfl, HK.out, .inl (by have := BJ.out; omega), rfl⟩
            case rest =>
              obtain ⟨i2, n, sc, rfl, rfl, rfl, hk, hend, rfl⟩ := hcut
              obtain ⟨b1, b2, b3⟩ := hk.sc_le
              have b4 := hk.lt
              have HK := Hq0 hk; have HE := Hq0 hend
              obtain ⟨a, cap, hu5, hac⟩ := HO.out.slice
              subst hu5
              have HA := Hq0 hac
              have hl2 : L.length ≤ 2 := HL.out.short (by have := pre_le c m i; have := HC.out; omega)
              have i1 := hk.i0i
              have i3 : i < i2 := by have := hk.i0i; omega
              have i4 := hk.im
              clear hk hend b3 hac
              go_upto_block 4 with (fail)
              go_cut [7] from 80 to 99 (fun s7 wx => ∃ (A : List Nat) (n2 : Nat), s7 = .int .u64 n2 ∧ Lp L A sc n n2 L.length ∧ wx.ownsRow w.heap.size 70 1 (.slice a L.length cap) L.length (limV A) ∧ w.grownBy wx none)
              case first =>
                go_wp2_with (fail)
                go_loopw [7, 81] (fun s7 s81 wx => ∃ (A : List Nat) (n2 k : Nat), s7 = .int .u64 n2 ∧ s81 = .int .i64 k ∧ Lp L A sc n n2 k ∧ wx.ownsRow w.heap.size 70 1 (.slice a L.length cap) L.length (limV (A ++ L.drop k)) ∧ w.grownBy wx none) (fun _ s81 _ => L.length - (intOf s81).toNat)
                case atStart => exact ⟨[], n, 0, rfl, rfl, Lp.start L (by omega), HO.out, HG.out⟩
                case round =>
                  obtain ⟨A, n2, k, rfl, rfl, hp, how, hg⟩ := hrel
                  by_cases hkl : k < L.length
                  · rcases HA.out with ⟨h1, h2⟩ | ⟨g, rfl, hgb⟩
                    · omega
                    · obtain ⟨x1, x2⟩ := hp.bound HL.out.lt b1 hkl
                      have hx := how.cellAt k (by omega)
                      have hfz := how.frozenAt k
                      rw [limV_mid hp.len hkl] at hx
                      have hst := hp.step HL.out.lt b1 hkl
                      have hsm := hp.small
                      generalize L[k] = x at *
                      have x3 : (x : Int) * sc ≤ 4294967295000000000 := by rw [← Int.natCast_mul]; omega
                      have x4 : (0 : Int) ≤ (x : Int) * sc := by rw [← Int.natCast_mul]; omega
                      have HW := Hq0 how; have HST := Hq0 hst; have HGG := Hq0 hg; have HP := Hq0 hp
                      clear how hst hg hp x2
                      go_wp2_with (fail)
                      go_roundw
                      case rel =>
                        have ez : bits .and .u64 ((n2 : Int) + x * sc) 4294967295 = (((n2 + x * sc) % 4294967296 : Nat) : Int) := by
                          rw [and32 _ ⟨by omega, by unfold B64; omega⟩]; simp
                        rw [ez]
                        refine ⟨_, _, k + 1, congrArg (Value.int .u64) (by simp), congrArg (Value.int .i64) (by omega), HST.out, ?_, gset hgb _ _ HGG.out⟩
                        have h2 := (HW.out.stored k (.int .u64 (((n2 + x * sc) % 4294967296 : Nat) : Int))).1
                        rw [limV_set HP.out.len hkl] at h2
                        exact h2
                      case measure => simp [intOf]; omega
                  · have hkk : k = L.length := by have := hp.kl; omega
                    subst hkk
                    rw [List.drop_length, List.append_nil] at how
                    have HW := Hq0 how; have HGG := Hq0 hg; have HP := Hq0 hp
                    clear how hg hp
                    go_wp2_with (fail)
                    go_meet
                    exact ⟨A, n2, rfl, HP.out, HW.out, HGG.out⟩
              case rest =>
                obtain ⟨A, n2, rfl, hp, how, hg⟩ := hcut
                obtain ⟨d1, d2⟩ := hp.done HL.out b2 HK.out.eq
                have hsm := hp.small
                have HW := Hq0 how; have HGG := Hq0 hg
                by_cases hn0 : n2 = 0
                · have hl3 := d1 hn0
                  have hle := hp.len
                  have HL3 := Hq0 hl3; have HLE := Hq0 hle
                  subst hn0
                  clear d1 d2 how hg hp hl3 hle
                  go_wp2_with (fail)
                  go_roundw
                  case rel => exact ⟨A, i2, rfl, i4, HL3.out, by rw [HLE.out]; exact HW.out, HGG.out⟩
                  case measure => simp [intOf]; omega
                · have hl3 := d2 hn0
                  have hle := hp.len
                  have HL3 := Hq0 hl3; have HLE := Hq0 hle
                  have hnp : (0 : Int) < n2 := by omega
                  have hsz := hg.size
                  clear d1 d2 how hg hp hl3 hle
                  go_wp2_with (at_builtin; refine wpList_append_own _ rfl (.tmp 102) (.tmp 104) 101 rfl w.heap.size 70 i0 _ 1 8 und84 hi0 hz0 hz1 hz2 rfl (by decide) (.slice a L.length cap) L.length (limV A) rfl (HW.out.alloc _) ⟨wc.heap.size, 0, none⟩ 1 1 [.int .u64 n2] rfl rfl (cell_one_new _ _ _) (ints_oneCell .u64 [(n2 : Int)]) (by simp only [maxLen]; omega) (by omega) (by simp; omega) ?_; intro v' w' hown' hg' hv')
                  go_roundw
                  case rel =>
                    refine ⟨A ++ [n2], i2, rfl, i4, HL3.out, ?_, grown_ownb (grown_trans HGG.out (grown_new _ _)) hg' fun b hb => (HW.out.lt b hb).1⟩
                    rw [List.length_append, List.length_singleton, HLE.out, limV_app]; exact hown'
                  case measure => simp [intOf]; omega
          · have hi2 : ¬ ((i : Int) < t.size) := by rw [HTZ.out]; omega
            have him2 : i = m := by omega
            subst him2
            have hL2 := HL.out
            rw [pre_all] at hL2
            have HL2 := Hq0 hL2
            have hl2 := hL2.short (by have := HC.out; omega)
            obtain ⟨a, cap, hu5, hac⟩ := HO.out.slice
            subst hu5
            have HA := Hq0 hac
            clear hL2 hac HL
            go_upto_block 6 with (fail)
            go_cut [10] from 107 to 133 (fun s10 wx => ∃ l : List Int, IsNat wx s10 l ∧ wfL l ∧ l.length ≤ 2 ∧ val l = c ∧ w.grownBy wx none)
            case first =>
              have HLL := Hq0 hl2
              go_wp2_with (fail)
              go_loopw [10, 108] (fun s10 s108 wx => ∃ j : Nat, j ≤ L.length ∧ s108 = .int .i64 j ∧ (j < L.length → wx.ownsRow w.heap.size 70 1 (.slice a L.length cap) L.length (limV L)) ∧ w.grownBy wx none ∧ WdAt w wx L j s10) (fun _ s108 _ => L.length - (intOf s108).toNat)
              case atStart => exact ⟨0, Nat.zero_le _, rfl, fun _ => HO.out, HG.out, .inl ⟨rfl, rfl⟩⟩
              case round =>
                obtain ⟨j, hj, rfl, how, hg, hwd⟩ := hrel
                have HGG := Hq0 hg
                by_cases hjl : j < L.length
                · have hjl2 : (j : Int) < L.length := by omega
                  rcases HA.out with ⟨h1, h2⟩ | ⟨g, rfl, hgb⟩
                  · omega
                  · have how := how hjl
                    have HW := Hq0 how
                    have hx := how.cellAt j (by omega)
                    rw [show (limV L)[j]? = some (.int .u64 (L[j] : Int)) by unfold limV; rw [List.getElem?_map, List.getElem?_eq_getElem hjl]; rfl] at hx
                    rcases hwd with ⟨rfl, rfl⟩ | ⟨hj0, b, cap2, M, hb, rfl, hbk, hc1, hc2⟩
                    · generalize hLj : L[0] = x at hx
                      have HX := Hq0 hLj
                      clear hg how hLj
                      go_wp2_with (at_builtin; refine wpList_append_nil1 rfl (.tmp 114) (.tmp 119) rfl rfl _ x rfl (cell_new1 _ _ _) ?_; intro M w2 hb2 hc2 hg2)
                      go_roundw
                      case rel =>
                        have hg3 := grown_trans (grown_new wr _) hg2
                        refine ⟨1, by omega, rfl, fun _ => HW.out.kept hg3 (own_any _), grown_trans HGG.out hg3, .inr ⟨by decide, _, _, M, ?_, rfl, ?_, rfl, hc2⟩⟩
                        · have := HGG.out.size; have := (grown_new wr (.cells #[.int .u64 (x : Int)] 104)).size; omega
                        · rw [size_alloc] at hb2; rw [hb2]; unfold wd; rw [if_pos rfl, List.getElem?_eq_getElem hjl, HX.out]; rfl
                      case measure => simp [intOf]; omega
                    · have hj1 : j = 1 := by omega
                      subst hj1
                      have hll : L.length = 2 := by omega
                      have cb := cell_blk hbk 0 (by simp)
                      have fb := frozen_blk' hbk 0
                      have hlb : b < wr.heap.size := (Array.getElem?_eq_some_iff.1 hbk).1
                      have hyb := HL2.out.lt _ (List.getElem_mem hjl)
                      have hxb := HL2.out.lt _ (List.getElem_mem (show 0 < L.length by omega))
                      have e0 : wd L 1 = (L[0] : Int) := by unfold wd; rw [if_pos rfl, List.getElem?_eq_getElem (by omega)]; rfl
                      rw [e0] at cb
                      simp only [List.getElem?_cons_zero, Option.getD_some] at cb
                      have e1 : wd L 2 = (L[0] : Int) + 4294967296 * (L[1] : Int) := by unfold wd; rw [if_neg (by decide), List.getElem?_eq_getElem (by omega), List.getElem?_eq_getElem hjl]; simp
                      generalize L[0] = x at *
                      generalize L[1] = y at *
                      have HBK := Hq0 hbk; have E1 := Hq0 e1; have HCC := Hq0 hc2
                      clear hg how hbk e0 e1 hjl hc2
                      rw [hll]
                      go_upto_region 30 with (fail)
                      clear hi2 him hi
                      have hwsz := HGG.out.size
                      go_region
                      all_goals
                        go_wp2_with (fail)
                        go_roundw
                      case rel =>
                        rw [or_hi hxb hyb]
                        refine ⟨2, by omega, rfl, fun h => by omega, grown_trans (gset hb _ _ HGG.out) (grown_drew _), .inr ⟨by decide, b, cap2, M, hb, rfl, ?_, hc1, HCC.out⟩⟩
                        rw [E1.out]
                        exact blk_set0 HBK.out _
                      case measure => simp [intOf]
                · have hjj : j = L.length := by omega
                  subst hjj
                  have HWD := Hq0 hwd
                  clear hg how hwd
                  go_wp2_with (fail)
                  go_meet
                  exact wd_done HL2.out HWD.out HLL.out HGG.out
            case rest =>
              obtain ⟨l, hl, hwf, hlen, hval, hg⟩ := hcut
              have HI := Hq0 hl; have HWF := Hq0 hwf; have HV := Hq0 hval; have HG2 := Hq0 hg
              clear hl hwf hval hg
              go_wp2_with (fail)
              refine (SetBits_any (g := false) (z := .slice none 0 0) (heap_new _ _) (HI.out.grown (grown_new _ _) (isNat_any _)) HWF.out (by omega)).mono ?_
              rintro e w2 ⟨rfl, v', hb, hg3⟩
              have hc2 : val l = (c : Int) := HV.out
              rw [hc2] at hb
              have HB := Hq0 hb
              have HG3 := Hq0 (grown_own (grown_trans HG2.out (grown_new _ _)) hg3 (.inr HG2.out.size))
              clear hb hg3 hc2
              cases neg with
              | true =>
                go_wp2_with (fail)
                refine (Neg_same HB.out).mono ?_
                rintro e w3 ⟨rfl, q, rfl⟩
                go_wp2_with (fail)
                refine bodyPost_ret (v := .tuple #[.pointer (some ⟨wc.heap.size, 0, none⟩), .bool true]) (by simp [results, Tryz.func51, go_sem]; try rfl) rfl ?_
                exact ⟨_, v', rfl, box_flip HB.out q (by simp) (by simp), gset HG2.out.size _ _ (grown_trans HG3.out (grown_drewN _ _))⟩
              | false =>
                go_wp2_with (fail)
                refine bodyPost_ret (v := .tuple #[.pointer (some ⟨wc.heap.size, 0, none⟩), .bool true]) (by simp [results, Tryz.func51, go_sem]; try rfl) rfl ?_
                exact ⟨_, v', rfl, HB.out.c, HG3.out⟩
end Go.Proofs.YtjcfacinlgogaaaGreatDoor
namespace Go.Proofs.YtjcfacinlgogaaaGreatDoor
open Go.RowKit
theorem places_any (k : Nat) (hk : k ≤ 19) (w : World) : Calls Tryz.prog 52 #[.int .i64 (-(k : Int))] w fun e w' => e = .returned (.bool true) ∧ w = w' := by
  have h1 : (-400 : Int) ≤ -(k : Int) := by omega
  have h2 : (-(k : Int)) ≤ 400 := by omega
  go_enter Tryz.func52, Tryz.ntmps52
  go_wp2
  go_ret
  exact ⟨rfl, rfl⟩
theorem dec_cells {w : World} {b : Nat} {s : ByteArray} {e : Int} (h : w.heap[b]? = some (.cells #[.string s, .int .i64 e] 23)) : w.cell? ⟨b, 0, none⟩ = some (.string s) ∧ w.cell? ⟨b, 1, none⟩ = some (.int .i64 e) := by
  refine ⟨?_, ?_⟩ <;> simp [World.cell?, h]
theorem IntC.set {w : World} {b : Nat} {v : Value} {n : Int} (h : IntC w b 0 v n) {x : Nat} (hb : b ≠ x) (hv : v.ownBlock ≠ some x) (o : Nat) (u : Value) : IntC (w.setCell ⟨x, o, none⟩ u) b 0 v n := by
  have e : (w.setCell ⟨x, o, none⟩ u).heap[b]? = w.heap[b]? := Below.heap_setCell _ _ _ _ hb
  obtain ⟨l, h1, h2⟩ := h.nat
  exact ⟨by rw [World.cell?_of_block e]; exact h.neg, by rw [World.cell?_of_block e]; exact h.abs, by rw [e]; exact h.obj, l, h1.set hv o u, h2⟩
theorem IntC.off {w : World} {b x : Nat} {v : Value} {n : Int} {e : Int} (h : IntC w b 0 v n) (ho : w.heap[x]? = some (.cells #[.pointer none, .int .i32 e] 56)) : b ≠ x ∧ v.ownBlock ≠ some x := by
  constructor
  · rintro rfl
    have := h.neg
    unfold World.cell? at this
    rw [ho] at this
    simp at this
  · intro hx
    obtain ⟨l, h1, _⟩ := h.nat
    rcases h1 with ⟨rfl, _⟩ | ⟨c, cap, M, rfl, hc, _⟩
    · simp [Value.ownBlock] at hx
    · simp [Value.ownBlock] at hx
      subst hx
      rw [ho] at hc
      simp [blk] at hc
def MdRes (w : World) (n : Int) (k : Nat) (e : Ending) (w' : World) : Prop :=
  ∃ bz v, e = .returned (.tuple #[decV bz (-(k : Int)), .bool true]) ∧ IntC w' bz 0 v n ∧ w.grownBy w' none
theorem made_any {s : ByteArray} {neg : Bool} {c m : Nat} (k : Nat) (w : World) (h : IsTxt s neg c 0 m) (hn : (c = 0 ∧ m = 1) ∨ 10 ^ (m - 1) ≤ c) (hz : c = 0 → neg = false) (hc : c < 10000000000000000000) (hk : k ≤ 19) :
    Calls Tryz.prog 31 #[.agg #[.string s, .int .i64 (-(k : Int))]] w fun e w' => MdRes w (if neg then -(c : Int) else c) k e w' := by
  have HW := Hq0 (fun w => whole_any w h hn hz hc)
  have HP := Hq0 (places_any k hk)
  have hw32 : IntKind.i32.wrap (-(k : Int)) = -(k : Int) := by rw [IntKind.wrap_i32]; omega
  clear h hn hz hc
  generalize (if neg then -(c : Int) else c) = n at *
  go_enter Tryz.func31, Tryz.ntmps31
  go_upto_region 1 with (fail)
  obtain ⟨W1, hW1⟩ : ∃ W1, W1 = (w.alloc (.cells #[.string s, .int .i64 (-(k : Int))] 23)).alloc (.cells #[.pointer none, .int .i32 0] 56) := ⟨_, rfl⟩
  rw [← hW1]
  have g1 : w.grownBy W1 none := by rw [hW1]; exact grown_trans (grown_new _ _) (grown_new _ _)
  have hx : W1.heap[w.heap.size]? = some (.cells #[.string s, .int .i64 (-(k : Int))] 23) := by rw [hW1]; exact keepb (grown_new _ _) (heap_new _ _)
  have hs := size_alloc w (.cells #[.string s, .int .i64 (-(k : Int))] 23)
  have ho : W1.heap[w.heap.size + 1]? = some (.cells #[.pointer none, .int .i32 0] 56) := by rw [hW1, ← hs]; exact heap_new _ _
  obtain ⟨x0, x1⟩ := dec_cells hx
  have G1 := Hq0 g1; have HO := Hq0 ho; have HX := Hq0 hx
  clear g1 hx hs ho hW1
  go_wp2_with (fail)
  refine (HW.out _).mono ?_
  rintro e w2 ⟨bz, v, rfl, hv, g2⟩
  have G2 := Hq0 (grown_trans G1.out g2)
  have HO2 := Hq0 (keepb g2 HO.out)
  have HV := Hq0 hv
  obtain ⟨x0, x1⟩ := dec_cells (keepb g2 HX.out)
  clear g2 hv G1 HO
  go_wp2_with (fail)
  refine (HP.out _).mono ?_
  rintro e w3 ⟨rfl, rfl⟩
  go_wp2_with (fail)
  refine (ZzMake_any bz (-(k : Int)) _).mono ?_
  rintro e w3 ⟨rfl, g3⟩
  have G3 := Hq0 (grown_trans G2.out g3)
  have ho := keepb g3 HO2.out
  have HV3 := Hq0 (HV.out.same g3)
  obtain ⟨o1, o2⟩ := HV3.out.off ho
  have z0 : w3.cell? ⟨w.heap.size + 1, 0, none⟩ = some (.pointer none) := by unfold World.cell?; rw [ho]; rfl
  have z1 : w3.cell? ⟨w.heap.size + 1, 1, none⟩ = some (.int .i32 0) := by unfold World.cell?; rw [ho]; rfl
  have f0 : ∀ i, w3.frozen? ⟨w.heap.size + 1, i, none⟩ = false := by intro i; unfold World.frozen?; rw [ho]; rfl
  unfold decV
  clear g3 ho HO2 HV G2
  go_wp2_with (fail)
  refine bodyPost_ret (v := .tuple #[.agg #[.pointer (some ⟨bz, 0, none⟩), .int .i32 (-(k : Int))], .bool true]) (by simp [results, Tryz.func31, go_sem, z0, z1]; try rfl) rfl ?_
  exact ⟨bz, v, rfl, (HV3.out.set o1 o2 _ _).set o1 o2 _ _, gset (by omega) _ _ (gset (by omega) _ _ G3.out)⟩
end Go.Proofs.YtjcfacinlgogaaaGreatDoor
