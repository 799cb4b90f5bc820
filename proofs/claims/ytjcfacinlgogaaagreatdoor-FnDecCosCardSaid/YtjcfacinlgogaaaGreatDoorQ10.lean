/- Natural numbers: the school's product. Conditions: at most 10^11 words; the result's block is neither factor's. Natural numbers: alias, products, squares. Conditions: the shorter factor of fewer than 40 words, a square's root of fewer than 12. -/
import Derived.Deep.RegionHeld3
import Derived.Test.YtjcfacinlgogaaaGreatDoorQ09
set_option linter.all false
set_option maxHeartbeats 4000000
set_option maxRecDepth 100000
namespace Go.Proofs.YtjcfacinlgogaaaGreatDoor
open Go.RowKit
theorem spl_set (L : List Int) (o : Nat) (a : Int) (Z : List Int) (h : o < L.length) : spl (L.set o a) (o + 1) Z = spl L o (a :: Z) := by
  unfold spl
  rw [List.drop_set_of_lt (by omega), List.take_succ_eq_append_getElem (by simpa using h)]
  simp [List.take_set_of_le]
  omega
theorem upd_wipe {b : Nat} : ∀ (n o : Nat) {L : List Int} {w w' : World}, Upd w w' b L → o + n ≤ L.length → Upd w (w'.setCells b o (List.replicate n (.int .u64 0))) b (spl L o (zeros n))
  | 0, o, L, w, w', h, _ => by rw [show zeros 0 = [] from rfl, spl_nil]; exact h
  | n + 1, o, L, w, w', h, hl => by
    have h1 := upd_wipe n (o + 1) (h.set o 0) (by simp; omega)
    rw [spl_set _ _ _ _ (by omega)] at h1
    rw [List.replicate_succ]
    exact h1
theorem run_clear_any (b n c cap : Nat) (L : List Int) (w : World) (h : w.heap[b]? = some (blk L)) (hl : n ≤ L.length) (hc : cap = c) :
    ∃ w', (∀ ty, (Builtin.clear_ #[105] ty #[.slice (some ⟨b, 0, none⟩) n cap]).run Tryz.prog w = .ok (.tuple #[]) w') ∧ Upd w w' b (spl L 0 (zeros n)) := by
  by_cases hn : n = 0
  · subst hn
    exact ⟨w, fun ty => by simp [Builtin.clear_, run_underlying und88], by rw [show zeros 0 = [] from rfl, spl_nil]; exact Upd.refl h⟩
  · refine ⟨_, fun ty => Lib.run_clear_slice w _ 104 ty (.int .u64 0) und88 (fun w => by kernel_rfl) rfl rfl b 0 n cap (by omega) ?_ ?_, ?_⟩
    · intro j hj
      rw [Nat.zero_add, cell_blk h j (by omega)]; rfl
    · intro j hj; exact frozen_blk h _
    · exact upd_wipe n 0 (Upd.refl h) (by omega)
def BRel (X Y : List Int) (w : World) (bz : Nat) (L : List Int) (i : Nat) (wr : World) : Prop :=
  ∃ Z : List Int, Z.length = X.length + i ∧ wfL Z ∧ val Z = val X * val (Y.take i) ∧ Upd w wr bz (spl L 0 (Z ++ zeros (Y.length - i)))
theorem BRel.start {X Y : List Int} {w wr : World} {bz : Nat} {L : List Int} (h : Upd w wr bz (spl L 0 (zeros (X.length + Y.length)))) : BRel X Y w bz L 0 wr := by
  refine ⟨zeros X.length, by simp [zeros], wfL_zeros _, by simp [val_zeros, val], ?_⟩
  have e : zeros X.length ++ zeros (Y.length - 0) = zeros (X.length + Y.length) := by simp [zeros, List.replicate_append_replicate]
  rw [e]; exact h
theorem zeros_succ (n : Nat) : zeros (n + 1) = 0 :: zeros n := by simp [zeros, List.replicate_succ]
theorem BRel.skip {X Y : List Int} {w wr : World} {bz : Nat} {L : List Int} {i : Nat} (h : BRel X Y w bz L i wr) (hi : i < Y.length) (h0 : Y[i]?.getD 0 = 0) : BRel X Y w bz L (i + 1) wr := by
  obtain ⟨Z, hZ, wZ, hv, hu⟩ := h
  refine ⟨Z ++ [0], by simp; omega, wfL_snoc wZ u0, ?_, ?_⟩
  · rw [val_snoc, Int.mul_zero, Int.add_zero, hv, val_take_succ _ _ hi, h0, Int.mul_zero, Int.add_zero]
  · have e : Z ++ [0] ++ zeros (Y.length - (i + 1)) = Z ++ zeros (Y.length - i) := by
      rw [show Y.length - i = (Y.length - (i + 1)) + 1 by omega, zeros_succ, List.append_assoc]; rfl
    rw [e]; exact hu
theorem brel_val {X Y Z Z2 : List Int} {i : Nat} {c : Int} (hi : i < Y.length) (hZ : Z.length = X.length + i) (hv : val Z = val X * val (Y.take i)) (hZ2 : Z2.length = X.length) (h2 : val Z2 + B64 ^ X.length * c = val (Z.drop i) + val X * (Y[i]?.getD 0) + 0) :
    val (Z.take i ++ Z2 ++ [c]) = val X * val (Y.take (i + 1)) := by
  have h3 := val_split Z i (by omega)
  rw [val_snoc, val_append, List.length_append, List.length_take, hZ2, show min i Z.length = i by omega, val_take_succ _ _ hi, Int.mul_add, ← hv, h3, Int.pow_add, Int.add_assoc, Int.mul_assoc, ← Int.mul_add, h2]
  grind
theorem spl_in_spl (L A B : List Int) (i : Nat) (h : i + B.length ≤ A.length) (hA : A.length ≤ L.length) : spl (spl L 0 A) i B = spl L 0 (A.take i ++ B ++ A.drop (i + B.length)) := by
  unfold spl
  simp only [List.take_zero, List.nil_append, Nat.zero_add]
  rw [List.take_append_of_le_length (by omega), List.drop_append_of_le_length h]
  have e : (A.take i ++ B ++ A.drop (i + B.length)).length = A.length := by simp; omega
  rw [e]; simp [List.append_assoc]
theorem BRel.step {X Y Z : List Int} {w wr w3 : World} {bz : Nat} {L Z2 : List Int} {i : Nat} {c : Int} (hi : i < Y.length) (hL : X.length + Y.length ≤ L.length) (hZ : Z.length = X.length + i) (wZ : wfL Z) (hv : val Z = val X * val (Y.take i)) (hu : Upd w wr bz (spl L 0 (Z ++ zeros (Y.length - i))))
    (hZ2 : Z2.length = X.length) (wZ2 : wfL Z2) (uc : U64 c) (h2 : val Z2 + B64 ^ X.length * c = val (Z.drop i) + val X * (Y[i]?.getD 0) + 0) (hu2 : Upd wr w3 bz (spl (spl L 0 (Z ++ zeros (Y.length - i))) i Z2)) :
    BRel X Y w bz L (i + 1) (w3.setCell ⟨bz, X.length + i, none⟩ (.int .u64 c)) := by
  have hz := zeros_length (Y.length - i)
  have hu3 := (hu.trans hu2).set (i + Z2.length) c
  rw [spl_snoc _ _ _ _ (by rw [spl_length _ _ _ (by simp; omega)]; omega), spl_in_spl _ _ _ _ (by simp; omega) (by simp; omega)] at hu3
  refine ⟨Z.take i ++ Z2 ++ [c], by simp; omega, wfL_snoc (wfL_append (wfL_take wZ i) wZ2) uc, brel_val hi hZ hv hZ2 h2, ?_⟩
  have e1 : (Z ++ zeros (Y.length - i)).take i = Z.take i := by rw [List.take_append_of_le_length (by omega)]
  have e2 : (Z ++ zeros (Y.length - i)).drop (i + (Z2 ++ [c]).length) = zeros (Y.length - (i + 1)) := by
    rw [List.drop_append, List.drop_eq_nil_of_le (by simp; omega), List.nil_append]
    unfold zeros
    rw [List.drop_replicate]
    congr 1; simp; omega
  rw [e1, e2, ← List.append_assoc, show i + Z2.length = X.length + i by omega] at hu3
  exact hu3
theorem basicMul_any (bz bx by_ m n cz cx cy : Nat) (L X Y : List Int) (w : World) (hm : m ≤ 100000000000) (hn : n ≤ 100000000000) (hz : w.heap[bz]? = some (blk L)) (hl : cz = L.length) (hc : m + n ≤ cz) (hX : At w bx 0 X) (hY : At w by_ 0 Y) (nx : bx ≠ bz) (ny : by_ ≠ bz) (lx : X.length = m) (ly : Y.length = n) (wx : wfL X) (wy : wfL Y) (h1 : 1 ≤ m) :
    Calls Tryz.prog 156 #[.slice (some ⟨bz, 0, none⟩) (m + n : Nat) cz, .slice (some ⟨bx, 0, none⟩) m cx, .slice (some ⟨by_, 0, none⟩) n cy] w fun e w' =>
      e = .returned (.tuple #[]) ∧ ∃ Z : List Int, Z.length = m + n ∧ wfL Z ∧ val Z = val X * val Y ∧ Upd w w' bz (spl L 0 Z) := by
  obtain ⟨w1, hcl, hu1⟩ := run_clear_any bz (m + n) cz cz L w hz (by omega) rfl
  have HU : Hid (BRel X Y w bz L 0 w1) := BRel.start (by rw [lx, ly]; exact hu1)
  have HX := Hq0 hX; have HY := Hq0 hY; have Lx := Hq0 lx; have Ly := Hq0 ly; have Hl := Hq0 hl
  have R1 := run_slice_mid (P := Tryz.prog) und88 siz87 bz (m + n) cz 0 (m + n) 0 ((m : Int) + n) rfl (by omega) (by omega) (by omega)
  rw [adv_lt (by omega)] at R1
  simp only [Nat.sub_zero, Nat.add_zero] at R1
  clear hX hY lx ly hl hu1 hz
  go_enter Tryz.func156, Tryz.ntmps156
  go_wp2
  go_loopw [17] (fun i wr => ∃ j : Nat, j ≤ n ∧ i = .int .i64 j ∧ BRel X Y w bz L j wr) (fun i _ => n - (intOf i).toNat)
  case atStart => exact ⟨0, Nat.zero_le _, rfl, HU.out⟩
  case round =>
    obtain ⟨j, hj, rfl, hR⟩ := hrel
    by_cases hlt : j < n
    · have hl := Hl.out; have lx := Lx.out; have ly := Ly.out
      obtain ⟨Z, hZ, wZ, hv, hu⟩ := hR
      have g1 : wr.cell? ⟨by_, j, none⟩ = some (.int .u64 (Y[j]?.getD 0)) := (hu.cell (a := ⟨by_, j, none⟩) ny).trans (by have := HY.out j (by omega); rw [Nat.zero_add] at this; exact this)
      have u1 := getD_u64 wy j (by omega)
      by_cases hd0 : Y[j]?.getD 0 = 0
      · have HN := Hq0 (BRel.skip ⟨Z, hZ, wZ, hv, hu⟩ (by omega) hd0)
        rw [hd0] at g1
        clear hZ wZ hv hu hl lx ly hd0
        go_wp2
        go_roundw
        case rel => exact ⟨j + 1, by omega, by go_num, HN.out⟩
        case measure => simp [intOf]; omega
      · have hd1 : (Y[j]?.getD 0 == 0) = false := by simp [hd0]
        have hzl := zeros_length (Y.length - j)
        have hLl : (spl L 0 (Z ++ zeros (Y.length - j))).length = L.length := spl_length _ _ _ (by simp; omega)
        have HA : Hid (At wr.drew bz j (Z.drop j)) := by
          show At wr.drew bz j (Z.drop j)
          refine At.of_blk (w := wr.drew) hu.here _ (by simp; omega) (fun i hi => ?_)
          simp only [List.length_drop] at hi
          have := spl_in L 0 (Z ++ zeros (Y.length - j)) (j + i) (by simp; omega) (by omega)
          rw [Nat.zero_add] at this
          rw [this, List.getElem?_append_left (by omega), List.getElem?_drop]
        have HV := Hq0 (addMulVVWW bz j bz j bx 0 m (cz - j) (cz - j) cx (spl L 0 (Z ++ zeros (Y.length - j))) (Z.drop j) X (Y[j]?.getD 0) 0 wr.drew (by omega) hu.here (by omega) HA.out (fun i hi => by
          have := HX.out i hi
          rw [Nat.zero_add] at this ⊢
          exact (hu.cell (a := ⟨bx, i, none⟩) nx).trans this) (by simp; omega) lx (wfL_drop wZ j) wx (fun _ => rfl) (fun e => absurd e nx) u1 u0)
        have R2 := run_slice_mid (P := Tryz.prog) und88 siz87 bz (m + n) cz j (j + m) (j : Int) ((j : Int) + m) rfl (by omega) (by omega) (by omega)
        rw [adv_lt (by omega)] at R2
        simp only [Nat.zero_add] at R2
        rw [show j + m - j = m by omega] at R2
        have e1 : IntKind.i64.wrap ((m : Int) + j) = (m : Int) + j := IntWalk.i64_in _ (by omega)
        have e2 : IntKind.i64.wrap ((j : Int) + m) = (j : Int) + m := IntWalk.i64_in _ (by omega)
        have HNN : Hid (∀ c Z2 w3, Z2.length = X.length → wfL Z2 → U64 c → val Z2 + B64 ^ X.length * c = val (Z.drop j) + val X * (Y[j]?.getD 0) + 0 → Upd wr w3 bz (spl (spl L 0 (Z ++ zeros (Y.length - j))) j Z2) → BRel X Y w bz L (j + 1) (w3.setCell ⟨bz, X.length + j, none⟩ (.int .u64 c))) :=
          fun c Z2 w3 a1 a2 a3 a4 a5 => BRel.step (by omega) (by omega) hZ wZ hv hu a1 a2 a3 a4 a5
        have HLl := Hq0 hLl; have HZ := Hq0 hZ
        clear hZ wZ hv hu hl lx ly hd0 HA hLl hzl
        generalize hyj : Y[j]?.getD 0 = yj at *
        clear hyj
        have hp1 : (0 : Int) ≤ (m : Int) + j := by omega
        have hp2 : (m : Int) + j < (m : Int) + n := by omega
        have hp3 : m + j < m + n := by omega
        have hp4 : ((m : Int) + j).toNat = m + j := by omega
        go_upto_region 5 with (fail)
        (go_region_held3 (fun _ => True) (first | trivial)
          (first | (go_at_call 182; refine HV.out.mono ?_; rintro e w3 ⟨c, rfl, Z2, hZ2, wZ2, ⟨uc, hF⟩, hu2⟩; have hr := HLl.out; have hl := Hl.out; obtain ⟨q1, q2⟩ : (∃ u, w3.cell? ⟨bz, m + j, none⟩ = some (.int .u64 u)) ∧ w3.frozen? ⟨bz, m + j, none⟩ = false := ⟨⟨_, cell_blk hu2.here (m + j) (by rw [spl_length _ _ _ (by omega)]; omega)⟩, frozen_blk hu2.here (m + j)⟩; obtain ⟨qv, q1⟩ := q1; clear hr hl)))
        have HQ : Hid (BRel X Y w bz L (j + 1) (w3.setCell ⟨bz, m + j, none⟩ (.int .u64 c))) := by
          have lx := Lx.out
          rw [List.take_of_length_le (l := X) (by omega), List.take_of_length_le (l := Z.drop j) (by simp; have := HZ.out; omega), ← lx] at hF
          rw [← lx]
          exact HNN.out c Z2 w3 (by omega) wZ2 uc hF hu2.of_drew
        clear hZ2 wZ2 uc hF hu2 HNN HV
        go_wp2_with (fail)
        go_roundw
        case rel => exact ⟨j + 1, by omega, by go_num, HQ.out⟩
        case measure => simp [intOf]; omega
    · obtain rfl : j = n := by omega
      obtain ⟨Z, hZ, wZ, hv, hu⟩ := hR
      have lx := Lx.out; have ly := Ly.out
      rw [ly, Nat.sub_self, show zeros 0 = [] from rfl, List.append_nil] at hu
      rw [List.take_of_length_le (by omega)] at hv
      have HR : Hid (∃ Z : List Int, Z.length = m + j ∧ wfL Z ∧ val Z = val X * val Y ∧ Upd w wr bz (spl L 0 Z)) := ⟨Z, by omega, wZ, hv, hu⟩
      clear hZ wZ hv hu lx ly
      go_wp2_with (fail)
      refine bodyPost_end (results_none rfl _ _ _) rfl ?_
      exact ⟨rfl, HR.out⟩
end Go.Proofs.YtjcfacinlgogaaaGreatDoor
namespace Go.Proofs.YtjcfacinlgogaaaGreatDoor
open Go.RowKit
theorem eql_same (a : Addr) (wx : World) : (binOp .eql 168 (.pointer (some a)) (.pointer (some a))).run Tryz.prog wx = .ok (.bool true) wx := by
  obtain ⟨j, hj, _⟩ := inf87
  have h : ∀ d : Nat, (Op.equalIn (d + 1) 168 (.pointer (some a)) (.pointer (some a))).run Tryz.prog wx = .ok true wx := fun d => by
    simp [Op.equalIn, run_underlying und145, sizeOf, typeInfo, hj, run_sameAddr_same]
  simp only [binOp]
  simp [Op.equal, Op.maxDepth, h 9999]
theorem eql_other {a b : Addr} {A B : List Int} {wx : World} (hne : a ≠ b) (ha : wx.heap[a.block]? = some (blk A)) (hb : wx.heap[b.block]? = some (blk B)) :
    (binOp .eql 168 (.pointer (some a)) (.pointer (some b))).run Tryz.prog wx = .ok (.bool false) wx := by
  obtain ⟨j, hj, hs⟩ := inf87
  have h : ∀ d : Nat, (Op.equalIn (d + 1) 168 (.pointer (some a)) (.pointer (some b))).run Tryz.prog wx = .ok false wx := fun d => by
    simp [Op.equalIn, run_underlying und145, sizeOf, typeInfo, hj, hs, run_sameAddr_other wx hne ha hb]
  simp only [binOp]
  simp [Op.equal, Op.maxDepth, h 9999]
def AlRes (w : World) (x y : Value) (e : Ending) (w' : World) : Prop := ∃ r q, e = .returned (.bool r) ∧ w' = w.drewN q ∧ (r = false → x.ownBlock ≠ y.ownBlock)
theorem alias_any {w : World} {x y : Value} {lx ly : List Int} (hx : IsNat w x lx) (hy : IsNat w y ly) (h0 : ly ≠ []) :
    Calls Tryz.prog 155 #[x, y] w fun e w' => AlRes w x y e w' := by
  obtain ⟨b2, cap2, M2, rfl, hb2, hc2, hm2, hat2, hown2⟩ := hy.split h0
  have hc2' : cap2 = (ly ++ M2).length := by
    rcases hy with ⟨h, _⟩ | ⟨b, cap, M, h, hb, hc, _⟩
    · cases h
    · simp only [Value.slice.injEq, Option.some.injEq, Addr.mk.injEq, and_true, true_and] at h
      obtain ⟨rfl, rfl⟩ := h
      rw [hb] at hb2
      simp only [Option.some.injEq] at hb2
      have := blk_inj hb2
      rw [← this]; simp; omega
  have hl2 : 1 ≤ cap2 := by cases ly with | nil => exact absurd rfl h0 | cons a l => simp at hc2; omega
  rcases hx with ⟨rfl, rfl⟩ | ⟨b, cap, M, rfl, hb, hc, hm⟩
  · refine (alias_nil hy).mono ?_
    rintro e w' ⟨rfl, q, rfl⟩
    exact ⟨false, q, rfl, rfl, fun _ => by simp [Value.ownBlock]⟩
  · have hcl : cap = (lx ++ M).length := by simp; omega
    by_cases h1 : cap = 0
    · have hne : b ≠ b2 := by
        rintro rfl
        rw [hb] at hb2
        simp only [Option.some.injEq] at hb2
        have := blk_inj hb2
        rw [← this] at hc2'; omega
      have HN : Hid ((Value.slice (some ⟨b, 0, none⟩) lx.length cap).ownBlock ≠ (Value.slice (some ⟨b2, 0, none⟩) ly.length cap2).ownBlock) := by
        show _ ≠ _
        simpa [Value.ownBlock] using hne
      subst h1
      clear hb hb2 hat2 hc hc2 hcl hc2' hown2 hy h0
      generalize lx.length = n at *
      generalize ly.length = n2 at *
      go_enter Tryz.func155, Tryz.ntmps155
      go_wp2_with (fail)
      go_quiet (fail)
      go_wp2
      go_ret
      exact ⟨false, _, rfl, rfl, fun _ => HN.out⟩
    · have R1 := run_slice_mid (P := Tryz.prog) und88 siz87 b lx.length cap 0 cap 0 (cap : Int) rfl rfl (by omega) (by omega)
      have R2 := run_slice_mid (P := Tryz.prog) und88 siz87 b2 ly.length cap2 0 cap2 0 (cap2 : Int) rfl rfl (by omega) (by omega)
      rw [adv_lt (by omega)] at R1 R2
      simp only [Nat.sub_zero, Nat.add_zero] at R1 R2
      have c1 : decide ((0 : Int) < cap) = true := by simp; omega
      have c2 : decide ((0 : Int) < cap2) = true := by simp; omega
      obtain ⟨k, rfl⟩ : ∃ k, cap = k + 1 := ⟨cap - 1, by omega⟩
      obtain ⟨k2, rfl⟩ : ∃ k, cap2 = k + 1 := ⟨cap2 - 1, by omega⟩
      have e1 : IntKind.i64.wrap (((k + 1 : Nat) : Int) - 1) = k := by rw [show ((k + 1 : Nat) : Int) - 1 = k by omega]; exact IntWalk.i64_in _ (by omega)
      have e2 : IntKind.i64.wrap (((k2 + 1 : Nat) : Int) - 1) = k2 := by rw [show ((k2 + 1 : Nat) : Int) - 1 = k2 by omega]; exact IntWalk.i64_in _ (by omega)
      by_cases hbb : b = b2
      · subst hbb
        have hk : k = k2 := by
          rw [hb] at hb2
          simp only [Option.some.injEq] at hb2
          have := blk_inj hb2
          rw [this] at hcl; omega
        subst hk
        have HE := Hq0 (eql_same ⟨b, k, none⟩)
        clear hb hb2 hat2 hc hc2 hcl hc2' hown2 hy h0
        generalize lx.length = n at *
        generalize ly.length = n2 at *
        have E := HE.out
        go_enter Tryz.func155, Tryz.ntmps155
        go_wp2_with (fail)
        go_quiet (fail)
        go_wp2
        go_ret
        exact ⟨true, _, rfl, rfl, fun h => by cases h⟩
      · have HN : Hid ((Value.slice (some ⟨b, 0, none⟩) lx.length (k + 1)).ownBlock ≠ (Value.slice (some ⟨b2, 0, none⟩) ly.length (k2 + 1)).ownBlock) := by
          show _ ≠ _
          simpa [Value.ownBlock] using hbb
        have E := fun q => eql_other (a := ⟨b, k, none⟩) (b := ⟨b2, k2, none⟩) (A := lx ++ M) (B := ly ++ M2) (wx := w.drewN q) (fun h => hbb (congrArg Addr.block h)) hb hb2
        have HE := Hq0 E
        clear hb hb2 hat2 hc hc2 hcl hc2' hown2 hy h0 E
        generalize lx.length = n at *
        generalize ly.length = n2 at *
        go_enter Tryz.func155, Tryz.ntmps155
        go_wp2_with (fail)
        have E := HE.out
        go_quiet (fail)
        go_wp2
        go_ret
        exact ⟨false, _, rfl, rfl, fun _ => HN.out⟩
theorem kpc {w w' : World} {a : Addr} {v : Value} (g : w.grownBy w' none) (h : w.cell? a = some v) : w'.cell? a = some v := by
  rw [World.cell?_of_block (g.block a.block (World.block_lt_of_cell? _ _ h) (by simp))]; exact h
theorem kpb {w w' : World} {b : Nat} {o : Obj} (g : w.grownBy w' none) (h : w.heap[b]? = some o) : w'.heap[b]? = some o := by
  rw [g.block b (Array.getElem?_eq_some_iff.1 h).1 (by simp)]; exact h
structure TabK (w : World) : Prop where
  kar : w.cell? ⟨4, 0, none⟩ = some (.int .i64 40)
  bas : w.cell? ⟨2, 0, none⟩ = some (.int .i64 12)
  kas : w.cell? ⟨3, 0, none⟩ = some (.int .i64 80)
  div : w.cell? ⟨5, 0, none⟩ = some (.int .i64 40)
theorem TabK.same {w w' : World} (h : TabK w) (g : w.grownBy w' none) : TabK w' :=
  ⟨kpc g h.kar, kpc g h.bas, kpc g h.kas, kpc g h.div⟩
theorem NatRes.of_made {w w1 w2 : World} {z z' : Value} {b cap : Nat} {L Z : List Int} (hz : z' = z ∨ z' = .slice none 0 0) (h : Made w w1 z' b cap L) (u : Upd w1 w2 b (spl L 0 Z)) (hc : Z.length ≤ cap) : NatRes w w2 z.ownBlock (.slice (some ⟨b, 0, none⟩) (nrm Z).length cap) (nrm Z) := by
  have h1 := h.fin u hc
  rcases hz with rfl | rfl
  · exact h1
  · refine ⟨grown_own (grown_weak h.grown) u.grown ?_, h1.nat, ?_⟩
    · right; rcases h.own with o | o
      · simp [Value.ownBlock] at o
      · exact o
    · intro k hk
      rcases h1.own k hk with o | o
      · simp [Value.ownBlock] at o
      · exact .inr o
theorem IsNat.cap {w : World} {b n cap : Nat} {l : List Int} (h : IsNat w (.slice (some ⟨b, 0, none⟩) n cap) l) : n = l.length ∧ ∃ M, w.heap[b]? = some (blk (l ++ M)) ∧ cap = l.length + M.length := by
  rcases h with ⟨h, _⟩ | ⟨b', cap', M, h, hb, hc, _⟩
  · cases h
  · simp only [Value.slice.injEq, Option.some.injEq, Addr.mk.injEq, and_true, true_and] at h
    obtain ⟨rfl, rfl, rfl⟩ := h
    exact ⟨rfl, M, hb, hc⟩
theorem mul_ge {w : World} {z x y : Value} {lz lx ly : List Int} (stk : Value) (hz : IsNat w z lz) (hx : IsNat w x lx) (hy : IsNat w y ly) (wx : wfL lx) (wy : wfL ly) (hn : lx.length ≤ 10000000000) (hge : ly.length ≤ lx.length) (h2 : 2 ≤ ly.length) (h40 : ly.length < 40) (hK : TabK w) :
    Calls Tryz.prog 139 #[z, stk, x, y] w fun e w' => NatVal w w' z.ownBlock e (val lx * val ly) := by
  have hy0 : ly ≠ [] := fun e => by rw [e] at h2; exact absurd h2 (by decide)
  have hx0 : lx ≠ [] := fun e => by rw [e] at hge; have : ly.length ≤ 0 := hge; omega
  obtain ⟨b, cap, M, rfl, hb, hc, hm, hat, hown⟩ := hx.split hx0
  obtain ⟨b2, cap2, M2, rfl, hb2, hc2, hm2, hat2, hown2⟩ := hy.split hy0
  obtain ⟨m, hlm⟩ : ∃ m, lx.length = m := ⟨_, rfl⟩
  obtain ⟨n, hln⟩ : ∃ n, ly.length = n := ⟨_, rfl⟩
  have A1 := Hq0 (alias_any hz hx hx0)
  have A2 := Hq0 (fun q => alias_any (hz.grown0 (grown_drewN w q)) (hy.grown0 (grown_drewN w q)) hy0)
  unfold AlRes at A1 A2
  have Hz := Hq0 hz; have Hb := Hq0 hb; have Hb2 := Hq0 hb2; have Hat := Hq0 hat; have Hat2 := Hq0 hat2
  have Hlm := Hq0 hlm; have Hln := Hq0 hln; have HK := Hq0 hK
  rw [hlm] at hc hn hge ⊢
  rw [hlm] at A1
  rw [hln] at h2 h40 hge hc2 ⊢
  rw [hln] at A2
  have hlt : ¬ ((m : Int) < n) := by omega
  have hm0 : ((m : Int) == 0) = false := by simp; omega
  have hn0 : ((n : Int) == 0) = false := by simp; omega
  have hn1 : ((n : Int) == 1) = false := by simp; omega
  clear hz hx hy hb hat hown hb2 hat2 hown2 hlm hln hK hx0 hy0
  go_enter Tryz.func139, Tryz.ntmps139
  go_upto_region 9 with (fail)
  go_cut [51] from 44 to 50 (fun v w' => ∃ r q, v = .bool r ∧ w' = w.drewN q ∧ (r = false → z.ownBlock ≠ some b ∧ z.ownBlock ≠ some b2))
  case first =>
    go_wp2_with (fail)
    refine A1.out.mono ?_
    rintro e w1 ⟨r, q, rfl, rfl, hr⟩
    cases r
    · have HR := Hq0 (hr rfl)
      clear hr
      go_wp2_with (fail)
      refine (A2.out q).mono ?_
      rintro e w1 ⟨r2, q2, rfl, rfl, hr2⟩
      have HR2 := Hq0 hr2
      clear hr2
      go_wp2_with (fail)
      go_meet
      exact ⟨_, q + q2, rfl, rfl, fun h => ⟨by simpa [Value.ownBlock] using HR.out, by simpa [Value.ownBlock] using HR2.out h⟩⟩
    · clear hr
      go_wp2_with (fail)
      go_meet
      exact ⟨_, _, rfl, rfl, fun h => by cases h⟩
  case rest =>
    obtain ⟨r, q, rfl, rfl, hr⟩ := hcut
    have HR := Hq0 hr
    clear hr
    go_upto_if 51 with (fail)
    go_cut [0] from 44 to 51 (fun z' w' => w' = w.drewN q ∧ (z' = z ∨ z' = .slice none 0 0) ∧ z'.ownBlock ≠ some b ∧ z'.ownBlock ≠ some b2)
    case first =>
      cases r
      · have h := HR.out rfl
        clear HR
        go_wp2_with (fail)
        go_meet
        exact ⟨rfl, .inl rfl, h⟩
      · clear HR
        go_wp2_with (fail)
        go_meet
        exact ⟨rfl, .inr rfl, by simp [Value.ownBlock]⟩
    case rest =>
      obtain ⟨rfl, hz', hzb, hzb2⟩ := hcut
      clear HR
      obtain ⟨lz', hzn⟩ : ∃ lz', IsNat (w.drewN q) u0 lz' := by
        rcases hz' with rfl | rfl
        · exact ⟨lz, Hz.out.grown0 (grown_drewN w q)⟩
        · exact ⟨[], IsNat.nil _⟩
      have HZ := Hq0 hz'; have HB := Hq0 hzb; have HB2 := Hq0 hzb2
      have HMK := Hq0 (make_any hzn (m + n) (by omega) (by omega))
      clear hz' hzb hzb2 hzn A1 A2
      have e3 : ((m + n : Nat) : Int) = (m : Int) + n := by omega
      rw [e3] at HMK
      go_wp2_with (fail)
      refine HMK.out.mono ?_
      rintro e w1 ⟨b1, cap1, L, rfl, hc1, hmade⟩
      have HM := Hq0 hmade
      have hK1 := kpc hmade.grown (kpc (grown_drewN w q) HK.out.kar)
      have hlt40 : ((n : Int) < 40) := by omega
      have n1 : b ≠ b1 := by
        rintro rfl
        rcases hmade.own with h | h
        · exact HB.out h
        · have := (Array.getElem?_eq_some_iff.1 Hb.out).1
          have h3 : w.heap.size ≤ b := h
          omega
      have n2 : b2 ≠ b1 := by
        rintro rfl
        rcases hmade.own with h | h
        · exact HB2.out h
        · have := (Array.getElem?_eq_some_iff.1 Hb2.out).1
          have h3 : w.heap.size ≤ b2 := h
          omega
      have HBM := Hq0 (basicMul_any b1 b b2 m n cap1 cap cap2 L lx ly w1 (by omega) (by omega) hmade.here hmade.len.symm hc1 ((Hat.out.grown (grown_drewN w q) (Array.getElem?_eq_some_iff.1 Hb.out).1).grown hmade.grown (Array.getElem?_eq_some_iff.1 Hb.out).1) ((Hat2.out.grown (grown_drewN w q) (Array.getElem?_eq_some_iff.1 Hb2.out).1).grown hmade.grown (Array.getElem?_eq_some_iff.1 Hb2.out).1) n1 n2 Hlm.out Hln.out wx wy (by omega))
      clear hmade HMK n1 n2
      go_wp2_with (fail)
      refine HBM.out.mono ?_
      rintro e w2 ⟨rfl, Z, hZ, wZ, hv, hu⟩
      have hlen := HM.out.len
      have hat5 := At.spl0 hu.here (by omega)
      have HR : Hid (NatVal w w2 z.ownBlock (.returned (.slice (some ⟨b1, 0, none⟩) (nrm Z).length cap1)) (val lx * val ly)) := by
        have h1 := NatRes.of_made HZ.out HM.out hu (by omega)
        refine ⟨_, _, rfl, ⟨grown_trans (grown_weak (grown_drewN w q)) h1.grown, h1.nat, h1.own⟩, wfL_nrm wZ, nrm_nrm _, by rw [val_nrm]; exact hv⟩
      have HA := Hq0 hat5; have HL := Hq0 hZ
      clear hu hat5 hZ wZ hv hK1 HBM hlen
      go_wp2_with (fail)
      refine (norm_any b1 0 (m + n) cap1 Z _ HL.out hc1 (by omega) HA.out).mono ?_
      rintro e w4 ⟨rfl, rfl⟩
      go_wp2
      go_ret
      exact HR.out
end Go.Proofs.YtjcfacinlgogaaaGreatDoor
