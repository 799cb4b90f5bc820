/- Natural numbers: the sum. Conditions: at most 10^11 words. Natural numbers: the difference. Conditions: at most 10^11 words; the second one is not greater. -/
import Derived.Test.YtjcfacinlgogaaaGreatDoorQ07
set_option linter.all false
set_option maxRecDepth 100000
namespace Go.Proofs.YtjcfacinlgogaaaGreatDoor
open Go.RowKit
theorem spl_app (L Z Y : List Int) (h : Z.length + Y.length ≤ L.length) : spl (spl L 0 Z) Z.length Y = spl L 0 (Z ++ Y) := by
  unfold spl
  simp only [List.take_zero, List.nil_append, Nat.zero_add]
  rw [List.take_append_of_le_length (Nat.le_refl _), List.take_length, List.drop_append, List.drop_eq_nil_of_le (by omega), List.nil_append, List.drop_drop, List.length_append]
  congr 2
  omega
theorem nil_of_len {l : List Int} (h : l.length = 0) : l = [] := List.eq_nil_of_length_eq_zero h
theorem At.beyond {w w' : World} {b bx ox k : Nat} {X L Z : List Int} (h : At w bx ox X) (ha : bx = b → ox = 0) (hL : w.heap[b]? = some (blk L)) (hu : Upd w w' b (spl L 0 Z)) (hz : Z.length ≤ L.length) (hk : Z.length ≤ k) (hk2 : k ≤ X.length) (hX : bx = b → X.length ≤ L.length) : At w' bx (ox + k) (X.drop k) := by
  intro i hi
  simp only [List.length_drop] at hi
  have h1 := h (k + i) (by omega)
  rw [List.getElem?_drop, show ox + k + i = ox + (k + i) by omega]
  by_cases e : bx = b
  · have e2 := ha e; subst e; subst e2
    have := hX rfl
    rw [Nat.zero_add] at h1 ⊢
    rw [cell_blk hL _ (by omega)] at h1
    rw [cell_blk hu.here _ (by rw [spl_length _ _ _ (by omega)]; omega), spl_get _ _ _ _ (by omega) (by omega)]
    exact h1
  · rw [hu.cell (by exact e)]; exact h1
theorem At.take {w : World} {b o : Nat} {X : List Int} (h : At w b o X) (k : Nat) : At w b o (X.take k) := by
  intro i hi
  simp only [List.length_take] at hi
  rw [h i (by omega), List.getElem?_take_of_lt (by omega)]
theorem IsNat.form {w : World} {v : Value} {l : List Int} (h : IsNat w v l) : ∃ a c, v = .slice a l.length c := by
  rcases h with ⟨rfl, rfl⟩ | ⟨b, cap, M, rfl, _⟩
  · exact ⟨none, 0, rfl⟩
  · exact ⟨some ⟨b, 0, none⟩, cap, rfl⟩
theorem run_slice_to {P : Program} {T e : TypeId} (hT : P.underlying T = some (.slice e)) (hs : (P.info? e).map (·.size) = some 1) (b n c h : Nat) (hi : Int) (hhi : hi = h) (hh : h ≤ c) (wx : World) :
    (Instr.slice T (.slice (some ⟨b, 0, none⟩) n c) none (some (.int .i64 hi)) none).run P wx = .ok (.slice (some ⟨b, 0, none⟩) h c) wx := by
  subst hhi
  cases hq : P.info? e with
  | none => simp [hq] at hs
  | some i =>
    have hi : i.size = 1 := by simpa [hq] using hs
    simp [Instr.slice, Instr.sliceBounds, Instr.sliceBound, run_underlying hT, sizeOf, typeInfo, hq, asIntOf, Addr.add]
    intro h2; omega
theorem grown_dw (w : World) : w.grownBy w.drew none := ⟨rfl, rfl, rfl, Nat.le_refl _, fun _ _ _ => rfl⟩
theorem Made.dw {w w1 : World} {z : Value} {b cap : Nat} {L : List Int} (h : Made w w1 z b cap L) : Made w w1.drew z b cap L := ⟨h.here, h.len, h.most, grown_trans h.grown (grown_dw _), h.own⟩
theorem Upd.of_drew {w w' : World} {b : Nat} {L : List Int} (h : Upd w.drew w' b L) : Upd w w' b L := ⟨h.os, h.tape, h.output, h.size, h.here, h.block⟩
theorem sum_eq {lx ly Z Z2 : List Int} {n m : Nat} {c c2 : Int} (hm : lx.length = m) (hn : ly.length = n) (hnm : n < m) (hZ : Z.length = n) (hZ2 : Z2.length = m - n) (h1 : val Z + B64 ^ n * c = val (lx.take n) + val ly) (h2 : val Z2 + B64 ^ (m - n) * c2 = val (lx.drop n) + c) :
    val (Z ++ Z2 ++ [c2]) = val lx + val ly := by
  have e : B64 ^ m = B64 ^ n * B64 ^ (m - n) := by rw [← Int.pow_add]; congr 1; omega
  have h3 := val_split lx n (by omega)
  rw [val_snoc, val_append, hZ, List.length_append, hZ, hZ2, show n + (m - n) = m by omega, e]
  have h4 : B64 ^ n * (val Z2 + B64 ^ (m - n) * c2) = B64 ^ n * (val (lx.drop n) + c) := by rw [h2]
  rw [Int.mul_add, Int.mul_add, ← Int.mul_assoc] at h4
  omega
theorem add_ge {w : World} {z x y : Value} {lz lx ly : List Int} (hz : IsNat w z lz) (hx : IsNat w x lx) (hy : IsNat w y ly) (wx : wfL lx) (wy : wfL ly) (nx : Nrm lx) (hn : lx.length ≤ 100000000000) (hge : ly.length ≤ lx.length) :
    Calls Tryz.prog 124 #[z, x, y] w fun e w' => NatVal w w' z.ownBlock e (val lx + val ly) := by
  by_cases hx0 : lx = []
  · subst hx0
    obtain rfl := nil_of_len (show ly.length = 0 by simpa using hge)
    obtain ⟨v, hv, hres⟩ := res_zero hz
    obtain ⟨xa, xc, rfl⟩ : ∃ xa xc, x = .slice xa 0 xc := by
      rcases hx with ⟨rfl, _⟩ | ⟨b, cap, M, rfl, _⟩
      · exact ⟨none, 0, rfl⟩
      · exact ⟨some ⟨b, 0, none⟩, cap, rfl⟩
    obtain ⟨ya, yc, rfl⟩ : ∃ xa xc, y = .slice xa 0 xc := by
      rcases hy with ⟨rfl, _⟩ | ⟨b, cap, M, rfl, _⟩
      · exact ⟨none, 0, rfl⟩
      · exact ⟨some ⟨b, 0, none⟩, cap, rfl⟩
    have HR : Hid (NatVal w w z.ownBlock (.returned v) (val [] + val [])) := ⟨v, [], rfl, hres, wfL_nil, Nrm.nil, by simp [val]⟩
    clear hres hz hx hy
    go_enter Tryz.func124, Tryz.ntmps124
    go_wp2
    go_ret
    exact HR.out
  obtain ⟨b, cap, M, rfl, hb, hc, hm, hat, hown⟩ := hx.split hx0
  obtain ⟨m, hlm⟩ : ∃ m, lx.length = m := ⟨_, rfl⟩
  have hm1 : 1 ≤ m := by rw [← hlm]; cases lx with | nil => exact absurd rfl hx0 | cons a l => simp
  by_cases hy0 : ly = []
  · subst hy0
    obtain ⟨ya, yc, rfl⟩ : ∃ xa xc, y = .slice xa 0 xc := by
      rcases hy with ⟨rfl, _⟩ | ⟨b, cap, M, rfl, _⟩
      · exact ⟨none, 0, rfl⟩
      · exact ⟨some ⟨b, 0, none⟩, cap, rfl⟩
    have HS := Hq0 (set_any hz hx (by omega))
    have HE : Hid (∀ e w', (∃ v, e = .returned v ∧ NatRes w w' z.ownBlock v lx) → NatVal w w' z.ownBlock e (val lx + val [])) := by
      rintro e w' ⟨v, rfl, h⟩
      exact ⟨v, _, rfl, h, wx, nx, by simp [val]⟩
    have Hlm := Hq0 hlm
    rw [hlm] at HS ⊢
    have hm0 : ((m : Int) == 0) = false := by simp; omega
    clear hz hx hy hb hat hown hx0 hlm hge hc
    go_enter Tryz.func124, Tryz.ntmps124
    go_wp2_with (fail)
    refine HS.out.mono ?_
    rintro e w1 ⟨v, rfl, hres⟩
    have HR := Hq0 (HE.out _ _ ⟨v, rfl, hres⟩)
    clear hres
    go_wp2
    go_ret
    exact HR.out
  obtain ⟨b2, cap2, M2, rfl, hb2, hc2, hm2, hat2, hown2⟩ := hy.split hy0
  obtain ⟨n, hln⟩ : ∃ n, ly.length = n := ⟨_, rfl⟩
  have hn1 : 1 ≤ n := by rw [← hln]; cases ly with | nil => exact absurd rfl hy0 | cons a l => simp
  have Hz := Hq0 hz; have Hb := Hq0 hb; have Hat := Hq0 hat; have Hb2 := Hq0 hb2; have Hat2 := Hq0 hat2
  have Hlm := Hq0 hlm; have Hln := Hq0 hln
  rw [hlm] at hc hn hge ⊢
  rw [hln] at hge hc2 ⊢
  have hm0 : ((m : Int) == 0) = false := by simp; omega
  have hn0 : ((n : Int) == 0) = false := by simp; omega
  clear hz hx hy hb hat hown hb2 hat2 hown2 hx0 hy0 hlm hln
  go_enter Tryz.func124, Tryz.ntmps124
  go_wp2_with (fail)
  refine (make_any Hz.out (m + 1) (by omega) (by omega)).mono ?_
  rintro e w1 ⟨b1, cap1, L, rfl, hc1, hmade⟩
  have HM := Hq0 hmade
  clear hmade
  go_wp2_with (fail)
  have R1 := run_slice_to (P := Tryz.prog) und88 siz87 b1 (m + 1) cap1 n (n : Int) rfl (by omega)
  have R2 := run_slice_to (P := Tryz.prog) und88 siz87 b m cap n (n : Int) rfl (by omega)
  have R3 := run_slice_to (P := Tryz.prog) und88 siz87 b2 n cap2 n (n : Int) rfl (by omega)
  have hlm := Hlm.out
  have hln := Hln.out
  have HM1 := Hq0 HM.out.dw
  have HV := Hq0 (addVV b1 0 b 0 b2 0 n cap1 cap cap2 L (lx.take n) ly w1.drew (by omega) HM1.out.here (by have := HM.out.len; omega) ((Hat.out.grown HM1.out.grown (Array.getElem?_eq_some_iff.1 Hb.out).1).take n) (Hat2.out.grown HM1.out.grown (Array.getElem?_eq_some_iff.1 Hb2.out).1) (by simp; omega) hln (wfL_take wx n) wy (fun _ => rfl) (fun _ => rfl))
  clear hlm hln
  by_cases hmn : n < m
  · go_region_with (go_at_call 146; refine HV.out.mono ?_; rintro e w2 ⟨c, rfl, hv⟩)
    obtain ⟨Z, hZ, wZ, ⟨uc, hF⟩, hu⟩ := hv
    rw [List.take_take, Nat.min_self, List.take_of_length_le (l := ly) (by rw [Hln.out]; exact Nat.le_refl _)] at hF
    have hAt3 : At w2 b (0 + n) (lx.drop n) := (Hat.out.grown HM1.out.grown (Array.getElem?_eq_some_iff.1 Hb.out).1).beyond (fun _ => rfl) HM1.out.here hu (by have := HM.out.len; omega) (by omega) (by have := Hlm.out; omega) (by have := HM.out.len; have := Hlm.out; intro; omega)
    have R4 := run_slice_mid (P := Tryz.prog) und88 siz87 b1 (m + 1) cap1 n m (n : Int) (m : Int) rfl rfl (by omega) (by omega)
    have R5 := run_slice_from (P := Tryz.prog) und88 siz87 b 0 m cap n (n : Int) rfl (by omega)
    rw [adv_lt (by omega)] at R4 R5
    simp only [Nat.zero_add] at R4 R5
    rw [Nat.zero_add] at hAt3
    obtain ⟨M3, hM3⟩ : ∃ M3, w2.heap[b]? = some (blk M3) := by
      by_cases e : b = b1
      · subst e; exact ⟨_, hu.here⟩
      · exact ⟨_, (hu.block b e).trans ((HM1.out.grown.block b (Array.getElem?_eq_some_iff.1 Hb.out).1 (by simp)).trans Hb.out)⟩
    have ax : b = b1 → (n : Nat) = n := fun _ => rfl
    have HV2 := Hq0 (addVW b1 n b n (m - n) (cap1 - n) (cap - n) (spl L 0 Z) (lx.drop n) M3 c w2.drew (by omega) (by omega) hu.here (by rw [spl_length _ _ _ (by have := HM.out.len; omega)]; have := HM.out.len; omega) hAt3 ax (by omega) (by omega) hM3 (by simp [Hlm.out]) (wfL_drop wx n) (bit_u uc))
    have HU := Hq0 hu.of_drew; have HF := Hq0 hF; have HZ := Hq0 hZ; have HwZ := Hq0 wZ; have HAt3 := Hq0 hAt3
    clear hu hF hZ wZ hAt3 HV R1 R2 R3 uc
    go_wp2_with (fail)
    go_region_with (go_at_call 147; refine HV2.out.mono ?_; rintro e w3 ⟨c2, rfl, hv2⟩)
    obtain ⟨Z2, hZ2, wZ2, ⟨uc2, hF2⟩, hu2⟩ := hv2
    have hlen := HM.out.len
    have hu3 := hu2.of_drew
    have hz0 := HZ.out
    rw [← hz0, spl_app _ _ _ (by omega)] at hu3
    have hu4 := (HU.out.trans hu3)
    have g1 := cell_blk hu4.here m (by rw [spl_length _ _ _ (by simp; omega)]; omega)
    have g2 := frozen_blk hu4.here m
    have hu5 := hu4.set m c2
    have e5 : (Z ++ Z2).length = m := by simp; omega
    rw [show m = 0 + (Z ++ Z2).length by omega, spl_snoc _ _ _ _ (by omega), show 0 + (Z ++ Z2).length = m by omega] at hu5
    have hat5 := At.spl0 hu5.here (by simp; omega)
    have HR : Hid (NatVal w (w3.setCell ⟨b1, m, none⟩ (.int .u64 c2)) z.ownBlock (.returned (.slice (some ⟨b1, 0, none⟩) (nrm (Z ++ Z2 ++ [c2])).length cap1)) (val lx + val ly)) := by
      rw [List.take_of_length_le (by simp [Hlm.out])] at hF2
      exact ⟨_, _, rfl, HM.out.fin hu5 (by simp; omega), wfL_nrm (wfL_snoc (wfL_append HwZ.out wZ2) (bit_u uc2)), nrm_nrm _, by rw [val_nrm]; exact sum_eq Hlm.out Hln.out hmn hz0 hZ2 HF.out hF2⟩
    have HA := Hq0 hat5; have HL : Hid ((Z ++ Z2 ++ [c2]).length = m + 1) := by show _ = _; simp; omega
    clear hu2 hu3 hu4 hu5 hat5 hF2 hZ2 wZ2 hz0 e5 R4 R5 HV2
    generalize (spl L 0 (Z ++ Z2))[m]?.getD 0 = old at *
    generalize Z ++ Z2 ++ [c2] = ZZ at HR HA HL
    go_wp2_with (fail)
    refine (norm_any b1 0 (m + 1) cap1 ZZ _ HL.out hc1 (by omega) HA.out).mono ?_
    rintro e w4 ⟨rfl, rfl⟩
    go_wp2
    go_ret
    exact HR.out
  · obtain rfl : n = m := by omega
    go_region_with (go_at_call 146; refine HV.out.mono ?_; rintro e w2 ⟨c, rfl, hv⟩)
    obtain ⟨Z, hZ, wZ, ⟨uc, hF⟩, hu⟩ := hv
    rw [List.take_take, Nat.min_self, List.take_of_length_le (l := ly) (by rw [Hln.out]; exact Nat.le_refl _), List.take_of_length_le (l := lx) (by rw [Hlm.out]; exact Nat.le_refl _)] at hF
    have hlen := HM.out.len
    have g1 := cell_blk hu.here n (by rw [spl_length _ _ _ (by omega)]; omega)
    have g2 := frozen_blk hu.here n
    have hu5 := hu.of_drew.set n c
    rw [show n = 0 + Z.length by omega, spl_snoc _ _ _ _ (by omega), show 0 + Z.length = n by omega] at hu5
    have hat5 := At.spl0 hu5.here (by simp; omega)
    have HR : Hid (NatVal w (w2.setCell ⟨b1, n, none⟩ (.int .u64 c)) z.ownBlock (.returned (.slice (some ⟨b1, 0, none⟩) (nrm (Z ++ [c])).length cap1)) (val lx + val ly)) := 
      ⟨_, _, rfl, HM.out.fin hu5 (by simp; omega), wfL_nrm (wfL_snoc wZ (bit_u uc)), nrm_nrm _, by rw [val_nrm, val_snoc, hZ]; exact hF⟩
    have HA := Hq0 hat5; have HL : Hid ((Z ++ [c]).length = n + 1) := by show _ = _; simp; omega
    clear hu hu5 hat5 hF hZ wZ R1 R2 R3 HV
    generalize (spl L 0 Z)[n]?.getD 0 = old at *
    go_wp2_with (fail)
    refine (norm_any b1 0 (n + 1) cap1 (Z ++ [c]) _ HL.out hc1 (by omega) HA.out).mono ?_
    rintro e w4 ⟨rfl, rfl⟩
    go_wp2
    go_ret
    exact HR.out
theorem add_any {w : World} {z x y : Value} {lz lx ly : List Int} (hz : IsNat w z lz) (hx : IsNat w x lx) (hy : IsNat w y ly) (wx : wfL lx) (wy : wfL ly) (nx : Nrm lx) (ny : Nrm ly) (hn : lx.length ≤ 100000000000) (hn2 : ly.length ≤ 100000000000) :
    Calls Tryz.prog 124 #[z, x, y] w fun e w' => NatVal w w' z.ownBlock e (val lx + val ly) := by
  by_cases hge : ly.length ≤ lx.length
  · exact add_ge hz hx hy wx wy nx hn hge
  · have HS := Hq0 (add_ge hz hy hx wy wx ny hn2 (by omega))
    obtain ⟨xa, xc, rfl⟩ := hx.form
    obtain ⟨ya, yc, rfl⟩ := hy.form
    have hlt : lx.length < ly.length := by omega
    rw [Int.add_comm (val lx)]
    generalize val ly + val lx = s at *
    generalize lx.length = m at *
    generalize ly.length = n at *
    clear hz hx hy wx wy nx ny hge
    go_enter Tryz.func124, Tryz.ntmps124
    go_wp2_with (fail)
    refine HS.out.mono ?_
    rintro e w1 ⟨v, l, rfl, hres⟩
    have HR := Hq0 hres
    clear hres
    go_wp2
    go_ret
    exact ⟨v, l, rfl, HR.out⟩
end Go.Proofs.YtjcfacinlgogaaaGreatDoor
namespace Go.Proofs.YtjcfacinlgogaaaGreatDoor
open Go.RowKit
theorem diff_eq {lx ly Z Z2 : List Int} {n m : Nat} {c c2 : Int} (hm : lx.length = m) (hn : ly.length = n) (hnm : n < m) (hZ : Z.length = n) (hZ2 : Z2.length = m - n) (h1 : val Z - B64 ^ n * c = val (lx.take n) - val ly) (h2 : val Z2 - B64 ^ (m - n) * c2 = val (lx.drop n) - c) :
    val (Z ++ Z2) - B64 ^ m * c2 = val lx - val ly := by
  have e : B64 ^ m = B64 ^ n * B64 ^ (m - n) := by rw [← Int.pow_add]; congr 1; omega
  have h3 := val_split lx n (by omega)
  rw [val_append, hZ, e]
  have h4 : B64 ^ n * (val Z2 - B64 ^ (m - n) * c2) = B64 ^ n * (val (lx.drop n) - c) := by rw [h2]
  rw [Int.mul_sub, Int.mul_sub, ← Int.mul_assoc] at h4
  omega
theorem sub_any {w : World} {z x y : Value} {lz lx ly : List Int} (hz : IsNat w z lz) (hx : IsNat w x lx) (hy : IsNat w y ly) (wx : wfL lx) (wy : wfL ly) (nx : Nrm lx) (hn : lx.length ≤ 100000000000) (ny : Nrm ly) (hv : val ly ≤ val lx) :
    Calls Tryz.prog 125 #[z, x, y] w fun e w' => NatVal w w' z.ownBlock e (val lx - val ly) := by
  have hge : ly.length ≤ lx.length := by
    rcases Nat.lt_or_ge lx.length ly.length with h | h
    · have := val_lt_of_len wx wy ny h; omega
    · exact h
  by_cases hx0 : lx = []
  · subst hx0
    obtain rfl := nil_of_len (show ly.length = 0 by simpa using hge)
    obtain ⟨v, hv, hres⟩ := res_zero hz
    obtain ⟨xa, xc, rfl⟩ : ∃ xa xc, x = .slice xa 0 xc := by
      rcases hx with ⟨rfl, _⟩ | ⟨b, cap, M, rfl, _⟩
      · exact ⟨none, 0, rfl⟩
      · exact ⟨some ⟨b, 0, none⟩, cap, rfl⟩
    obtain ⟨ya, yc, rfl⟩ : ∃ xa xc, y = .slice xa 0 xc := by
      rcases hy with ⟨rfl, _⟩ | ⟨b, cap, M, rfl, _⟩
      · exact ⟨none, 0, rfl⟩
      · exact ⟨some ⟨b, 0, none⟩, cap, rfl⟩
    have HR : Hid (NatVal w w z.ownBlock (.returned v) (val [] - val [])) := ⟨v, [], rfl, hres, wfL_nil, Nrm.nil, by simp [val]⟩
    clear hres hz hx hy
    go_enter Tryz.func125, Tryz.ntmps125
    go_wp2
    go_ret
    exact HR.out
  obtain ⟨b, cap, M, rfl, hb, hc, hm, hat, hown⟩ := hx.split hx0
  obtain ⟨m, hlm⟩ : ∃ m, lx.length = m := ⟨_, rfl⟩
  have hm1 : 1 ≤ m := by rw [← hlm]; cases lx with | nil => exact absurd rfl hx0 | cons a l => simp
  by_cases hy0 : ly = []
  · subst hy0
    obtain ⟨ya, yc, rfl⟩ : ∃ xa xc, y = .slice xa 0 xc := by
      rcases hy with ⟨rfl, _⟩ | ⟨b, cap, M, rfl, _⟩
      · exact ⟨none, 0, rfl⟩
      · exact ⟨some ⟨b, 0, none⟩, cap, rfl⟩
    have HS := Hq0 (set_any hz hx (by omega))
    have HE : Hid (∀ e w', (∃ v, e = .returned v ∧ NatRes w w' z.ownBlock v lx) → NatVal w w' z.ownBlock e (val lx - val [])) := by
      rintro e w' ⟨v, rfl, h⟩
      exact ⟨v, _, rfl, h, wx, nx, by simp [val]⟩
    have Hlm := Hq0 hlm
    rw [hlm] at HS ⊢
    have hm0 : ((m : Int) == 0) = false := by simp; omega
    clear hz hx hy hb hat hown hx0 hlm hge hc
    go_enter Tryz.func125, Tryz.ntmps125
    go_wp2_with (fail)
    refine HS.out.mono ?_
    rintro e w1 ⟨v, rfl, hres⟩
    have HR := Hq0 (HE.out _ _ ⟨v, rfl, hres⟩)
    clear hres
    go_wp2
    go_ret
    exact HR.out
  obtain ⟨b2, cap2, M2, rfl, hb2, hc2, hm2, hat2, hown2⟩ := hy.split hy0
  obtain ⟨n, hln⟩ : ∃ n, ly.length = n := ⟨_, rfl⟩
  have hn1 : 1 ≤ n := by rw [← hln]; cases ly with | nil => exact absurd rfl hy0 | cons a l => simp
  have Hz := Hq0 hz; have Hb := Hq0 hb; have Hat := Hq0 hat; have Hb2 := Hq0 hb2; have Hat2 := Hq0 hat2
  have Hlm := Hq0 hlm; have Hln := Hq0 hln
  rw [hlm] at hc hn hge ⊢
  rw [hln] at hge hc2 ⊢
  have HVL := Hq0 hv
  clear hv
  have hm0 : ((m : Int) == 0) = false := by simp; omega
  have hn0 : ((n : Int) == 0) = false := by simp; omega
  clear hz hx hy hb hat hown hb2 hat2 hown2 hx0 hy0 hlm hln
  go_enter Tryz.func125, Tryz.ntmps125
  go_wp2_with (fail)
  refine (make_any Hz.out m (by omega) (by omega)).mono ?_
  rintro e w1 ⟨b1, cap1, L, rfl, hc1, hmade⟩
  have HM := Hq0 hmade
  clear hmade
  go_wp2_with (fail)
  have R1 := run_slice_to (P := Tryz.prog) und88 siz87 b1 m cap1 n (n : Int) rfl (by omega)
  have R2 := run_slice_to (P := Tryz.prog) und88 siz87 b m cap n (n : Int) rfl (by omega)
  have R3 := run_slice_to (P := Tryz.prog) und88 siz87 b2 n cap2 n (n : Int) rfl (by omega)
  have hlm := Hlm.out
  have hln := Hln.out
  have HM1 := Hq0 HM.out.dw
  have HV := Hq0 (subVV b1 0 b 0 b2 0 n cap1 cap cap2 L (lx.take n) ly w1.drew (by omega) HM1.out.here (by have := HM.out.len; omega) ((Hat.out.grown HM1.out.grown (Array.getElem?_eq_some_iff.1 Hb.out).1).take n) (Hat2.out.grown HM1.out.grown (Array.getElem?_eq_some_iff.1 Hb2.out).1) (by simp; omega) hln (wfL_take wx n) wy (fun _ => rfl) (fun _ => rfl))
  clear hlm hln
  by_cases hmn : n < m
  · go_region_with (go_at_call 148; refine HV.out.mono ?_; rintro e w2 ⟨c, rfl, hv⟩)
    obtain ⟨Z, hZ, wZ, ⟨uc, hF⟩, hu⟩ := hv
    rw [List.take_take, Nat.min_self, List.take_of_length_le (l := ly) (by rw [Hln.out]; exact Nat.le_refl _)] at hF
    have hAt3 : At w2 b (0 + n) (lx.drop n) := (Hat.out.grown HM1.out.grown (Array.getElem?_eq_some_iff.1 Hb.out).1).beyond (fun _ => rfl) HM1.out.here hu (by have := HM.out.len; omega) (by omega) (by have := Hlm.out; omega) (by have := HM.out.len; have := Hlm.out; intro; omega)
    have R4 := run_slice_from (P := Tryz.prog) und88 siz87 b1 0 m cap1 n (n : Int) rfl (by omega)
    have R5 := run_slice_from (P := Tryz.prog) und88 siz87 b 0 m cap n (n : Int) rfl (by omega)
    rw [adv_lt (by omega)] at R4 R5
    simp only [Nat.zero_add] at R4 R5
    rw [Nat.zero_add] at hAt3
    obtain ⟨M3, hM3⟩ : ∃ M3, w2.heap[b]? = some (blk M3) := by
      by_cases e : b = b1
      · subst e; exact ⟨_, hu.here⟩
      · exact ⟨_, (hu.block b e).trans ((HM1.out.grown.block b (Array.getElem?_eq_some_iff.1 Hb.out).1 (by simp)).trans Hb.out)⟩
    have ax : b = b1 → (n : Nat) = n := fun _ => rfl
    have HV2 := Hq0 (subVW b1 n b n (m - n) (cap1 - n) (cap - n) (spl L 0 Z) (lx.drop n) M3 c w2.drew (by omega) (by omega) hu.here (by rw [spl_length _ _ _ (by have := HM.out.len; omega)]; have := HM.out.len; omega) hAt3 ax (by omega) (by omega) hM3 (by simp [Hlm.out]) (wfL_drop wx n) (bit_u uc))
    have HU := Hq0 hu.of_drew; have HF := Hq0 hF; have HZ := Hq0 hZ; have HwZ := Hq0 wZ; have HAt3 := Hq0 hAt3
    clear hu hF hZ wZ hAt3 HV R1 R2 R3 uc
    go_wp2_with (fail)
    go_region_with (go_at_call 149; refine HV2.out.mono ?_; rintro e w3 ⟨c2, rfl, hv2⟩)
    obtain ⟨Z2, hZ2, wZ2, ⟨uc2, hF2⟩, hu2⟩ := hv2
    have hlen := HM.out.len
    have hu3 := hu2.of_drew
    have hz0 := HZ.out
    rw [← hz0, spl_app _ _ _ (by omega)] at hu3
    have hu4 := (HU.out.trans hu3)
    have e5 : (Z ++ Z2).length = m := by simp; omega
    have hat5 := At.spl0 hu4.here (by omega)
    rw [List.take_of_length_le (by simp [Hlm.out])] at hF2
    have hsum := diff_eq Hlm.out Hln.out hmn hz0 hZ2 HF.out hF2
    have wZZ := wfL_append HwZ.out wZ2
    have hc0 : c2 = 0 := by
      have h1 := val_lt wZZ
      rw [e5] at h1
      rcases (show c2 = 0 ∨ c2 = 1 by unfold Bit at uc2; omega) with h | h
      · exact h
      · rw [h] at hsum; have := HVL.out; omega
    subst hc0
    rw [Int.mul_zero, Int.sub_zero] at hsum
    have HR : Hid (NatVal w w3 z.ownBlock (.returned (.slice (some ⟨b1, 0, none⟩) (nrm (Z ++ Z2)).length cap1)) (val lx - val ly)) := ⟨_, _, rfl, HM.out.fin hu4 (by omega), wfL_nrm wZZ, nrm_nrm _, by rw [val_nrm]; exact hsum⟩
    have HA := Hq0 hat5; have HL : Hid ((Z ++ Z2).length = m) := e5
    clear hu2 hu3 hu4 hat5 hF2 hZ2 wZ2 hz0 e5 R4 R5 HV2 uc2 hsum wZZ
    generalize Z ++ Z2 = ZZ at HR HA HL
    go_wp2_with (fail)
    refine (norm_any b1 0 m cap1 ZZ _ HL.out hc1 (by omega) HA.out).mono ?_
    rintro e w4 ⟨rfl, rfl⟩
    go_wp2
    go_ret
    exact HR.out
  · obtain rfl : n = m := by omega
    go_region_with (go_at_call 148; refine HV.out.mono ?_; rintro e w2 ⟨c, rfl, hv⟩)
    obtain ⟨Z, hZ, wZ, ⟨uc, hF⟩, hu⟩ := hv
    rw [List.take_take, Nat.min_self, List.take_of_length_le (l := ly) (by rw [Hln.out]; exact Nat.le_refl _), List.take_of_length_le (l := lx) (by rw [Hlm.out]; exact Nat.le_refl _)] at hF
    have hlen := HM.out.len
    have hat5 := At.spl0 hu.here (by omega)
    have hc0 : c = 0 := by
      have h1 := val_lt wZ
      rw [hZ] at h1
      rcases (show c = 0 ∨ c = 1 by unfold Bit at uc; omega) with h | h
      · exact h
      · rw [h] at hF; have := HVL.out; omega
    subst hc0
    rw [Int.mul_zero, Int.sub_zero] at hF
    have HR : Hid (NatVal w w2 z.ownBlock (.returned (.slice (some ⟨b1, 0, none⟩) (nrm Z).length cap1)) (val lx - val ly)) := ⟨_, _, rfl, HM.out.fin hu.of_drew (by omega), wfL_nrm wZ, nrm_nrm _, by rw [val_nrm]; exact hF⟩
    have HA := Hq0 hat5; have HL := Hq0 hZ
    clear hu hat5 hF hZ wZ R1 R2 R3 HV uc
    go_wp2_with (fail)
    refine (norm_any b1 0 n cap1 Z _ HL.out hc1 (by omega) HA.out).mono ?_
    rintro e w4 ⟨rfl, rfl⟩
    go_wp2
    go_ret
    exact HR.out
end Go.Proofs.YtjcfacinlgogaaaGreatDoor
