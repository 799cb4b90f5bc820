/- Natural numbers: all products of which the shorter factor has fewer than 40 words. Natural numbers: squares. Conditions: fewer than 12 words. -/
import Derived.Test.YtjcfacinlgogaaaGreatDoorQ07
import Derived.Test.YtjcfacinlgogaaaGreatDoorQ10
set_option linter.all false
set_option maxHeartbeats 2000000
set_option maxRecDepth 100000
namespace Go.Proofs.YtjcfacinlgogaaaGreatDoor
open Go.RowKit
theorem NatVal.zero {w w' : World} {z v : Value} {n : Int} (h : NatRes w w' z.ownBlock v []) (hn : n = 0) : NatVal w w' z.ownBlock (.returned v) n := ⟨v, [], rfl, h, wfL_nil, Nrm.nil, by rw [hn]; rfl⟩
theorem mul_le {w : World} {z x y : Value} {lz lx ly : List Int} (stk : Value) (hz : IsNat w z lz) (hx : IsNat w x lx) (hy : IsNat w y ly) (wx : wfL lx) (wy : wfL ly) (hn : lx.length ≤ 10000000000) (hge : ly.length ≤ lx.length) (h40 : ly.length < 40) (hK : TabK w) :
    Calls Tryz.prog 139 #[z, stk, x, y] w fun e w' => NatVal w w' z.ownBlock e (val lx * val ly) := by
  by_cases h2 : 2 ≤ ly.length
  · exact mul_ge stk hz hx hy wx wy hn hge h2 h40 hK
  by_cases h1 : ly.length = 1
  · obtain ⟨y0, rfl⟩ : ∃ y0, ly = [y0] := by
      match ly, h1 with
      | [a], _ => exact ⟨a, rfl⟩
    have := mul_one stk y0 hz hx hy wx (fun e => by rw [e] at hge; simp at hge) (by omega) (wfL_tail wy).1
    simpa [val] using this
  · have hl : ly = [] := nil_of_len (by omega)
    subst hl
    obtain ⟨v, hv, hres⟩ := res_zero hz
    obtain ⟨ya, yc, rfl⟩ := hy.form
    obtain ⟨xa, xc, rfl⟩ := hx.form
    have HR : Hid (NatVal w w z.ownBlock (.returned v) (val lx * val [])) := NatVal.zero hres (by simp [val])
    have hlt : ¬ ((lx.length : Int) < 0) := by omega
    simp only [List.length_nil] at *
    generalize lx.length = m at *
    clear hres hz hx hy wx hge
    by_cases hm : m = 0
    · subst hm
      go_enter Tryz.func139, Tryz.ntmps139
      go_wp2
      go_ret
      exact HR.out
    · have hm0 : ((m : Int) == 0) = false := by simp; omega
      go_enter Tryz.func139, Tryz.ntmps139
      go_wp2
      go_ret
      exact HR.out
theorem mul_any {w : World} {z x y : Value} {lz lx ly : List Int} (stk : Value) (hz : IsNat w z lz) (hx : IsNat w x lx) (hy : IsNat w y ly) (wx : wfL lx) (wy : wfL ly) (hn : lx.length ≤ 10000000000) (hn2 : ly.length ≤ 10000000000) (h40 : lx.length < 40 ∨ ly.length < 40) (hK : TabK w) :
    Calls Tryz.prog 139 #[z, stk, x, y] w fun e w' => NatVal w w' z.ownBlock e (val lx * val ly) := by
  by_cases hge : ly.length ≤ lx.length
  · exact mul_le stk hz hx hy wx wy hn hge (by omega) hK
  · have HS := Hq0 (mul_le stk hz hy hx wy wx hn2 (by omega) (by omega) hK)
    obtain ⟨xa, xc, rfl⟩ := hx.form
    obtain ⟨ya, yc, rfl⟩ := hy.form
    have hlt : lx.length < ly.length := by omega
    rw [Int.mul_comm (val lx)]
    generalize val ly * val lx = s at *
    generalize lx.length = m at *
    generalize ly.length = n at *
    clear hz hx hy wx wy hge h40 hK
    go_enter Tryz.func139, Tryz.ntmps139
    go_wp2_with (fail)
    refine HS.out.mono ?_
    rintro e w1 ⟨v, l, rfl, hres⟩
    have HR := Hq0 hres
    clear hres
    go_wp2
    go_ret
    exact ⟨v, l, rfl, HR.out⟩
end Go.Proofs.YtjcfacinlgogaaaGreatDoor
namespace Go.Proofs.YtjcfacinlgogaaaGreatDoor
open Go.RowKit
theorem sqr_zero {w : World} {z x : Value} {lz : List Int} (stk : Value) (hz : IsNat w z lz) (hx : IsNat w x []) :
    Calls Tryz.prog 138 #[z, stk, x] w fun e w' => NatVal w w' z.ownBlock e 0 := by
  obtain ⟨v, hv, hres⟩ := res_zero hz
  obtain ⟨xa, xc, rfl⟩ := hx.form
  have HR : Hid (NatVal w w z.ownBlock (.returned v) 0) := NatVal.zero hres rfl
  simp only [List.length_nil] at *
  clear hres hz hx
  go_enter Tryz.func138, Tryz.ntmps138
  go_wp2
  go_ret
  exact HR.out
theorem sqr_one {w : World} {z x : Value} {lz : List Int} {a : Int} (stk : Value) (hz : IsNat w z lz) (hx : IsNat w x [a]) (ua : U64 a) :
    Calls Tryz.prog 138 #[z, stk, x] w fun e w' => NatVal w w' z.ownBlock e (a * a) := by
  obtain ⟨b, cap, M, rfl, hb, hc, hm, hat, hown⟩ := hx.split (by simp)
  have g1 : w.cell? ⟨b, 0, none⟩ = some (.int .u64 a) := hat 0 (by simp)
  have Hz := Hq0 hz
  clear hz hx hb hat hown
  go_enter Tryz.func138, Tryz.ntmps138
  go_wp2_with (fail)
  refine (make_any Hz.out 2 (by omega) (by omega)).mono ?_
  rintro e w1 ⟨b1, cap1, L, rfl, hc1, hmade⟩
  have HM := Hq0 hmade
  have hlen := hmade.len
  have q0 := cell_blk hmade.here 0 (by omega)
  have q1 := cell_blk hmade.here 1 (by omega)
  have f0 := frozen_blk hmade.here 0
  have f1 := frozen_blk hmade.here 1
  have HW := Hq0 (fun w => mulWW a a w ua ua)
  clear hmade g1
  go_wp2_with (fail)
  refine (HW.out _).mono ?_
  rintro e w2 ⟨rfl, rfl⟩
  have uh := mhi_u ua ua
  have ul := mlo_u a a
  have hsum := mlo_mhi a a
  generalize mhi a a = hi at *
  generalize mlo a a = lo at *
  have hu5 : Upd w1 ((w1.setCell ⟨b1, 1, none⟩ (.int .u64 hi)).setCell ⟨b1, 0, none⟩ (.int .u64 lo)) b1 (spl L 0 [lo, hi]) := by
    have h := ((Upd.refl HM.out.here).set 1 hi).set 0 lo
    have e : (L.set 1 hi).set 0 lo = spl L 0 [lo, hi] := by
      match L, hlen with
      | [], h => simp at h; omega
      | [p], h => simp at h; omega
      | p :: r :: t, _ => simp [spl]
    rw [e] at h; exact h
  have HR : Hid (NatVal w ((w1.setCell ⟨b1, 1, none⟩ (.int .u64 hi)).setCell ⟨b1, 0, none⟩ (.int .u64 lo)) z.ownBlock (.returned (.slice (some ⟨b1, 0, none⟩) (nrm [lo, hi]).length cap1)) (a * a)) :=
    ⟨_, _, rfl, HM.out.fin hu5 (by simpa using hc1), wfL_nrm (wfL_cons ul (wfL_cons uh wfL_nil)), nrm_nrm _, by rw [val_nrm]; simp [val]; omega⟩
  have HA := Hq0 (At.spl0 hu5.here (by simp; omega))
  clear hu5 hsum uh ul HW hlen
  go_wp2_with (fail)
  refine (norm_any b1 0 2 cap1 [lo, hi] _ (by simp) hc1 (by omega) HA.out).mono ?_
  rintro e w4 ⟨rfl, rfl⟩
  generalize [lo, hi] = ZZ at HR ⊢
  go_wp2
  go_ret
  exact HR.out
theorem sqr_ge {w : World} {z x : Value} {lz lx : List Int} (stk : Value) (hz : IsNat w z lz) (hx : IsNat w x lx) (wx : wfL lx) (h2 : 2 ≤ lx.length) (h12 : lx.length < 12) (hK : TabK w) :
    Calls Tryz.prog 138 #[z, stk, x] w fun e w' => NatVal w w' z.ownBlock e (val lx * val lx) := by
  have hx0 : lx ≠ [] := fun e => by rw [e] at h2; exact absurd h2 (by decide)
  obtain ⟨b, cap, M, rfl, hb, hc, hm, hat, hown⟩ := hx.split hx0
  obtain ⟨m, hlm⟩ : ∃ m, lx.length = m := ⟨_, rfl⟩
  have A1 := Hq0 (alias_any hz hx hx0)
  unfold AlRes at A1
  have Hz := Hq0 hz; have Hb := Hq0 hb; have Hat := Hq0 hat
  have Hlm := Hq0 hlm; have HK := Hq0 hK
  rw [hlm] at hc h2 h12 ⊢
  rw [hlm] at A1
  have hm0 : ((m : Int) == 0) = false := by simp; omega
  have hm1 : ((m : Int) == 1) = false := by simp; omega
  clear hz hx hb hat hown hlm hK hx0
  go_enter Tryz.func138, Tryz.ntmps138
  go_wp2_with (fail)
  refine A1.out.mono ?_
  rintro e w1 ⟨r, q, rfl, rfl, hr⟩
  have HR := Hq0 hr
  clear hr
  go_upto_if 38 with (fail)
  go_cut [0] from 36 to 38 (fun z' w' => w' = w.drewN q ∧ (z' = z ∨ z' = .slice none 0 0) ∧ z'.ownBlock ≠ some b)
  case first =>
    cases r
    · have h := HR.out rfl
      clear HR
      go_wp2_with (fail)
      go_meet
      exact ⟨rfl, .inl rfl, h⟩
    · clear HR
      go_wp2_with (fail)
      go_meet
      exact ⟨rfl, .inr rfl, by simp [Value.ownBlock]⟩
  case rest =>
    obtain ⟨rfl, hz', hzb⟩ := hcut
    clear HR
    obtain ⟨lz', hzn⟩ : ∃ lz', IsNat (w.drewN q) u0 lz' := by
      rcases hz' with rfl | rfl
      · exact ⟨lz, Hz.out.grown0 (grown_drewN w q)⟩
      · exact ⟨[], IsNat.nil _⟩
    have HZ := Hq0 hz'; have HB := Hq0 hzb
    have HMK := Hq0 (make_any hzn (2 * m) (by omega) (by omega))
    clear hz' hzb hzn A1
    have e3 : ((2 * m : Nat) : Int) = 2 * (m : Int) := by omega
    rw [e3] at HMK
    go_wp2_with (fail)
    refine HMK.out.mono ?_
    rintro e w1 ⟨b1, cap1, L, rfl, hc1, hmade⟩
    have HM := Hq0 hmade
    have hK1 := kpc hmade.grown (kpc (grown_drewN w q) HK.out.bas)
    have hK2 := kpc hmade.grown (kpc (grown_drewN w q) HK.out.kas)
    have hlt12 : ((m : Int) < 12) := by omega
    have hlt80 : ((m : Int) < 80) := by omega
    have n1 : b ≠ b1 := by
      rintro rfl
      rcases hmade.own with h | h
      · exact HB.out h
      · have := (Array.getElem?_eq_some_iff.1 Hb.out).1
        have h3 : w.heap.size ≤ b := h
        omega
    have HBM := Hq0 (basicMul_any b1 b b m m cap1 cap cap L lx lx w1 (by omega) (by omega) hmade.here hmade.len.symm (by omega) ((Hat.out.grown (grown_drewN w q) (Array.getElem?_eq_some_iff.1 Hb.out).1).grown hmade.grown (Array.getElem?_eq_some_iff.1 Hb.out).1) ((Hat.out.grown (grown_drewN w q) (Array.getElem?_eq_some_iff.1 Hb.out).1).grown hmade.grown (Array.getElem?_eq_some_iff.1 Hb.out).1) n1 n1 Hlm.out Hlm.out wx wx (by omega))
    rw [show m + m = 2 * m by omega] at HBM
    clear hmade HMK n1
    go_wp2_with (fail)
    refine HBM.out.mono ?_
    rintro e w2 ⟨rfl, Z, hZ, wZ, hv, hu⟩
    have hlen := HM.out.len
    have hat5 := At.spl0 hu.here (by omega)
    have HR : Hid (NatVal w w2 z.ownBlock (.returned (.slice (some ⟨b1, 0, none⟩) (nrm Z).length cap1)) (val lx * val lx)) := by
      have h1 := NatRes.of_made HZ.out HM.out hu (by omega)
      refine ⟨_, _, rfl, ⟨grown_trans (grown_weak (grown_drewN w q)) h1.grown, h1.nat, h1.own⟩, wfL_nrm wZ, nrm_nrm _, by rw [val_nrm]; exact hv⟩
    have HA := Hq0 hat5; have HL := Hq0 hZ
    clear hu hat5 hZ wZ hv hK1 hK2 HBM hlen
    go_wp2_with (fail)
    refine (norm_any b1 0 (2 * m) cap1 Z _ HL.out hc1 (by omega) HA.out).mono ?_
    rintro e w4 ⟨rfl, rfl⟩
    go_wp2
    go_ret
    exact HR.out
theorem sqr_any {w : World} {z x : Value} {lz lx : List Int} (stk : Value) (hz : IsNat w z lz) (hx : IsNat w x lx) (wx : wfL lx) (h12 : lx.length < 12) (hK : TabK w) :
    Calls Tryz.prog 138 #[z, stk, x] w fun e w' => NatVal w w' z.ownBlock e (val lx * val lx) := by
  match lx, hx, wx, h12 with
  | [], hx, _, _ => simpa [val] using sqr_zero stk hz hx
  | [a], hx, wx, _ => simpa [val] using sqr_one stk hz hx (wfL_tail wx).1
  | a :: b :: t, hx, wx, h => exact sqr_ge stk hz hx wx (by simp) h hK
end Go.Proofs.YtjcfacinlgogaaaGreatDoor
