/- A row of words divided by one word. Conditions: the slices are of one length; what is read is what is written, or lies in another block. Division of a number by a number of one word. -/
import Derived.Lib.SliceRun
import Derived.Test.YtjcfacinlgogaaaGreatDoorQ03
import Derived.Test.YtjcfacinlgogaaaGreatDoorQ04
set_option linter.all false
set_option maxRecDepth 100000
namespace Go.Proofs.YtjcfacinlgogaaaGreatDoor
open Go.RowKit
theorem spl_below (L : List Int) (o : Nat) (Z : List Int) (i : Nat) (h : i < o) (ho : o ≤ L.length) : (spl L o Z)[i]?.getD 0 = L[i]?.getD 0 := by
  unfold spl
  rw [List.append_assoc, List.getElem?_append_left (by simp; omega), List.getElem?_take_of_lt h]
def DvRel (X : List Int) (y : Int) (w : World) (bz oz : Nat) (L : List Int) (k : Nat) (r : Int) (wr : World) : Prop :=
  ∃ Z : List Int, Z.length + k = X.length ∧ wfL Z ∧ val (X.drop k) = val Z * y + r ∧ 0 ≤ r ∧ r < y ∧ Upd w wr bz (spl L (oz + k) Z)
theorem DvRel.start {X : List Int} {y : Int} {w w' : World} {bz oz : Nat} {L : List Int} (hz : w.heap[bz]? = some (blk L)) (hy : 0 < y) (q : Nat) (hw : w' = w.drewN q) : DvRel X y w bz oz L X.length 0 w' :=
  ⟨[], by simp, wfL_nil, by rw [List.drop_eq_nil_of_le (by omega)]; simp [val], Int.le_refl _, hy, by rw [spl_nil, hw]; exact (Upd.refl hz).drewN q⟩
theorem DvRel.r {X : List Int} {y : Int} {w wr : World} {bz oz : Nat} {L : List Int} {k : Nat} {r : Int} (h : DvRel X y w bz oz L k r wr) : 0 ≤ r ∧ r < y := by
  obtain ⟨Z, _, _, _, h1, h2, _⟩ := h; exact ⟨h1, h2⟩
theorem dv_word {x y r : Int} (hx : U64 x) (hr : 0 ≤ r) (hy : r < y) : U64 ((r * B64 + x) / y) := by
  refine ⟨Int.ediv_nonneg (by have := hx.1; unfold B64; omega) (by omega), Int.ediv_lt_of_lt_mul (by omega) ?_⟩
  have : (r + 1) * B64 ≤ y * B64 := Int.mul_le_mul_of_nonneg_right (by omega) (by unfold B64; omega)
  rw [Int.mul_comm B64]
  have := hx.2; rw [Int.add_mul] at *; omega
theorem DvRel.step {X : List Int} {y : Int} {w wr : World} {bz oz : Nat} {L : List Int} {k : Nat} {r : Int} (h : DvRel X y w bz oz L (k + 1) r wr) (wx : wfL X) (hl : oz + X.length ≤ L.length) :
    DvRel X y w bz oz L k ((r * B64 + X[k]?.getD 0) % y) (wr.setCell ⟨bz, oz + k, none⟩ (.int .u64 ((r * B64 + X[k]?.getD 0) / y))) := by
  obtain ⟨Z, hZ, wZ, hv, h0, h1, hu⟩ := h
  have hxk := getD_u64 wx k (by omega)
  refine ⟨((r * B64 + X[k]?.getD 0) / y) :: Z, by simp; omega, wfL_cons (dv_word hxk h0 h1) wZ, ?_, Int.emod_nonneg _ (by omega), Int.emod_lt_of_pos _ (by omega), ?_⟩
  · rw [drop_cons X k (by omega)]
    simp only [val]
    have := Int.emod_add_mul_ediv (r * B64 + X[k]?.getD 0) y
    rw [hv]
    generalize (r * B64 + X[k]?.getD 0) / y = q at *
    generalize (r * B64 + X[k]?.getD 0) % y = s at *
    grind
  · rw [← spl_cons _ _ _ _ (by omega)]; exact hu.set _ _
theorem DvRel.read {X : List Int} {y : Int} {w wr : World} {bz oz bx ox : Nat} {L : List Int} {k : Nat} {r : Int} (h : DvRel X y w bz oz L (k + 1) r wr) (hX : At w bx ox X) (ha : bx = bz → ox = oz)
    (hz : w.heap[bz]? = some (blk L)) (hl : oz + X.length ≤ L.length) (hk : k < X.length) : wr.cell? ⟨bx, ox + k, none⟩ = some (.int .u64 (X[k]?.getD 0)) := by
  obtain ⟨Z, hZ, wZ, hv, h0, h1, hu⟩ := h
  have hx := hX k hk
  by_cases hb : bx = bz
  · obtain rfl := hb
    obtain rfl := ha rfl
    rw [cell_blk hz _ (by omega)] at hx
    rw [cell_blk hu.here _ (by rw [spl_length _ _ _ (by omega)]; omega), spl_below _ _ _ _ (by omega) (by omega), hx]
  · rw [hu.cell (by exact hb)]; exact hx
theorem DvRel.cell {X : List Int} {y : Int} {w wr : World} {bz oz : Nat} {L : List Int} {k : Nat} {r : Int} (h : DvRel X y w bz oz L k r wr) (hl : oz + X.length ≤ L.length) (i : Nat) (hi : i < L.length) : ∃ v, wr.cell? ⟨bz, i, none⟩ = some (.int .u64 v) := by
  obtain ⟨Z, hZ, wZ, hv, h0, h1, hu⟩ := h
  exact ⟨_, cell_blk hu.here _ (by rw [spl_length _ _ _ (by omega)]; exact hi)⟩
theorem DvRel.free {X : List Int} {y : Int} {w wr : World} {bz oz : Nat} {L : List Int} {k : Nat} {r : Int} (h : DvRel X y w bz oz L k r wr) (i : Nat) : wr.frozen? ⟨bz, i, none⟩ = false := by
  obtain ⟨Z, hZ, wZ, hv, h0, h1, hu⟩ := h
  exact frozen_blk hu.here _
def DvF (X : List Int) (y : Int) (v c : Int) : Prop := 0 ≤ c ∧ c < y ∧ val X = v * y + c
theorem DvRel.fin {X : List Int} {y : Int} {w wr : World} {bz oz : Nat} {L : List Int} {r : Int} (h : DvRel X y w bz oz L 0 r wr) : VRel (DvF X y) w bz oz L X.length r wr := by
  obtain ⟨Z, hZ, wZ, hv, h0, h1, hu⟩ := h
  exact ⟨Z, by simpa using hZ, wZ, ⟨h0, h1, hv⟩, hu⟩
theorem divWVW (bz oz bx ox n cz cx : Nat) (L X : List Int) (y : Int) (w : World) (hn : n ≤ 9223372036854775807) (h1 : 1 ≤ n) (hz : w.heap[bz]? = some (blk L)) (hl : oz + n ≤ L.length)
    (hX : At w bx ox X) (ha : bx = bz → ox = oz) (lx : X.length = n) (wx : wfL X) (hy : U64 y) (h0 : y ≠ 0) :
    Calls Tryz.prog 200 #[.slice (some ⟨bz, oz, none⟩) n cz, .int .u64 0, .slice (some ⟨bx, ox, none⟩) n cx, .int .u64 y] w fun e w' =>
      ∃ c, e = .returned (.int .u64 c) ∧ VRel (DvF X y) w bz oz L n c w' := by
  have hy0 : 0 < y := by have := hy.1; omega
  by_cases hn1 : n = 1
  · subst hn1
    obtain ⟨x, rfl⟩ : ∃ x, X = [x] := by match X, lx with | [x], _ => exact ⟨x, rfl⟩
    have ux : U64 x := wx x (by simp)
    have g1 : w.cell? ⟨bx, ox, none⟩ = some (.int .u64 x) := hX 0 (by simp)
    have g2 : w.cell? ⟨bz, oz, none⟩ = some (.int .u64 (L[oz]?.getD 0)) := cell_blk hz oz (by omega)
    have g3 := frozen_blk hz oz
    generalize L[oz]?.getD 0 = z0 at *
    have HR : Hid (∀ q, VRel (DvF [x] y) w bz oz L 1 (x % y) ((w.drewN q).setCell ⟨bz, oz, none⟩ (.int .u64 (x / y)))) := Hq0 fun q => by
      have h := (DvRel.start (X := [x]) hz hy0 q rfl).step (k := 0) (w := w) wx (by simpa using hl)
      simp only [Int.zero_mul, Int.zero_add] at h
      exact h.fin
    clear hX hz hl ha lx wx
    go_enter Tryz.func200, Tryz.ntmps200
    go_wp2_with (fail)
    refine (bitsDiv_small x y _ ux hy h0).mono ?_
    rintro e w' ⟨rfl, q, rfl⟩
    have g4 : (w.drewN q).cell? ⟨bz, oz, none⟩ = some (.int .u64 z0) := g2
    have g5 : (w.drewN q).frozen? ⟨bz, oz, none⟩ = false := g3
    go_wp2
    go_ret
    exact ⟨_, rfl, HR.out q⟩
  · obtain ⟨s, hs, hs1, hs2, hu⟩ := nlz_shift hy h0
    have HX := Hq0 hX; have Hl := Hq0 hl; have Hz := Hq0 hz; have Lx := Hq0 lx
    have HS : Hid (∀ q, DvRel X y w bz oz L n 0 (w.drewN q)) := Hq0 fun q => by rw [← lx]; exact DvRel.start hz hy0 q rfl
    have hb : ((n : Int) == 1) = false := by simp; omega
    have R1 := reciprocalWord y w hy h0 s hs hs1 hs2 hu
    have W1 := fun a b ww ha hb hub => divWW a b y ww ha hb hub hy h0 s hs hs1 hs2 hu
    generalize recip (y * 2 ^ s) = m at *
    clear hX hl hz lx hs hs2 hu hs1
    go_enter Tryz.func200, Tryz.ntmps200
    go_wp2_with (fail)
    refine R1.mono ?_
    rintro e w' ⟨rfl, q, rfl⟩
    go_wp2_with (fail)
    go_loopw [8, 12] (fun s8 s12 wr => ∃ k : Nat, ∃ r : Int, k ≤ n ∧ s12 = .int .i64 ((k : Int) - 1) ∧ s8 = .int .u64 r ∧ DvRel X y w bz oz L k r wr) (fun _ i _ => ((intOf i) + 1).toNat)
    case atStart => exact ⟨n, 0, by omega, by go_num, rfl, HS.out q⟩
    case round =>
      obtain ⟨k, r, hk, rfl, rfl, hR⟩ := hrel
      have HR := Hq0 hR
      clear hR HS R1
      have hl := Hl.out; have lx := Lx.out
      cases k with
      | zero =>
        have HF := Hq0 (HR.out.fin)
        clear hl lx
        go_wp2
        go_ret
        exact ⟨_, rfl, by have := HF.out; rw [Lx.out] at this; exact this⟩
      | succ k =>
        have g0 := HR.out.read HX.out ha Hz.out (by omega) (by omega)
        obtain ⟨z0, g3⟩ := HR.out.cell (by omega) (oz + k) (by omega)
        have g4 := HR.out.free (oz + k)
        have uk := getD_u64 wx k (by omega)
        have hr := HR.out.r
        have HN := Hq0 (HR.out.step wx (by omega))
        have e1 : ((k + 1 : Nat) : Int) - 1 = k := by omega
        have W2 := fun ww => W1 r (X[k]?.getD 0) ww hr.1 hr.2 uk
        have hk2 : k < n := by omega
        clear hl lx W1
        rw [e1]
        generalize X[k]?.getD 0 = x0 at *
        generalize (r * B64 + x0) / y = qq at *
        generalize (r * B64 + x0) % y = rr at *
        go_wp2_with (fail)
        refine (W2 _).mono ?_
        rintro e w' ⟨rfl, rfl⟩
        go_wp2
        go_roundw
        case rel => exact ⟨k, rr, by omega, by go_num, rfl, HN.out⟩
        case measure => simp [intOf]
theorem dvF_eq {X : List Int} {y v c : Int} (h : DvF X y v c) : v = val X / y ∧ c = val X % y := by
  obtain ⟨h0, h1, h2⟩ := h
  have := (Int.ediv_emod_unique (a := val X) (b := y) (r := c) (q := v) (by omega)).2 ⟨by rw [h2, Int.mul_comm]; omega, h0, h1⟩
  exact ⟨this.1.symm, this.2.symm⟩
def NatVal2 (w w' : World) (zb : Option Nat) (e : Ending) (n r : Int) : Prop := ∃ v l, e = .returned (.tuple #[v, .int .u64 r]) ∧ NatRes w w' zb v l ∧ wfL l ∧ Nrm l ∧ val l = n
theorem divW_any {w : World} {z x : Value} {lz lx : List Int} (y : Int) (hz : IsNat w z lz) (hx : IsNat w x lx) (wx : wfL lx) (nx : Nrm lx) (hn : lx.length ≤ 100000000000) (hy : U64 y) (h0 : y ≠ 0) :
    Calls Tryz.prog 170 #[z, x, .int .u64 y] w fun e w' => NatVal2 w w' z.ownBlock e (val lx / y) (val lx % y) := by
  have y0 : (y == 0) = false := by simp [h0]
  by_cases hy1 : y = 1
  · subst hy1
    have Hz := Hq0 hz; have Hx := Hq0 hx
    obtain ⟨xa, xc, rfl⟩ : ∃ xa xc, x = .slice xa lx.length xc := by
      rcases hx with ⟨rfl, rfl⟩ | ⟨b, cap, M, rfl, _⟩
      · exact ⟨none, 0, rfl⟩
      · exact ⟨some ⟨b, 0, none⟩, cap, rfl⟩
    have HE : Hid (∀ e w', (∃ v, e = .returned (.tuple #[v, .int .u64 0]) ∧ NatRes w w' z.ownBlock v lx) → NatVal2 w w' z.ownBlock e (val lx / 1) (val lx % 1)) := by
      rintro e w' ⟨v, rfl, h⟩
      exact ⟨v, _, by simp, h, wx, nx, by simp⟩
    clear hz hx
    go_enter Tryz.func170, Tryz.ntmps170
    go_wp2_with (fail)
    refine (set_any Hz.out Hx.out (by omega)).mono ?_
    rintro e w1 ⟨v, rfl, hres⟩
    have HR := Hq0 (HE.out _ _ ⟨v, rfl, hres⟩)
    clear hres
    go_wp2
    go_ret2
    exact HR.out
  · have y1 : (y == 1) = false := by simp [hy1]
    by_cases hl0 : lx = []
    · subst hl0
      obtain ⟨xa, xc, rfl⟩ : ∃ xa xc, x = .slice xa 0 xc := by
        rcases hx with ⟨rfl, _⟩ | ⟨b, cap, M, rfl, _⟩
        · exact ⟨none, 0, rfl⟩
        · exact ⟨some ⟨b, 0, none⟩, cap, rfl⟩
      obtain ⟨v, hv, hres⟩ := res_zero hz
      have HR : Hid (NatVal2 w w z.ownBlock (.returned (.tuple #[v, .int .u64 0])) (val [] / y) (val [] % y)) := ⟨v, [], by simp [val], hres, wfL_nil, Nrm.nil, by simp [val]⟩
      clear hz hx hres
      go_enter Tryz.func170, Tryz.ntmps170
      go_wp2
      go_ret2
      exact HR.out
    · obtain ⟨b, cap, M, rfl, hb, hc, hm, hat, hown⟩ := hx.split hl0
      have Hz := Hq0 hz; have Hb := Hq0 hb; have Hat := Hq0 hat
      obtain ⟨n, hln⟩ : ∃ n, lx.length = n := ⟨_, rfl⟩
      have Hln := Hq0 hln
      have hn1 : 1 ≤ n := by rw [← hln]; cases lx with | nil => exact absurd rfl hl0 | cons a l => simp
      rw [hln] at hc hn ⊢
      clear hz hx hb hat hown hl0 hln hy1
      have hl1 : ((n : Int) == 0) = false := by simp; omega
      go_enter Tryz.func170, Tryz.ntmps170
      go_wp2_with (fail)
      refine (make_any Hz.out n (by omega) (by omega)).mono ?_
      rintro e w1 ⟨b1, cap1, L, rfl, hc1, hmade⟩
      have HM := Hq0 hmade
      clear hmade
      go_wp2_with (fail)
      refine (divWVW b1 0 b 0 n cap1 cap L lx y w1 (by omega) hn1 HM.out.here (by have := HM.out.len; omega) (Hat.out.grown HM.out.grown (Array.getElem?_eq_some_iff.1 Hb.out).1) (fun _ => rfl) Hln.out wx hy h0).mono ?_
      rintro e w2 ⟨c, rfl, hv⟩
      obtain ⟨Z, hZ, wZ, hF, hu⟩ := hv
      obtain ⟨hq, hr⟩ := dvF_eq hF
      have hat3 := At.spl0 hu.here (by have := HM.out.len; omega)
      have HR : Hid (NatVal2 w w2 z.ownBlock (.returned (.tuple #[.slice (some ⟨b1, 0, none⟩) (nrm Z).length cap1, .int .u64 c])) (val lx / y) (val lx % y)) := by
        refine ⟨_, _, by rw [hr], HM.out.fin hu (by omega), wfL_nrm wZ, nrm_nrm _, ?_⟩
        rw [val_nrm]; exact hq
      have HA := Hq0 hat3; have HL := Hq0 hZ
      clear hu hat3 hF hZ wZ hq hr
      go_wp2_with (fail)
      refine (norm_any b1 0 n cap1 Z _ HL.out hc1 (by omega) HA.out).mono ?_
      rintro e w4 ⟨rfl, rfl⟩
      go_wp2
      go_ret2
      exact HR.out
end Go.Proofs.YtjcfacinlgogaaaGreatDoor
namespace Go.Proofs.YtjcfacinlgogaaaGreatDoor
open Go.RowKit
theorem nrm_one {y : Int} (h : y ≠ 0) : nrm [y] = [y] := by
  have := nrm_snoc [] y h; simpa using this
theorem div_one {w : World} {z z2 u v : Value} {lz l2 lu : List Int} (stk : Value) (y : Int) (hz : IsNat w z lz) (h2 : IsNat w z2 l2) (hu : IsNat w u lu) (hv : IsNat w v [y]) (wu : wfL lu) (nu : Nrm lu)
    (hn : lu.length ≤ 100000000000) (hy : U64 y) (h0 : y ≠ 0) (ho : z2.ownBlock = none ∨ z2.ownBlock ≠ z.ownBlock) :
    Calls Tryz.prog 143 #[z, stk, z2, u, v] w fun e w' => ∃ q r w1 lq, e = .returned (.tuple #[q, r]) ∧ NatRes w w1 z.ownBlock q lq ∧ wfL lq ∧ Nrm lq ∧ val lq = val lu / y ∧
      NatRes w1 w' z2.ownBlock r (nrm [val lu % y]) ∧ IsNat w' q lq := by
  obtain ⟨b, cap, M, rfl, hb, hc, hm, hat, hown⟩ := hv.split (by simp)
  have g1 : w.cell? ⟨b, 0, none⟩ = some (.int .u64 y) := hat 0 (by simp)
  have Hz := Hq0 hz; have Hu := Hq0 hu; have H2 := Hq0 h2
  clear hz hu hv hb hat hown h2
  go_enter Tryz.func143, Tryz.ntmps143
  go_wp2_with (fail)
  refine (divW_any y Hz.out Hu.out wu nu hn hy h0).mono ?_
  rintro e w1 ⟨q, lq, rfl, hr1, wq, nq, hq⟩
  have H21 := Hq0 (H2.out.grown hr1.grown ho)
  have HR1 := Hq0 hr1
  clear hr1
  go_wp2_with (fail)
  refine (setWord_any H21.out (val lu % y)).mono ?_
  rintro e w2 ⟨r, rfl, hr2⟩
  have HR2 := Hq0 hr2
  clear hr2
  go_wp2
  go_ret2
  refine ⟨q, r, w1, lq, rfl, HR1.out, wq, nq, hq, HR2.out, ?_⟩
  refine HR1.out.nat.grown HR2.out.grown ?_
  by_cases hq0 : q.ownBlock = none
  · exact .inl hq0
  · right
    obtain ⟨k, hk⟩ : ∃ k, q.ownBlock = some k := Option.ne_none_iff_exists'.1 hq0
    intro he
    rw [hk] at he
    rcases HR1.out.own k hk with h | h
    · rcases ho with ho | ho
      · rw [ho] at he; cases he
      · rw [← he, h] at ho; exact ho rfl
    · have := H2.out.lt k he.symm; omega
theorem run_slice_mid {P : Program} {T e : TypeId} (hT : P.underlying T = some (.slice e)) (hs : (P.info? e).map (·.size) = some 1) (b n c k h : Nat) (lo hi : Int) (hlo : lo = k) (hhi : hi = h) (hk : k ≤ h) (hh : h ≤ c) (wx : World) :
    (Instr.slice T (.slice (some ⟨b, 0, none⟩) n c) (some (.int .i64 lo)) (some (.int .i64 hi)) none).run P wx = .ok (.slice (some ⟨b, adv 0 k c, none⟩) (h - k) (c - k)) wx := by
  subst hlo hhi
  cases hq : P.info? e with
  | none => simp [hq] at hs
  | some i =>
    have hi : i.size = 1 := by simpa [hq] using hs
    unfold adv
    by_cases hc : c = k
    · have : h = k := by omega
      subst this; subst hc
      simp [Instr.slice, Instr.sliceBounds, Instr.sliceBound, run_underlying hT, sizeOf, typeInfo, hq, asIntOf, Addr.add]
    · by_cases h0 : k = 0
      · subst h0; simp [Instr.slice, Instr.sliceBounds, Instr.sliceBound, run_underlying hT, sizeOf, typeInfo, hq, asIntOf, hc, Addr.add, hh]
      · simp [Instr.slice, Instr.sliceBounds, Instr.sliceBound, run_underlying hT, sizeOf, typeInfo, hq, hi, asIntOf, hk, hc, Addr.add, h0, hh]
theorem set_same (L : List Int) (o : Nat) (h : o < L.length) (h0 : L[o]?.getD 0 = 0) : L.set o 0 = L := by
  apply List.ext_getElem?
  intro i
  rw [List.getElem?_set]
  split
  · rename_i hi; subst hi
    rw [List.getElem?_eq_getElem h] at h0 ⊢
    simp at h0; rw [h0]
  · rfl
theorem Upd.zeros {b : Nat} : ∀ (n o : Nat) {L : List Int} {w w' : World}, Upd w w' b L → o + n ≤ L.length → (∀ j, j < n → L[o + j]?.getD 0 = 0) → Upd w (w'.setCells b o (List.replicate n (.int .u64 0))) b L
  | 0, o, L, w, w', h, _, _ => h
  | n + 1, o, L, w, w', h, hl, h0 => by
    have h1 := h.set o 0
    rw [set_same L o (by omega) (h0 0 (by omega))] at h1
    rw [List.replicate_succ]
    exact Upd.zeros n (o + 1) h1 (by omega) (fun j hj => by rw [show o + 1 + j = o + (j + 1) by omega]; exact h0 _ (by omega))
end Go.Proofs.YtjcfacinlgogaaaGreatDoor
