/- Long division: the scaling (plain), shifts to the right. Long division: both scaled numbers lie ready (plain). -/
import Derived.Test.YtjcfacinlgogaaaGreatDoorQ12
import Derived.Test.YtjcfacinlgogaaaGreatDoorQ15
set_option linter.all false
namespace Go.Proofs.YtjcfacinlgogaaaGreatDoor
open Go.RowKit
theorem rshVU (bz oz bx ox n cz cx s : Nat) (L X : List Int) (w : World) (hn : n ≤ 9223372036854775807) (h1 : 1 ≤ n) (hz : w.heap[bz]? = some (blk L)) (hl : oz + n ≤ L.length)
    (hX : At w bx ox X) (ax : bx = bz → ox = oz) (lx : X.length = n) (wx : wfL X) (hs0 : 1 ≤ s) (hs1 : s ≤ 63) :
    Calls Tryz.prog 203 #[.slice (some ⟨bz, oz, none⟩) n cz, .slice (some ⟨bx, ox, none⟩) n cx, .int .u64 s] w fun e w' =>
      ∃ c d, e = .returned (.int .u64 c) ∧ VRel (ShrE X s) w bz oz L n d w' := by
  have H := Hq0 (rshVU_g bz oz bx ox n cz cx s L X w hn h1 hz hl hX ax lx wx hs0 hs1)
  clear hX hl hz lx ax
  go_enter Tryz.func203, Tryz.ntmps203
  go_wp2_with (fail)
  refine H.out.mono ?_
  rintro e w' ⟨c, d, rfl, hv⟩
  have HV := Hq0 hv; clear hv
  go_wp2
  go_ret
  exact ⟨c, d, rfl, HV.out⟩
structure QrW (w w' : World) (q r : Value) (a b : Int) : Prop where
  ql : ∃ lq, NatRes w w' none q lq ∧ wfL lq ∧ Nrm lq ∧ val lq = a
  rl : ∃ lr, NatRes w w' none r lr ∧ wfL lr ∧ Nrm lr ∧ val lr = b
  own : q.ownBlock = none ∨ q.ownBlock ≠ r.ownBlock
def QrRes (w w' : World) (e : Ending) (a b : Int) : Prop := ∃ q r, e = .returned (.tuple #[q, r]) ∧ QrW w w' q r a b
theorem scale_top {X Z : List Int} {n s : Nat} {c : Int} (hn : 1 ≤ n) (lx : X.length = n) (lz : Z.length = n) (wX : wfL X) (wZ : wfL Z) (hs : s ≤ 63) (h9 : 9223372036854775808 ≤ X[n - 1]?.getD 0 * 2 ^ s) (hu : U64 (X[n - 1]?.getD 0 * 2 ^ s))
    (hv : val Z + B64 ^ n * c = val X * 2 ^ s) (hc0 : 0 ≤ c) : c = 0 ∧ 9223372036854775808 ≤ Z[n - 1]?.getD 0 := by
  have t1 := val_take_succ X (n - 1) (by omega)
  have t2 := val_take_succ Z (n - 1) (by omega)
  rw [show n - 1 + 1 = n by omega, List.take_of_length_le (by omega)] at t1 t2
  have l1 := val_lt (wfL_take wX (n - 1))
  have l2 := val_lt (wfL_take wZ (n - 1))
  have g1 := val_nonneg (wfL_take wX (n - 1))
  have g2 := val_nonneg wZ
  rw [List.length_take, show min (n - 1) X.length = n - 1 by omega] at l1
  rw [List.length_take, show min (n - 1) Z.length = n - 1 by omega] at l2
  have uX := getD_u64 wX (n - 1) (by omega)
  generalize X[n - 1]?.getD 0 = x at *
  generalize Z[n - 1]?.getD 0 = z at *
  have hB : (B64 : Int) = 2 ^ s * 2 ^ (64 - s) := by rw [← Int.pow_add, show s + (64 - s) = 64 by omega]; rfl
  have p1 : (0 : Int) < 2 ^ s := Int.pow_pos (by decide)
  have hx1 : x < 2 ^ (64 - s) := by
    have h2 := hu.2
    rw [hB, Int.mul_comm (2 ^ s)] at h2
    exact Int.lt_of_mul_lt_mul_right h2 (Int.le_of_lt p1)
  have hx2 : (x + 1) * 2 ^ s ≤ B64 := by
    rw [hB, Int.mul_comm (2 ^ s)]
    exact Int.mul_le_mul_of_nonneg_right (by omega) (Int.le_of_lt p1)
  have hp := B64_pow_pos (n - 1)
  have hpn : (B64 : Int) ^ n = B64 ^ (n - 1) * B64 := by
    have h := Int.pow_succ B64 (n - 1)
    rw [show (n - 1).succ = n by omega] at h; exact h
  have a1 : val X < B64 ^ (n - 1) * (x + 1) := by rw [t1, Int.mul_add]; omega
  have a2 : val X * 2 ^ s < B64 ^ n := by
    have b1 := Int.mul_lt_mul_of_pos_right a1 p1
    have b2 : B64 ^ (n - 1) * ((x + 1) * 2 ^ s) ≤ B64 ^ (n - 1) * B64 := Int.mul_le_mul_of_nonneg_left hx2 (Int.le_of_lt hp)
    rw [hpn]; rw [Int.mul_assoc] at b1; omega
  have hc : c = 0 := by
    rcases Int.lt_or_le 0 c with h | h
    · have b1 : B64 ^ n * 1 ≤ B64 ^ n * c := Int.mul_le_mul_of_nonneg_left (by omega) (Int.le_of_lt (B64_pow_pos n))
      omega
    · omega
  refine ⟨hc, ?_⟩
  rw [hc, Int.mul_zero, Int.add_zero] at hv
  rcases Int.lt_or_le z 9223372036854775808 with h | h
  · exfalso
    have b1 : B64 ^ (n - 1) * (z + 1) ≤ B64 ^ (n - 1) * (x * 2 ^ s) := Int.mul_le_mul_of_nonneg_left (by omega) (Int.le_of_lt hp)
    have b2 : B64 ^ (n - 1) * x * 2 ^ s ≤ val X * 2 ^ s := Int.mul_le_mul_of_nonneg_right (by omega) (Int.le_of_lt p1)
    rw [Int.mul_assoc] at b2
    rw [Int.mul_add] at b1
    omega
  · exact h
theorem scale_div {a b : Int} (s : Nat) (hb : 0 < b) : a * 2 ^ s / (b * 2 ^ s) = a / b ∧ a * 2 ^ s % (b * 2 ^ s) / 2 ^ s = a % b := by
  have p1 : (0 : Int) < 2 ^ s := Int.pow_pos (by decide)
  refine ⟨Int.mul_ediv_mul_of_pos_left _ _ p1, ?_⟩
  rw [Int.mul_comm a, Int.mul_comm b, Int.mul_emod_mul_of_pos _ _ p1]
  exact Int.mul_ediv_cancel_left _ (by omega)
theorem nat_made {w w' : World} {b : Nat} {L l : List Int} (g : w.grownBy w' none) (hb : w.heap.size ≤ b) (h : w'.heap[b]? = some (blk L)) (m : Nat) (hl : L.take m = l) (hm : m ≤ L.length) (hc : L.length ≤ 9223372036854775807) :
    NatRes w w' none (.slice (some ⟨b, 0, none⟩) (nrm l).length L.length) (nrm l) := by
  have hlen : l.length = m := by rw [← hl]; simp; omega
  have h1 := nrm_length_le l
  have h2 : L.take (nrm l).length = nrm l := by
    have := nrm_take l
    rw [← hl, List.take_take, show min (nrm (L.take m)).length m = (nrm (L.take m)).length by rw [hl]; omega, hl] at this
    exact this
  refine ⟨g, .inr ⟨b, L.length, L.drop (nrm l).length, rfl, ?_, ?_, hc⟩, ?_⟩
  · have e : nrm l ++ L.drop (nrm l).length = L := by
      have := List.take_append_drop (nrm l).length L
      rw [h2] at this; exact this
    rw [e]; exact h
  · simp only [List.length_drop]; omega
  · intro k hk
    simp [Value.ownBlock] at hk; subst hk; exact .inr hb
end Go.Proofs.YtjcfacinlgogaaaGreatDoor
namespace Go.Proofs.YtjcfacinlgogaaaGreatDoor
open Go.RowKit
structure DlS (w wx : World) (bv bu n nu cu : Nat) (X Y : Int) (V LU : List Int) : Prop where
  g : w.grownBy wx none
  hu : wx.heap[bu]? = some (blk LU)
  hv : At wx bv 0 V
  vl : bv < wx.heap.size
  lu : LU.length = cu
  lv : V.length = n
  wu : wfL (LU.take nu)
  wv : wfL V
  xu : val (LU.take nu) = X
  xv : val V = Y
  tp : 9223372036854775808 ≤ V[n - 1]?.getD 0
  tu : LU[nu - 1]?.getD 0 < V[n - 1]?.getD 0
theorem dls_of {w w0 w2 w3 : World} {bv bu n m cu s : Nat} {c c2 : Int} {Lv Lu lx ly : List Int} (g : w.grownBy w0 none) (nv : w.heap.size ≤ bv) (nu : w.heap.size ≤ bu) (hv0 : w0.heap[bv]? = some (blk Lv)) (hu0 : w0.heap[bu]? = some (blk Lu)) (d : bv ≠ bu)
    (lv : n ≤ Lv.length) (lu : m + 1 ≤ Lu.length) (hcu : Lu.length = cu) (ely : ly.length = n) (elx : lx.length = m) (wx : wfL lx) (wy : wfL ly) (hn : 1 ≤ n) (hs : s ≤ 63) (h9 : 9223372036854775808 ≤ ly[n - 1]?.getD 0 * 2 ^ s) (hu : U64 (ly[n - 1]?.getD 0 * 2 ^ s))
    (r1 : VRel (ShlF ly s) w0 bv 0 Lv n c w2) (r2 : VRel (ShlF lx s) w2 bu 0 Lu m c2 w3) :
    ∃ V LU, DlS w (w3.setCell ⟨bu, m, none⟩ (.int .u64 c2)) bv bu n (m + 1) cu (val lx * 2 ^ s) (val ly * 2 ^ s) V LU := by
  obtain ⟨Z, lZ, wZ, ⟨z0, z1, z2⟩, uZ⟩ := r1
  obtain ⟨Y, lY, wY, ⟨y0, y1, y2⟩, uY⟩ := r2
  rw [ely] at z2
  rw [elx] at y2
  obtain ⟨hc, htop⟩ := scale_top hn ely lZ wy wZ hs h9 hu z2 z0
  have uS := uY.set m c2
  have hset := spl_snoc Lu 0 Y c2 (by omega)
  rw [Nat.zero_add, lY] at hset
  rw [hset] at uS
  have hc2 : c2 < 9223372036854775808 := by
    have h1 : (2 : Int) ^ s ≤ 2 ^ 63 := by
      obtain ⟨k, hk⟩ := Nat.exists_eq_add_of_le hs
      rw [hk, Int.pow_add]
      have h2 : (1 : Int) ≤ 2 ^ k := Int.pow_pos (by decide)
      have h3 : (0 : Int) < 2 ^ s := Int.pow_pos (by decide)
      have h4 := Int.mul_le_mul_of_nonneg_left h2 (Int.le_of_lt h3)
      omega
    have h5 : (2 : Int) ^ 63 = 9223372036854775808 := by decide
    omega
  have uc : U64 c2 := by unfold U64 B64; omega
  have lS : (Y ++ [c2]).length = m + 1 := by simp [lY]
  have tS : (spl Lu 0 (Y ++ [c2])).take (m + 1) = Y ++ [c2] := by rw [← lS]; exact spl_take _ _ (by omega)
  refine ⟨Z, spl Lu 0 (Y ++ [c2]), ?_, uS.here, ?_, ?_, ?_, lZ, ?_, wZ, ?_, ?_, htop, ?_⟩
  · have g1 := grown_own g uZ.grown (.inr nv)
    have g2 := grown_own g1 uS.grown (.inr nu)
    exact g2
  · have h1 : At w2 bv 0 Z := At.spl0 uZ.here (by omega)
    intro i hi
    rw [uS.cell (a := ⟨bv, 0 + i, none⟩) d]
    exact h1 i hi
  · have h1 := (Array.getElem?_eq_some_iff.1 uZ.here).1
    rw [uS.size]; exact h1
  · rw [spl_length _ _ _ (by omega)]; exact hcu
  · rw [tS]; exact wfL_snoc wY uc
  · rw [tS, val_snoc, lY]; exact y2
  · rw [hc, Int.mul_zero, Int.add_zero] at z2; exact z2
  · rw [show m + 1 - 1 = m by omega]
    have h1 := spl_in Lu 0 (Y ++ [c2]) m (by omega) (by omega)
    rw [Nat.zero_add] at h1
    rw [h1]
    have h2 : (Y ++ [c2])[m]?.getD 0 = c2 := by rw [← lY]; simp
    rw [h2]; omega
theorem shl_zero {w w2 : World} {b n : Nat} {L l : List Int} (wl : wfL l) (ln : l.length = n) (u : Upd w w2 b (spl L 0 l)) : VRel (ShlF l 0) w b 0 L n 0 w2 :=
  ⟨l, ln, wl, ⟨by omega, by decide, by simp⟩, u⟩
theorem room_of {F : Int → Int → Prop} {w w2 : World} {b n : Nat} {L : List Int} {c : Int} (r : VRel F w b 0 L n c w2) (i : Nat) (hi : i < L.length) (hn : n ≤ L.length) : (∃ z, w2.cell? ⟨b, i, none⟩ = some (.int .u64 z)) ∧ w2.frozen? ⟨b, i, none⟩ = false := by
  obtain ⟨Z, lZ, wZ, hF, u⟩ := r
  exact ⟨⟨_, cell_blk u.here i (by rw [spl_length _ _ _ (by omega)]; exact hi)⟩, frozen_blk u.here i⟩
theorem NatRes.since {w w1 w2 : World} {v : Value} {l : List Int} (h : NatRes w1 w2 none v l) (g : w.grownBy w1 none) : NatRes w w2 none v l :=
  ⟨grown_trans g h.grown, h.nat, fun k hk => (h.own k hk).imp id (fun h => Nat.le_trans g.size h)⟩
theorem QrW.since {w w1 w2 : World} {q r : Value} {a b : Int} (h : QrW w1 w2 q r a b) (g : w.grownBy w1 none) : QrW w w2 q r a b := by
  obtain ⟨⟨lq, q1, q2⟩, ⟨lr, r1, r2⟩, o⟩ := h
  exact ⟨⟨lq, q1.since g, q2⟩, ⟨lr, r1.since g, r2⟩, o⟩
theorem DvRes.grown {w w7 w8 : World} {bu bq nu nq lU lQ : Nat} {X Y : Int} {U Q : List Int} (h : DvRes w7 w8 bu bq nu nq lU lQ X Y U Q) (g : w.grownBy w7 none) (hu : w.heap.size ≤ bu) (hq : w.heap.size ≤ bq) : w.grownBy w8 none :=
  ⟨h.os.trans g.os, h.tape.trans g.tape, h.output.trans g.output, Nat.le_trans g.size h.size, fun k hk _ => (h.block k (Nat.lt_of_lt_of_le hk g.size) (by omega) (by omega)).trans (g.block k hk (by simp))⟩
theorem spl_whole (U : List Int) (n : Nat) (h : n ≤ U.length) : spl U 0 (U.take n) = U := by
  unfold spl
  rw [List.take_zero, List.nil_append, List.length_take, show 0 + min n U.length = n by omega, List.take_append_drop]
theorem qr_of {w w7 w8 w9 : World} {bu bq nu nq cu cq s : Nat} {a b : Int} {U Q Z : List Int} (hb : 0 < b) (h : DvRes w7 w8 bu bq nu nq cu cq (a * 2 ^ s) (b * 2 ^ s) U Q) (g : w.grownBy w7 none) (hu : w.heap.size ≤ bu) (hq : w.heap.size ≤ bq) (d : bq ≠ bu)
    (nu_le : nu ≤ cu) (nq_le : nq ≤ cq) (cu_le : cu ≤ 9223372036854775807) (cq_le : cq ≤ 9223372036854775807) (lZ : Z.length = nu) (wZ : wfL Z) (hZ : val Z = val (U.take nu) / 2 ^ s) (u : Upd w8 w9 bu (spl U 0 Z)) :
    QrW w w9 (.slice (some ⟨bq, 0, none⟩) (nrm (Q.take nq)).length cq) (.slice (some ⟨bu, 0, none⟩) (nrm Z).length cu) (a / b) (a % b) := by
  have g8 := h.grown g hu hq
  have g9 : w.grownBy w9 none := grown_own g8 u.grown (.inr hu)
  have hlu := h.lu
  have hlq := h.lq
  have lS : (spl U 0 Z).length = cu := by rw [spl_length _ _ _ (by omega)]; exact hlu
  have tS : (spl U 0 Z).take nu = Z := by rw [← lZ]; exact spl_take _ _ (by omega)
  have n1 := nat_made g9 hq ((u.block bq d).trans h.hq) nq rfl (by omega) (by omega)
  have n2 := nat_made g9 hu u.here nu tS (by omega) (by omega)
  rw [hlq] at n1
  rw [lS] at n2
  obtain ⟨s1, s2⟩ := scale_div (a := a) s hb
  refine ⟨⟨_, n1, wfL_nrm h.wq, nrm_nrm _, by rw [val_nrm, h.qv, s1]⟩, ⟨_, n2, wfL_nrm wZ, nrm_nrm _, by rw [val_nrm, hZ, h.rv, s2]⟩, .inr ?_⟩
  simpa [Value.ownBlock] using d
end Go.Proofs.YtjcfacinlgogaaaGreatDoor
