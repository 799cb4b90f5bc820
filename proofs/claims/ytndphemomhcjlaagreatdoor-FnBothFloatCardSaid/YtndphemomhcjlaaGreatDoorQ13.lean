/- A fraction of one word each in lowest terms. Conditions: neither is zero. A new fraction out of two numbers of one word. Conditions: neither is zero, the second one is above zero. A decimal as a fraction. Conditions: its number has one word and is not zero, its exponent is from -19 to 0. -/
import Derived.Test.YtndphemomhcjlaaGreatDoorQ12
import Derived.Deep.RegionHeld3
set_option linter.all false

namespace Go.Proofs.YtndphemomhcjlaaGreatDoor
open Go.RowKit

theorem ibox_rbox {w : World} {b bz : Nat} {g s t : Bool} {u v x : Value} (h1 : w.heap[b]? = some (ibox g u)) (h2 : w.heap[bz]? = some (rbox s v t x)) : b ≠ bz := by
  intro e
  rw [e, h2] at h1
  simp only [rbox, ibox, Option.some.injEq, Obj.cells.injEq] at h1
  exact absurd h1.2.1 (by decide)
theorem IntBox.keepNat {w w' : World} {b : Nat} {v u : Value} {n : Int} {l : List Int} (h : IntBox w b v n) (hu : IsNat w u l) (g : w.grownBy w' u.ownBlock) (hne : v.ownBlock ≠ u.ownBlock) : IntBox w' b v n := by
  obtain ⟨h1, m, hn, hl⟩ := h
  exact ⟨by rw [g.block b (Array.getElem?_eq_some_iff.1 h1).1 (fun e => isNat_ibox h1 hu e.symm)]; exact h1, m, hn.grown g (.inr hne), hl⟩
theorem IntBox.setR {w : World} {b bz : Nat} {v u x : Value} {n : Int} {s t : Bool} (h : IntBox w b v n) (hz : w.heap[bz]? = some (rbox s u t x)) (o : Nat) (y : Value) : IntBox (w.setCell ⟨bz, o, none⟩ y) b v n := by
  obtain ⟨h1, m, hn, hl⟩ := h
  exact ⟨by rw [Below.heap_setCell _ _ _ _ (ibox_rbox h1 hz)]; exact h1, m, hn.set (isNat_rbox hz hn) o y, hl⟩
theorem div_word {A G : Nat} {l : List Int} (hGA : G ∣ A) (ha0 : 0 < A) (ha1 : A < 18446744073709551616) (nl : Nrm l) (wl : wfL l) (hv : val l = val [(A : Int)] / (G : Int)) : ∃ A' : Nat, l = [(A' : Int)] ∧ A = A' * G := by
  obtain ⟨A', rfl⟩ := hGA
  have hA' : 0 < A' := Nat.pos_of_mul_pos_left ha0
  have hG : 0 < G := Nat.pos_of_mul_pos_right ha0
  have hle : A' ≤ G * A' := Nat.le_mul_of_pos_left _ hG
  refine ⟨A', len_one nl wl ?_ (by omega) (by omega), Nat.mul_comm _ _⟩
  rw [hv]
  simp only [val, Int.mul_zero, Int.add_zero]
  rw [Int.natCast_mul, Int.mul_ediv_cancel_left _ (by omega)]
theorem ratDivA {w0 w w5' w5 : World} {bz bf : Nat} {s t : Bool} {av bv vf q r : Value} {A B G : Nat} {l lr : List Int} (H : RatIn w0 bz s t av bv A B w) (hF : IntBox w bf vf G) (hfa : vf.ownBlock ≠ av.ownBlock) (hGA : G ∣ A) (ha0 : 0 < A) (ha1 : A < 18446744073709551616)
    (hr : NatRes w.drew w5' av.ownBlock q l) (wl : wfL l) (nl : Nrm l) (hv : val l = val [(A : Int)] / (G : Int)) (hr' : NatRes w5' w5 none r lr) (hn : IsNat w5 q l) :
    ∃ A' xa xc, q = .slice xa 1 xc ∧ A = A' * G ∧ w5.heap[bz]? = some (rbox s av t bv) ∧ RatIn w0 bz s t q bv A' B (w5.setCell ⟨bz, 1, none⟩ q) ∧ Stks w (w5.setCell ⟨bz, 1, none⟩ q) ∧ IntBox (w5.setCell ⟨bz, 1, none⟩ q) bf vf G := by
  obtain ⟨A', rfl, hA⟩ := div_word hGA ha0 ha1 nl wl hv
  obtain ⟨xa, xc, hq⟩ := hn.slice
  have g1 := grown_trans hr.grown (grown_weak hr'.grown)
  have g : w.grownBy w5 av.ownBlock := ⟨g1.os, g1.tape, g1.output, g1.size, g1.block⟩
  obtain ⟨h1, h2⟩ := H.setA g hn hr.own
  exact ⟨A', xa, xc, hq, hA, h1, h2, (Stks.grown1 H.na g).trans (Stks.cell h1 1 q), (hF.keepNat H.na g hfa).setR h1 1 q⟩
theorem ratDivB {w0 w w5' w5 : World} {bz : Nat} {s t : Bool} {av bv q r : Value} {A B G : Nat} {l lr : List Int} (H : RatIn w0 bz s t av bv A B w) (hGA : G ∣ B) (ha0 : 0 < B) (ha1 : B < 18446744073709551616)
    (hr : NatRes w.drew w5' bv.ownBlock q l) (wl : wfL l) (nl : Nrm l) (hv : val l = val [(B : Int)] / (G : Int)) (hr' : NatRes w5' w5 none r lr) (hn : IsNat w5 q l) :
    ∃ B' xa xc, q = .slice xa 1 xc ∧ B = B' * G ∧ w5.heap[bz]? = some (rbox s av t bv) ∧ RatIn w0 bz s t av q A B' (w5.setCell ⟨bz, 3, none⟩ q) ∧ Stks w (w5.setCell ⟨bz, 3, none⟩ q) := by
  obtain ⟨A', rfl, hA⟩ := div_word hGA ha0 ha1 nl wl hv
  obtain ⟨xa, xc, hq⟩ := hn.slice
  have g1 := grown_trans hr.grown (grown_weak hr'.grown)
  have g : w.grownBy w5 bv.ownBlock := ⟨g1.os, g1.tape, g1.output, g1.size, g1.block⟩
  obtain ⟨h1, h2⟩ := H.setB g hn hr.own
  exact ⟨A', xa, xc, hq, hA, h1, h2, (Stks.grown1 H.nb g).trans (Stks.cell h1 3 q)⟩

set_option maxHeartbeats 6000000 in
set_option maxRecDepth 100000 in
theorem ratNorm_any {w0 w : World} {bz : Nat} {s : Bool} {av bv : Value} {A B : Nat} (h : RatIn w0 bz s false av bv A B w) (ha0 : 0 < A) (hb0 : 0 < B) (ha1 : A < 18446744073709551616) (hb1 : B < 18446744073709551616) :
    Calls Tryz.prog 79 #[.pointer (some ⟨bz, 0, none⟩)] w fun e w' => e = .returned (.pointer (some ⟨bz, 0, none⟩)) ∧ ∃ av' bv' A' B' g, 0 < g ∧ A = A' * g ∧ B = B' * g ∧ RatIn w0 bz s false av' bv' A' B' w' := by
  obtain ⟨⟨c0, c1, c2, c3⟩, f0, f1, f2, f3⟩ := cell_rbox h.here
  obtain ⟨xa, xc, rfl⟩ := h.na.slice
  obtain ⟨ya, yc, rfl⟩ := h.nb.slice
  have H := Lib.hid h
  clear h
  go_enter_defers Tryz.func79, Tryz.ntmps79
  go_wp2_with (fail)
  refine (getStack_box w).mono ?_
  rintro e w1 ⟨bs, rfl, hbs, hstk, g1⟩
  have HS := Lib.hid hstk
  have H1 := Lib.hid (H.out.same g1)
  clear hstk hbs g1 H c0 c1 c2 c3 f0 f1 f2 f3
  obtain ⟨⟨c0, c1, c2, c3⟩, f0, f1, f2, f3⟩ := cell_rbox H1.out.here
  go_wp2_with (fail)
  obtain ⟨w2, hw2⟩ : ∃ w2, w2 = (w1.setCell ⟨bz, 0, none⟩ (.bool false)).setCell ⟨bz, 2, none⟩ (.bool false) := ⟨_, rfl⟩
  rw [← hw2]
  have H2 : Hid (RatIn w0 bz false false (.slice xa 1 xc) (.slice ya 1 yc) A B w2) := by
    show RatIn _ _ _ _ _ _ _ _ _
    rw [hw2]
    have k1 := set_rbox0 H1.out.here false
    exact (H1.out.sign 0 _ k1).sign 2 _ (set_rbox2 k1 false)
  have HS2 : Hid (w2.heap[bs]? = some sbox) := by
    show _ = _
    rw [hw2]
    have k1 := set_rbox0 H1.out.here false
    exact Stks.cell k1 2 _ bs (Stks.cell H1.out.here 0 _ bs HS.out)
  clear hw2 H1 HS c0 c1 c2 c3 f0 f1 f2 f3
  go_cut [5] from 6 to 58 (fun s5 wx => ∃ (bf : Nat) (vf : Value), s5 = .pointer (some ⟨bf, 0, none⟩) ∧ IntBox wx bf vf (Nat.gcd A B) ∧ w2.heap.size ≤ bf ∧ w2.grownBy wx none ∧ vf.ownBlock ≠ (Value.slice xa 1 xc).ownBlock ∧ vf.ownBlock ≠ (Value.slice ya 1 yc).ownBlock)
  case first =>
    refine wp_region_noPanic ?_
    go_region_with (first
      | (go_at_call 69; refine (NewInt_zero _).mono ?_; rintro e w3 ⟨bf, rfl, hbf, hf, g3⟩; have HF := Lib.hid hf; have HBF := Lib.hid hbf; have HG3 : Hid (w2.grownBy w3 none) := ⟨g3.os, g3.tape, g3.output, g3.size, g3.block⟩; clear hf hbf g3)
      | (go_at_call 100; refine (gcd_any HF.out ((H2.out.same HG3.out).intA ha0 ha1) ((H2.out.same HG3.out).intB hb0 hb1) (by omega) (by omega) (by omega) (by omega)).mono ?_; rintro e w4 ⟨rfl, vf, hb4, hg4, ho4⟩; have HB4 := Lib.hid hb4; have HG4 := Lib.hid hg4; have HO4 := Lib.hid ho4; clear hb4 hg4 ho4))
    all_goals
      refine NoPanic.normal ?_
      go_wp2_with (fail)
      go_meet
      exact ⟨bf, vf, rfl, by have := HB4.out; simpa using this, HBF.out, Grown2.new HG3.out HG4.out HBF.out, fun e => by
        obtain ⟨k, ek, lk⟩ := H2.out.na.own1
        have h1 := HO4.out k (by rw [e]; exact ek)
        have := HG3.out.size; omega, fun e => by
        obtain ⟨k, ek, lk⟩ := H2.out.nb.own1
        have h1 := HO4.out k (by rw [e]; exact ek)
        have := HG3.out.size; omega⟩
  case rest =>
    obtain ⟨bf, vf, rfl, hbf, hlt, hgw, hoa, hob⟩ := hcut
    have HOA := Lib.hid hoa; have HOB := Lib.hid hob
    clear hoa hob
    have H3 := Lib.hid (H2.out.same hgw)
    have HS3 : Hid (wc.heap[bs]? = some sbox) := Stks.grown hgw bs HS2.out
    have HF := Lib.hid hbf
    clear H2 HS2 hgw hlt hbf
    obtain ⟨G, hG⟩ : ∃ G, Nat.gcd A B = G := ⟨_, rfl⟩
    have hG0 : 0 < G := by rw [← hG]; exact Nat.gcd_pos_of_pos_left _ ha0
    have hGA : G ∣ A := by rw [← hG]; exact Nat.gcd_dvd_left _ _
    have hGB : G ∣ B := by rw [← hG]; exact Nat.gcd_dvd_right _ _
    have hG1 : G < 18446744073709551616 := by have := Nat.le_of_dvd ha0 hGA; omega
    rw [hG] at HF
    clear hG
    go_wp2_with (fail)
    refine (intOne_any wc).mono ?_
    rintro e w3 ⟨bo, vo, rfl, ho1, ho2, ho3⟩
    have HO := Lib.hid ho2
    have H4 := Lib.hid (H3.out.same ho3)
    have HS4 : Hid (w3.heap[bs]? = some sbox) := Stks.grown ho3 bs HS3.out
    have HF4 := Lib.hid (HF.out.same ho3)
    have hne : bf ≠ bo := by have := (Array.getElem?_eq_some_iff.1 HF.out.here).1; omega
    clear ho1 ho2 ho3 H3 HS3 HF
    go_wp2_with (fail)
    refine (Cmp_any HF4.out.c HO.out.c (by intro e; injection e; omega)).mono ?_
    rintro e w4 ⟨rfl, q, hw4⟩
    have gq : w3.grownBy w4 none := by rw [hw4]; exact grown_drewN _ _
    have H5 := Lib.hid (H4.out.same gq)
    have HS5 : Hid (w4.heap[bs]? = some sbox) := Stks.grown gq bs HS4.out
    have HF5 := Lib.hid (HF4.out.same gq)
    clear hw4 gq H4 HS4 HF4 HO hne
    generalize icmp (G : Int) 1 = cc
    obtain ⟨kf, cf, Mf, rfl, hkf, hcf, hmf⟩ := HF5.out.word (by omega) (by omega)
    have hnf : IsNat w4 (.slice (some ⟨kf, 0, none⟩) 1 cf) [(G : Int)] := .inr ⟨kf, cf, Mf, rfl, by simpa using hkf, by simp; omega, hmf⟩
    have HNF := Lib.hid hnf
    clear hkf hcf hmf hnf
    go_upto_if 62 with (fail)
    go_cut [] from 6 to 108 (fun wx => ∃ av bv A' B' g, 0 < g ∧ A = A' * g ∧ B = B' * g ∧ RatIn w0 bz false false av bv A' B' wx ∧ wx.heap[bs]? = some sbox)
    case first =>
      go_wp2_with (fail)
      · obtain ⟨⟨c0, c1, c2, c3⟩, f0, f1, f2, f3⟩ := cell_rbox H5.out.here
        obtain ⟨_, e1, _, _⟩ := cell_ibox HF5.out.here
        go_cut [] from 6 to 108 (fun wx => ∃ (A' : Nat) (ka : Option Addr) (kc : Nat), A = A' * G ∧ RatIn w0 bz false false (.slice ka 1 kc) (.slice ya 1 yc) A' B wx ∧ wx.heap[bs]? = some sbox ∧ IntBox wx bf (.slice (some ⟨kf, 0, none⟩) 1 cf) G)
        case first =>
          refine wp_region_noPanic ?_
          go_region_with (go_at_call 83; refine (div_one (.pointer (some ⟨bs, 0, none⟩)) (G : Int) (H5.out.na.draw 1) (IsNat.nil _) (H5.out.na.draw 1) (HNF.out.draw 1) (wfL_cons (by unfold U64 B64; omega) wfL_nil) (nrm_one (by omega)) (by simp) (by unfold U64 B64; omega) (by omega) (.inl rfl)).mono ?_; rintro e w5 ⟨q5, r5, w5', l5, rfl, hr5, wl5, nl5, hv5, hr5', hn5⟩; obtain ⟨A', xa2, xc2, rfl, hA', hz5, hR5, hS5, hI5⟩ := ratDivA H5.out HF5.out HOA.out hGA ha0 ha1 hr5 wl5 nl5 hv5 hr5' hn5; obtain ⟨_, _, fr5, _, _⟩ := cell_rbox hz5; obtain ⟨⟨_, cr5, _, _⟩, _⟩ := cell_rbox hz5; have K1 := Lib.hid hR5; have K2 := Lib.hid hS5; have K3 := Lib.hid hI5; have K4 := Lib.hid hA'; clear hr5 hr5' hn5 hR5 hS5 hI5 hA' hz5 hv5)
          all_goals
            refine NoPanic.normal ?_
            clear c0 c1 c2 c3 f0 f1 f2 f3 e1 fr5 cr5
            go_wp2_with (fail)
            go_meet
            exact ⟨A', _, _, K4.out, K1.out, K2.out bs HS5.out, K3.out⟩
        case rest =>
          obtain ⟨A', ka, kc, hA', hR, hS, hI⟩ := hcut
          clear c0 c1 c2 c3 f0 f1 f2 f3 e1 H5 HS5 HF5 HNF HOA
          obtain ⟨⟨c0, c1, c2, c3⟩, f0, f1, f2, f3⟩ := cell_rbox hR.here
          obtain ⟨_, e1, _, _⟩ := cell_ibox hI.here
          have hnf : IsNat wc (.slice (some ⟨kf, 0, none⟩) 1 cf) [(G : Int)] := by
            obtain ⟨l, hn, wl, nl, hv, _⟩ := hI.nat
            obtain rfl := len_one nl wl hv (by omega) (by omega)
            simpa using hn
          have H6 := Lib.hid hR; have HS6 := Lib.hid hS; have HNF := Lib.hid hnf
          clear hR hS hI hnf
          go_wp2_with (fail)
          refine wp_region_noPanic ?_
          go_region_with (go_at_call 83; refine (div_one (.pointer (some ⟨bs, 0, none⟩)) (G : Int) (H6.out.nb.draw 1) (IsNat.nil _) (H6.out.nb.draw 1) (HNF.out.draw 1) (wfL_cons (by unfold U64 B64; omega) wfL_nil) (nrm_one (by omega)) (by simp) (by unfold U64 B64; omega) (by omega) (.inl rfl)).mono ?_; rintro e w5 ⟨q5, r5, w5', l5, rfl, hr5, wl5, nl5, hv5, hr5', hn5⟩; obtain ⟨B', xa2, xc2, rfl, hB', hz5, hR5, hS5⟩ := ratDivB H6.out hGB hb0 hb1 hr5 wl5 nl5 hv5 hr5' hn5; obtain ⟨_, _, _, _, fr5⟩ := cell_rbox hz5; obtain ⟨⟨_, _, _, cr5⟩, _⟩ := cell_rbox hz5; have K1 := Lib.hid hR5; have K2 := Lib.hid hS5; have K4 := Lib.hid hB'; clear hr5 hr5' hn5 hR5 hS5 hB' hz5 hv5)
          all_goals
            refine NoPanic.normal ?_
            clear c0 c1 c2 c3 f0 f1 f2 f3 e1 fr5 cr5
            go_wp2_with (fail)
            go_meet
            exact ⟨_, _, A', B', G, hG0, hA', K4.out, K1.out, K2.out bs HS6.out⟩
      · go_meet
        exact ⟨_, _, A, B, 1, by omega, by omega, by omega, H5.out, HS5.out⟩
    case rest =>
      obtain ⟨av, bv, A', B', g, hg, hA', hB', hR, hS⟩ := hcut
      obtain ⟨⟨c0, c1, c2, c3⟩, f0, f1, f2, f3⟩ := cell_rbox hR.here
      have HR : Hid (RatIn w0 bz s false av bv A' B' (wc.setCell ⟨bz, 0, none⟩ (.bool s))) := hR.sign 0 _ (set_rbox0 hR.here s)
      have cS : (wc.setCell ⟨bz, 0, none⟩ (.bool s)).cell? ⟨bs, 0, none⟩ = some (.pointer none) := cell_sbox (Stks.cell hR.here 0 _ bs hS)
      have HA := Lib.hid hA'; have HB := Lib.hid hB'
      clear hR hS H5 HS5 HF5 HNF HOA HOB hA' hB'
      go_wp2_with (fail)
      refine leaves_cons (f := 58) (args := #[.pointer (some ⟨bs, 0, none⟩)]) (by simp) (by simp [go_sem]) ?_
      refine (stackFree_d .returning cS).mono ?_
      rintro e u' w'' ⟨rfl, rfl, rfl⟩
      exact ⟨_, results_tmp rfl _ _ _, rfl, av, bv, A', B', g, hg, HA.out, HB.out, HR.out⟩
end Go.Proofs.YtndphemomhcjlaaGreatDoor

namespace Go.Proofs.YtndphemomhcjlaaGreatDoor
open Go.RowKit

theorem setFrac_base {w0 w1 w2 : World} {bz : Nat} {s : Bool} {A B : Nat} (g1 : w0.grownBy w1 none) (hz : w1.heap[bz]? = some (rbox s (.slice none 0 0) false (.slice none 0 0))) (lz : w0.heap.size ≤ bz) : True := trivial

set_option maxHeartbeats 1000000 in
set_option maxRecDepth 100000 in
theorem SetFrac_any {w0 w : World} {bz bx by_ : Nat} {x y : Value} {nx ny : Int} (g0 : w0.grownBy w none) (lz : w0.heap.size ≤ bz) (hz : w.heap[bz]? = some (rbox false (.slice none 0 0) false (.slice none 0 0))) (hx : IntC w bx 0 x nx) (hy : IntC w by_ 0 y ny)
    (h1 : by_ ≠ bz) (h1' : bx ≠ bz) (h4 : nx ≠ 0) (h5 : 0 < ny) (h6 : nx.natAbs < 18446744073709551616) (h7 : ny < 18446744073709551616) :
    Calls Tryz.prog 53 #[.pointer (some ⟨bz, 0, none⟩), .pointer (some ⟨bx, 0, none⟩), .pointer (some ⟨by_, 0, none⟩)] w fun e w' => e = .returned (.pointer (some ⟨bz, 0, none⟩)) ∧ ∃ av bv A B g, 0 < g ∧ nx.natAbs = A * g ∧ ny.natAbs = B * g ∧ RatIn w0 bz (decide (nx < 0)) false av bv A B w' := by
  obtain ⟨⟨c0, c1, c2, c3⟩, f0, f1, f2, f3⟩ := cell_rbox hz
  have x1 := hx.neg; have x2 := hx.abs; have y1 := hy.neg; have y2 := hy.abs
  have hxo := hx.obj; have hyo := hy.obj
  obtain ⟨kx, cx, Mx, rfl, hkx, hcx, hmx⟩ := hx.word h4 h6
  obtain ⟨ky, cy, My, rfl, hky, hcy, hmy⟩ := hy.word (by omega) (by omega)
  have hnx : IsNat w (.slice (some ⟨kx, 0, none⟩) 1 cx) [(nx.natAbs : Int)] := .inr ⟨kx, cx, Mx, rfl, by simpa using hkx, by simp; omega, hmx⟩
  have hny : IsNat w (.slice (some ⟨ky, 0, none⟩) 1 cy) [(ny.natAbs : Int)] := .inr ⟨ky, cy, My, rfl, by simpa using hky, by simp; omega, hmy⟩
  have dy : decide (ny < 0) = false := by simp; omega
  rw [dy] at y1
  have HNX := Lib.hid hnx; have HNY := Lib.hid hny; have HZ := Lib.hid hz; have G0 := Lib.hid g0; have HXO := Lib.hid hxo; have HYO := Lib.hid hyo
  have HX := Lib.hid hx; have HY := Lib.hid hy
  clear hnx hny hz g0 hxo hyo hkx hky hcx hcy hx hy dy
  go_enter Tryz.func53, Tryz.ntmps53
  go_wp2_with (fail)
  go_still_tail 13, (by kernel_rfl)
  change wpList _ _ _ _ _ (World.drew _)
  go_upto_region 2 with (fail)
  obtain ⟨sg, hsg⟩ : ∃ sg, decide (nx < 0) = sg := ⟨_, rfl⟩
  obtain ⟨w1, hw1⟩ : ∃ w1, w1 = (w.setCell ⟨bz, 0, none⟩ (.bool (decide (nx < 0)))).drew := ⟨_, rfl⟩
  rw [← hw1]
  have hz1 : w1.heap[bz]? = some (rbox (decide (nx < 0)) (.slice none 0 0) false (.slice none 0 0)) := by
    rw [hw1]; exact set_rbox0 HZ.out _
  have g1 : Grown2 w w1 bz none := by
    rw [hw1]; exact (grown_set2 (grown_refl w none) 0 _).draw 1
  have hx1 : IsNat w1 (.slice (some ⟨kx, 0, none⟩) 1 cx) [(nx.natAbs : Int)] := by
    rw [hw1]; exact (HNX.out.set (isNat_rbox HZ.out HNX.out) 0 _).draw 1
  have hy1 : IsNat w1 (.slice (some ⟨ky, 0, none⟩) 1 cy) [(ny.natAbs : Int)] := by
    rw [hw1]; exact (HNY.out.set (isNat_rbox HZ.out HNY.out) 0 _).draw 1
  have hyo : w1.heap[by_]? = w.heap[by_]? := by
    obtain ⟨_, _, h⟩ := HYO.out
    exact g1.block by_ (Array.getElem?_eq_some_iff.1 h).1 h1 (by simp)
  have hxo : w1.heap[bx]? = w.heap[bx]? := by
    obtain ⟨_, _, h⟩ := HXO.out
    exact g1.block bx (Array.getElem?_eq_some_iff.1 h).1 h1' (by simp)
  have y2' : w1.cell? ⟨by_, 1, none⟩ = some (.slice (some ⟨ky, 0, none⟩) 1 cy) := by rw [World.cell?_of_block (a := ⟨by_, 1, none⟩) hyo]; exact y2
  have x2' : w1.cell? ⟨bx, 1, none⟩ = some (.slice (some ⟨kx, 0, none⟩) 1 cx) := by rw [World.cell?_of_block (a := ⟨bx, 1, none⟩) hxo]; exact x2
  have E := (ptr_eql_other (wx := w1) (a := ⟨bz, 0, none⟩) (b := ⟨by_, 0, none⟩) (by intro e; injection e with e; exact h1 e.symm) ⟨_, _, hz1⟩ (by obtain ⟨cs, T, h⟩ := HYO.out; exact ⟨cs, T, by rw [hyo]; exact h⟩)).1
  have G1 := Lib.hid (Grown2.new G0.out g1 lz)
  have HZ1 := Lib.hid hz1; have HX1 := Lib.hid hx1; have HY1 := Lib.hid hy1
  clear hw1 hxo hyo g1 HX HY HXO HYO HNX HNY HZ x1 x2 y1 y2 c0 c1 c2 c3 f0 f1 f2 f3 hx1 hy1
  obtain ⟨⟨c0, c1, c2, c3⟩, f0, f1, f2, f3⟩ := cell_rbox hz1
  clear hz1
  go_wp2_with (fail)
  refine (alias_nil HY1.out).mono ?_
  rintro e w2 ⟨rfl, q, hw2⟩
  have gq : w1.grownBy w2 none := by rw [hw2]; exact grown_drewN _ _
  clear hw2
  have HZ2 : Hid (w2.heap[bz]? = some (rbox (decide (nx < 0)) (.slice none 0 0) false (.slice none 0 0))) := by
    show _ = _
    rw [gq.block bz (Array.getElem?_eq_some_iff.1 HZ1.out).1 (by simp)]; exact HZ1.out
  have HX2 := Lib.hid (HX1.out.grown0 gq); have HY2 := Lib.hid (HY1.out.grown0 gq)
  have G2 := Lib.hid (grown_trans G1.out gq)
  have d1 : w2.cell? ⟨bz, 1, none⟩ = some (.slice none 0 0) := (cell_rbox HZ2.out).1.2.1
  have d2 : w2.cell? ⟨bx, 1, none⟩ = some (.slice (some ⟨kx, 0, none⟩) 1 cx) := by
    rw [World.cell?_of_block (w := w1) (w' := w2) (a := ⟨bx, 1, none⟩) (gq.block bx (by
      rcases Nat.lt_or_ge bx w1.heap.size with h | h
      · exact h
      · have : w1.cell? ⟨bx, 1, none⟩ = none := by unfold World.cell?; simp [Array.getElem?_eq_none h]
        rw [x2'] at this; cases this) (by simp))]
    exact x2'
  clear gq HZ1 HX1 HY1 G1 c0 c1 c2 c3 f0 f1 f2 f3 E x2' y2'
  go_upto_region 7 with (fail)
  go_cut [] from 8 to 70 (fun wx => ∃ (ka : Option Addr) (kc : Nat), wx.heap[bz]? = some (rbox (decide (nx < 0)) (.slice ka 1 kc) false (.slice none 0 0)) ∧ IsNat wx (.slice ka 1 kc) [(nx.natAbs : Int)] ∧ IsNat wx (.slice (some ⟨ky, 0, none⟩) 1 cy) [(ny.natAbs : Int)] ∧ w0.grownBy wx none ∧ ∀ k, (Value.slice ka 1 kc).ownBlock = some k → w0.heap.size ≤ k)
  case first =>
    go_region_with (go_at_call 78; refine (set_new (HX2.out.draw 1) (by simp) (by simp)).mono ?_; rintro e w3 ⟨rfl, hr3⟩; have hz3 : w3.heap[bz]? = some (rbox (decide (nx < 0)) (.slice none 0 0) false (.slice none 0 0)) := (hr3.grown.block bz (Array.getElem?_eq_some_iff.1 HZ2.out).1 (by simp)).trans HZ2.out; have fr3 := (cell_rbox hz3).2.2.1; have cr3 := (cell_rbox hz3).1.2.1; have HR3 := Lib.hid hr3; have HZ3 := Lib.hid hz3; clear hr3 hz3)
    all_goals
      have k1 := set_rbox1 HZ3.out (.slice (some ⟨w2.heap.size, 0, none⟩) 1 (capOf 1))
      have HK : Hid (IsNat _ _ _) := HR3.out.nat.set (isNat_rbox HZ3.out HR3.out.nat) 1 (.slice (some ⟨w2.heap.size, 0, none⟩) 1 (capOf 1))
      have HK1 := Lib.hid k1
      have ny3 : IsNat w3 (.slice (some ⟨ky, 0, none⟩) 1 cy) [(ny.natAbs : Int)] := (HY2.out.draw 1).grown0 HR3.out.grown
      have HK2 := Lib.hid (ny3.set (isNat_rbox HZ3.out ny3) 1 (.slice (some ⟨w2.heap.size, 0, none⟩) 1 (capOf 1)))
      have g3 : w2.grownBy w3 none := ⟨HR3.out.grown.os, HR3.out.grown.tape, HR3.out.grown.output, HR3.out.grown.size, HR3.out.grown.block⟩
      have HK3 := Lib.hid (Grown2.new (grown_trans G2.out g3) (grown_set2 (grown_refl w3 none) (b := bz) 1 (.slice (some ⟨w2.heap.size, 0, none⟩) 1 (capOf 1))) lz)
      clear k1 ny3 g3 fr3 cr3
      go_wp2_with (fail)
      go_meet
      exact ⟨some ⟨w2.heap.size, 0, none⟩, capOf 1, HK1.out, HK.out, HK2.out, HK3.out, fun k hk => by simp [Value.ownBlock] at hk; have := G2.out.size; omega⟩
  case rest =>
    obtain ⟨ka, kc, hz4, hn4, hy4, hg4, ho4⟩ := hcut
    have HZ4 := Lib.hid hz4; have HN4 := Lib.hid hn4; have HY4 := Lib.hid hy4; have HG4 := Lib.hid hg4; have HO4 := Lib.hid ho4
    obtain ⟨⟨c0, c1, c2, c3⟩, f0, f1, f2, f3⟩ := cell_rbox hz4
    clear hz4 hn4 hy4 hg4 ho4 HZ2 HX2 HY2 G2 d1 d2
    go_wp2_with (fail)
    refine (set_new HY4.out (by simp) (by simp)).mono ?_
    rintro e w5 ⟨rfl, hr5⟩
    have hz5 : w5.heap[bz]? = some (rbox (decide (nx < 0)) (.slice ka 1 kc) false (.slice none 0 0)) := (hr5.grown.block bz (Array.getElem?_eq_some_iff.1 HZ4.out).1 (by simp)).trans HZ4.out
    have k1 := set_rbox3 hz5 (.slice (some ⟨wc.heap.size, 0, none⟩) 1 (capOf 1))
    have n5 := HN4.out.grown0 hr5.grown
    have HR : Hid (RatIn w0 bz (decide (nx < 0)) false (.slice ka 1 kc) (.slice (some ⟨wc.heap.size, 0, none⟩) 1 (capOf 1)) nx.natAbs ny.natAbs (w5.setCell ⟨bz, 3, none⟩ (.slice (some ⟨wc.heap.size, 0, none⟩) 1 (capOf 1)))) := by
      refine ⟨k1, n5.set (isNat_rbox hz5 n5) 3 _, hr5.nat.set (isNat_rbox hz5 hr5.nat) 3 _, Grown2.new (grown_trans HG4.out hr5.grown) (grown_set2 (grown_refl w5 none) 3 _) lz, lz, HO4.out, ?_, ?_⟩
      · intro k hk; simp [Value.ownBlock] at hk; have := HG4.out.size; omega
      · intro e
        obtain ⟨k, ek, lk⟩ := HN4.out.own1
        rw [ek] at e
        simp [Value.ownBlock] at e; omega
    obtain ⟨_, _, _, _, fr3⟩ := cell_rbox hz5
    obtain ⟨⟨_, _, _, cr3⟩, _⟩ := cell_rbox hz5
    clear hr5 hz5 k1 n5 HZ4 HN4 HY4 HG4 HO4 c0 c1 c2 c3 f0 f1 f2 f3
    go_wp2_with (fail)
    refine (ratNorm_any HR.out (by omega) (by omega) (by omega) (by omega)).mono ?_
    rintro e w6 ⟨rfl, av, bv, A', B', g, hg, hA, hB, hR6⟩
    have H1 := Lib.hid hg; have H2 := Lib.hid hA; have H3 := Lib.hid hB; have H4 := Lib.hid hR6
    clear hg hA hB hR6 HR
    go_wp2
    go_ret
    exact ⟨rfl, av, bv, A', B', g, H1.out, H2.out, H3.out, H4.out⟩
end Go.Proofs.YtndphemomhcjlaaGreatDoor

namespace Go.Proofs.YtndphemomhcjlaaGreatDoor
open Go.RowKit

theorem keepb {w w' : World} {b : Nat} {o : Obj} (g : w.grownBy w' none) (h : w.heap[b]? = some o) : w'.heap[b]? = some o := by
  rw [g.block b (Array.getElem?_eq_some_iff.1 h).1 (by simp)]; exact h
theorem keepc {w w' : World} {a : Addr} {v : Value} (g : w.grownBy w' none) (h : w.cell? a = some v) : w'.cell? a = some v := by
  have hl : a.block < w.heap.size := World.block_lt_of_cell? w a h
  rw [World.cell?_of_block (g.block a.block hl (by simp))]; exact h

theorem sKeep {W0 w' w'' : World} {a0 a1 : Addr} {v0 v1 : Value} (g : w'.grownBy w'' none) (h : W0.grownBy w' none ∧ w'.cell? a0 = some v0 ∧ w'.cell? a1 = some v1) : W0.grownBy w'' none ∧ w''.cell? a0 = some v0 ∧ w''.cell? a1 = some v1 :=
  ⟨grown_trans h.1 g, keepc g h.2.1, keepc g h.2.2⟩
theorem pow10_u {k : Nat} (hk : k ≤ 19) : (10 : Int) ^ k < 18446744073709551616 := by
  have h1 := ipow_le (b := 10) (by decide) hk
  have h2 : (10 : Int) ^ 19 = 10000000000000000000 := by decide
  omega
theorem grown_drew (w : World) : w.grownBy w.drew none := ⟨rfl, rfl, rfl, Nat.le_refl _, fun _ _ _ => rfl⟩

theorem RatIn.base {w W0 w' : World} {bz : Nat} {s t : Bool} {av bv : Value} {A B : Nat} (h : RatIn W0 bz s t av bv A B w') (g : w.grownBy W0 none) : RatIn w bz s t av bv A B w' :=
  ⟨h.here, h.na, h.nb, grown_trans g h.g, Nat.le_trans g.size h.lz, fun k e => Nat.le_trans g.size (h.oa k e), fun k e => Nat.le_trans g.size (h.ob k e), h.ne⟩

/-- a fraction of a decimal's worth, in new memory -/
def RatRes (w : World) (N D : Nat) (s : Bool) (e : Ending) (w' : World) : Prop :=
  ∃ bz av bv A B g, e = .returned (.pointer (some ⟨bz, 0, none⟩)) ∧ 0 < g ∧ N = A * g ∧ D = B * g ∧ RatIn w bz s false av bv A B w'

set_option maxHeartbeats 2000000 in
set_option maxRecDepth 100000 in
theorem Rat_any {w : World} {b k : Nat} {v : Value} {n : Int} (h : IntC w b 0 v n) (h0 : n ≠ 0) (h1 : n.natAbs < 18446744073709551616) (hk : k ≤ 19) :
    Calls Tryz.prog 33 #[decV b (-(k : Int))] w fun e w' => RatRes w n.natAbs (10 ^ k) (decide (n < 0)) e w' := by
  have H := Lib.hid h
  have hbl : b < w.heap.size := by obtain ⟨_, _, h⟩ := h.obj; exact (Array.getElem?_eq_some_iff.1 h).1
  have hle : -(k : Int) ≤ 0 := by omega
  have ek : IntKind.i64.wrap (-IntKind.i64.wrap (-(k : Int))) = k := by rw [IntKind.wrap_i64, IntKind.wrap_i64]; omega
  have HPP : Hid (∀ w : World, Calls Tryz.prog 50 #[.int .i64 (IntKind.i64.wrap (-IntKind.i64.wrap (-(k : Int))))] w fun e w' => IntNew w w' e (10 ^ k)) := by
    intro w; rw [ek]; exact pow10_any k w (by omega)
  clear ek
  clear h
  have HGV : Hid (∀ w : World, Calls Tryz.prog 26 #[.agg #[.pointer (some ⟨b, 0, none⟩), .int .i32 (-(k : Int))]] w fun r w' => r = .returned (.pointer (some ⟨b, 0, none⟩)) ∧ w.grownBy w' none) := fun w => getValue_any b (-(k : Int)) w
  unfold decV
  go_enter Tryz.func33, Tryz.ntmps33
  go_wp2_with (fail)
  obtain ⟨W0, hW0⟩ : ∃ W0, W0 = w.alloc (.cells #[.pointer (some ⟨b, 0, none⟩), .int .i32 (-(k : Int))] 53) := ⟨_, rfl⟩
  rw [← hW0]
  have g0 : w.grownBy W0 none := by rw [hW0]; exact World.grownBy_alloc _ _ _
  have hh : W0.heap[w.heap.size]? = some (.cells #[.pointer (some ⟨b, 0, none⟩), .int .i32 (-(k : Int))] 53) := by rw [hW0]; exact heap_new _ _
  have e0 : W0.cell? ⟨w.heap.size, 0, none⟩ = some (.pointer (some ⟨b, 0, none⟩)) := by simp [World.cell?, hh]
  have e1 : W0.cell? ⟨w.heap.size, 1, none⟩ = some (.int .i32 (-(k : Int))) := by simp [World.cell?, hh]
  have G0 := Lib.hid g0
  have hs := g0.size
  have E : Hid (W0.grownBy W0 none ∧ W0.cell? ⟨w.heap.size, 0, none⟩ = some (.pointer (some ⟨b, 0, none⟩)) ∧ W0.cell? ⟨w.heap.size, 1, none⟩ = some (.int .i32 (-(k : Int)))) := ⟨grown_refl _ _, e0, e1⟩
  have hp0 : (0 : Int) < 10 ^ k := Int.pow_pos (by decide)
  have hp1 := pow10_u hk
  have HP0 := Lib.hid hp0; have HP1 := Lib.hid hp1
  clear hW0 hh g0 e0 e1 hp0 hp1
  go_region_held3 (fun w' => W0.grownBy w' none ∧ w'.cell? ⟨w.heap.size, 0, none⟩ = some (.pointer (some ⟨b, 0, none⟩)) ∧ w'.cell? ⟨w.heap.size, 1, none⟩ = some (.int .i32 (-(k : Int))))
    (first | exact KS.out | exact KP.out | exact KV.out | exact sKeep (grown_drew _) E.out | exact sKeep (World.grownBy_alloc _ _ _) (by assumption))
    (first
      | (go_at_call 26; refine (HGV.out _).mono ?_; rintro r wv ⟨rfl, gv⟩; have KV : Hid (W0.grownBy wv none ∧ wv.cell? ⟨w.heap.size, 0, none⟩ = some (.pointer (some ⟨b, 0, none⟩)) ∧ wv.cell? ⟨w.heap.size, 1, none⟩ = some (.int .i32 (-(k : Int)))) := sKeep gv (by assumption); have GV := Lib.hid gv; clear gv)
      | (go_at_call 50; refine (HPP.out _).mono ?_; rintro r wp ⟨bp, vp, rfl, p1, p2, p3⟩; have KP : Hid (W0.grownBy wp none ∧ wp.cell? ⟨w.heap.size, 0, none⟩ = some (.pointer (some ⟨b, 0, none⟩)) ∧ wp.cell? ⟨w.heap.size, 1, none⟩ = some (.int .i32 (-(k : Int)))) := sKeep p3 (by assumption); have GP := Lib.hid p3; have HPB := Lib.hid p2; clear p1 p2 p3)
      | (go_at_call 53; refine (SetFrac_any (w0 := W0) (bx := b) (by_ := bp) (x := v) (y := vp) (nx := n) (ny := 10 ^ k) (by first | exact KP.out.1 | exact grown_trans KP.out.1 (World.grownBy_alloc _ _ _)) (by first | exact Nat.le_refl _ | exact KV.out.1.size | exact KP.out.1.size) (by first | exact keepb GP.out (keepb GV.out (heap_new _ _)) | exact keepb GP.out (heap_new _ _) | exact heap_new _ _) (by exact H.out.same (grown_trans G0.out (by first | exact KP.out.1 | exact grown_trans KP.out.1 (World.grownBy_alloc _ _ _)))) (by first | exact HPB.out.c | exact (HPB.out.same (World.grownBy_alloc _ _ _)).c) (by first | exact ibox_rbox HPB.out.here (keepb GP.out (keepb GV.out (heap_new _ _))) | exact ibox_rbox HPB.out.here (keepb GP.out (heap_new _ _)) | exact Nat.ne_of_lt (Array.getElem?_eq_some_iff.1 HPB.out.here).1) (by first | exact Nat.ne_of_lt (Nat.lt_of_lt_of_le hbl hs) | exact Nat.ne_of_lt (Nat.lt_of_lt_of_le hbl (Nat.le_trans hs KV.out.1.size)) | exact Nat.ne_of_lt (Nat.lt_of_lt_of_le hbl (Nat.le_trans hs KP.out.1.size))) h0 HP0.out h1 HP1.out).mono ?_; rintro e ws ⟨rfl, av, bv, A, B, g, hg, hA, hB, hR⟩; have K1 := Lib.hid hg; have K2 := Lib.hid hA; have K3 := Lib.hid hB; have K4 := Lib.hid hR; have KS : Hid (W0.grownBy ws none ∧ ws.cell? ⟨w.heap.size, 0, none⟩ = some (.pointer (some ⟨b, 0, none⟩)) ∧ ws.cell? ⟨w.heap.size, 1, none⟩ = some (.int .i32 (-(k : Int)))) := sKeep hR.g E.out; clear hg hA hB hR))
  all_goals
    go_wp2
    go_ret
    exact ⟨_, av, bv, A, B, g, rfl, K1.out, K2.out, by have := K3.out; rw [← this]; simp [Int.natAbs_pow], K4.out.base G0.out⟩
end Go.Proofs.YtndphemomhcjlaaGreatDoor
