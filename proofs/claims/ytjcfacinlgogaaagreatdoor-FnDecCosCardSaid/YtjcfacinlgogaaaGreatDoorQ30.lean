/- Shortest floats: the digits in a buffer. Conditions: at most twenty digits. Bytes appended to a buffer of thirty-two. Shortest floats: the text d.ddde-xx. Conditions: at most seventeen digits, exponents of two digits. Shortest floats: the text of a float64, format 'e'. Conditions: a normal float; the digits by their contract. -/
import Derived.Lib.ItoaWalk
import Derived.Lib.JoinLaws
import Derived.Test.YtjcfacinlgogaaaGreatDoorQ06
import Derived.Test.YtjcfacinlgogaaaGreatDoorQ26
import Derived.Test.YtjcfacinlgogaaaGreatDoorQ27
set_option linter.all false
set_option maxHeartbeats 4000000
set_option maxRecDepth 100000
set_option exponentiation.threshold 2000
namespace Go.Proofs.YtjcfacinlgogaaaGreatDoor
open Go.RowKit
theorem undB : Tryz.prog.underlying 77 = some (.slice 5) := by kernel_rfl
theorem sizB : (Tryz.prog.info? 5).map (·.size) = some 1 := by kernel_rfl
theorem mod_next {d j : Nat} (h1 : d % 10 ^ j = 0) (h2 : d / 10 ^ j % 10 = 0) : d % 10 ^ (j + 1) = 0 := by
  rw [Nat.pow_succ, Nat.mod_mul, h1, h2, Nat.mul_zero]
theorem grown_putRow {w : World} {b o : Nat} {d : Array UInt8} {q : Nat} : w.grownBy ((Go.Sort.putRow (fun (x : UInt8) => Value.int .u8 (x.toNat : Int)) w b o d).drewN q) (some b) := by
  refine ⟨rfl, rfl, rfl, ?_, fun k _ hk => ?_⟩
  · show w.heap.size ≤ (Array.modify _ _ _).size
    simp
  · have hne : k ≠ b := fun e => hk (by rw [e])
    show (Array.modify _ _ _)[k]? = _
    rw [Array.getElem?_modify, if_neg (fun e => hne e.symm)]
def dgB (d nd i : Nat) : Int := ((48 + d / 10 ^ (nd - 1 - i) % 10 : Nat) : Int)
theorem dg_toNat (d j : Nat) : ((Go.Lib.dg d j).toNat : Int) = ((48 + d / 10 ^ j % 10 : Nat) : Int) := by
  unfold Go.Lib.dg
  rw [UInt8.toNat_ofNat']
  have : d / 10 ^ j % 10 < 10 := Nat.mod_lt _ (by decide)
  omega
theorem setDigits_any {w : World} {b d nd : Nat} (p : Int) (hz : ∀ i, i < 32 → w.cell? ⟨b, i, none⟩ = some (.int .u8 0) ∧ w.frozen? ⟨b, i, none⟩ = false) (hd : d < 10 ^ nd) (hd0 : 1 ≤ d) (hn : nd ≤ 20) (hd64 : d < 18446744073709551616) (hp : -2000 ≤ p) (hp2 : p ≤ 2000) :
    Calls Tryz.prog 211 #[.slice (some ⟨b, 0, none⟩) 32 32, .int .u64 (d : Nat), .int .i64 p, .int .i64 (nd : Nat)] w fun e w' => ∃ nz : Nat, e = .returned (.tuple #[.int .i64 ((nd : Int) + p), .int .i64 (nz : Nat)]) ∧ nz ≤ nd ∧ 1 ≤ nz ∧ d % 10 ^ (nd - nz) = 0 ∧ d / 10 ^ (nd - nz) % 10 ≠ 0 ∧
      (∀ i, i < nd → w'.cell? ⟨b, i, none⟩ = some (.int .u8 (dgB d nd i))) ∧ w.grownBy w' (some b) := by
  have hnd0 : 1 ≤ nd := by
    rcases Nat.eq_zero_or_pos nd with h | h
    · subst h; simp at hd; omega
    · exact h
  have hH : Go.Sort.Holds (fun (x : UInt8) => Value.int .u8 (x.toNat : Int)) w b 0 (Array.replicate nd (0 : UInt8)) := by
    intro j hj
    simp only [Array.size_replicate] at hj
    have := hz j (by omega)
    rw [Nat.zero_add]
    refine ⟨?_, this.2⟩
    rw [this.1]
    have e : (Array.replicate nd (0 : UInt8))[j]! = 0 := by simp [hj]
    rw [e]; rfl
  have FB := Tryz.internal_strconv_formatBase10 b 0 32 d (Array.replicate nd (0 : UInt8)) w hH (by simpa using hd) hd64 (by simp; omega)
  simp only [Array.size_replicate] at FB
  have FB := Hq0 FB
  have HH := Hq0 hH
  have R1 := run_slice_to (P := Tryz.prog) undB sizB b 32 32 nd (nd : Int) rfl (by omega)
  have hnd32 : (nd : Int) ≤ 32 := by omega
  have ew : wrap64 ((nd : Int) + p) = (nd : Int) + p := by rw [← i64_left']; exact IntWalk.i64_in _ (by omega)
  have HD := Hq0 (And.intro hd hd0)
  clear hz hH hd hd0
  go_enter Tryz.func211, Tryz.ntmps211
  go_wp2_with (fail)
  refine FB.out.mono ?_
  rintro e w1 ⟨rfl, n, v', dk, hw1, hinv⟩
  have HC : Hid (∀ i, i < nd → w1.cell? ⟨b, i, none⟩ = some (.int .u8 (dgB d nd i))) := by
    intro i hi
    rw [hw1]
    have h1 := Go.Sort.cell?_putRow (fun (x : UInt8) => Value.int .u8 (x.toNat : Int)) w b 0 _ dk HH.out (by rw [hinv.size]; simp) i (by rw [hinv.size]; exact hi)
    rw [Nat.zero_add] at h1
    show (World.drewN _ n).cell? _ = _
    have h2 : ((Go.Sort.putRow (fun (x : UInt8) => Value.int .u8 (x.toNat : Int)) w b 0 dk).drewN n).cell? ⟨b, i, none⟩ = (Go.Sort.putRow (fun (x : UInt8) => Value.int .u8 (x.toNat : Int)) w b 0 dk).cell? ⟨b, i, none⟩ := rfl
    rw [h2, h1, hinv.done i (Nat.zero_le _) hi, dg_toNat]; rfl
  have HG : Hid (w.grownBy w1 (some b)) := by rw [hw1]; exact Hq0 grown_putRow
  clear FB HH R1 hw1 hinv
  go_wp2_with (fail)
  go_loopw [3] (fun s3 wr => ∃ k : Nat, k ≤ nd ∧ 1 ≤ k ∧ s3 = .int .i64 (k : Nat) ∧ d % 10 ^ (nd - k) = 0 ∧ w1 = wr) (fun s3 _ => (intOf s3).toNat)
  case atStart => exact ⟨nd, Nat.le_refl _, hnd0, rfl, by rw [Nat.sub_self, Nat.pow_zero, Nat.mod_one], rfl⟩
  case round =>
    obtain ⟨k, hk, hk1, rfl, hmod, rfl⟩ := hrel
    have c1 := HC.out (k - 1) (by omega)
    have ek : wrap64 ((k : Int) - 1) = (k : Int) - 1 := by rw [← i64_left']; exact IntWalk.i64_in _ (by omega)
    have ek2 : ((k : Int) - 1).toNat = k - 1 := by omega
    have hk32 : (k : Int) - 1 < 32 := by omega
    have hk0 : (0 : Int) < k := by omega
    have HM := Hq0 hmod
    clear hmod
    by_cases h0 : d / 10 ^ (nd - k) % 10 = 0
    · have hb : dgB d nd (k - 1) = 48 := by
        unfold dgB
        rw [show nd - 1 - (k - 1) = nd - k by omega, h0]; rfl
      have hk2 : 2 ≤ k := by
        rcases Nat.lt_or_ge k 2 with h | h
        · exfalso
          have h1 : k = 1 := by omega
          have h2 := mod_next HM.out h0
          rw [h1, show nd - 1 + 1 = nd by omega, Nat.mod_eq_of_lt HD.out.1] at h2
          have := HD.out.2; omega
        · exact h
      rw [hb] at c1
      have HN : Hid (d % 10 ^ (nd - (k - 1)) = 0) := by
        show _ = _
        have h2 := mod_next HM.out h0
        rw [show nd - k + 1 = nd - (k - 1) by omega] at h2; exact h2
      clear h0 hb
      go_wp2_with (fail)
      go_roundw
      case rel => exact ⟨k - 1, by omega, by omega, by go_num, HN.out, trivial⟩
      case measure => simp [intOf]; omega
    · have hb : (dgB d nd (k - 1) == 48) = false := by
        unfold dgB
        rw [show nd - 1 - (k - 1) = nd - k by omega, beq_eq_false_iff_ne]
        generalize d / 10 ^ (nd - k) % 10 = y at *
        omega
      have H0 := Hq0 h0
      clear h0
      generalize dgB d nd (k - 1) = x at *
      go_wp2
      go_ret2
      exact ⟨k, rfl, hk, hk1, HM.out, H0.out, HC.out, HG.out⟩
end Go.Proofs.YtjcfacinlgogaaaGreatDoor
namespace Go.Proofs.YtjcfacinlgogaaaGreatDoor
open Go.RowKit
def v8 (x : Int) : Value := .int .u8 x
def bf8 (L : List Int) : Obj := .cells (L.map v8).toArray 130
theorem cell_bf8 {w : World} {b : Nat} {L : List Int} (h : w.heap[b]? = some (bf8 L)) (i : Nat) (hi : i < L.length) : w.cell? ⟨b, i, none⟩ = some (.int .u8 (L[i]?.getD 0)) := by
  unfold World.cell?; rw [h]; simp [bf8, v8, hi]
theorem frozen_bf8 {w : World} {b : Nat} {L : List Int} (h : w.heap[b]? = some (bf8 L)) (i : Nat) : w.frozen? ⟨b, i, none⟩ = false := by
  unfold World.frozen?; rw [h]; simp [bf8]
theorem set_bf8 {w : World} {b : Nat} {L : List Int} (h : w.heap[b]? = some (bf8 L)) (i : Nat) (x : Int) : (w.setCell ⟨b, i, none⟩ (v8 x)).heap[b]? = some (bf8 (L.set i x)) := by
  simp only [World.setCell, Array.getElem?_modify, if_pos, h, bf8, Option.map_some, List.setIfInBounds_toArray, List.map_set]
  rfl
theorem grown_setb {w w' : World} {b : Nat} (g : w.grownBy w' (some b)) (o : Nat) (v : Value) : w.grownBy (w'.setCell ⟨b, o, none⟩ v) (some b) := by
  refine ⟨g.os, g.tape, g.output, by simp [World.setCell]; exact g.size, fun i hi hr => ?_⟩
  have hne : i ≠ b := fun e => hr (by rw [e])
  rw [Below.heap_setCell _ _ _ _ hne]; exact g.block i hi hr
structure BfT (w0 w : World) (bd : Nat) (p : List Int) : Prop where
  here : ∃ L : List Int, L.length = 32 ∧ w.heap[bd]? = some (bf8 L) ∧ L.take p.length = p
  le : p.length ≤ 32
  g : w0.grownBy w (some bd)
theorem BfT.same {w0 w w1 : World} {bd : Nat} {p : List Int} (h : BfT w0 w bd p) (g : w.grownBy w1 none) : BfT w0 w1 bd p := by
  obtain ⟨⟨L, h1, h2, h3⟩, h4, h5⟩ := h
  exact ⟨⟨L, h1, kpb g h2, h3⟩, h4, grown_trans h5 (grown_weak g)⟩
theorem BfT.one {w0 w : World} {bd : Nat} {p : List Int} (h : BfT w0 w bd p) (x : Int) (hr : p.length + 1 ≤ 32) : BfT w0 (w.setCell ⟨bd, p.length, none⟩ (v8 x)) bd (p ++ [x]) := by
  obtain ⟨⟨L, h1, h2, h3⟩, h4, h5⟩ := h
  refine ⟨⟨L.set p.length x, by simpa using h1, set_bf8 h2 _ _, ?_⟩, by simp; omega, grown_setb h5 _ _⟩
  rw [List.length_append, List.length_singleton, List.take_succ, List.take_set_of_le (Nat.le_refl _), h3, List.getElem?_set_self (by omega)]
  rfl
theorem BfT.many {w0 : World} {bd : Nat} : ∀ (news p : List Int) {w : World}, BfT w0 w bd p → p.length + news.length ≤ 32 → BfT w0 (w.setCells bd p.length (news.map v8)) bd (p ++ news)
  | [], p, w, h, _ => by simpa [World.setCells] using h
  | x :: news, p, w, h, hr => by
    simp only [List.length_cons] at hr
    have h1 := h.one x (by omega)
    have h2 := BfT.many news (p ++ [x]) h1 (by simp; omega)
    rw [List.append_assoc, List.singleton_append] at h2
    have e : (p ++ [x]).length = p.length + 1 := by simp
    rw [e] at h2
    exact h2
theorem BfT.cell {w0 w : World} {bd : Nat} {p : List Int} (h : BfT w0 w bd p) {b i : Nat} {v : Value} (hb : b ≠ bd) (hc : w0.cell? ⟨b, i, none⟩ = some v) : w.cell? ⟨b, i, none⟩ = some v :=
  (World.cell?_of_block (a := ⟨b, i, none⟩) (h.g.block b (World.block_lt_of_cell? _ _ hc) (by intro e; injection e with e; exact hb e))).trans hc
theorem infB : (Tryz.prog.info? 5).map (fun i => (i.zero, i.size, i.bytes)) = some (some (.int .u8 0), 1, 1) := by kernel_rfl
theorem wp_app {w w0 : World} {ops : Array Oper} {rest : List Oper} {o : Oper} {a : Act} {Q : Exit → Act → World → Prop} {bd n c : Nat} {ad : Addr} (hg : o.guard = none) (s x : Operand) (hop : o.op = Op.call { callee := Callee.builtin Builtin.append, args := #[s, x], argTypes := #[77, 77] })
    (p news : List Int) (hB : BfT w0 w bd p) (hn : p.length = n) (hs : a.eval s = .slice (some ⟨bd, 0, none⟩) n 32) (m : Nat) (hm : news.length = m) (hx : a.eval x = .slice (some ad) m c) (hsrc : ∀ j u, (news.map v8)[j]? = some u → w.cell? (ad.add j) = some u) (hr : n + m ≤ 32)
    (hK : ∀ w', BfT w0 w' bd (p ++ news) → w.grownBy w' (some bd) → wpList Tryz.prog ops Q rest (a.put o.dst (.slice (some ⟨bd, 0, none⟩) (n + m) 32)) w') :
    wpList Tryz.prog ops Q (o :: rest) a w := by
  subst hn
  subst hm
  obtain ⟨L, h1, h2, h3⟩ := hB.here
  refine Go.wpList_append_room1 w hg s x 77 77 hop 5 (.int .u8 0) 1 undB infB bd 0 p.length 32 hs _ hx news.length (news.map v8) (Go.Src.ofSlice w undB ad news.length c (news.map v8) (by simp) hsrc (by intro u hu; obtain ⟨y, _, rfl⟩ := List.mem_map.1 hu; rfl)) hr (fun j hj => ?_) (fun j _ => frozen_bf8 h2 _) ?_
  · have hj2 : j < news.length := by simpa using hj
    rw [cell_bf8 h2 _ (by omega)]; rfl
  · rw [Nat.zero_add]
    have hm2 := BfT.many news p hB hr
    refine hK _ hm2 ?_
    have hm3 : BfT w (w.setCells bd p.length (news.map v8)) bd (p ++ news) := BfT.many news p ⟨⟨L, h1, h2, h3⟩, hB.le, grown_refl _ _⟩ hr
    exact hm3.g
theorem src_one (w : World) (x : Int) (T : TypeId) : ∀ (j : Nat) (u : Value), ([x].map v8)[j]? = some u → (w.alloc (.cells #[.int .u8 x] T)).cell? ((⟨w.heap.size, 0, none⟩ : Addr).add j) = some u := by
  intro j u hu
  match j, hu with
  | 0, hu => simp at hu; subst hu; rw [add_none]; exact cell_new1 _ _ _
  | j + 1, hu => simp at hu
theorem src_two (w : World) (x y : Int) (T : TypeId) : ∀ (j : Nat) (u : Value), ([x, y].map v8)[j]? = some u → (w.alloc (.cells #[.int .u8 x, .int .u8 y] T)).cell? ((⟨w.heap.size, 0, none⟩ : Addr).add j) = some u := by
  intro j u hu
  have hh := heap_new w (.cells #[.int .u8 x, .int .u8 y] T)
  match j, hu with
  | 0, hu => simp at hu; subst hu; rw [add_none]; unfold World.cell?; rw [hh]; rfl
  | 1, hu => simp at hu; subst hu; rw [add_none]; unfold World.cell?; rw [hh]; rfl
  | j + 2, hu => simp at hu
end Go.Proofs.YtjcfacinlgogaaaGreatDoor
namespace Go.Proofs.YtjcfacinlgogaaaGreatDoor
open Go.RowKit
def sgL (neg : Bool) : List Int := if neg then [45] else []
def dgL (D : Nat → Int) (nz : Nat) : List Int := D 0 :: (if 2 ≤ nz then 46 :: (List.range (nz - 1)).map (fun i => D (i + 1)) else [])
def exL (ex : Int) : List Int := [101, if ex < 0 then 45 else 43, 48 + (ex.natAbs : Int) / 10, 48 + (ex.natAbs : Int) % 10]
theorem len_sgL (neg : Bool) : (sgL neg).length ≤ 1 := by unfold sgL; split <;> simp
theorem len_dgL (D : Nat → Int) (nz : Nat) (h : nz ≤ 20) : (dgL D nz).length ≤ 21 := by unfold dgL; split <;> simp <;> omega
def FmtRes (w : World) (bd : Nat) (p : List Int) (e : Ending) (w' : World) : Prop := ∃ n, e = .returned (.slice (some ⟨bd, 0, none⟩) n 32) ∧ p.length = n ∧ BfT w w' bd p
theorem fmtE_any {w : World} {bd b nz : Nat} {D : Nat → Int} {neg : Bool} {dp : Int} (hB : BfT w w bd []) (hD : ∀ i, i < nz → w.cell? ⟨b, i, none⟩ = some (.int .u8 (D i))) (hne : b ≠ bd) (hn1 : 1 ≤ nz) (hn2 : nz ≤ 18) (h1 : -98 ≤ dp) (h2 : dp ≤ 99) :
    Calls Tryz.prog 208 #[.slice (some ⟨bd, 0, none⟩) 0 32, .bool neg, .slice (some ⟨b, 0, none⟩) 32 32, .int .i64 dp, .int .i64 (nz : Nat), .int .i64 ((nz : Int) - 1), .int .u8 101, .bool true] w fun e w' => FmtRes w bd (sgL neg ++ dgL D nz ++ exL (dp - 1)) e w' := by
  have HB := Hq0 hB; have HD := Hq0 hD
  have hn0 : ((nz : Int) == 0) = false := by simp; omega
  have HE := Hq0 (show -98 ≤ dp ∧ dp ≤ 99 from ⟨h1, h2⟩)
  have ew1 : wrap64 (dp - 1) = dp - 1 := by rw [← i64_left']; exact IntWalk.i64_in _ (by omega)
  have ew2 : wrap64 ((nz : Int) - 1 + 1) = nz := by rw [← i64_left', show (nz : Int) - 1 + 1 = nz by omega]; exact IntWalk.i64_in _ (by omega)
  clear hB hD h1 h2
  go_enter Tryz.func208, Tryz.ntmps208
  go_upto_region 20 with (fail)
  go_upto_if 78 with (fail)
  go_cut [0] from 78 to 81 (fun s0 wx => s0 = .slice (some ⟨bd, 0, none⟩) (sgL neg).length 32 ∧ BfT w wx bd (sgL neg))
  case first =>
    cases neg with
    | false =>
      go_wp2_with (fail)
      go_meet
      case rel => exact ⟨rfl, HB.out⟩
    | true =>
      go_wp2_with (at_builtin; refine wp_app rfl (.tmp 79) (.tmp 80) rfl [] [45] (HB.out.same (grown_new _ _)) rfl rfl 1 rfl rfl (src_one _ _ _) (by decide) ?_; intro w2 hb2 hg2)
      have HB2 := Hq0 hb2
      clear hb2 hg2
      go_meet
      case rel => exact ⟨rfl, HB2.out⟩
  case rest =>
    obtain ⟨rfl, hB1⟩ := hcut
    have hl1 := len_sgL neg
    have HB1 := Hq0 hB1
    have cD := hB1.cell hne (HD.out 0 (by omega))
    obtain ⟨n1, hnn⟩ : ∃ n, (sgL neg).length = n := ⟨_, rfl⟩
    rw [hnn] at hl1 ⊢
    have HN1 := Hq0 hnn
    have hn0' : ((nz : Int) != 0) = true := by rw [bne_iff_ne]; omega
    clear hB1 hnn
    go_upto_region 26 with (at_builtin; refine wp_app rfl (.tmp 87) (.tmp 89) rfl (sgL neg) [D 0] (HB1.out.same (grown_new _ _)) HN1.out rfl 1 rfl rfl (src_one _ _ _) (by omega) ?_; intro w2 hb2 hg2)
    have HB2 := Hq0 hb2
    clear hb2 hg2 cD
    go_upto_if 92 with (fail)
    go_cut [0] from 91 to 119 (fun s0 wx => ∃ n, s0 = .slice (some ⟨bd, 0, none⟩) n 32 ∧ (sgL neg ++ dgL D nz).length = n ∧ BfT w wx bd (sgL neg ++ dgL D nz))
    case first =>
      by_cases h2 : nz = 1
      · have hp : ¬ ((0 : Int) < (nz : Int) - 1) := by omega
        have HF : Hid ((sgL neg ++ dgL D nz).length = n1 + 1 ∧ sgL neg ++ dgL D nz = sgL neg ++ [D 0]) := by
          have e1 : dgL D nz = [D 0] := by unfold dgL; rw [if_neg (by omega)]
          rw [e1]
          exact Hq0 ⟨by rw [List.length_append, HN1.out]; rfl, rfl⟩
        clear h2
        go_wp2_with (fail)
        go_meet
        case rel => exact ⟨_, rfl, HF.out.1, by rw [HF.out.2]; exact HB2.out⟩
      · have hp : (0 : Int) < (nz : Int) - 1 := by omega
        have hp2 : (1 : Int) < nz := by omega
        have R1 := run_slice_mid (P := Tryz.prog) undB sizB b 32 32 1 nz (1 : Int) (nz : Int) rfl rfl (by omega) (by omega)
        rw [adv_lt (by omega)] at R1
        simp only [Nat.zero_add] at R1
        have hln2 : (sgL neg ++ [D 0]).length = n1 + 1 := by rw [List.length_append, HN1.out]; rfl
        have HLN2 := Hq0 hln2
        clear hln2
        go_upto_region 28 with (at_builtin; refine wp_app rfl (.tmp 93) (.tmp 94) rfl (sgL neg ++ [D 0]) [46] (HB2.out.same (grown_new _ _)) HLN2.out rfl 1 rfl rfl (src_one _ _ _) (by omega) ?_; intro w3 hb3 hg3)
        have hln3 : (sgL neg ++ [D 0] ++ [46]).length = n1 + 1 + 1 := by rw [List.length_append, HLN2.out]; rfl
        have HB3 := Hq0 hb3; have HLN3 := Hq0 hln3
        have hsrc : ∀ j u, (((List.range (nz - 1)).map (fun i => D (i + 1))).map v8)[j]? = some u → w3.cell? ((⟨b, 1, none⟩ : Addr).add j) = some u := by
          intro j u hu
          have hj : j < nz - 1 := by
            have := (List.getElem?_eq_some_iff.1 hu).1
            simpa using this
          have e : u = .int .u8 (D (j + 1)) := by simp [hj] at hu; exact hu.symm
          rw [e, add_none, Nat.add_comm 1 j]
          exact hb3.cell hne (HD.out (j + 1) (by omega))
        have HSRC := Hq0 hsrc
        have hlm : ((List.range (nz - 1)).map (fun i => D (i + 1))).length = nz - 1 := by simp
        have HLM := Hq0 hlm
        have HF : Hid ((sgL neg ++ dgL D nz).length = n1 + 1 + 1 + (nz - 1) ∧ sgL neg ++ dgL D nz = sgL neg ++ [D 0] ++ [46] ++ (List.range (nz - 1)).map (fun i => D (i + 1))) := by
          have e1 : sgL neg ++ dgL D nz = sgL neg ++ [D 0] ++ [46] ++ (List.range (nz - 1)).map (fun i => D (i + 1)) := by
            unfold dgL; rw [if_pos (by omega)]; simp
          refine Hq0 ⟨?_, e1⟩
          rw [e1, List.length_append, HLN3.out, hlm]
        clear hb3 hg3 hln3 hsrc hlm h2
        generalize (List.range (nz - 1)).map (fun i => D (i + 1)) = Ds at *
        have hnz1 : n1 + 1 + 1 + (nz - 1) ≤ 32 := by omega
        generalize hq : nz - 1 = q at *
        have HQ := Hq0 hq
        clear hq
        go_upto_region 32 with (at_builtin; refine wp_app rfl (.tmp 103) (.tmp 107) rfl (sgL neg ++ [D 0] ++ [46]) Ds HB3.out HLN3.out rfl q HLM.out rfl HSRC.out hnz1 ?_; intro w4 hb4 hg4)
        have HB4 := Hq0 hb4
        clear hb4 hg4 HB3 HB2 HSRC HLM HLN3 HLN2 R1
        obtain ⟨n4, hn4⟩ : ∃ n, n1 + 1 + 1 + q = n := ⟨_, rfl⟩
        rw [hn4] at HF ⊢
        clear hn4 hnz1
        go_upto_block 1 with (fail)
        go_wp2_with (fail)
        go_loopw [0, 114] (fun s0 s114 wr => s0 = .slice (some ⟨bd, 0, none⟩) n4 32 ∧ s114 = .int .i64 0 ∧ w4 = wr) (fun _ _ _ => 0)
        case atStart => exact ⟨rfl, rfl, rfl⟩
        case round =>
          obtain ⟨rfl, rfl, rfl⟩ := hrel
          go_wp2_with (fail)
          go_meet
          case rel => exact ⟨_, rfl, HF.out.1, by rw [HF.out.2]; exact HB4.out⟩
    case rest =>
      obtain ⟨n5, rfl, hl5, hB5⟩ := hcut
      have HB5 := Hq0 hB5; have HL5 := Hq0 hl5
      have hb5 : n5 ≤ 22 := by
        have h1 := len_dgL D nz (by omega)
        have h2 := len_sgL neg
        rw [List.length_append] at hl5; omega
      have ha : (dp - 1).natAbs ≤ 99 := by have := HE.out; omega
      obtain ⟨a, hae⟩ : ∃ a, (dp - 1).natAbs = a := ⟨_, rfl⟩
      rw [hae] at ha
      have HA := Hq0 hae
      generalize hp5 : sgL neg ++ dgL D nz = p5 at *
      have HP5 := Hq0 hp5
      clear hp5
      clear hB5 hl5 hae HB2 HN1
      go_upto_region 38 with (at_builtin; refine wp_app rfl (.tmp 120) (.tmp 122) rfl p5 [101] (HB5.out.same (grown_new _ _)) HL5.out rfl 1 rfl rfl (src_one _ _ _) (by omega) ?_; intro w6 hb6 hg6)
      have HB6 := Hq0 hb6
      have hl6 : (p5 ++ [101]).length = n5 + 1 := by rw [List.length_append, HL5.out]; rfl
      have HL6 := Hq0 hl6
      clear hb6 hg6 hl6 HB5
      generalize hp6 : p5 ++ [101] = p6 at *
      have HP6 := Hq0 hp6
      clear hp6
      go_upto_if 129 with (fail)
      go_cut [19, 22] from 75 to 131 (fun s19 s22 wx => s19 = .int .u8 (if dp - 1 < 0 then 45 else 43) ∧ s22 = .int .i64 (a : Nat) ∧ w6 = wx)
      case first =>
        have HE2 := HE.out
        by_cases hx : dp - 1 < 0
        · have en : wrap64 (-(dp - 1)) = (a : Int) := by rw [← i64_left', IntWalk.i64_in _ (by omega)]; have := HA.out; omega
          have EN := Hq0 en
          clear HE2 en
          go_wp2_with (fail)
          go_meet
          case rel => exact ⟨by rw [if_pos hx], by rw [EN.out], rfl⟩
        · have en : dp - 1 = (a : Int) := by have := HA.out; omega
          have EN := Hq0 en
          clear HE2 en
          go_wp2_with (fail)
          go_meet
          case rel => exact ⟨by rw [if_neg (by omega)], by rw [EN.out], rfl⟩
      case rest =>
        obtain ⟨rfl, rfl, rfl⟩ := hcut
        generalize hch : (if dp - 1 < 0 then (45 : Int) else 43) = ch at *
        have HCH := Hq0 hch
        clear hch
        go_upto_region 47 with (at_builtin; refine wp_app rfl (.tmp 132) (.tmp 134) rfl p6 [ch] (HB6.out.same (grown_new _ _)) HL6.out rfl 1 rfl rfl (src_one _ _ _) (by omega) ?_; intro w7 hb7 hg7)
        have HB7 := Hq0 hb7
        have hl7 : (p6 ++ [ch]).length = n5 + 1 + 1 := by rw [List.length_append, HL6.out]; rfl
        have HL7 := Hq0 hl7
        clear hb7 hg7 hl7 HB6
        generalize hp7 : p6 ++ [ch] = p7 at *
        have HP7 := Hq0 hp7
        clear hp7
        by_cases h10 : a < 10
        · have c1 : (a : Int) < 10 := by omega
          have f1 : IntKind.u8.wrap (a : Int) = (a : Int) := by rw [IntKind.wrap_u8]; omega
          have f2 : IntKind.u8.wrap ((a : Int) + 48) = 48 + (a : Int) % 10 := by rw [IntKind.wrap_u8]; omega
          have HD1 : Hid ((48 : Int) = 48 + (a : Int) / 10) := by show _ = _; omega
          clear h10
          go_wp2_with (at_builtin; refine wp_app rfl (.tmp 155) (.tmp 159) rfl p7 [48, 48 + (a : Int) % 10] (HB7.out.same (grown_new _ _)) HL7.out rfl 2 rfl rfl (src_two _ _ _ _) (by omega) ?_; intro w8 hb8 hg8)
          have HB8 := Hq0 hb8
          have HF : Hid (p7 ++ [48, 48 + (a : Int) % 10] = sgL neg ++ dgL D nz ++ exL (dp - 1)) := by
            show _ = _
            unfold exL
            rw [HA.out, HCH.out, HP5.out, ← HP7.out, ← HP6.out]
            rw [← HD1.out]
            simp
          have hl8 : (p7 ++ [48, 48 + (a : Int) % 10]).length = n5 + 1 + 1 + 2 := by rw [List.length_append, HL7.out]; rfl
          have HL8 := Hq0 hl8
          clear hb8 hg8 hl8 HB7
          go_ret
          exact ⟨_, rfl, by first | (rw [← HF.out]; exact HL8.out) | (rw [← List.append_assoc, ← HF.out]; exact HL8.out), by first | (rw [← HF.out]; exact HB8.out) | (rw [← List.append_assoc, ← HF.out]; exact HB8.out)⟩
        · have c1 : ¬ (a : Int) < 10 := by omega
          have c2 : (a : Int) < 100 := by omega
          have q1 : wrap64 ((a : Int) / 10) = (a : Int) / 10 := by rw [← i64_left']; exact IntWalk.i64_in _ (by omega)
          have q2 : wrap64 ((a : Int).tdiv 10) = (a : Int) / 10 := by rw [Int.tdiv_eq_ediv_of_nonneg (by omega)]; exact q1
          have f1 : IntKind.u8.wrap ((a : Int) / 10) = (a : Int) / 10 := by rw [IntKind.wrap_u8]; omega
          have f2 : IntKind.u8.wrap ((a : Int) / 10 + 48) = 48 + (a : Int) / 10 := by rw [IntKind.wrap_u8]; omega
          have f3 : IntKind.u8.wrap ((a : Int) % 10) = (a : Int) % 10 := by rw [IntKind.wrap_u8]; omega
          have f4 : IntKind.u8.wrap ((a : Int) % 10 + 48) = 48 + (a : Int) % 10 := by rw [IntKind.wrap_u8]; omega
          clear h10
          go_wp2_with (at_builtin; refine wp_app rfl (.tmp 164) (.tmp 173) rfl p7 [48 + (a : Int) / 10, 48 + (a : Int) % 10] (HB7.out.same (grown_new _ _)) HL7.out rfl 2 rfl rfl (src_two _ _ _ _) (by omega) ?_; intro w8 hb8 hg8)
          have HB8 := Hq0 hb8
          have HF : Hid (p7 ++ [48 + (a : Int) / 10, 48 + (a : Int) % 10] = sgL neg ++ dgL D nz ++ exL (dp - 1)) := by
            show _ = _
            unfold exL
            rw [HA.out, HCH.out, HP5.out, ← HP7.out, ← HP6.out]
            skip
            simp
          have hl8 : (p7 ++ [48 + (a : Int) / 10, 48 + (a : Int) % 10]).length = n5 + 1 + 1 + 2 := by rw [List.length_append, HL7.out]; rfl
          have HL8 := Hq0 hl8
          clear hb8 hg8 hl8 HB7
          go_ret
          exact ⟨_, rfl, by first | (rw [← HF.out]; exact HL8.out) | (rw [← List.append_assoc, ← HF.out]; exact HL8.out), by first | (rw [← HF.out]; exact HB8.out) | (rw [← List.append_assoc, ← HF.out]; exact HB8.out)⟩
end Go.Proofs.YtjcfacinlgogaaaGreatDoor
namespace Go.Proofs.YtjcfacinlgogaaaGreatDoor
open Go.RowKit
theorem run_b64 (x : Nat) (w : World) : (callFunc 205 #[.float .f64 x]).run Tryz.prog w = .ok (.value (.int .u64 x)) w := by
  rw [run_callFunc_extern (P := Tryz.prog) (f := 205) Tryz.func205 (by kernel_rfl) (by kernel_rfl) (by kernel_rfl) (e := Go.Extern.MathFloatBits.float64bits) (by kernel_rfl)]
  rfl
theorem and_exp (x : Nat) (h : x < 4096) : bits .and .i64 (x : Int) 2047 = ((x % 2048 : Nat) : Int) := by
  show IntKind.i64.wrap ((BitVec.ofInt 64 (x : Int) &&& BitVec.ofInt 64 ((2047 : Nat) : Int)).toNat : Int) = _
  rw [BitVec.toNat_and, ofInt_u64 x (by omega), ofInt_u64 2047 (by decide), show (2047 : Nat) = 2 ^ 11 - 1 from rfl, Nat.and_two_pow_sub_one_eq_mod, IntKind.wrap_i64]
  omega
theorem and_mant (x : Nat) (h : x < 18446744073709551616) : bits .and .u64 (x : Int) 4503599627370495 = ((x % 4503599627370496 : Nat) : Int) := by
  show IntKind.u64.wrap ((BitVec.ofInt 64 (x : Int) &&& BitVec.ofInt 64 ((4503599627370495 : Nat) : Int)).toNat : Int) = _
  rw [BitVec.toNat_and, ofInt_u64 x h, ofInt_u64 4503599627370495 (by decide), show (4503599627370495 : Nat) = 2 ^ 52 - 1 from rfl, Nat.and_two_pow_sub_one_eq_mod, IntKind.wrap_u64]
  have : x % 2 ^ 52 < 2 ^ 52 := Nat.mod_lt _ (by decide)
  omega
theorem or_mant (x : Nat) (h : x < 4503599627370496) : bits .or .u64 (x : Int) 4503599627370496 = ((4503599627370496 + x : Nat) : Int) := by
  show IntKind.u64.wrap ((BitVec.ofInt 64 (x : Int) ||| BitVec.ofInt 64 ((4503599627370496 : Nat) : Int)).toNat : Int) = _
  rw [BitVec.toNat_or, ofInt_u64 x (by omega), ofInt_u64 4503599627370496 (by decide), Nat.or_comm]
  have h2 : (2 ^ 52 : Nat) + x = 2 ^ 52 ||| x := by
    have := Nat.two_pow_add_eq_or_of_lt (i := 52) (b := x) (by omega) 1
    simpa using this
  rw [show (4503599627370496 : Nat) = 2 ^ 52 from rfl, ← h2, IntKind.wrap_u64]
  omega
theorem bits53 {M : Nat} (h : 4503599627370496 ≤ M) (h2 : M < 9007199254740992) : Lib.bitLen M = 53 := by
  obtain ⟨h5, h4, h3⟩ := Lib.bitLenAux_bounds 64 M (by omega) (by omega)
  unfold Lib.bitLen
  generalize Lib.bitLenAux 64 M = k at *
  have a1 : 52 < k := by
    rcases Nat.lt_or_ge 52 k with h | h
    · exact h
    · have := Nat.pow_le_pow_right (n := 2) (by decide) h
      omega
  have a2 : k - 1 < 53 := by
    rcases Nat.lt_or_ge (k - 1) 53 with h | h
    · exact h
    · have := Nat.pow_le_pow_right (n := 2) (by decide) h
      omega
  omega
theorem tab_keep {w w' : World} (g : w.grownBy w' none) (h : Lib.TabIs Tryz.prog w "internal/strconv.uint64pow10" .u64 Lib.pow10Tab) : Lib.TabIs Tryz.prog w' "internal/strconv.uint64pow10" .u64 Lib.pow10Tab := by
  have hg : Tryz.prog.globalNamed "internal/strconv.uint64pow10" = some 7 := by kernel_rfl
  unfold Lib.TabIs World.var? at *
  rw [hg] at h ⊢
  simp only [Option.bind_some] at h ⊢
  have hlt : 7 < w.heap.size := by
    rcases Nat.lt_or_ge 7 w.heap.size with h' | h'
    · exact h'
    · rw [Array.getElem?_eq_none h'] at h; cases h
  rw [g.block _ hlt (by simp)]
  exact h
theorem nd_le : ∀ (k u : Nat), u < 10 ^ (k + 1) → Go.Lib.nDigits u ≤ k + 1
  | 0, u, h => by rw [Go.Lib.nDigits_small (by simpa using h)]; exact Nat.le_refl _
  | k + 1, u, h => by
    by_cases h2 : u < 10
    · rw [Go.Lib.nDigits_small h2]; omega
    · rw [Go.Lib.nDigits_big h2]
      have := nd_le k (u / 10) (by rw [Nat.pow_succ] at h; omega)
      omega
theorem nd_of {d nd : Nat} (h1 : 1 ≤ d) (h2 : d < 1000000000000000000) (h : Go.Lib.nDigits d = nd) : d < 10 ^ nd ∧ nd ≤ 18 := by
  subst h
  refine ⟨Go.Lib.lt_pow_nDigits d, ?_⟩
  exact nd_le 17 d (by omega)
theorem BfT.now {w w' : World} {bd : Nat} {p : List Int} (h : BfT w w bd p) (g : w.grownBy w' none) : BfT w' w' bd p := by
  obtain ⟨⟨L, h1, h2, h3⟩, h4, _⟩ := h
  exact ⟨⟨L, h1, kpb g h2, h3⟩, h4, grown_refl _ _⟩
theorem BfT.from {w w' w2 : World} {bd : Nat} {p : List Int} (h : BfT w' w2 bd p) (g : w.grownBy w' none) : BfT w w2 bd p := by
  obtain ⟨h1, h4, h5⟩ := h
  exact ⟨h1, h4, grown_trans (grown_weak g) h5⟩
def fW (neg : Bool) (E F : Nat) : Nat := (if neg then 9223372036854775808 else 0) + E * 4503599627370496 + F
theorem ftoa64_any {w : World} {bd E F W m d nd : Nat} {neg : Bool} {e q : Int} (hW : fW neg E F = W) (hE : 1 ≤ E) (hE2 : E ≤ 2046) (hF : F < 4503599627370496) (hB : BfT w w bd []) (he : e = (E : Int) - 1086) (hm : (4503599627370496 + F) * 2048 = m)
    (hSF : ∀ wx, w.grownBy wx none → Calls Tryz.prog 218 #[.int .u64 (m : Nat), .int .i64 e] wx fun r w' => r = .returned (.tuple #[.int .u64 d, .int .i64 q]) ∧ wx.grownBy w' none)
    (hd0 : 1 ≤ d) (hd : d < 1000000000000000000) (hn : Go.Lib.nDigits d = nd) (hq : -98 ≤ (nd : Int) + q) (hq2 : (nd : Int) + q ≤ 99) (hT : Lib.TabIs Tryz.prog w "internal/strconv.uint64pow10" .u64 Lib.pow10Tab) :
    Calls Tryz.prog 174 #[.slice (some ⟨bd, 0, none⟩) 0 32, .float .f64 W, .int .u8 101, .int .i64 (-1)] w fun r w' => ∃ nz : Nat, nz ≤ nd ∧ 1 ≤ nz ∧ d % 10 ^ (nd - nz) = 0 ∧ d / 10 ^ (nd - nz) % 10 ≠ 0 ∧ FmtRes w bd (sgL neg ++ dgL (dgB d nd) nz ++ exL ((nd : Int) + q - 1)) r w' := by
  have hb := run_b64 W
  have x1 : W / 9223372036854775808 = (if neg then 1 else 0) := by rw [← hW]; unfold fW; split <;> omega
  have x2 : W / 4503599627370496 % 2048 = E := by rw [← hW]; unfold fW; split <;> omega
  have x3 : W % 4503599627370496 = F := by rw [← hW]; unfold fW; split <;> omega
  have x4 : W < 18446744073709551616 := by rw [← hW]; unfold fW; split <;> omega
  have HX4 := Hq0 x4
  have HE := Hq0 (And.intro (And.intro hE hE2) (And.intro hF he))
  have HB := Hq0 hB; have HS := Hq0 hSF; have HT := Hq0 hT
  have HD := Hq0 (And.intro (And.intro hd0 hd) (And.intro hn (And.intro hq hq2)))
  have X1 := Hq0 x1; have X2 := Hq0 x2; have X3 := Hq0 x3
  have Hm := Hq0 hm
  clear hm hW hE hE2 hF hB he hSF hd0 hd hn hq hq2 hT x1 x2 x3 x4
  go_enter Tryz.func174, Tryz.ntmps174
  go_upto_region 14 with (fail)
  have hneg : ((W : Int) / 9223372036854775808 != 0) = neg := by
    have h1 := X1.out
    cases neg
    · have h2 : (W : Int) / 9223372036854775808 = 0 := by simp at h1; omega
      rw [h2]; rfl
    · have h2 : (W : Int) / 9223372036854775808 = 1 := by simp at h1; omega
      rw [h2]; rfl
  rw [hneg]
  clear hneg
  have y1 : bits .and .i64 (wrap64 ((W : Int) / 4503599627370496)) 2047 = (E : Int) := by
    have h0 : wrap64 ((W : Int) / 4503599627370496) = ((W / 4503599627370496 : Nat) : Int) := by rw [← i64_left']; exact IntWalk.i64_in _ (by have := HX4.out; omega)
    rw [h0, and_exp _ (by have := HX4.out; omega), X2.out]
  go_region
  go_upto_region 16 with (fail)
  try rw [y1]
  have y2 : bits .and .u64 (W : Int) 4503599627370495 = (F : Int) := by rw [and_mant _ HX4.out, X3.out]
  rw [y2]
  have y3 : bits .or .u64 (F : Int) 4503599627370496 = ((4503599627370496 + F : Nat) : Int) := or_mant F HE.out.2.1
  clear y1 y2 hb
  have t1 : ((E : Int) == 2047) = false := by have := HE.out.1; simp; omega
  have t2 : ((E : Int) == 0) = false := by have := HE.out.1; simp; omega
  have t3 : wrap64 ((E : Int) + -1023) = e + 63 := by have := HE.out; rw [← i64_left', show (E : Int) + -1023 = e + 63 by omega]; exact IntWalk.i64_in _ (by omega)
  obtain ⟨M, hM⟩ : ∃ M, 4503599627370496 + F = M := ⟨_, rfl⟩
  rw [hM] at y3
  have HM := Hq0 hM
  have hMb : 4503599627370496 ≤ M ∧ M < 9007199254740992 := by have := HE.out.2.1; omega
  have t4 : ((M : Int) == 0) = false := by simp; omega
  clear hM
  go_upto_region 33 with (fail)
  try rw [t3]
  clear t1 t2 t3 t4
  have HLEN := Hq0 (fun wx => ((Tryz.bits_Len64 (M : Int) wx (by omega) (by omega)).mono fun r w' h => (show r = .returned (.int .i64 53) ∧ wx = w' from ⟨by rw [h.1, Int.toNat_natCast, bits53 hMb.1 hMb.2]; rfl, h.2.symm⟩)))
  have hnew : Hid ((w.alloc (.cells #[.int .u8 0, .int .u8 0, .int .u8 0, .int .u8 0, .int .u8 0, .int .u8 0, .int .u8 0, .int .u8 0, .int .u8 0, .int .u8 0, .int .u8 0, .int .u8 0, .int .u8 0, .int .u8 0, .int .u8 0, .int .u8 0, .int .u8 0, .int .u8 0, .int .u8 0, .int .u8 0, .int .u8 0, .int .u8 0, .int .u8 0, .int .u8 0, .int .u8 0, .int .u8 0, .int .u8 0, .int .u8 0, .int .u8 0, .int .u8 0, .int .u8 0, .int .u8 0] 130)).heap[w.heap.size]? = some (bf8 (List.replicate 32 0))) := heap_new w (bf8 (List.replicate 32 0))
  have hga : Hid (w.grownBy (w.alloc (.cells #[.int .u8 0, .int .u8 0, .int .u8 0, .int .u8 0, .int .u8 0, .int .u8 0, .int .u8 0, .int .u8 0, .int .u8 0, .int .u8 0, .int .u8 0, .int .u8 0, .int .u8 0, .int .u8 0, .int .u8 0, .int .u8 0, .int .u8 0, .int .u8 0, .int .u8 0, .int .u8 0, .int .u8 0, .int .u8 0, .int .u8 0, .int .u8 0, .int .u8 0, .int .u8 0, .int .u8 0, .int .u8 0, .int .u8 0, .int .u8 0, .int .u8 0, .int .u8 0] 130)) none) := Hq0 (grown_new w (bf8 (List.replicate 32 0)))
  go_upto_region 34 with (fail)
  generalize w.alloc (.cells #[.int .u8 0, .int .u8 0, .int .u8 0, .int .u8 0, .int .u8 0, .int .u8 0, .int .u8 0, .int .u8 0, .int .u8 0, .int .u8 0, .int .u8 0, .int .u8 0, .int .u8 0, .int .u8 0, .int .u8 0, .int .u8 0, .int .u8 0, .int .u8 0, .int .u8 0, .int .u8 0, .int .u8 0, .int .u8 0, .int .u8 0, .int .u8 0, .int .u8 0, .int .u8 0, .int .u8 0, .int .u8 0, .int .u8 0, .int .u8 0, .int .u8 0, .int .u8 0] 130) = W1 at *
  have hne : Hid (w.heap.size ≠ bd) := by
    obtain ⟨L, _, h, _⟩ := HB.out.here
    have h2 : bd < w.heap.size := (Array.getElem?_eq_some_iff.1 h).1
    show w.heap.size ≠ bd
    omega
  have hbn : Hid (w.heap.size ≤ w.heap.size) := Hq0 (Nat.le_refl _)
  obtain ⟨b, hbe⟩ : ∃ b, b = w.heap.size := ⟨_, rfl⟩
  rw [← hbe] at hnew hne ⊢
  have HBN : Hid (w.heap.size ≤ b) := Hq0 (by rw [hbe]; exact Nat.le_refl _)
  clear hbn hbe
  go_wp2_with (fail)
  refine (HLEN.out _).mono ?_
  rintro r w2 ⟨rfl, rfl⟩
  have m2 : wrap64 (e + 63 - 11) = e + 52 := by have := HE.out; rw [← i64_left', show e + 63 - 11 = e + 52 by omega]; exact IntWalk.i64_in _ (by omega)
  have m3 : wrap64 (e + 52 - 52) = e := by have := HE.out; rw [← i64_left', show e + 52 - 52 = e by omega]; exact IntWalk.i64_in _ (by omega)
  clear hMb
  go_upto_region 37 with (fail)
  have m1 : (M : Int) * 2048 = (m : Int) := by have h1 := HM.out; have h2 := Hm.out; omega
  rw [m1]
  have k1 : IntKind.u64.wrap (m : Int) = m := by have h2 := Hm.out; have := HE.out.2.1; rw [IntKind.wrap_u64]; omega
  have k2 : wrap64 e = e := by have := HE.out; rw [← i64_left']; exact IntWalk.i64_in _ (by omega)
  have HSS := Hq0 (HS.out W1.drew (grown_trans hga.out (grown_drew _)))
  clear m1
  go_wp2_with (fail)
  try rw [k1]
  try rw [k2]
  clear k1 k2
  refine HSS.out.mono ?_
  rintro r w3 ⟨rfl, g3⟩
  have G3 := Hq0 (grown_trans hga.out (grown_trans (grown_drew _) g3))
  have N3 := Hq0 (kpb (grown_trans (grown_drew _) g3) hnew.out)
  clear HSS g3 m2 m3
  go_upto_region 38 with (fail)
  generalize wrap64 (e + 63 - 11) = junk at *
  have HNUM : Hid (∀ wx, w.grownBy wx none → Calls Tryz.prog 212 #[.int .u64 (d : Nat)] wx fun r w' => r = .returned (.int .i64 (nd : Nat)) ∧ wx = w') := by
    intro wx g
    have h := HD.out
    refine (Tryz.internal_strconv_numDigits d h.1.1 (by omega) wx (tab_keep g HT.out)).mono ?_
    rintro r w' ⟨rfl, rfl⟩
    exact ⟨by rw [h.2.1], rfl⟩
  have HSET : Hid (∀ wx : World, wx.heap[b]? = some (bf8 (List.replicate 32 0)) → Calls Tryz.prog 211 #[.slice (some ⟨b, 0, none⟩) 32 32, .int .u64 (d : Nat), .int .i64 q, .int .i64 (nd : Nat)] wx fun r w' => ∃ nz : Nat, r = .returned (.tuple #[.int .i64 ((nd : Int) + q), .int .i64 (nz : Nat)]) ∧ nz ≤ nd ∧ 1 ≤ nz ∧ d % 10 ^ (nd - nz) = 0 ∧ d / 10 ^ (nd - nz) % 10 ≠ 0 ∧
      (∀ i, i < nd → w'.cell? ⟨b, i, none⟩ = some (.int .u8 (dgB d nd i))) ∧ wx.grownBy w' (some b)) := by
    intro wx hx
    have h := HD.out
    have hnd := nd_of h.1.1 h.1.2 h.2.1
    exact setDigits_any q (fun i hi => ⟨by rw [cell_bf8 hx i (by simpa using hi)]; rw [List.getElem?_replicate, if_pos hi]; rfl, frozen_bf8 hx i⟩) hnd.1 h.1.1 (by omega) (by omega) (by omega) (by omega)
  go_cut [22, 23] from 139 to 147 (fun s22 s23 wx => ∃ nz : Nat, s22 = .int .i64 ((nd : Int) + q) ∧ s23 = .int .i64 (nz : Nat) ∧ nz ≤ nd ∧ 1 ≤ nz ∧ d % 10 ^ (nd - nz) = 0 ∧ d / 10 ^ (nd - nz) % 10 ≠ 0 ∧
      (∀ i, i < nd → wx.cell? ⟨b, i, none⟩ = some (.int .u8 (dgB d nd i))) ∧ w.grownBy wx none)
  case first =>
    go_region_held3 (fun w' => w.grownBy w' none)
      (first | exact KM.out | exact G3.out | exact grown_trans G3.out (grown_drew _) | exact grown_trans G3.out (grown_drewN _ _))
      (first
        | (go_at_call 212; refine (HNUM.out _ (by first | exact G3.out | exact grown_trans G3.out (grown_drew _) | exact grown_trans G3.out (grown_drewN _ _))).mono ?_; rintro r wn ⟨rfl, rfl⟩)
        | (go_at_call 211; refine (HSET.out _ (by exact N3.out)).mono ?_; rintro r wz ⟨nz, rfl, z1, z2, z3, z4, z5, z6⟩; have KM : Hid (w.grownBy wz none) := Hq0 (grown_own (by first | exact G3.out | exact grown_trans G3.out (grown_drew _) | exact grown_trans G3.out (grown_drewN _ _)) z6 (.inr HBN.out)); have KZ := Hq0 (And.intro z1 (And.intro z2 (And.intro z3 (And.intro z4 z5)))); clear z1 z2 z3 z4 z5 z6))
    all_goals
      go_wp2_with (fail)
      go_meet
      case rel => exact ⟨nz, rfl, rfl, KZ.out.1, KZ.out.2.1, KZ.out.2.2.1, KZ.out.2.2.2.1, KZ.out.2.2.2.2, KM.out⟩
  case rest =>
    obtain ⟨nz, rfl, rfl, z1, z2, z3, z4, z5, gc⟩ := hcut
    have hz : nz ≤ 18 := by have h := HD.out; have := nd_of h.1.1 h.1.2 h.2.1; omega
    have HZ := Hq0 (And.intro z1 (And.intro z2 (And.intro z3 z4)))
    have FE := Hq0 (fmtE_any (D := dgB d nd) (neg := neg) (dp := (nd : Int) + q) (HB.out.now gc) (fun i hi => z5 i (by omega)) hne.out z2 hz (by have := HD.out; omega) (by have := HD.out; omega))
    have GC := Hq0 gc
    have e1 : wrap64 ((nz : Int) - 1) = (nz : Int) - 1 := by rw [← i64_left']; exact IntWalk.i64_in _ (by omega)
    clear z1 z3 z4 z5 gc
    have e2 : ¬ ((nz : Int) - 1 < 0) := by omega
    clear hz
    have e3 : max ((nz : Int) - 1) 0 = (nz : Int) - 1 := by omega
    go_wp2_with (fail)
    try rw [e3]
    refine FE.out.mono ?_
    rintro r w4 ⟨n, rfl, hl, hB4⟩
    have HL := Hq0 hl
    have HB4 := Hq0 (hB4.from GC.out)
    clear hl hB4 FE
    go_wp2
    go_ret
    exact ⟨nz, HZ.out.1, HZ.out.2.1, HZ.out.2.2.1, HZ.out.2.2.2, n, rfl, HL.out, HB4.out⟩
theorem appendFloat_any {w : World} {bd W : Nat} {Q : Ending → World → Prop} (h : Calls Tryz.prog 174 #[.slice (some ⟨bd, 0, none⟩) 0 32, .float .f64 W, .int .u8 101, .int .i64 (-1)] w fun r w' => ∃ n, r = .returned (.slice (some ⟨bd, 0, none⟩) n 32) ∧ Q r w') :
    Calls Tryz.prog 123 #[.slice (some ⟨bd, 0, none⟩) 0 32, .float .f64 W, .int .u8 101, .int .i64 (-1), .int .i64 64] w Q := by
  have H := Hq0 h
  clear h
  have h2 : Hid (Calls Tryz.prog 144 #[.slice (some ⟨bd, 0, none⟩) 0 32, .float .f64 W, .int .u8 101, .int .i64 (-1), .int .i64 64] w fun r w' => ∃ n, r = .returned (.slice (some ⟨bd, 0, none⟩) n 32) ∧ Q r w') := by
    show Calls _ _ _ _ _
    go_enter Tryz.func144, Tryz.ntmps144
    go_wp2_with (fail)
    refine H.out.mono ?_
    rintro r w1 ⟨n, rfl, hq⟩
    have HQ := Hq0 hq
    clear hq
    go_wp2
    go_ret
    exact ⟨n, rfl, HQ.out⟩
  clear H
  go_enter Tryz.func123, Tryz.ntmps123
  go_wp2_with (fail)
  refine h2.out.mono ?_
  rintro r w1 ⟨n, rfl, hq⟩
  have HQ := Hq0 hq
  clear hq
  go_wp2
  exact HQ.out
end Go.Proofs.YtjcfacinlgogaaaGreatDoor
