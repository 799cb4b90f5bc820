/- The decimal in the laws' own form, to the law's other form. A fixed decimal in the laws' own form. -/
import Derived.Test.YtndphemomhcjlaaGreatDoorQ25
set_option linter.all false

namespace Go.Proofs.YtndphemomhcjlaaGreatDoor
open Go.RowKit

def plainV (neg : Bool) (v : Value) (e : Int) : Value := .agg #[.bool neg, v, .int .i64 e]
@[reducible] def DoP (w : World) (b : Nat) (neg : Bool) (v : Value) (x : Int) (w' : World) : Prop := w.grownBy w' none ∧ w'.cell? ⟨b, 0, none⟩ = some (.bool neg) ∧ w'.cell? ⟨b, 1, none⟩ = some v ∧ w'.cell? ⟨b, 2, none⟩ = some (.int .i64 x)
theorem doS {w w' : World} {b : Nat} {neg : Bool} {v : Value} {x : Int} (h : w'.heap[b]? = some (.cells #[.bool neg, v, .int .i64 x] 39)) (g : w.grownBy w' none) : DoP w b neg v x w' := by
  refine ⟨g, ?_, ?_, ?_⟩
  all_goals (unfold World.cell?; rw [h]; rfl)
theorem doT {w w' : World} {b : Nat} {neg : Bool} {v : Value} {x : Int} (h : w'.heap[b]? = some (.cells #[.bool neg, v, .int .i64 x] 39)) (g : w.grownBy w' none) (hb : w.heap.size ≤ b) (u u2 : Value) : DoP w b neg v x ((w'.setCell ⟨b + 1, 0, none⟩ u).setCell ⟨b + 1, 1, none⟩ u2) := by
  refine doS ?_ (gset (by omega) _ _ (gset (by omega) _ _ g))
  rw [Below.heap_setCell _ _ _ _ (by show b ≠ b + 1; omega), Below.heap_setCell _ _ _ _ (by show b ≠ b + 1; omega)]; exact h
theorem doO {w' : World} {b : Nat} (h : w'.heap[b]? = some (.cells #[.string { data := #[] }, .int .i64 0] 26)) : w'.cell? ⟨b, 0, none⟩ = some (.string { data := #[] }) ∧ w'.cell? ⟨b, 1, none⟩ = some (.int .i64 0) ∧ w'.frozen? ⟨b, 0, none⟩ = false ∧ w'.frozen? ⟨b, 1, none⟩ = false := by
  refine ⟨?_, ?_, ?_, ?_⟩ <;> simp [World.cell?, World.frozen?, h]
def DoRes (w : World) (neg : Bool) (c : Nat) (x : Int) (e : Ending) (w' : World) : Prop :=
  ∃ s m, e = .returned (.agg #[.string s, .int .i64 x]) ∧ IsTxt s neg c 0 m ∧ ((c = 0 ∧ m = 1) ∨ 10 ^ (m - 1) ≤ c) ∧ w.grownBy w' none

set_option maxHeartbeats 2000000 in
set_option maxRecDepth 100000 in
theorem decOf_any {w : World} {base c t : Nat} {v : Value} (neg : Bool) (x : Int) (h : NatOf w base v c t) (hc : c < 18446744073709551616) : Calls Tryz.prog 8 #[plainV neg v x] w fun e w' => DoRes w neg c x e w' := by
  obtain ⟨a, cap, rfl, hac⟩ := h.own.slice
  have HWS := Lib.hid (fun w' (g : w.grownBy w' none) => wholeString_any neg (h.same g) hc)
  clear h hac hc
  unfold wholeV at HWS
  unfold plainV
  go_enter Tryz.func8, Tryz.ntmps8
  go_upto_region 1 with (fail)
  obtain ⟨W0, hW0⟩ : ∃ W0, W0 = (w.alloc (.cells #[.bool neg, .slice a t cap, .int .i64 x] 39)).alloc (.cells #[.string { data := #[] }, .int .i64 0] 26) := ⟨_, rfl⟩
  rw [← hW0]
  have g0 : w.grownBy W0 none := by rw [hW0]; exact grown_trans (grown_new _ _) (grown_new _ _)
  have hx : W0.heap[w.heap.size]? = some (.cells #[.bool neg, .slice a t cap, .int .i64 x] 39) := by rw [hW0]; exact keepb (grown_new _ _) (heap_new _ _)
  have hs := size_alloc w (.cells #[.bool neg, .slice a t cap, .int .i64 x] 39)
  have ho : W0.heap[w.heap.size + 1]? = some (.cells #[.string { data := #[] }, .int .i64 0] 26) := by rw [hW0, ← hs]; exact heap_new _ _
  have HX := Lib.hid hx; have HO := Lib.hid ho; have G0 := Lib.hid g0
  have E := Lib.hid (doS hx g0)
  have ED := Lib.hid (doS (keepb (grown_drew W0) hx) (grown_trans g0 (grown_drew W0)))
  clear hW0 hx hs ho g0
  go_region_held3 (fun w' => DoP w w.heap.size neg (.slice a t cap) x w')
    (first | exact KV.out | exact E.out | exact ED.out | exact doT KB.out KV.out.1 (Nat.le_refl _) _ _)
    (first
      | (go_at_call 18; refine (HWS.out _ (by first | exact E.out.1 | exact ED.out.1)).mono ?_; rintro r wv ⟨s, m, rfl, ht, hn, gv⟩; have KB := Lib.hid (keepb gv (by first | exact HX.out | exact keepb (grown_drew _) HX.out)); have KV := Lib.hid (doS KB.out (grown_trans (by first | exact E.out.1 | exact ED.out.1) gv)); obtain ⟨o0, o1, o2, o3⟩ := doO (keepb gv (by first | exact HO.out | exact keepb (grown_drew _) HO.out)); have HT := Lib.hid ht; have HN := Lib.hid hn; have GV := Lib.hid gv; have HOV := Lib.hid (keepb gv (by first | exact HO.out | exact keepb (grown_drew _) HO.out)); clear ht hn gv))
  all_goals
    go_wp2_with (fail)
    refine bodyPost_ret (v := .agg #[.string s, .int .i64 x]) (by simp [results, Tryz.func8, go_sem, o0, o1]; try rfl) rfl ?_
    exact ⟨s, m, rfl, HT.out, HN.out, gset (by omega) _ _ (gset (by omega) _ _ KV.out.1)⟩
end Go.Proofs.YtndphemomhcjlaaGreatDoor

namespace Go.Proofs.YtndphemomhcjlaaGreatDoor
open Go.RowKit

@[reducible] def FoP (w : World) (b : Nat) (neg : Bool) (c : Nat) (x : Int) (w' : World) : Prop := w.grownBy w' none ∧ w'.cell? ⟨b, 0, none⟩ = some (.bool neg) ∧ w'.cell? ⟨b, 1, none⟩ = some (.int .u64 c) ∧ w'.cell? ⟨b, 2, none⟩ = some (.int .i64 x) ∧ w'.heap[b + 1]? = some (.cells #[.bool false, .slice none 0 0, .int .i64 0] 39)
theorem foS {w w' : World} {b : Nat} {neg : Bool} {c : Nat} {x : Int} (h : w'.heap[b]? = some (.cells #[.bool neg, .int .u64 c, .int .i64 x] 24)) (g : w.grownBy w' none) (ho : w'.heap[b + 1]? = some (.cells #[.bool false, .slice none 0 0, .int .i64 0] 39)) : FoP w b neg c x w' := by
  refine ⟨g, ?_, ?_, ?_, ho⟩
  all_goals (unfold World.cell?; rw [h]; rfl)
theorem dcK {w : World} {b : Nat} {P : Prop} (h : w.heap[b]? = some (.cells #[.bool false, .slice none 0 0, .int .i64 0] 39)) (k : w.cell? ⟨b, 0, none⟩ = some (.bool false) → w.cell? ⟨b, 1, none⟩ = some (.slice none 0 0) → w.cell? ⟨b, 2, none⟩ = some (.int .i64 0) → w.frozen? ⟨b, 0, none⟩ = false → w.frozen? ⟨b, 1, none⟩ = false → w.frozen? ⟨b, 2, none⟩ = false → P) : P := by
  apply k <;> simp [World.cell?, World.frozen?, h]
theorem NatOf.off {w : World} {b x : Nat} {v : Value} {c t : Nat} {cs : Array Value} (h : NatOf w b v c t) (ho : w.heap[x]? = some (.cells cs 39)) : v.ownBlock ≠ some x := by
  intro hx
  rcases h.own.2 with ⟨rfl, _⟩ | ⟨g, cap, cur, rfl, _, hg, _⟩
  · simp [Value.ownBlock] at hx
  · simp [Value.ownBlock] at hx
    subst hx
    rw [ho] at hg
    simp at hg
theorem whCells {w : World} {b : Nat} (h : w.heap[b]? = some (.cells #[.bool false, .slice none 0 0] 37)) : w.cell? ⟨b, 0, none⟩ = some (.bool false) ∧ w.cell? ⟨b, 1, none⟩ = some (.slice none 0 0) ∧ w.frozen? ⟨b, 0, none⟩ = false ∧ w.frozen? ⟨b, 1, none⟩ = false := by
  refine ⟨?_, ?_, ?_, ?_⟩ <;> simp [World.cell?, World.frozen?, h]
theorem whK {w : World} {b : Nat} {P : Prop} (h : w.heap[b]? = some (.cells #[.bool false, .slice none 0 0] 37)) (k : w.cell? ⟨b, 0, none⟩ = some (.bool false) → w.cell? ⟨b, 1, none⟩ = some (.slice none 0 0) → w.frozen? ⟨b, 0, none⟩ = false → w.frozen? ⟨b, 1, none⟩ = false → P) : P := by
  obtain ⟨h0, h1, h2, h3⟩ := whCells h
  exact k h0 h1 h2 h3
theorem foSet {w w' : World} {neg : Bool} {c y : Nat} {x : Int} (h : FoP w w.heap.size neg c x w') (hy : w.heap.size + 2 ≤ y) (u u2 : Value) : FoP w w.heap.size neg c x ((w'.setCell ⟨y, 0, none⟩ u).setCell ⟨y, 1, none⟩ u2) := by
  have e : ((w'.setCell ⟨y, 0, none⟩ u).setCell ⟨y, 1, none⟩ u2).heap[w.heap.size]? = w'.heap[w.heap.size]? := by
    rw [Below.heap_setCell _ _ _ _ (by show w.heap.size ≠ y; omega), Below.heap_setCell _ _ _ _ (by show w.heap.size ≠ y; omega)]
  exact ⟨gset (by omega) _ _ (gset (by omega) _ _ h.1), by rw [World.cell?_of_block e]; exact h.2.1, by rw [World.cell?_of_block e]; exact h.2.2.1, by rw [World.cell?_of_block e]; exact h.2.2.2.1, by rw [Below.heap_setCell _ _ _ _ (by show w.heap.size + 1 ≠ y; omega), Below.heap_setCell _ _ _ _ (by show w.heap.size + 1 ≠ y; omega)]; exact h.2.2.2.2⟩
theorem foKeep {w w' w'' : World} {b : Nat} {neg : Bool} {c : Nat} {x : Int} (h : FoP w b neg c x w') (g : w'.grownBy w'' none) : FoP w b neg c x w'' := ⟨grown_trans h.1 g, keepc g h.2.1, keepc g h.2.2.1, keepc g h.2.2.2.1, keepb g h.2.2.2.2⟩

theorem NatOf.base {w : World} {b b2 : Nat} {v : Value} {c t : Nat} (h : NatOf w b v c t) (hb : b2 ≤ b) : NatOf w b2 v c t := by
  refine ⟨⟨h.own.1, ?_⟩, h.lt, h.top⟩
  rcases h.own.2 with e | ⟨g, cap, cur, h1, h2, h3⟩
  · exact .inl e
  · exact .inr ⟨g, cap, cur, h1, Nat.le_trans hb h2, h3⟩
theorem NatOf.set {w : World} {b y : Nat} {v : Value} {c t : Nat} (h : NatOf w b v c t) (hy : v.ownBlock ≠ some y) (o : Nat) (u : Value) : NatOf (w.setCell ⟨y, o, none⟩ u) b v c t :=
  ⟨h.own.kept (grown_setb (grown_refl w (some y)) o u) (.inr hy), h.lt, h.top⟩
def OfMid (w : World) (ng neg : Bool) (c : Nat) (x : Int) (s4 : Value) (wx : World) : Prop :=
  ∃ y v t, s4 = .pointer (some ⟨y, 0, none⟩) ∧ w.heap.size + 2 ≤ y ∧ wx.cell? ⟨y, 0, none⟩ = some (.bool ng) ∧ wx.cell? ⟨y, 1, none⟩ = some v ∧ NatOf wx w.heap.size v c t ∧ FoP w w.heap.size neg c x wx
theorem midA {w ww : World} {ng neg : Bool} {c t : Nat} {x : Int} {v : Value} (h : NatOf ww w.heap.size v c t) (k : FoP w w.heap.size neg c x ww) (hs : w.heap.size + 2 ≤ ww.heap.size) : OfMid w ng neg c x (.pointer (some ⟨ww.heap.size, 0, none⟩)) (ww.alloc (.cells #[.bool ng, v] 37)) := by
  refine ⟨_, v, t, rfl, hs, ?_, ?_, h.same (grown_new _ _), foKeep k (grown_new _ _)⟩ <;> (unfold World.cell?; rw [heap_new]; rfl)
theorem midB {w ww : World} {ng neg : Bool} {c t y : Nat} {x : Int} {v : Value} (h : NatOf ww w.heap.size v c t) (k : FoP w w.heap.size neg c x ww) (hs : w.heap.size + 2 ≤ y) (hv : v.ownBlock ≠ some y) (hy : ww.heap[y]? = some (.cells #[.bool false, .slice none 0 0] 37)) : OfMid w ng neg c x (.pointer (some ⟨y, 0, none⟩)) ((ww.setCell ⟨y, 0, none⟩ (.bool ng)).setCell ⟨y, 1, none⟩ v) := by
  refine ⟨_, v, t, rfl, hs, ?_, ?_, (h.set hv _ _).set hv _ _, foSet k hs _ _⟩ <;> simp [World.cell?, World.setCell, Array.getElem?_modify, hy]

@[reducible] def OfS (w : World) (y : Nat) (ng : Bool) (v : Value) (x : Int) (w' : World) : Prop := w.grownBy w' none ∧ w'.cell? ⟨w.heap.size, 2, none⟩ = some (.int .i64 x) ∧ w'.cell? ⟨y, 0, none⟩ = some (.bool ng) ∧ w'.cell? ⟨y, 1, none⟩ = some v
theorem ofKeep {w w' w'' : World} {y : Nat} {ng : Bool} {v : Value} {x : Int} (h : OfS w y ng v x w') (g : w'.grownBy w'' none) : OfS w y ng v x w'' := ⟨grown_trans h.1 g, keepc g h.2.1, keepc g h.2.2.1, keepc g h.2.2.2⟩
theorem ofSet {w w' : World} {y : Nat} {ng : Bool} {v : Value} {x : Int} (h : OfS w y ng v x w') (hy : w.heap.size + 2 ≤ y) (u0 u1 u2 : Value) : OfS w y ng v x (((w'.setCell ⟨w.heap.size + 1, 0, none⟩ u0).setCell ⟨w.heap.size + 1, 1, none⟩ u1).setCell ⟨w.heap.size + 1, 2, none⟩ u2) := by
  have e : ∀ b, b ≠ w.heap.size + 1 → (((w'.setCell ⟨w.heap.size + 1, 0, none⟩ u0).setCell ⟨w.heap.size + 1, 1, none⟩ u1).setCell ⟨w.heap.size + 1, 2, none⟩ u2).heap[b]? = w'.heap[b]? := fun b hb => by
    rw [Below.heap_setCell _ _ _ _ hb, Below.heap_setCell _ _ _ _ hb, Below.heap_setCell _ _ _ _ hb]
  exact ⟨gset (by omega) _ _ (gset (by omega) _ _ (gset (by omega) _ _ h.1)), by rw [World.cell?_of_block (e _ (by show w.heap.size ≠ _; omega))]; exact h.2.1, by rw [World.cell?_of_block (e _ (by show y ≠ _; omega))]; exact h.2.2.1, by rw [World.cell?_of_block (e _ (by show y ≠ _; omega))]; exact h.2.2.2⟩

/-- an operation is taken first, its slot named -/
theorem takeD {P : Program} {md : Region.Mode} {ops : Array Oper} {Q : Exit → Act → World → Prop} {S : World → Prop} {i : Nat} {oi : Oper} {dst : Option Tmp} {v : Value} {fuel : Nat} {listed : Array Bool} {a : Act} {w : World} (hi : ops[i]? = some oi) (hd : oi.dst = dst)
    (hs : Region.noSelect ops = true) (hf : Region.free md ops listed i = true) (hr : (Region.ready md ops listed).contains i = true)
    (hQ : ∀ c a w, Q (.panic c) (a.put oi.dst v) w → Q (.panic c) a w) (hy : YieldsIf P ops S oi v a) (hS : S w)
    (h : wpAnyH P md ops Q S fuel (listed.setIfInBounds i true) (a.put dst v) w) : wpAnyH P md ops Q S (fuel + 1) listed a w := by
  subst hd
  exact wpAnyH_take hi hs hf hr hQ hy hS h
set_option maxHeartbeats 2000000 in
set_option maxRecDepth 100000 in
theorem ofFix_any (neg : Bool) (c : Nat) (x : Int) (w : World) (hc : c < 18446744073709551616) : Calls Tryz.prog 7 #[.agg #[.bool neg, .int .u64 c, .int .i64 x]] w fun e w' => ∃ v t, e = .returned (.tuple #[plainV (neg && !decide (c = 0)) v (IntKind.i64.wrap (-x)), .bool (decide (c < 10000000000000000000) && (decide (0 ≤ x) && decide (x ≤ 19)))]) ∧ NatOf w' w.heap.size v c t ∧ w.grownBy w' none := by
  have HC := Lib.hid hc
  have HNF := Lib.hid (fun w => NatFrom_any c w hc)
  have HWO := Lib.hid (fun (w : World) base t v (h : NatOf w base v c t) => wholeOf_any neg h)
  generalize (neg && !decide (c = 0)) = ng at *
  clear hc
  go_enter Tryz.func7, Tryz.ntmps7
  go_upto_region 1 with (fail)
  obtain ⟨W0, hW0⟩ : ∃ W0, W0 = (w.alloc (.cells #[.bool neg, .int .u64 c, .int .i64 x] 24)).alloc (.cells #[.bool false, .slice none 0 0, .int .i64 0] 39) := ⟨_, rfl⟩
  rw [← hW0]
  have g0 : w.grownBy W0 none := by rw [hW0]; exact grown_trans (grown_new _ _) (grown_new _ _)
  have hx : W0.heap[w.heap.size]? = some (.cells #[.bool neg, .int .u64 c, .int .i64 x] 24) := by rw [hW0]; exact keepb (grown_new _ _) (heap_new _ _)
  have hs := size_alloc w (.cells #[.bool neg, .int .u64 c, .int .i64 x] 24)
  have ho : W0.heap[w.heap.size + 1]? = some (.cells #[.bool false, .slice none 0 0, .int .i64 0] 39) := by rw [hW0, ← hs]; exact heap_new _ _
  have HX := Lib.hid hx; have HO := Lib.hid ho; have G0 := Lib.hid g0
  have E := Lib.hid (foS hx g0 ho)
  have ED := Lib.hid (foS (keepb (grown_drew W0) hx) (grown_trans g0 (grown_drew W0)) (keepb (grown_drew W0) ho))
  have HS : Hid (w.heap.size + 2 ≤ W0.heap.size) := by rw [hW0, size_alloc, size_alloc]; exact Nat.le_refl _
  clear hW0 hx hs ho g0
  unfold NfRes at HNF
  go_cut [4] from 5 to 10 (fun s4 wx => OfMid w ng neg c x s4 wx)
  case rest =>
    obtain ⟨y, v, t, rfl, hy, y0, y1, hn, hF⟩ := hcut
    obtain ⟨a, cap, rfl, hac⟩ := hn.own.slice
    clear hac
    have HDG := Lib.hid (fun w' (g : wc.grownBy w' none) => digits_any (hn.same g) HC.out)
    have HNC := Lib.hid hn; have HF := Lib.hid hF
    have e2 := hF.2.2.2.1
    have EE : Hid (OfS w y ng (.slice a t cap) x wc) := ⟨hF.1, e2, y0, y1⟩
    clear hn hF HWO HNF E ED HX HO G0 HS
    unfold DgRes at HDG
    go_upto_region 2 with (fail)
    by_cases hc19 : c < 10000000000000000000
    · have HX1 := Lib.hid hc19
      clear hc19
      by_cases hx0 : (0 : Int) ≤ x
      · by_cases hx1 : x ≤ 19
        · have HX2 := Lib.hid (show 0 ≤ x ∧ x ≤ 19 from ⟨hx0, hx1⟩)
          (first | go_region_held3 (fun w' => OfS w y ng (.slice a t cap) x w')
            (first | exact KD.out | exact EE.out | exact ofKeep EE.out (grown_drew _) | exact ofKeep (by assumption) (grown_drew _) | exact ofSet KD.out hy _ _ _)
            (first
              | (go_at_call 17; refine (HDG.out _ (by first | exact grown_refl _ _ | exact grown_drew _)).mono ?_; rintro r wd ⟨d, rfl, hd, hd20, gd⟩; have d1 : (d : Int) ≤ 19 := (by have := hd; have := HX1.out; omega); have KD := Lib.hid (ofKeep (by first | assumption | exact EE.out) gd); have GD := Lib.hid gd; have HND : Hid (NatOf wd w.heap.size (.slice a t cap) c t) := (by first | exact HNC.out.same gd | exact HNC.out.same (grown_trans (grown_drew _) gd)); (first | (refine dcK (keepb gd HF.out.2.2.2.2) ?_) | (refine dcK (keepb gd (keepb (grown_drew _) HF.out.2.2.2.2)) ?_)); intro o0 o1 o2 o3 o4 o5; have HOD : Hid ((.slice a t cap : Value).ownBlock ≠ some (w.heap.size + 1)) := (HNC.out.off HF.out.2.2.2.2); clear hd hd20 gd)) | fail)
          all_goals
            go_wp2_with (fail)
            refine bodyPost_ret (v := .tuple #[.agg #[.bool ng, .slice a t cap, .int .i64 (IntKind.i64.wrap (-x))], .bool true]) (by simp [results, Tryz.func7, go_sem, o0, o1, o2]; try omega) rfl ?_
            exact ⟨.slice a t cap, t, by simp only [plainV]; congr 4; have h1 := HX1.out; have h2 := HX2.out; simp; omega, ((HND.out.set HOD.out _ _).set HOD.out _ _).set HOD.out _ _, gset (by omega) _ _ (gset (by omega) _ _ (gset (by omega) _ _ KD.out.1))⟩
        · have HX2 := Lib.hid hx1
          (first | go_region_held3 (fun w' => OfS w y ng (.slice a t cap) x w')
            (first | exact KD.out | exact EE.out | exact ofKeep EE.out (grown_drew _) | exact ofKeep (by assumption) (grown_drew _) | exact ofSet KD.out hy _ _ _)
            (first
              | (go_at_call 17; refine (HDG.out _ (by first | exact grown_refl _ _ | exact grown_drew _)).mono ?_; rintro r wd ⟨d, rfl, hd, hd20, gd⟩; have d1 : (d : Int) ≤ 19 := (by have := hd; have := HX1.out; omega); have KD := Lib.hid (ofKeep (by first | assumption | exact EE.out) gd); have GD := Lib.hid gd; have HND : Hid (NatOf wd w.heap.size (.slice a t cap) c t) := (by first | exact HNC.out.same gd | exact HNC.out.same (grown_trans (grown_drew _) gd)); (first | (refine dcK (keepb gd HF.out.2.2.2.2) ?_) | (refine dcK (keepb gd (keepb (grown_drew _) HF.out.2.2.2.2)) ?_)); intro o0 o1 o2 o3 o4 o5; have HOD : Hid ((.slice a t cap : Value).ownBlock ≠ some (w.heap.size + 1)) := (HNC.out.off HF.out.2.2.2.2); clear hd hd20 gd)) | fail)
          all_goals
            go_wp2_with (fail)
            refine bodyPost_ret (v := .tuple #[.agg #[.bool ng, .slice a t cap, .int .i64 (IntKind.i64.wrap (-x))], .bool false]) (by simp [results, Tryz.func7, go_sem, o0, o1, o2]; try omega) rfl ?_
            exact ⟨.slice a t cap, t, by simp only [plainV]; congr 4; have h1 := HX1.out; have h2 := HX2.out; simp; omega, ((HND.out.set HOD.out _ _).set HOD.out _ _).set HOD.out _ _, gset (by omega) _ _ (gset (by omega) _ _ (gset (by omega) _ _ KD.out.1))⟩
      · have HX2 := Lib.hid hx0
        have hg0 : decide ((0 : Int) ≤ x) = false := decide_eq_false hx0
        have hg1 : x < 0 := by omega
        clear hx0
        refine wp_region_held_drew (S := (fun w' => OfS w y ng (.slice a t cap) x w')) (by kernel_rfl) ?_ (fun hHeld => ?_)
        · (first | exact KD.out | exact EE.out | exact ofKeep EE.out (grown_drew _) | exact ofKeep (by assumption) (grown_drew _) | exact ofSet KD.out hy _ _ _)
        refine takeD (dst := some 11) (v := ?_) (i := 0) rfl rfl (by kernel_rfl) (by kernel_rfl) (by kernel_rfl) (fun _ _ _ h => h) (Or.inl ⟨by rfl, ?_⟩) (by assumption) ?_
        rotate_left
        · (intro w hSw; (try dsimp only at hSw); go_simp; try with_reducible rfl)
        try simp only [Act.put, List.setIfInBounds_toArray, List.set_cons_zero, List.set_cons_succ]
        refine takeD (dst := some 12) (v := ?_) (i := 1) rfl rfl (by kernel_rfl) (by kernel_rfl) (by kernel_rfl) (fun _ _ _ h => h) (Or.inl ⟨by rfl, ?_⟩) (by assumption) ?_
        rotate_left
        · (intro w hSw; (try dsimp only at hSw); go_simp; try with_reducible rfl)
        try simp only [Act.put, List.setIfInBounds_toArray, List.set_cons_zero, List.set_cons_succ]
        refine takeD (dst := some 13) (v := ?_) (i := 2) rfl rfl (by kernel_rfl) (by kernel_rfl) (by kernel_rfl) (fun _ _ _ h => h) (Or.inl ⟨by rfl, ?_⟩) (by assumption) ?_
        rotate_left
        · (intro w hSw; (try dsimp only at hSw); go_simp; try with_reducible rfl)
        try simp only [Act.put, List.setIfInBounds_toArray, List.set_cons_zero, List.set_cons_succ]
        refine takeD (dst := some 14) (v := ?_) (i := 3) rfl rfl (by kernel_rfl) (by kernel_rfl) (by kernel_rfl) (fun _ _ _ h => h) (Or.inl ⟨by rfl, ?_⟩) (by assumption) ?_
        rotate_left
        · (intro w hSw; (try dsimp only at hSw); go_simp; try with_reducible rfl)
        try simp only [Act.put, List.setIfInBounds_toArray, List.set_cons_zero, List.set_cons_succ]
        refine takeD (dst := some 15) (v := ?_) (i := 4) rfl rfl (by kernel_rfl) (by kernel_rfl) (by kernel_rfl) (fun _ _ _ h => h) (Or.inl ⟨by rfl, ?_⟩) (by assumption) ?_
        rotate_left
        · (intro w hSw; (try dsimp only at hSw); go_simp; try with_reducible rfl)
        try simp only [Act.put, List.setIfInBounds_toArray, List.set_cons_zero, List.set_cons_succ]
        refine takeD (dst := some 16) (v := ?_) (i := 5) rfl rfl (by kernel_rfl) (by kernel_rfl) (by kernel_rfl) (fun _ _ _ h => h) (Or.inl ⟨by rfl, ?_⟩) (by assumption) ?_
        rotate_left
        · (intro w hSw; (try dsimp only at hSw); go_simp; try with_reducible rfl)
        try simp only [Act.put, List.setIfInBounds_toArray, List.set_cons_zero, List.set_cons_succ]
        refine takeD (dst := some 17) (v := ?_) (i := 6) rfl rfl (by kernel_rfl) (by kernel_rfl) (by kernel_rfl) (fun _ _ _ h => h) (Or.inl ⟨by rfl, ?_⟩) (by assumption) ?_
        rotate_left
        · (intro w hSw; (try dsimp only at hSw); go_simp; try with_reducible rfl)
        try simp only [Act.put, List.setIfInBounds_toArray, List.set_cons_zero, List.set_cons_succ]
        refine wpAnyH_ready (rs := [7]) (by kernel_rfl) (by simp) ?_
        refine AllReadyH.cons rfl (fun K hK => ?_) AllReadyH.nil
        go_simp
        (go_at_call 17; refine (HDG.out _ (by first | exact grown_refl _ _ | exact grown_drew _)).mono ?_; rintro r wd ⟨d, rfl, hd, hd20, gd⟩; have d1 : (d : Int) ≤ 19 := (by have := hd; have := HX1.out; omega); have KD := Lib.hid (ofKeep (by first | assumption | exact EE.out) gd); have GD := Lib.hid gd; have HND : Hid (NatOf wd w.heap.size (.slice a t cap) c t) := (by first | exact HNC.out.same gd | exact HNC.out.same (grown_trans (grown_drew _) gd)); (first | (refine dcK (keepb gd HF.out.2.2.2.2) ?_) | (refine dcK (keepb gd (keepb (grown_drew _) HF.out.2.2.2.2)) ?_)); intro o0 o1 o2 o3 o4 o5; have HOD : Hid ((.slice a t cap : Value).ownBlock ≠ some (w.heap.size + 1)) := (HNC.out.off HF.out.2.2.2.2); clear hd hd20 gd)
        refine hK.out _ _ ?_ (fun hHeld => ?_)
        · (first | exact KD.out | exact EE.out | exact ofKeep EE.out (grown_drew _) | exact ofKeep (by assumption) (grown_drew _) | exact ofSet KD.out hy _ _ _)
        clear hK K
        try simp only [Act.put, List.setIfInBounds_toArray, List.set_cons_zero, List.set_cons_succ]
        refine takeD (dst := some 19) (v := ?_) (i := 8) rfl rfl (by kernel_rfl) (by kernel_rfl) (by kernel_rfl) (fun _ _ _ h => h) (Or.inl ⟨by rfl, ?_⟩) (by assumption) ?_
        rotate_left
        · (intro w hSw; (try dsimp only at hSw); go_simp; try with_reducible rfl)
        try simp only [Act.put, List.setIfInBounds_toArray, List.set_cons_zero, List.set_cons_succ]
        refine takeD (dst := some 20) (v := ?_) (i := 9) rfl rfl (by kernel_rfl) (by kernel_rfl) (by kernel_rfl) (fun _ _ _ h => h) (Or.inl ⟨by rfl, ?_⟩) (by assumption) ?_
        rotate_left
        · (intro w hSw; (try dsimp only at hSw); go_simp; try with_reducible rfl)
        try simp only [Act.put, List.setIfInBounds_toArray, List.set_cons_zero, List.set_cons_succ]
        refine takeD (dst := some 21) (v := ?_) (i := 10) rfl rfl (by kernel_rfl) (by kernel_rfl) (by kernel_rfl) (fun _ _ _ h => h) (Or.inl ⟨by rfl, ?_⟩) (by assumption) ?_
        rotate_left
        · (intro w hSw; (try dsimp only at hSw); go_simp; try with_reducible rfl)
        try simp only [Act.put, List.setIfInBounds_toArray, List.set_cons_zero, List.set_cons_succ]
        refine takeD (dst := some 22) (v := ?_) (i := 11) rfl rfl (by kernel_rfl) (by kernel_rfl) (by kernel_rfl) (fun _ _ _ h => h) (Or.inl ⟨by rfl, ?_⟩) (by assumption) ?_
        rotate_left
        · (intro w hSw; (try dsimp only at hSw); go_simp; try with_reducible rfl)
        try simp only [Act.put, List.setIfInBounds_toArray, List.set_cons_zero, List.set_cons_succ]
        refine takeD (dst := some 23) (v := ?_) (i := 12) rfl rfl (by kernel_rfl) (by kernel_rfl) (by kernel_rfl) (fun _ _ _ h => h) (Or.inl ⟨by rfl, ?_⟩) (by assumption) ?_
        rotate_left
        · (intro w hSw; (try dsimp only at hSw); go_simp; try with_reducible rfl)
        try simp only [Act.put, List.setIfInBounds_toArray, List.set_cons_zero, List.set_cons_succ]
        try simp only [hg0]
        refine takeD (dst := some 24) (v := ?_) (i := 13) rfl rfl (by kernel_rfl) (by kernel_rfl) (by kernel_rfl) (fun _ _ _ h => h) (Or.inl ⟨by rfl, ?_⟩) (by assumption) ?_
        rotate_left
        · (intro w hSw; (try dsimp only at hSw); go_simp; try with_reducible rfl)
        try simp only [Act.put, List.setIfInBounds_toArray, List.set_cons_zero, List.set_cons_succ]
        refine takeD (dst := some 25) (v := ?_) (i := 14) rfl rfl (by kernel_rfl) (by kernel_rfl) (by kernel_rfl) (fun _ _ _ h => h) (Or.inl ⟨by rfl, ?_⟩) (by assumption) ?_
        rotate_left
        · (intro w hSw; (try dsimp only at hSw); go_simp; try with_reducible rfl)
        try simp only [Act.put, List.setIfInBounds_toArray, List.set_cons_zero, List.set_cons_succ]
        refine takeD (dst := some 26) (v := undef) (i := 15) rfl rfl (by kernel_rfl) (by kernel_rfl) (by kernel_rfl) (fun _ _ _ h => h) (Or.inr ⟨by kernel_rfl, rfl⟩) (by assumption) ?_
        try simp only [Act.put, List.setIfInBounds_toArray, List.set_cons_zero, List.set_cons_succ]
        refine takeD (dst := some 27) (v := undef) (i := 16) rfl rfl (by kernel_rfl) (by kernel_rfl) (by kernel_rfl) (fun _ _ _ h => h) (Or.inr ⟨by kernel_rfl, rfl⟩) (by assumption) ?_
        try simp only [Act.put, List.setIfInBounds_toArray, List.set_cons_zero, List.set_cons_succ]
        refine takeD (dst := some 28) (v := undef) (i := 17) rfl rfl (by kernel_rfl) (by kernel_rfl) (by kernel_rfl) (fun _ _ _ h => h) (Or.inr ⟨by kernel_rfl, rfl⟩) (by assumption) ?_
        try simp only [Act.put, List.setIfInBounds_toArray, List.set_cons_zero, List.set_cons_succ]
        refine takeD (dst := some 29) (v := ?_) (i := 18) rfl rfl (by kernel_rfl) (by kernel_rfl) (by kernel_rfl) (fun _ _ _ h => h) (Or.inl ⟨by rfl, ?_⟩) (by assumption) ?_
        rotate_left
        · (intro w hSw; (try dsimp only at hSw); go_simp; try with_reducible rfl)
        try simp only [Act.put, List.setIfInBounds_toArray, List.set_cons_zero, List.set_cons_succ]
        refine wpAnyH_ready (rs := [19]) (by kernel_rfl) (by simp) ?_
        refine AllReadyH.cons rfl (fun K hK => ?_) AllReadyH.nil
        go_simp
        refine hK.out _ _ ?_ (fun hHeld => ?_)
        · (first | exact KD.out | exact EE.out | exact ofKeep EE.out (grown_drew _) | exact ofKeep (by assumption) (grown_drew _) | exact ofSet KD.out hy _ _ _)
        clear hK K
        try simp only [Act.put, List.setIfInBounds_toArray, List.set_cons_zero, List.set_cons_succ]
        refine takeD (dst := some 3) (v := ?_) (i := 20) rfl rfl (by kernel_rfl) (by kernel_rfl) (by kernel_rfl) (fun _ _ _ h => h) (Or.inl ⟨by rfl, ?_⟩) (by assumption) ?_
        rotate_left
        · (intro w hSw; (try dsimp only at hSw); go_simp; try with_reducible rfl)
        try simp only [Act.put, List.setIfInBounds_toArray, List.set_cons_zero, List.set_cons_succ]
        refine wpAnyH_done (by kernel_rfl) ?_ _
        all_goals
          go_wp2_with (fail)
          refine bodyPost_ret (v := .tuple #[.agg #[.bool ng, .slice a t cap, .int .i64 (IntKind.i64.wrap (-x))], .bool false]) (by simp [results, Tryz.func7, go_sem, o0, o1, o2]; try omega) rfl ?_
          exact ⟨.slice a t cap, by first | (simp only [plainV]; done) | (simp only [plainV]; congr 4; have h1 := HX1.out; have h2 := HX2.out; simp; omega), ⟨t, ((HND.out.set HOD.out _ _).set HOD.out _ _).set HOD.out _ _⟩, gset (by omega) _ _ (gset (by omega) _ _ (gset (by omega) _ _ KD.out.1))⟩
    · have HX1 := Lib.hid hc19
      have HX2 := Lib.hid hc19
      clear hc19
      refine wp_region_held_drew (S := (fun w' => OfS w y ng (.slice a t cap) x w')) (by kernel_rfl) ?_ (fun hHeld => ?_)
      · (first | exact KD.out | exact EE.out | exact ofKeep EE.out (grown_drew _) | exact ofKeep (by assumption) (grown_drew _) | exact ofSet KD.out hy _ _ _)
      refine takeD (dst := some 11) (v := ?_) (i := 0) rfl rfl (by kernel_rfl) (by kernel_rfl) (by kernel_rfl) (fun _ _ _ h => h) (Or.inl ⟨by rfl, ?_⟩) (by assumption) ?_
      rotate_left
      · (intro w hSw; (try dsimp only at hSw); go_simp; try with_reducible rfl)
      try simp only [Act.put, List.setIfInBounds_toArray, List.set_cons_zero, List.set_cons_succ]
      refine takeD (dst := some 12) (v := ?_) (i := 1) rfl rfl (by kernel_rfl) (by kernel_rfl) (by kernel_rfl) (fun _ _ _ h => h) (Or.inl ⟨by rfl, ?_⟩) (by assumption) ?_
      rotate_left
      · (intro w hSw; (try dsimp only at hSw); go_simp; try with_reducible rfl)
      try simp only [Act.put, List.setIfInBounds_toArray, List.set_cons_zero, List.set_cons_succ]
      refine takeD (dst := some 13) (v := ?_) (i := 2) rfl rfl (by kernel_rfl) (by kernel_rfl) (by kernel_rfl) (fun _ _ _ h => h) (Or.inl ⟨by rfl, ?_⟩) (by assumption) ?_
      rotate_left
      · (intro w hSw; (try dsimp only at hSw); go_simp; try with_reducible rfl)
      try simp only [Act.put, List.setIfInBounds_toArray, List.set_cons_zero, List.set_cons_succ]
      refine takeD (dst := some 14) (v := ?_) (i := 3) rfl rfl (by kernel_rfl) (by kernel_rfl) (by kernel_rfl) (fun _ _ _ h => h) (Or.inl ⟨by rfl, ?_⟩) (by assumption) ?_
      rotate_left
      · (intro w hSw; (try dsimp only at hSw); go_simp; try with_reducible rfl)
      try simp only [Act.put, List.setIfInBounds_toArray, List.set_cons_zero, List.set_cons_succ]
      refine takeD (dst := some 15) (v := ?_) (i := 4) rfl rfl (by kernel_rfl) (by kernel_rfl) (by kernel_rfl) (fun _ _ _ h => h) (Or.inl ⟨by rfl, ?_⟩) (by assumption) ?_
      rotate_left
      · (intro w hSw; (try dsimp only at hSw); go_simp; try with_reducible rfl)
      try simp only [Act.put, List.setIfInBounds_toArray, List.set_cons_zero, List.set_cons_succ]
      refine takeD (dst := some 16) (v := ?_) (i := 5) rfl rfl (by kernel_rfl) (by kernel_rfl) (by kernel_rfl) (fun _ _ _ h => h) (Or.inl ⟨by rfl, ?_⟩) (by assumption) ?_
      rotate_left
      · (intro w hSw; (try dsimp only at hSw); go_simp; try with_reducible rfl)
      try simp only [Act.put, List.setIfInBounds_toArray, List.set_cons_zero, List.set_cons_succ]
      refine takeD (dst := some 17) (v := ?_) (i := 6) rfl rfl (by kernel_rfl) (by kernel_rfl) (by kernel_rfl) (fun _ _ _ h => h) (Or.inl ⟨by rfl, ?_⟩) (by assumption) ?_
      rotate_left
      · (intro w hSw; (try dsimp only at hSw); go_simp; try with_reducible rfl)
      try simp only [Act.put, List.setIfInBounds_toArray, List.set_cons_zero, List.set_cons_succ]
      refine wpAnyH_ready (rs := [7]) (by kernel_rfl) (by simp) ?_
      refine AllReadyH.cons rfl (fun K hK => ?_) AllReadyH.nil
      go_simp
      (go_at_call 17; refine (HDG.out _ (by first | exact grown_refl _ _ | exact grown_drew _)).mono ?_; rintro r wd ⟨d, rfl, hd, hd20, gd⟩; have d1 : decide ((d : Int) ≤ 19) = false := decide_eq_false (by have := hd; have := HX1.out; omega); have d2 : decide (d ≤ 19) = false := decide_eq_false (by have := hd; have := HX1.out; omega); have KD := Lib.hid (ofKeep (by first | assumption | exact EE.out) gd); have GD := Lib.hid gd; have HND : Hid (NatOf wd w.heap.size (.slice a t cap) c t) := (by first | exact HNC.out.same gd | exact HNC.out.same (grown_trans (grown_drew _) gd)); (first | (refine dcK (keepb gd HF.out.2.2.2.2) ?_) | (refine dcK (keepb gd (keepb (grown_drew _) HF.out.2.2.2.2)) ?_)); intro o0 o1 o2 o3 o4 o5; have HOD : Hid ((.slice a t cap : Value).ownBlock ≠ some (w.heap.size + 1)) := (HNC.out.off HF.out.2.2.2.2); clear hd hd20 gd)
      refine hK.out _ _ ?_ (fun hHeld => ?_)
      · (first | exact KD.out | exact EE.out | exact ofKeep EE.out (grown_drew _) | exact ofKeep (by assumption) (grown_drew _) | exact ofSet KD.out hy _ _ _)
      clear hK K
      try simp only [Act.put, List.setIfInBounds_toArray, List.set_cons_zero, List.set_cons_succ]
      refine takeD (dst := some 19) (v := ?_) (i := 8) rfl rfl (by kernel_rfl) (by kernel_rfl) (by kernel_rfl) (fun _ _ _ h => h) (Or.inl ⟨by rfl, ?_⟩) (by assumption) ?_
      rotate_left
      · (intro w hSw; (try dsimp only at hSw); go_simp; try with_reducible rfl)
      try simp only [Act.put, List.setIfInBounds_toArray, List.set_cons_zero, List.set_cons_succ]
      try simp only [d1, d2]
      refine takeD (dst := some 20) (v := ?_) (i := 9) rfl rfl (by kernel_rfl) (by kernel_rfl) (by kernel_rfl) (fun _ _ _ h => h) (Or.inl ⟨by rfl, ?_⟩) (by assumption) ?_
      rotate_left
      · (intro w hSw; (try dsimp only at hSw); go_simp; try with_reducible rfl)
      try simp only [Act.put, List.setIfInBounds_toArray, List.set_cons_zero, List.set_cons_succ]
      refine takeD (dst := some 21) (v := undef) (i := 10) rfl rfl (by kernel_rfl) (by kernel_rfl) (by kernel_rfl) (fun _ _ _ h => h) (Or.inr ⟨by kernel_rfl, rfl⟩) (by assumption) ?_
      try simp only [Act.put, List.setIfInBounds_toArray, List.set_cons_zero, List.set_cons_succ]
      refine takeD (dst := some 22) (v := undef) (i := 11) rfl rfl (by kernel_rfl) (by kernel_rfl) (by kernel_rfl) (fun _ _ _ h => h) (Or.inr ⟨by kernel_rfl, rfl⟩) (by assumption) ?_
      try simp only [Act.put, List.setIfInBounds_toArray, List.set_cons_zero, List.set_cons_succ]
      refine takeD (dst := some 23) (v := undef) (i := 12) rfl rfl (by kernel_rfl) (by kernel_rfl) (by kernel_rfl) (fun _ _ _ h => h) (Or.inr ⟨by kernel_rfl, rfl⟩) (by assumption) ?_
      try simp only [Act.put, List.setIfInBounds_toArray, List.set_cons_zero, List.set_cons_succ]
      refine takeD (dst := some 24) (v := ?_) (i := 13) rfl rfl (by kernel_rfl) (by kernel_rfl) (by kernel_rfl) (fun _ _ _ h => h) (Or.inl ⟨by rfl, ?_⟩) (by assumption) ?_
      rotate_left
      · (intro w hSw; (try dsimp only at hSw); go_simp; try with_reducible rfl)
      try simp only [Act.put, List.setIfInBounds_toArray, List.set_cons_zero, List.set_cons_succ]
      refine takeD (dst := some 25) (v := ?_) (i := 14) rfl rfl (by kernel_rfl) (by kernel_rfl) (by kernel_rfl) (fun _ _ _ h => h) (Or.inl ⟨by rfl, ?_⟩) (by assumption) ?_
      rotate_left
      · (intro w hSw; (try dsimp only at hSw); go_simp; try with_reducible rfl)
      try simp only [Act.put, List.setIfInBounds_toArray, List.set_cons_zero, List.set_cons_succ]
      refine takeD (dst := some 26) (v := undef) (i := 15) rfl rfl (by kernel_rfl) (by kernel_rfl) (by kernel_rfl) (fun _ _ _ h => h) (Or.inr ⟨by kernel_rfl, rfl⟩) (by assumption) ?_
      try simp only [Act.put, List.setIfInBounds_toArray, List.set_cons_zero, List.set_cons_succ]
      refine takeD (dst := some 27) (v := undef) (i := 16) rfl rfl (by kernel_rfl) (by kernel_rfl) (by kernel_rfl) (fun _ _ _ h => h) (Or.inr ⟨by kernel_rfl, rfl⟩) (by assumption) ?_
      try simp only [Act.put, List.setIfInBounds_toArray, List.set_cons_zero, List.set_cons_succ]
      refine takeD (dst := some 28) (v := undef) (i := 17) rfl rfl (by kernel_rfl) (by kernel_rfl) (by kernel_rfl) (fun _ _ _ h => h) (Or.inr ⟨by kernel_rfl, rfl⟩) (by assumption) ?_
      try simp only [Act.put, List.setIfInBounds_toArray, List.set_cons_zero, List.set_cons_succ]
      refine takeD (dst := some 29) (v := ?_) (i := 18) rfl rfl (by kernel_rfl) (by kernel_rfl) (by kernel_rfl) (fun _ _ _ h => h) (Or.inl ⟨by rfl, ?_⟩) (by assumption) ?_
      rotate_left
      · (intro w hSw; (try dsimp only at hSw); go_simp; try with_reducible rfl)
      try simp only [Act.put, List.setIfInBounds_toArray, List.set_cons_zero, List.set_cons_succ]
      refine wpAnyH_ready (rs := [19]) (by kernel_rfl) (by simp) ?_
      refine AllReadyH.cons rfl (fun K hK => ?_) AllReadyH.nil
      go_simp
      refine hK.out _ _ ?_ (fun hHeld => ?_)
      · (first | exact KD.out | exact EE.out | exact ofKeep EE.out (grown_drew _) | exact ofKeep (by assumption) (grown_drew _) | exact ofSet KD.out hy _ _ _)
      clear hK K
      try simp only [Act.put, List.setIfInBounds_toArray, List.set_cons_zero, List.set_cons_succ]
      refine takeD (dst := some 3) (v := ?_) (i := 20) rfl rfl (by kernel_rfl) (by kernel_rfl) (by kernel_rfl) (fun _ _ _ h => h) (Or.inl ⟨by rfl, ?_⟩) (by assumption) ?_
      rotate_left
      · (intro w hSw; (try dsimp only at hSw); go_simp; try with_reducible rfl)
      try simp only [Act.put, List.setIfInBounds_toArray, List.set_cons_zero, List.set_cons_succ]
      refine wpAnyH_done (by kernel_rfl) ?_ _
      all_goals
        go_wp2_with (fail)
        refine bodyPost_ret (v := .tuple #[.agg #[.bool ng, .slice a t cap, .int .i64 (IntKind.i64.wrap (-x))], .bool false]) (by simp [results, Tryz.func7, go_sem, o0, o1, o2]; try omega) rfl ?_
        exact ⟨.slice a t cap, t, by simp only [plainV]; congr 4; have h1 := HX1.out; have h2 := HX2.out; simp; omega, ((HND.out.set HOD.out _ _).set HOD.out _ _).set HOD.out _ _, gset (by omega) _ _ (gset (by omega) _ _ (gset (by omega) _ _ KD.out.1))⟩
  go_region_held3 (fun w' => FoP w w.heap.size neg c x w')
    (first | exact KW.out | exact KN.out | exact E.out | exact ED.out | exact foKeep (by assumption) (grown_new _ _) | exact foKeep (by assumption) (grown_drew _) | exact foKeep KW.out (grown_new _ _) | exact foKeep KN.out (grown_new _ _) | exact foKeep E.out (grown_new _ _) | exact foSet KW.out (by first | exact HSN.out | exact HS.out | exact HSW.out) _ _ | exact foKeep E.out (grown_trans (grown_drew _) (grown_new _ _)) | exact foKeep E.out (grown_trans (grown_new _ _) (grown_drew _)) | exact foKeep KW.out (gset (Nat.le_refl _) _ _ (gset (Nat.le_refl _) _ _ (grown_new _ _))))
    (first
      | (go_at_call 16; refine (HNF.out _).mono ?_; rintro r wn ⟨v, t, rfl, hn, gn⟩; obtain ⟨a, cap, rfl, hac⟩ := hn.own.slice; clear hac; have KN := Lib.hid (foKeep (by first | assumption | exact E.out | exact ED.out | exact foKeep E.out (grown_new _ _) | exact foKeep ED.out (grown_new _ _)) gn); have GN := Lib.hid gn; have HSN : Hid (w.heap.size + 2 ≤ wn.heap.size) := (by first | exact Nat.le_trans HS.out gn.size | exact Nat.le_trans HS.out (Nat.le_trans (grown_new W0 _).size gn.size) | exact Nat.le_trans HS.out (Nat.le_trans (grown_new W0.drew _).size gn.size)); have HNN := Lib.hid hn; (try (first | have HB4 := Lib.hid (keepb gn (heap_new W0 (.cells #[.bool false, .slice none 0 0] 37))) | have HB4 := Lib.hid (keepb gn (heap_new W0.drew (.cells #[.bool false, .slice none 0 0] 37))) | have HB4 := Lib.hid (keepb gn (keepb (grown_drew _) (heap_new W0 (.cells #[.bool false, .slice none 0 0] 37)))))); clear hn gn)
      | (go_at_call 15; refine (HWO.out _ _ _ _ (HNN.out.same (by first | exact grown_refl _ _ | exact grown_new _ _ | exact grown_drew _))).mono ?_; rintro r ww ⟨rfl, gw⟩; unfold wholeV; have KW := Lib.hid (foKeep KN.out (grown_trans (by first | exact grown_refl _ _ | exact grown_new _ _ | exact grown_drew _) gw)); have GW := Lib.hid gw; have HSW : Hid (w.heap.size + 2 ≤ ww.heap.size) := (by first | exact Nat.le_trans HSN.out gw.size | exact Nat.le_trans HSN.out (Nat.le_trans (grown_new wn _).size gw.size)); have HNW := Lib.hid (HNN.out.same (grown_trans (by first | exact grown_refl _ _ | exact grown_new _ _ | exact grown_drew _) gw)); (try (first | (refine whK (keepb gw (heap_new wn (.cells #[.bool false, .slice none 0 0] 37))) ?_; intro q0 q1 q2 q3; have HB5 := Lib.hid (keepb gw (heap_new wn (.cells #[.bool false, .slice none 0 0] 37)))) | (refine whK (keepb gw HB4.out) ?_; intro q0 q1 q2 q3; have HB5 := Lib.hid (keepb gw HB4.out)))); clear gw))
  all_goals
    go_wp2_with (fail)
    go_meet
    first
      | exact midA (HNW.out.base (by first | exact E.out.1.size | exact Nat.le_trans E.out.1.size (grown_new W0 _).size)) KW.out HSW.out
      | exact midB (HNW.out.base (by first | exact E.out.1.size | exact Nat.le_trans E.out.1.size (grown_new W0 _).size | exact Nat.le_trans E.out.1.size (grown_new W0.drew _).size)) KW.out HSN.out (fun e => Nat.lt_irrefl _ (HNN.out.own.lt _ e).2) HB5.out
      | exact midB (HNW.out.base (by first | exact E.out.1.size | exact Nat.le_trans E.out.1.size (grown_new W0 _).size | exact Nat.le_trans E.out.1.size (grown_new W0.drew _).size)) KW.out HS.out (fun e => by have h := (HNN.out.own.lt _ e).1; rw [size_alloc] at h; exact Nat.lt_irrefl _ h) HB5.out
      | exact midB (HNW.out.base (Nat.le_trans E.out.1.size (show W0.heap.size ≤ (W0.alloc (.cells #[.bool false, .slice none 0 0] 37)).heap.size from (grown_new W0 _).size))) KW.out HS.out (fun e => by have h : (W0.alloc (.cells #[.bool false, .slice none 0 0] 37)).heap.size ≤ W0.heap.size := (HNN.out.own.lt _ e).1; rw [size_alloc] at h; exact Nat.lt_irrefl _ h) HB5.out
end Go.Proofs.YtndphemomhcjlaaGreatDoor
