/- The cosine's series: one region, by an invariant that holds in every order. Conditions: the square of the reduced angle in its variable. -/
import Derived.Test.YtjcfacinlgogaaaGreatDoorQ33
set_option linter.all false
set_option maxHeartbeats 4000000
set_option maxRecDepth 100000
set_option exponentiation.threshold 3000
namespace Go.Proofs.YtjcfacinlgogaaaGreatDoor
open Go.RowKit
def regOf (n : Nat) : Code → Option Code
  | .region id ops b => if id = n then some (.region id ops b) else none
  | .seq a b => match regOf n a with
    | some c => some c
    | none => regOf n b
  | .cond _ a b => match regOf n a with
    | some c => some c
    | none => regOf n b
  | .block _ a => regOf n a
  | .loop a => regOf n a
  | _ => none
def opsOf (c : Option Code) : Array Oper := match c with
  | some (.region _ ops _) => ops
  | _ => #[]
theorem ready_dep {md : Region.Mode} {ops : Array Oper} {listed : Array Bool} {i : Nat} {o : Oper} (h : i ∈ Region.ready md ops listed) (ho : ops[i]? = some o) :
    listed.getD i true = false ∧ ∀ e ∈ o.after, Region.binds md e = true → listed.getD e.on false = true := by
  unfold Region.ready at h
  rw [List.mem_filter] at h
  obtain ⟨_, h⟩ := h
  rw [ho] at h
  simp only [Bool.and_eq_true, Bool.not_eq_true', Option.map_some, Option.getD_some, Array.all_eq_true_iff_forall_mem, Bool.or_eq_true] at h
  refine ⟨h.1, fun e he hb => ?_⟩
  rcases h.2 e he with h | h
  · rw [hb] at h; cases h
  · exact h
theorem ready_in {md : Region.Mode} {ops : Array Oper} {listed : Array Bool} {i : Nat} {o : Oper} (ho : ops[i]? = some o) (h1 : listed.getD i true = false) (h2 : ∀ e ∈ o.after, Region.binds md e = true → listed.getD e.on false = true) : i ∈ Region.ready md ops listed := by
  unfold Region.ready
  rw [List.mem_filter]
  refine ⟨List.mem_range.2 (Array.getElem?_eq_some_iff.1 ho).1, ?_⟩
  rw [ho]
  simp only [Bool.and_eq_true, Bool.not_eq_true', Option.map_some, Option.getD_some, Array.all_eq_true_iff_forall_mem, Bool.or_eq_true]
  refine ⟨h1, fun e he => ?_⟩
  cases hb : Region.binds md e
  · exact .inl rfl
  · exact .inr (h2 e he hb)
theorem count_dec {l : List Bool} {i : Nat} (h : l[i]? = some false) : (l.set i true).count false + 1 = l.count false := by
  induction l generalizing i with
  | nil => simp at h
  | cons x l ih =>
    cases i with
    | zero => simp at h; subst h; simp
    | succ i =>
      have := ih (i := i) (by simpa using h)
      rw [List.set_cons_succ, List.count_cons, List.count_cons]
      omega
theorem wpAny_inv {P : Program} {md : Region.Mode} {ops : Array Oper} {Q : Exit → Act → World → Prop} (I : Array Bool → Act → World → Prop)
    (hstep : ∀ listed a w i, I listed a w → i ∈ Region.ready md ops listed → wpOp P ops Q i (fun a' w' => I (listed.setIfInBounds i true) a' w') a w)
    (hdone : ∀ listed a w, I listed a w → Region.ready md ops listed = [] → Q .normal a w) :
    ∀ fuel listed a w, I listed a w → listed.toList.count false ≤ fuel → wpAny P md ops Q fuel listed a w := by
  have hrd : ∀ (listed : Array Bool) i, i ∈ Region.ready md ops listed → listed.toList[i]? = some false := by
    intro listed i hi
    have hlt : i < ops.size := List.mem_range.1 (by unfold Region.ready at hi; exact (List.mem_filter.1 hi).1)
    have h1 := (ready_dep hi (Array.getElem?_eq_getElem hlt)).1
    rw [Array.getD_eq_getD_getElem?] at h1
    rw [Array.getElem?_toList]
    cases h : listed[i]? with
    | none => rw [h] at h1; cases h1
    | some b => rw [h] at h1; simp at h1; rw [h1]
  intro fuel
  induction fuel with
  | zero =>
    intro listed a w h hc
    have h0 : Region.ready md ops listed = [] := by
      rcases List.eq_nil_or_concat (Region.ready md ops listed) with h1 | ⟨l', x, h1⟩
      · exact h1
      · have hx := hrd listed x (by rw [h1]; simp)
        have := count_dec hx
        omega
    exact ⟨h0, hdone _ _ _ h h0⟩
  | succ fuel ih =>
    intro listed a w h hc
    refine ⟨fun h0 => hdone _ _ _ h h0, fun i hi => wpOp_mono (fun a' w' h' => ih _ a' w' h' ?_) (hstep listed a w i h hi)⟩
    have := count_dec (hrd listed i hi)
    rw [Array.toList_setIfInBounds]
    omega
theorem all_listed {md : Region.Mode} {ops : Array Oper} {listed : Array Bool} (hsz : listed.size = ops.size) (hord : ∀ (i : Nat) (o : Oper), ops[i]? = some o → ∀ e ∈ o.after, e.on < i) (h : Region.ready md ops listed = []) :
    ∀ i, i < ops.size → listed.getD i false = true := by
  intro i
  induction i using Nat.strongRecOn with
  | ind i ih =>
    intro hi
    cases hb : listed.getD i false with
    | true => rfl
    | false =>
      have ho := Array.getElem?_eq_getElem hi
      have h1 : listed.getD i true = false := by
        rw [Array.getD_eq_getD_getElem?] at hb ⊢
        rw [Array.getElem?_eq_getElem (by omega)] at hb ⊢
        exact hb
      have hlo := fun e he => hord i _ ho e he
      have := ready_in (md := md) ho h1 (fun e he _ => ih e.on (hlo e he) (by have := hlo e he; omega))
      rw [h] at this
      cases this
theorem dv_mulx {w : World} {b1 b2 p1 p2 k1 k2 s1 s2 : Nat} {e1 e2 X1 X2 : Int} (h1 : DV w b1 e1 p1 X1 k1 s1) (h2 : DV w b2 e2 p2 X2 k2 s2) (hK : TabK w) (hb : k1 ≤ 600 ∧ k2 ≤ 600 ∧ p1 ≤ 600 ∧ p2 ≤ 600 ∧ s1 ≤ 600 ∧ s2 ≤ 600) (hs : k1 ≤ 200 ∨ k2 ≤ 200) :
    Calls Tryz.prog 66 #[.agg #[.pointer (some ⟨b1, 0, none⟩), .int .i32 e1], .agg #[.pointer (some ⟨b2, 0, none⟩), .int .i32 e2]] w fun r w' => OpD w (p1 + p2) (X1 * X2) (k1 + k2) (s1 + s2) r w' := by
  by_cases hne : b1 = b2
  · subst hne
    obtain ⟨v1, n1, a1, a2, a3, a4, a5⟩ := h1
    obtain ⟨v2, n2, c1, c2, c3, c4, c5⟩ := h2
    have hn : n1 = n2 := by
      have q1 := a1.neg
      rw [c1.neg] at q1
      have q2 := a1.abs
      rw [c1.abs] at q2
      obtain ⟨l1, x1, x2, x3, x4, _⟩ := a1.nat
      obtain ⟨l2, y1, y2, y3, y4, _⟩ := c1.nat
      injection q1 with q1; injection q1 with q1
      injection q2 with q2
      subst q2
      have hl : l1 = l2 := by
        rcases x1 with ⟨rfl, rfl⟩ | ⟨b, cap, M, rfl, hb1, _⟩
        · rcases y1 with ⟨_, rfl⟩ | ⟨b, cap, M, h, _⟩
          · rfl
          · cases h
        · rcases y1 with ⟨h, _⟩ | ⟨b', cap', M', h, hb2, _⟩
          · cases h
          · injection h with i1 i2 i3
            injection i1 with i1; injection i1 with i1
            subst i1
            rw [hb1] at hb2
            simp only [blk, Option.some.injEq, Obj.cells.injEq] at hb2
            have hm : (l1 ++ M).map (Value.int .u64) = (l2 ++ M').map (Value.int .u64) := by
              have := congrArg Array.toList hb2.1
              simpa using this
            have hm2 : l1 ++ M = l2 ++ M' := by
              have hi : Function.Injective (Value.int .u64) := fun a b h => by injection h
              exact (List.map_inj_right (fun a b h => by injection h)).1 hm
            exact (List.append_inj hm2 i2).1
      subst hl
      rw [x4] at y4
      have hab : n1.natAbs = n2.natAbs := by omega
      have hsg : decide (n2 < 0) = decide (n1 < 0) := q1
      by_cases h0 : n1 < 0
      · rw [decide_eq_true h0] at hsg
        have := of_decide_eq_true hsg
        omega
      · rw [decide_eq_false h0] at hsg
        have := of_decide_eq_false hsg
        omega
    subst hn
    have l1 := a1.lt
    have q1 : (n1.natAbs : Int) < B64 ^ 11 := by
      rcases hs with h | h
      · exact lt11 (n_le (a4 ▸ a5)) h
      · exact lt11 (n_le (c4 ▸ c5)) h
    refine (mulD_of (fun wx bz g hb hz => MulSq_any hz (a1.same g) (by omega) q1 (hK.same g)) (by omega) (by omega)).mono ?_
    rintro r w' ⟨b, v, rfl, hb2, hx, g⟩
    refine ⟨b, e1 + e2, rfl, hb2, ⟨v, n1 * n1, hx.c, by omega, by omega, ?_, ?_⟩, g⟩
    · rw [a4, c4, show (e1 + e2 + ((p1 + p2 : Nat) : Int)).toNat = (e1 + p1).toNat + (e2 + p2).toNat by omega, Int.pow_add]
      generalize (10 : Int) ^ (e1 + p1).toNat = x
      generalize (10 : Int) ^ (e2 + p2).toNat = y
      rw [Int.mul_assoc, Int.mul_assoc, Int.mul_left_comm x]
    · rw [Int.natAbs_mul, Nat.pow_add]; exact Nat.mul_le_mul a5 c5
  · exact dv_mul h1 h2 hne hK hb
def SV (p : Nat) (X : Int) (k s : Nat) (x : Value) (w : World) : Prop := ∃ b e, x = .agg #[.pointer (some ⟨b, 0, none⟩), .int .i32 e] ∧ DV w b e p X k s
def SI (e : Int) (p : Nat) (X : Int) (k : Nat) (x : Value) (w : World) : Prop := ∃ b, x = .agg #[.pointer (some ⟨b, 0, none⟩), .int .i32 e] ∧ DV w b e p X k 0
theorem SV.same {p k s : Nat} {X : Int} {x : Value} {w w' : World} (h : SV p X k s x w) (g : w.grownBy w' none) : SV p X k s x w' := by
  obtain ⟨b, e, h1, h2⟩ := h; exact ⟨b, e, h1, h2.same g⟩
theorem SI.same {p k : Nat} {e X : Int} {x : Value} {w w' : World} (h : SI e p X k x w) (g : w.grownBy w' none) : SI e p X k x w' := by
  obtain ⟨b, h1, h2⟩ := h; exact ⟨b, h1, h2.same g⟩
def sl20 (j : Nat) : Nat := if j < 31 then 103 + j else 12
def SC (x : Value) (w : World) : Prop := ∃ b0 b1 b2 b3 b4 b5, x = .agg #[.pointer (some ⟨b0, 0, none⟩), .int .i32 (-27), .pointer (some ⟨b1, 0, none⟩), .int .i32 (-24), .pointer (some ⟨b2, 0, none⟩), .int .i32 (-22), .pointer (some ⟨b3, 0, none⟩), .int .i32 (-21), .pointer (some ⟨b4, 0, none⟩), .int .i32 (-19), .pointer (some ⟨b5, 0, none⟩), .int .i32 (-18)] ∧ DV w b0 (-27) 27 (-11358536521387682) 17 0 ∧ DV w b1 (-24) 24 (2087570084197473) 16 0 ∧ DV w b2 (-22) 22 (-2755731417929674) 16 0 ∧ DV w b3 (-21) 21 (24801587288851704) 17 0 ∧ DV w b4 (-19) 19 (-13888888888873056) 17 0 ∧ DV w b5 (-18) 18 (41666666666666595) 17 0
theorem SC.same {x : Value} {w w' : World} (h : SC x w) (g : w.grownBy w' none) : SC x w' := by
  obtain ⟨b0, b1, b2, b3, b4, b5, h, h0, h1, h2, h3, h4, h5⟩ := h
  exact ⟨b0, b1, b2, b3, b4, b5, h, h0.same g, h1.same g, h2.same g, h3.same g, h4.same g, h5.same g⟩
def SA (wr : World) (x : Value) (w : World) : Prop := ∃ U, x = .pointer (some ⟨U, 0, none⟩) ∧ wr.heap.size ≤ U ∧ ∃ u v, w.heap[U]? = some (.cells #[.pointer u, .int .i32 v] 56)
def SF (wr : World) (p : Nat) (X : Int) (k s : Nat) (x : Value) (w : World) : Prop := ∃ U b e, x = .pointer (some ⟨U, 0, none⟩) ∧ wr.heap.size ≤ U ∧ LV w U b e ∧ DV w b e p X k s
def G20 (wr : World) (bq : Nat) (eq z : Int) : Nat → Value → World → Prop
  | 0 => fun x _ => x = (.agg #[.pointer (some ⟨bq, 0, none⟩), .int .i32 eq])
  | 1 => fun x _ => x = (.agg #[.pointer (some ⟨bq, 0, none⟩), .int .i32 eq])
  | 2 => SV 124 ((z * z) * (z * z)) 124 4
  | 3 => SC
  | 4 => SI (-27) 27 (-11358536521387682) 17
  | 5 => fun x _ => x = (.agg #[.pointer (some ⟨bq, 0, none⟩), .int .i32 eq])
  | 6 => SV 89 ((-11358536521387682) * (z * z)) 79 2
  | 7 => SC
  | 8 => SI (-24) 24 (2087570084197473) 16
  | 9 => SV 89 (((-11358536521387682) * (z * z)) + (2087570084197473) * 10 ^ 65) 82 2
  | 10 => fun x _ => x = (.agg #[.pointer (some ⟨bq, 0, none⟩), .int .i32 eq])
  | 11 => SV 151 ((((-11358536521387682) * (z * z)) + (2087570084197473) * 10 ^ 65) * (z * z)) 144 4
  | 12 => SC
  | 13 => SI (-22) 22 (-2755731417929674) 16
  | 14 => SV 151 (((((-11358536521387682) * (z * z)) + (2087570084197473) * 10 ^ 65) * (z * z)) + (-2755731417929674) * 10 ^ 129) 146 4
  | 15 => fun x _ => x = (.agg #[.pointer (some ⟨bq, 0, none⟩), .int .i32 eq])
  | 16 => SV 213 ((((((-11358536521387682) * (z * z)) + (2087570084197473) * 10 ^ 65) * (z * z)) + (-2755731417929674) * 10 ^ 129) * (z * z)) 208 6
  | 17 => SC
  | 18 => SI (-21) 21 (24801587288851704) 17
  | 19 => SV 213 (((((((-11358536521387682) * (z * z)) + (2087570084197473) * 10 ^ 65) * (z * z)) + (-2755731417929674) * 10 ^ 129) * (z * z)) + (24801587288851704) * 10 ^ 192) 210 6
  | 20 => fun x _ => x = (.agg #[.pointer (some ⟨bq, 0, none⟩), .int .i32 eq])
  | 21 => SV 275 ((((((((-11358536521387682) * (z * z)) + (2087570084197473) * 10 ^ 65) * (z * z)) + (-2755731417929674) * 10 ^ 129) * (z * z)) + (24801587288851704) * 10 ^ 192) * (z * z)) 272 8
  | 22 => SC
  | 23 => SI (-19) 19 (-13888888888873056) 17
  | 24 => SV 275 (((((((((-11358536521387682) * (z * z)) + (2087570084197473) * 10 ^ 65) * (z * z)) + (-2755731417929674) * 10 ^ 129) * (z * z)) + (24801587288851704) * 10 ^ 192) * (z * z)) + (-13888888888873056) * 10 ^ 256) 274 8
  | 25 => fun x _ => x = (.agg #[.pointer (some ⟨bq, 0, none⟩), .int .i32 eq])
  | 26 => SV 337 ((((((((((-11358536521387682) * (z * z)) + (2087570084197473) * 10 ^ 65) * (z * z)) + (-2755731417929674) * 10 ^ 129) * (z * z)) + (24801587288851704) * 10 ^ 192) * (z * z)) + (-13888888888873056) * 10 ^ 256) * (z * z)) 336 10
  | 27 => SC
  | 28 => SI (-18) 18 (41666666666666595) 17
  | 29 => SV 337 (((((((((((-11358536521387682) * (z * z)) + (2087570084197473) * 10 ^ 65) * (z * z)) + (-2755731417929674) * 10 ^ 129) * (z * z)) + (24801587288851704) * 10 ^ 192) * (z * z)) + (-13888888888873056) * 10 ^ 256) * (z * z)) + (41666666666666595) * 10 ^ 319) 337 10
  | 30 => SV 461 ((z * z) * (z * z) * (((((((((((-11358536521387682) * (z * z)) + (2087570084197473) * 10 ^ 65) * (z * z)) + (-2755731417929674) * 10 ^ 129) * (z * z)) + (24801587288851704) * 10 ^ 192) * (z * z)) + (-13888888888873056) * 10 ^ 256) * (z * z)) + (41666666666666595) * 10 ^ 319)) 461 14
  | 31 => SA wr
  | 32 => SF wr 461 ((z * z) * (z * z) * (((((((((((-11358536521387682) * (z * z)) + (2087570084197473) * 10 ^ 65) * (z * z)) + (-2755731417929674) * 10 ^ 129) * (z * z)) + (24801587288851704) * 10 ^ 192) * (z * z)) + (-13888888888873056) * 10 ^ 256) * (z * z)) + (41666666666666595) * 10 ^ 319)) 461 14
  | _ => fun _ _ => True
theorem G20.same {wr : World} {bq : Nat} {eq z : Int} {x : Value} {w w' : World} : ∀ j, G20 wr bq eq z j x w → w.grownBy w' none → G20 wr bq eq z j x w'
  | 0, h, g => h
  | 1, h, g => h
  | 2, h, g => SV.same h g
  | 3, h, g => SC.same h g
  | 4, h, g => SI.same h g
  | 5, h, g => h
  | 6, h, g => SV.same h g
  | 7, h, g => SC.same h g
  | 8, h, g => SI.same h g
  | 9, h, g => SV.same h g
  | 10, h, g => h
  | 11, h, g => SV.same h g
  | 12, h, g => SC.same h g
  | 13, h, g => SI.same h g
  | 14, h, g => SV.same h g
  | 15, h, g => h
  | 16, h, g => SV.same h g
  | 17, h, g => SC.same h g
  | 18, h, g => SI.same h g
  | 19, h, g => SV.same h g
  | 20, h, g => h
  | 21, h, g => SV.same h g
  | 22, h, g => SC.same h g
  | 23, h, g => SI.same h g
  | 24, h, g => SV.same h g
  | 25, h, g => h
  | 26, h, g => SV.same h g
  | 27, h, g => SC.same h g
  | 28, h, g => SI.same h g
  | 29, h, g => SV.same h g
  | 30, h, g => SV.same h g
  | 31, h, g => by obtain ⟨U, h1, h2, u, v, h3⟩ := h; exact ⟨U, h1, h2, u, v, kpb g h3⟩
  | 32, h, g => by obtain ⟨U, b, e, h1, h2, h3, h4⟩ := h; exact ⟨U, b, e, h1, h2, kpb g h3, h4.same g⟩
  | _ + 33, _, _ => trivial
theorem SV.own {p k s R : Nat} {X x1 : Int} {u : Option Addr} {x : Value} {w w' : World} (h : SV p X k s x w) (ho : w.heap[R]? = some (.cells #[.pointer u, .int .i32 x1] 56)) (g : w.grownBy w' (some R)) : SV p X k s x w' := by
  obtain ⟨b, e, h1, h2⟩ := h; exact ⟨b, e, h1, h2.own ho g⟩
theorem SI.own {p k R : Nat} {e X x1 : Int} {u : Option Addr} {x : Value} {w w' : World} (h : SI e p X k x w) (ho : w.heap[R]? = some (.cells #[.pointer u, .int .i32 x1] 56)) (g : w.grownBy w' (some R)) : SI e p X k x w' := by
  obtain ⟨b, h1, h2⟩ := h; exact ⟨b, h1, h2.own ho g⟩
theorem SC.own {R : Nat} {x1 : Int} {u : Option Addr} {x : Value} {w w' : World} (h : SC x w) (ho : w.heap[R]? = some (.cells #[.pointer u, .int .i32 x1] 56)) (g : w.grownBy w' (some R)) : SC x w' := by
  obtain ⟨b0, b1, b2, b3, b4, b5, h, h0, h1, h2, h3, h4, h5⟩ := h
  exact ⟨b0, b1, b2, b3, b4, b5, h, h0.own ho g, h1.own ho g, h2.own ho g, h3.own ho g, h4.own ho g, h5.own ho g⟩
theorem G20.own {wr : World} {bq R : Nat} {eq z x1 x2 : Int} {u u2 : Option Addr} {x : Value} {w w' : World} : ∀ j, j < 32 → G20 wr bq eq z j x w → w.heap[R]? = some (.cells #[.pointer u, .int .i32 x1] 56) → w'.heap[R]? = some (.cells #[.pointer u2, .int .i32 x2] 56) → w.grownBy w' (some R) → G20 wr bq eq z j x w'
  | 0, _, h, ho, _, g => h
  | 1, _, h, ho, _, g => h
  | 2, _, h, ho, _, g => SV.own h ho g
  | 3, _, h, ho, _, g => SC.own h ho g
  | 4, _, h, ho, _, g => SI.own h ho g
  | 5, _, h, ho, _, g => h
  | 6, _, h, ho, _, g => SV.own h ho g
  | 7, _, h, ho, _, g => SC.own h ho g
  | 8, _, h, ho, _, g => SI.own h ho g
  | 9, _, h, ho, _, g => SV.own h ho g
  | 10, _, h, ho, _, g => h
  | 11, _, h, ho, _, g => SV.own h ho g
  | 12, _, h, ho, _, g => SC.own h ho g
  | 13, _, h, ho, _, g => SI.own h ho g
  | 14, _, h, ho, _, g => SV.own h ho g
  | 15, _, h, ho, _, g => h
  | 16, _, h, ho, _, g => SV.own h ho g
  | 17, _, h, ho, _, g => SC.own h ho g
  | 18, _, h, ho, _, g => SI.own h ho g
  | 19, _, h, ho, _, g => SV.own h ho g
  | 20, _, h, ho, _, g => h
  | 21, _, h, ho, _, g => SV.own h ho g
  | 22, _, h, ho, _, g => SC.own h ho g
  | 23, _, h, ho, _, g => SI.own h ho g
  | 24, _, h, ho, _, g => SV.own h ho g
  | 25, _, h, ho, _, g => h
  | 26, _, h, ho, _, g => SV.own h ho g
  | 27, _, h, ho, _, g => SC.own h ho g
  | 28, _, h, ho, _, g => SI.own h ho g
  | 29, _, h, ho, _, g => SV.own h ho g
  | 30, _, h, ho, _, g => SV.own h ho g
  | 31, _, h, ho, ho2, g => by
    obtain ⟨U, h1, h2, u', v, h3⟩ := h
    by_cases e : U = R
    · subst e; exact ⟨U, h1, h2, u2, x2, ho2⟩
    · exact ⟨U, h1, h2, u', v, stay g h3 e⟩
  | _ + 32, h, _, _, _, _ => by omega
structure I20 (wr : World) (bq : Nat) (eq z : Int) (base : List Value) (ds : List Deferred) (listed : Array Bool) (a : Act) (w : World) : Prop where
  size : listed.size = 33
  ds : a.defers = ds
  len : a.tmps.size = base.length
  out : ∀ k, k < 145 → k ≠ 12 → ¬ (103 ≤ k ∧ k ≤ 133) → a.tmps[k]? = base[k]?
  g : wr.grownBy w none
  last : listed.getD 32 false = true → listed.getD 31 false = true
  at_ : ∀ j, j < 33 → listed.getD j false = true → G20 wr bq eq z j (a.tmps.getD (sl20 j) undef) w
theorem getD_set_self {l : Array Bool} {i : Nat} (h : i < l.size) : (l.setIfInBounds i true).getD i false = true := by
  rw [Array.getD_eq_getD_getElem?, Array.getElem?_setIfInBounds_self_of_lt h]; rfl
theorem getD_set_ne {l : Array Bool} {i j : Nat} (h : i ≠ j) : (l.setIfInBounds i true).getD j false = l.getD j false := by
  rw [Array.getD_eq_getD_getElem?, Array.getD_eq_getD_getElem?, Array.getElem?_setIfInBounds_ne h]
theorem tm_set_self {l : Array Value} {i : Nat} {v : Value} (h : i < l.size) : (l.setIfInBounds i v).getD i undef = v := by
  rw [Array.getD_eq_getD_getElem?, Array.getElem?_setIfInBounds_self_of_lt h]; rfl
theorem tm_set_ne {l : Array Value} {i j : Nat} {v : Value} (h : i ≠ j) : (l.setIfInBounds i v).getD j undef = l.getD j undef := by
  rw [Array.getD_eq_getD_getElem?, Array.getD_eq_getD_getElem?, Array.getElem?_setIfInBounds_ne h]
theorem I20.next {wr : World} {bq : Nat} {eq z : Int} {base : List Value} {ds : List Deferred} {listed : Array Bool} {tm : Array Value} {w w' : World} {i d : Nat} {v : Value} (h : I20 wr bq eq z base ds listed ⟨tm, ds⟩ w) (hb : base.length = 145) (hi : i < 32) (hd : sl20 i = d) (hu : listed.getD i true = false) (g : w.grownBy w' none) (hf : G20 wr bq eq z i v w') :
    I20 wr bq eq z base ds (listed.setIfInBounds i true) ⟨tm.setIfInBounds d v, ds⟩ w' := by
  have hil : i < listed.size := by rw [h.size]; omega
  have hlen : tm.size = 145 := by have := h.len; rw [hb] at this; exact this
  have hd2 : d < tm.size := by rw [hlen, ← hd]; unfold sl20; split <;> omega
  refine ⟨by rw [Array.size_setIfInBounds]; exact h.size, rfl, by rw [Array.size_setIfInBounds]; exact h.len, fun k h1 h2 h3 => ?_, grown_trans h.g g, fun hl => ?_, fun j hj hl => ?_⟩
  · have hne : d ≠ k := by rw [← hd]; unfold sl20; split <;> omega
    rw [Array.getElem?_setIfInBounds_ne hne]; exact h.out k h1 h2 h3
  · rw [getD_set_ne (by omega)] at hl
    by_cases he : i = 31
    · subst he; exact getD_set_self hil
    · rw [getD_set_ne he]; exact h.last hl
  · by_cases he : i = j
    · subst he; rw [hd, tm_set_self hd2]; exact hf
    · rw [getD_set_ne he] at hl
      have hne : d ≠ sl20 j := by
        intro e
        rw [← hd] at e
        unfold sl20 at e
        split at e <;> split at e
        · omega
        · omega
        · omega
        · have hj2 : j = 32 ∧ i = 31 := by omega
          have h5 := h.last (hj2.1 ▸ hl)
          rw [hj2.2] at hu
          rw [Array.getD_eq_getD_getElem?] at hu h5
          rw [Array.getElem?_eq_getElem (by rw [h.size]; omega)] at hu h5
          simp only [Option.getD_some] at hu h5
          rw [hu] at h5; cases h5
      rw [tm_set_ne hne]
      exact G20.same j (h.at_ j hj hl) g
theorem op20_0 {ops : Array Oper} (hops : opsOf (Tryz.f34.body.bind (regOf 20)) = ops) {wr : World} {bq T : Nat} {eq z : Int} {base : List Value} {ds : List Deferred} {listed : Array Bool} {tm : Array Value} {w : World} {Q : Exit → Act → World → Prop} (h : I20 wr bq eq z base ds listed ⟨tm, ds⟩ w) (hb : base.length = 145) (hT : tm.getD 11 undef = .pointer (some ⟨T, 0, none⟩)) (hl : LV wr T bq eq) (hq : DV wr bq eq 62 (z * z) 62 2) (hk : TabK wr) (ht : TabC wr) (hr : 0 ∈ Region.ready .any ops listed) : wpOp Tryz.prog ops Q 0 (fun a' w' => I20 wr bq eq z base ds (listed.setIfInBounds 0 true) a' w') ⟨tm, ds⟩ w := by
  obtain ⟨o, ho⟩ : ∃ o, ops[0]? = some o := by rw [← hops]; exact ⟨_, rfl⟩
  have ho2 := ho
  rw [← hops] at ho2
  conv at ho2 => lhs; whnf
  injection ho2 with ho2
  conv at ho2 => lhs; whnf
  subst ho2
  have hd := ready_dep hr ho
  have HI := Hq0 h; have HD := Hq0 hd.1
  obtain ⟨c0, c1, c2, c3⟩ := LV.c (kpb h.g hl)
  clear hd hr hops h hl hq hk ht
  refine wpOp_step ho (fun K' hK => ?_)
  have HK := Hq0 hK
  rw [if_pos (by rfl)]
  clear hK
  go_wp2_with (fail)
  exact HK.out _ _ (HI.out.next hb (by decide) rfl HD.out (grown_refl _ _) rfl)
theorem op20_1 {ops : Array Oper} (hops : opsOf (Tryz.f34.body.bind (regOf 20)) = ops) {wr : World} {bq T : Nat} {eq z : Int} {base : List Value} {ds : List Deferred} {listed : Array Bool} {tm : Array Value} {w : World} {Q : Exit → Act → World → Prop} (h : I20 wr bq eq z base ds listed ⟨tm, ds⟩ w) (hb : base.length = 145) (hT : tm.getD 11 undef = .pointer (some ⟨T, 0, none⟩)) (hl : LV wr T bq eq) (hq : DV wr bq eq 62 (z * z) 62 2) (hk : TabK wr) (ht : TabC wr) (hr : 1 ∈ Region.ready .any ops listed) : wpOp Tryz.prog ops Q 1 (fun a' w' => I20 wr bq eq z base ds (listed.setIfInBounds 1 true) a' w') ⟨tm, ds⟩ w := by
  obtain ⟨o, ho⟩ : ∃ o, ops[1]? = some o := by rw [← hops]; exact ⟨_, rfl⟩
  have ho2 := ho
  rw [← hops] at ho2
  conv at ho2 => lhs; whnf
  injection ho2 with ho2
  conv at ho2 => lhs; whnf
  subst ho2
  have hd := ready_dep hr ho
  have HI := Hq0 h; have HD := Hq0 hd.1
  obtain ⟨c0, c1, c2, c3⟩ := LV.c (kpb h.g hl)
  clear hd hr hops h hl hq hk ht
  refine wpOp_step ho (fun K' hK => ?_)
  have HK := Hq0 hK
  rw [if_pos (by rfl)]
  clear hK
  go_wp2_with (fail)
  exact HK.out _ _ (HI.out.next hb (by decide) rfl HD.out (grown_refl _ _) rfl)
theorem op20_2 {ops : Array Oper} (hops : opsOf (Tryz.f34.body.bind (regOf 20)) = ops) {wr : World} {bq T : Nat} {eq z : Int} {base : List Value} {ds : List Deferred} {listed : Array Bool} {tm : Array Value} {w : World} {Q : Exit → Act → World → Prop} (h : I20 wr bq eq z base ds listed ⟨tm, ds⟩ w) (hb : base.length = 145) (hT : tm.getD 11 undef = .pointer (some ⟨T, 0, none⟩)) (hl : LV wr T bq eq) (hq : DV wr bq eq 62 (z * z) 62 2) (hk : TabK wr) (ht : TabC wr) (hr : 2 ∈ Region.ready .any ops listed) : wpOp Tryz.prog ops Q 2 (fun a' w' => I20 wr bq eq z base ds (listed.setIfInBounds 2 true) a' w') ⟨tm, ds⟩ w := by
  obtain ⟨o, ho⟩ : ∃ o, ops[2]? = some o := by rw [← hops]; exact ⟨_, rfl⟩
  have ho2 := ho
  rw [← hops] at ho2
  conv at ho2 => lhs; whnf
  injection ho2 with ho2
  conv at ho2 => lhs; whnf
  subst ho2
  have hd := ready_dep hr ho
  have HI := Hq0 h; have HD := Hq0 hd.1
  have hx1 : tm.getD 103 undef = (.agg #[.pointer (some ⟨bq, 0, none⟩), .int .i32 eq]) := h.at_ 0 (by decide) (hd.2 { on := 0, ground := .data } (by simp) (by rfl))
  have Q1 := Hq0 (hq.same h.g)
  have hx2 : tm.getD 104 undef = (.agg #[.pointer (some ⟨bq, 0, none⟩), .int .i32 eq]) := h.at_ 1 (by decide) (hd.2 { on := 1, ground := .data } (by simp) (by rfl))
  have Q2 := Hq0 (hq.same h.g)
  have HM := Hq0 (dv_mulx Q1.out Q2.out (hk.same h.g) (by decide) (by decide))
  clear hd hr hops h hl hq hk ht
  refine wpOp_step ho (fun K' hK => ?_)
  have HK := Hq0 hK
  rw [if_pos (by rfl)]
  clear hK
  go_wp2_with (fail)
  refine HM.out.mono ?_
  rintro r wk ⟨bA, eA, rfl, hbA, hdA, gk⟩
  exact HK.out _ _ (HI.out.next hb (by decide) rfl HD.out gk ⟨bA, eA, rfl, hdA⟩)
theorem op20_3 {ops : Array Oper} (hops : opsOf (Tryz.f34.body.bind (regOf 20)) = ops) {wr : World} {bq T : Nat} {eq z : Int} {base : List Value} {ds : List Deferred} {listed : Array Bool} {tm : Array Value} {w : World} {Q : Exit → Act → World → Prop} (h : I20 wr bq eq z base ds listed ⟨tm, ds⟩ w) (hb : base.length = 145) (hT : tm.getD 11 undef = .pointer (some ⟨T, 0, none⟩)) (hl : LV wr T bq eq) (hq : DV wr bq eq 62 (z * z) 62 2) (hk : TabK wr) (ht : TabC wr) (hr : 3 ∈ Region.ready .any ops listed) : wpOp Tryz.prog ops Q 3 (fun a' w' => I20 wr bq eq z base ds (listed.setIfInBounds 3 true) a' w') ⟨tm, ds⟩ w := by
  obtain ⟨o, ho⟩ : ∃ o, ops[3]? = some o := by rw [← hops]; exact ⟨_, rfl⟩
  have ho2 := ho
  rw [← hops] at ho2
  conv at ho2 => lhs; whnf
  injection ho2 with ho2
  conv at ho2 => lhs; whnf
  subst ho2
  have hd := ready_dep hr ho
  have HI := Hq0 h; have HD := Hq0 hd.1
  have HC := Hq0 (cos_any (ht.same h.g))
  clear hd hr hops h hl hq hk ht
  refine wpOp_step ho (fun K' hK => ?_)
  have HK := Hq0 hK
  rw [if_pos (by rfl)]
  clear hK
  go_wp2_with (fail)
  refine HC.out.mono ?_
  rintro r wk ⟨b0, b1, b2, b3, b4, b5, rfl, q0, q1, q2, q3, q4, q5, gk⟩
  exact HK.out _ _ (HI.out.next hb (by decide) rfl HD.out gk ⟨b0, b1, b2, b3, b4, b5, rfl, dv_di q0 (by decide) (by decide), dv_di q1 (by decide) (by decide), dv_di q2 (by decide) (by decide), dv_di q3 (by decide) (by decide), dv_di q4 (by decide) (by decide), dv_di q5 (by decide) (by decide)⟩)
theorem op20_4 {ops : Array Oper} (hops : opsOf (Tryz.f34.body.bind (regOf 20)) = ops) {wr : World} {bq T : Nat} {eq z : Int} {base : List Value} {ds : List Deferred} {listed : Array Bool} {tm : Array Value} {w : World} {Q : Exit → Act → World → Prop} (h : I20 wr bq eq z base ds listed ⟨tm, ds⟩ w) (hb : base.length = 145) (hT : tm.getD 11 undef = .pointer (some ⟨T, 0, none⟩)) (hl : LV wr T bq eq) (hq : DV wr bq eq 62 (z * z) 62 2) (hk : TabK wr) (ht : TabC wr) (hr : 4 ∈ Region.ready .any ops listed) : wpOp Tryz.prog ops Q 4 (fun a' w' => I20 wr bq eq z base ds (listed.setIfInBounds 4 true) a' w') ⟨tm, ds⟩ w := by
  obtain ⟨o, ho⟩ : ∃ o, ops[4]? = some o := by rw [← hops]; exact ⟨_, rfl⟩
  have ho2 := ho
  rw [← hops] at ho2
  conv at ho2 => lhs; whnf
  injection ho2 with ho2
  conv at ho2 => lhs; whnf
  subst ho2
  have hd := ready_dep hr ho
  have HI := Hq0 h; have HD := Hq0 hd.1
  obtain ⟨b0, b1, b2, b3, b4, b5, hx, q0, q1, q2, q3, q4, q5⟩ : SC (tm.getD (sl20 3) undef) w := h.at_ 3 (by decide) (hd.2 { on := 3, ground := .data } (by simp) (by rfl))
  rw [show sl20 3 = 106 from rfl] at hx
  have QK := Hq0 q0
  have IX := run_ix0
  clear hd hr hops h hl hq hk ht q0 q1 q2 q3 q4 q5
  refine wpOp_step ho (fun K' hK => ?_)
  have HK := Hq0 hK
  rw [if_pos (by rfl)]
  clear hK
  go_wp2_with (fail)
  exact HK.out _ _ (HI.out.next hb (by decide) rfl HD.out (grown_refl _ _) ⟨b0, rfl, QK.out⟩)
theorem op20_5 {ops : Array Oper} (hops : opsOf (Tryz.f34.body.bind (regOf 20)) = ops) {wr : World} {bq T : Nat} {eq z : Int} {base : List Value} {ds : List Deferred} {listed : Array Bool} {tm : Array Value} {w : World} {Q : Exit → Act → World → Prop} (h : I20 wr bq eq z base ds listed ⟨tm, ds⟩ w) (hb : base.length = 145) (hT : tm.getD 11 undef = .pointer (some ⟨T, 0, none⟩)) (hl : LV wr T bq eq) (hq : DV wr bq eq 62 (z * z) 62 2) (hk : TabK wr) (ht : TabC wr) (hr : 5 ∈ Region.ready .any ops listed) : wpOp Tryz.prog ops Q 5 (fun a' w' => I20 wr bq eq z base ds (listed.setIfInBounds 5 true) a' w') ⟨tm, ds⟩ w := by
  obtain ⟨o, ho⟩ : ∃ o, ops[5]? = some o := by rw [← hops]; exact ⟨_, rfl⟩
  have ho2 := ho
  rw [← hops] at ho2
  conv at ho2 => lhs; whnf
  injection ho2 with ho2
  conv at ho2 => lhs; whnf
  subst ho2
  have hd := ready_dep hr ho
  have HI := Hq0 h; have HD := Hq0 hd.1
  obtain ⟨c0, c1, c2, c3⟩ := LV.c (kpb h.g hl)
  clear hd hr hops h hl hq hk ht
  refine wpOp_step ho (fun K' hK => ?_)
  have HK := Hq0 hK
  rw [if_pos (by rfl)]
  clear hK
  go_wp2_with (fail)
  exact HK.out _ _ (HI.out.next hb (by decide) rfl HD.out (grown_refl _ _) rfl)
theorem op20_6 {ops : Array Oper} (hops : opsOf (Tryz.f34.body.bind (regOf 20)) = ops) {wr : World} {bq T : Nat} {eq z : Int} {base : List Value} {ds : List Deferred} {listed : Array Bool} {tm : Array Value} {w : World} {Q : Exit → Act → World → Prop} (h : I20 wr bq eq z base ds listed ⟨tm, ds⟩ w) (hb : base.length = 145) (hT : tm.getD 11 undef = .pointer (some ⟨T, 0, none⟩)) (hl : LV wr T bq eq) (hq : DV wr bq eq 62 (z * z) 62 2) (hk : TabK wr) (ht : TabC wr) (hr : 6 ∈ Region.ready .any ops listed) : wpOp Tryz.prog ops Q 6 (fun a' w' => I20 wr bq eq z base ds (listed.setIfInBounds 6 true) a' w') ⟨tm, ds⟩ w := by
  obtain ⟨o, ho⟩ : ∃ o, ops[6]? = some o := by rw [← hops]; exact ⟨_, rfl⟩
  have ho2 := ho
  rw [← hops] at ho2
  conv at ho2 => lhs; whnf
  injection ho2 with ho2
  conv at ho2 => lhs; whnf
  subst ho2
  have hd := ready_dep hr ho
  have HI := Hq0 h; have HD := Hq0 hd.1
  obtain ⟨d1, hx1, q1⟩ : SI (-27) 27 (-11358536521387682) 17 (tm.getD (sl20 4) undef) w := h.at_ 4 (by decide) (hd.2 { on := 4, ground := .data } (by simp) (by rfl))
  rw [show sl20 4 = 107 from rfl] at hx1
  have Q1 := Hq0 q1
  clear q1
  have hx2 : tm.getD 108 undef = (.agg #[.pointer (some ⟨bq, 0, none⟩), .int .i32 eq]) := h.at_ 5 (by decide) (hd.2 { on := 5, ground := .data } (by simp) (by rfl))
  have Q2 := Hq0 (hq.same h.g)
  have HM := Hq0 (dv_mulx Q1.out Q2.out (hk.same h.g) (by decide) (by decide))
  clear hd hr hops h hl hq hk ht
  refine wpOp_step ho (fun K' hK => ?_)
  have HK := Hq0 hK
  rw [if_pos (by rfl)]
  clear hK
  go_wp2_with (fail)
  refine HM.out.mono ?_
  rintro r wk ⟨bA, eA, rfl, hbA, hdA, gk⟩
  exact HK.out _ _ (HI.out.next hb (by decide) rfl HD.out gk ⟨bA, eA, rfl, hdA⟩)
theorem op20_7 {ops : Array Oper} (hops : opsOf (Tryz.f34.body.bind (regOf 20)) = ops) {wr : World} {bq T : Nat} {eq z : Int} {base : List Value} {ds : List Deferred} {listed : Array Bool} {tm : Array Value} {w : World} {Q : Exit → Act → World → Prop} (h : I20 wr bq eq z base ds listed ⟨tm, ds⟩ w) (hb : base.length = 145) (hT : tm.getD 11 undef = .pointer (some ⟨T, 0, none⟩)) (hl : LV wr T bq eq) (hq : DV wr bq eq 62 (z * z) 62 2) (hk : TabK wr) (ht : TabC wr) (hr : 7 ∈ Region.ready .any ops listed) : wpOp Tryz.prog ops Q 7 (fun a' w' => I20 wr bq eq z base ds (listed.setIfInBounds 7 true) a' w') ⟨tm, ds⟩ w := by
  obtain ⟨o, ho⟩ : ∃ o, ops[7]? = some o := by rw [← hops]; exact ⟨_, rfl⟩
  have ho2 := ho
  rw [← hops] at ho2
  conv at ho2 => lhs; whnf
  injection ho2 with ho2
  conv at ho2 => lhs; whnf
  subst ho2
  have hd := ready_dep hr ho
  have HI := Hq0 h; have HD := Hq0 hd.1
  have HC := Hq0 (cos_any (ht.same h.g))
  clear hd hr hops h hl hq hk ht
  refine wpOp_step ho (fun K' hK => ?_)
  have HK := Hq0 hK
  rw [if_pos (by rfl)]
  clear hK
  go_wp2_with (fail)
  refine HC.out.mono ?_
  rintro r wk ⟨b0, b1, b2, b3, b4, b5, rfl, q0, q1, q2, q3, q4, q5, gk⟩
  exact HK.out _ _ (HI.out.next hb (by decide) rfl HD.out gk ⟨b0, b1, b2, b3, b4, b5, rfl, dv_di q0 (by decide) (by decide), dv_di q1 (by decide) (by decide), dv_di q2 (by decide) (by decide), dv_di q3 (by decide) (by decide), dv_di q4 (by decide) (by decide), dv_di q5 (by decide) (by decide)⟩)
theorem op20_8 {ops : Array Oper} (hops : opsOf (Tryz.f34.body.bind (regOf 20)) = ops) {wr : World} {bq T : Nat} {eq z : Int} {base : List Value} {ds : List Deferred} {listed : Array Bool} {tm : Array Value} {w : World} {Q : Exit → Act → World → Prop} (h : I20 wr bq eq z base ds listed ⟨tm, ds⟩ w) (hb : base.length = 145) (hT : tm.getD 11 undef = .pointer (some ⟨T, 0, none⟩)) (hl : LV wr T bq eq) (hq : DV wr bq eq 62 (z * z) 62 2) (hk : TabK wr) (ht : TabC wr) (hr : 8 ∈ Region.ready .any ops listed) : wpOp Tryz.prog ops Q 8 (fun a' w' => I20 wr bq eq z base ds (listed.setIfInBounds 8 true) a' w') ⟨tm, ds⟩ w := by
  obtain ⟨o, ho⟩ : ∃ o, ops[8]? = some o := by rw [← hops]; exact ⟨_, rfl⟩
  have ho2 := ho
  rw [← hops] at ho2
  conv at ho2 => lhs; whnf
  injection ho2 with ho2
  conv at ho2 => lhs; whnf
  subst ho2
  have hd := ready_dep hr ho
  have HI := Hq0 h; have HD := Hq0 hd.1
  obtain ⟨b0, b1, b2, b3, b4, b5, hx, q0, q1, q2, q3, q4, q5⟩ : SC (tm.getD (sl20 7) undef) w := h.at_ 7 (by decide) (hd.2 { on := 7, ground := .data } (by simp) (by rfl))
  rw [show sl20 7 = 110 from rfl] at hx
  have QK := Hq0 q1
  have IX := run_ix1
  clear hd hr hops h hl hq hk ht q0 q1 q2 q3 q4 q5
  refine wpOp_step ho (fun K' hK => ?_)
  have HK := Hq0 hK
  rw [if_pos (by rfl)]
  clear hK
  go_wp2_with (fail)
  exact HK.out _ _ (HI.out.next hb (by decide) rfl HD.out (grown_refl _ _) ⟨b1, rfl, QK.out⟩)
theorem op20_9 {ops : Array Oper} (hops : opsOf (Tryz.f34.body.bind (regOf 20)) = ops) {wr : World} {bq T : Nat} {eq z : Int} {base : List Value} {ds : List Deferred} {listed : Array Bool} {tm : Array Value} {w : World} {Q : Exit → Act → World → Prop} (h : I20 wr bq eq z base ds listed ⟨tm, ds⟩ w) (hb : base.length = 145) (hT : tm.getD 11 undef = .pointer (some ⟨T, 0, none⟩)) (hl : LV wr T bq eq) (hq : DV wr bq eq 62 (z * z) 62 2) (hk : TabK wr) (ht : TabC wr) (hr : 9 ∈ Region.ready .any ops listed) : wpOp Tryz.prog ops Q 9 (fun a' w' => I20 wr bq eq z base ds (listed.setIfInBounds 9 true) a' w') ⟨tm, ds⟩ w := by
  obtain ⟨o, ho⟩ : ∃ o, ops[9]? = some o := by rw [← hops]; exact ⟨_, rfl⟩
  have ho2 := ho
  rw [← hops] at ho2
  conv at ho2 => lhs; whnf
  injection ho2 with ho2
  conv at ho2 => lhs; whnf
  subst ho2
  have hd := ready_dep hr ho
  have HI := Hq0 h; have HD := Hq0 hd.1
  obtain ⟨d1, f1, hx1, q1⟩ : SV 89 ((-11358536521387682) * (z * z)) 79 2 (tm.getD (sl20 6) undef) w := h.at_ 6 (by decide) (hd.2 { on := 6, ground := .data } (by simp) (by rfl))
  rw [show sl20 6 = 109 from rfl] at hx1
  have Q1 := Hq0 q1
  clear q1
  obtain ⟨d2, hx2, q2⟩ : SI (-24) 24 (2087570084197473) 16 (tm.getD (sl20 8) undef) w := h.at_ 8 (by decide) (hd.2 { on := 8, ground := .data } (by simp) (by rfl))
  rw [show sl20 8 = 111 from rfl] at hx2
  have Q2 := Hq0 q2
  clear q2
  have HM := Hq0 (dv_add (p := 89) Q1.out (Q2.out.at 65 rfl rfl (Nat.le_refl _) (Nat.le_refl _)) (hk.same h.g) (by decide))
  clear hd hr hops h hl hq hk ht
  refine wpOp_step ho (fun K' hK => ?_)
  have HK := Hq0 hK
  rw [if_pos (by rfl)]
  clear hK
  go_wp2_with (fail)
  refine HM.out.mono ?_
  rintro r wk ⟨bA, eA, rfl, hbA, hdA, gk⟩
  exact HK.out _ _ (HI.out.next hb (by decide) rfl HD.out gk ⟨bA, eA, rfl, hdA⟩)
theorem op20_10 {ops : Array Oper} (hops : opsOf (Tryz.f34.body.bind (regOf 20)) = ops) {wr : World} {bq T : Nat} {eq z : Int} {base : List Value} {ds : List Deferred} {listed : Array Bool} {tm : Array Value} {w : World} {Q : Exit → Act → World → Prop} (h : I20 wr bq eq z base ds listed ⟨tm, ds⟩ w) (hb : base.length = 145) (hT : tm.getD 11 undef = .pointer (some ⟨T, 0, none⟩)) (hl : LV wr T bq eq) (hq : DV wr bq eq 62 (z * z) 62 2) (hk : TabK wr) (ht : TabC wr) (hr : 10 ∈ Region.ready .any ops listed) : wpOp Tryz.prog ops Q 10 (fun a' w' => I20 wr bq eq z base ds (listed.setIfInBounds 10 true) a' w') ⟨tm, ds⟩ w := by
  obtain ⟨o, ho⟩ : ∃ o, ops[10]? = some o := by rw [← hops]; exact ⟨_, rfl⟩
  have ho2 := ho
  rw [← hops] at ho2
  conv at ho2 => lhs; whnf
  injection ho2 with ho2
  conv at ho2 => lhs; whnf
  subst ho2
  have hd := ready_dep hr ho
  have HI := Hq0 h; have HD := Hq0 hd.1
  obtain ⟨c0, c1, c2, c3⟩ := LV.c (kpb h.g hl)
  clear hd hr hops h hl hq hk ht
  refine wpOp_step ho (fun K' hK => ?_)
  have HK := Hq0 hK
  rw [if_pos (by rfl)]
  clear hK
  go_wp2_with (fail)
  exact HK.out _ _ (HI.out.next hb (by decide) rfl HD.out (grown_refl _ _) rfl)
theorem op20_11 {ops : Array Oper} (hops : opsOf (Tryz.f34.body.bind (regOf 20)) = ops) {wr : World} {bq T : Nat} {eq z : Int} {base : List Value} {ds : List Deferred} {listed : Array Bool} {tm : Array Value} {w : World} {Q : Exit → Act → World → Prop} (h : I20 wr bq eq z base ds listed ⟨tm, ds⟩ w) (hb : base.length = 145) (hT : tm.getD 11 undef = .pointer (some ⟨T, 0, none⟩)) (hl : LV wr T bq eq) (hq : DV wr bq eq 62 (z * z) 62 2) (hk : TabK wr) (ht : TabC wr) (hr : 11 ∈ Region.ready .any ops listed) : wpOp Tryz.prog ops Q 11 (fun a' w' => I20 wr bq eq z base ds (listed.setIfInBounds 11 true) a' w') ⟨tm, ds⟩ w := by
  obtain ⟨o, ho⟩ : ∃ o, ops[11]? = some o := by rw [← hops]; exact ⟨_, rfl⟩
  have ho2 := ho
  rw [← hops] at ho2
  conv at ho2 => lhs; whnf
  injection ho2 with ho2
  conv at ho2 => lhs; whnf
  subst ho2
  have hd := ready_dep hr ho
  have HI := Hq0 h; have HD := Hq0 hd.1
  obtain ⟨d1, f1, hx1, q1⟩ : SV 89 (((-11358536521387682) * (z * z)) + (2087570084197473) * 10 ^ 65) 82 2 (tm.getD (sl20 9) undef) w := h.at_ 9 (by decide) (hd.2 { on := 9, ground := .data } (by simp) (by rfl))
  rw [show sl20 9 = 112 from rfl] at hx1
  have Q1 := Hq0 q1
  clear q1
  have hx2 : tm.getD 113 undef = (.agg #[.pointer (some ⟨bq, 0, none⟩), .int .i32 eq]) := h.at_ 10 (by decide) (hd.2 { on := 10, ground := .data } (by simp) (by rfl))
  have Q2 := Hq0 (hq.same h.g)
  have HM := Hq0 (dv_mulx Q1.out Q2.out (hk.same h.g) (by decide) (by decide))
  clear hd hr hops h hl hq hk ht
  refine wpOp_step ho (fun K' hK => ?_)
  have HK := Hq0 hK
  rw [if_pos (by rfl)]
  clear hK
  go_wp2_with (fail)
  refine HM.out.mono ?_
  rintro r wk ⟨bA, eA, rfl, hbA, hdA, gk⟩
  exact HK.out _ _ (HI.out.next hb (by decide) rfl HD.out gk ⟨bA, eA, rfl, hdA⟩)
theorem op20_12 {ops : Array Oper} (hops : opsOf (Tryz.f34.body.bind (regOf 20)) = ops) {wr : World} {bq T : Nat} {eq z : Int} {base : List Value} {ds : List Deferred} {listed : Array Bool} {tm : Array Value} {w : World} {Q : Exit → Act → World → Prop} (h : I20 wr bq eq z base ds listed ⟨tm, ds⟩ w) (hb : base.length = 145) (hT : tm.getD 11 undef = .pointer (some ⟨T, 0, none⟩)) (hl : LV wr T bq eq) (hq : DV wr bq eq 62 (z * z) 62 2) (hk : TabK wr) (ht : TabC wr) (hr : 12 ∈ Region.ready .any ops listed) : wpOp Tryz.prog ops Q 12 (fun a' w' => I20 wr bq eq z base ds (listed.setIfInBounds 12 true) a' w') ⟨tm, ds⟩ w := by
  obtain ⟨o, ho⟩ : ∃ o, ops[12]? = some o := by rw [← hops]; exact ⟨_, rfl⟩
  have ho2 := ho
  rw [← hops] at ho2
  conv at ho2 => lhs; whnf
  injection ho2 with ho2
  conv at ho2 => lhs; whnf
  subst ho2
  have hd := ready_dep hr ho
  have HI := Hq0 h; have HD := Hq0 hd.1
  have HC := Hq0 (cos_any (ht.same h.g))
  clear hd hr hops h hl hq hk ht
  refine wpOp_step ho (fun K' hK => ?_)
  have HK := Hq0 hK
  rw [if_pos (by rfl)]
  clear hK
  go_wp2_with (fail)
  refine HC.out.mono ?_
  rintro r wk ⟨b0, b1, b2, b3, b4, b5, rfl, q0, q1, q2, q3, q4, q5, gk⟩
  exact HK.out _ _ (HI.out.next hb (by decide) rfl HD.out gk ⟨b0, b1, b2, b3, b4, b5, rfl, dv_di q0 (by decide) (by decide), dv_di q1 (by decide) (by decide), dv_di q2 (by decide) (by decide), dv_di q3 (by decide) (by decide), dv_di q4 (by decide) (by decide), dv_di q5 (by decide) (by decide)⟩)
theorem op20_13 {ops : Array Oper} (hops : opsOf (Tryz.f34.body.bind (regOf 20)) = ops) {wr : World} {bq T : Nat} {eq z : Int} {base : List Value} {ds : List Deferred} {listed : Array Bool} {tm : Array Value} {w : World} {Q : Exit → Act → World → Prop} (h : I20 wr bq eq z base ds listed ⟨tm, ds⟩ w) (hb : base.length = 145) (hT : tm.getD 11 undef = .pointer (some ⟨T, 0, none⟩)) (hl : LV wr T bq eq) (hq : DV wr bq eq 62 (z * z) 62 2) (hk : TabK wr) (ht : TabC wr) (hr : 13 ∈ Region.ready .any ops listed) : wpOp Tryz.prog ops Q 13 (fun a' w' => I20 wr bq eq z base ds (listed.setIfInBounds 13 true) a' w') ⟨tm, ds⟩ w := by
  obtain ⟨o, ho⟩ : ∃ o, ops[13]? = some o := by rw [← hops]; exact ⟨_, rfl⟩
  have ho2 := ho
  rw [← hops] at ho2
  conv at ho2 => lhs; whnf
  injection ho2 with ho2
  conv at ho2 => lhs; whnf
  subst ho2
  have hd := ready_dep hr ho
  have HI := Hq0 h; have HD := Hq0 hd.1
  obtain ⟨b0, b1, b2, b3, b4, b5, hx, q0, q1, q2, q3, q4, q5⟩ : SC (tm.getD (sl20 12) undef) w := h.at_ 12 (by decide) (hd.2 { on := 12, ground := .data } (by simp) (by rfl))
  rw [show sl20 12 = 115 from rfl] at hx
  have QK := Hq0 q2
  have IX := run_ix2
  clear hd hr hops h hl hq hk ht q0 q1 q2 q3 q4 q5
  refine wpOp_step ho (fun K' hK => ?_)
  have HK := Hq0 hK
  rw [if_pos (by rfl)]
  clear hK
  go_wp2_with (fail)
  exact HK.out _ _ (HI.out.next hb (by decide) rfl HD.out (grown_refl _ _) ⟨b2, rfl, QK.out⟩)
theorem op20_14 {ops : Array Oper} (hops : opsOf (Tryz.f34.body.bind (regOf 20)) = ops) {wr : World} {bq T : Nat} {eq z : Int} {base : List Value} {ds : List Deferred} {listed : Array Bool} {tm : Array Value} {w : World} {Q : Exit → Act → World → Prop} (h : I20 wr bq eq z base ds listed ⟨tm, ds⟩ w) (hb : base.length = 145) (hT : tm.getD 11 undef = .pointer (some ⟨T, 0, none⟩)) (hl : LV wr T bq eq) (hq : DV wr bq eq 62 (z * z) 62 2) (hk : TabK wr) (ht : TabC wr) (hr : 14 ∈ Region.ready .any ops listed) : wpOp Tryz.prog ops Q 14 (fun a' w' => I20 wr bq eq z base ds (listed.setIfInBounds 14 true) a' w') ⟨tm, ds⟩ w := by
  obtain ⟨o, ho⟩ : ∃ o, ops[14]? = some o := by rw [← hops]; exact ⟨_, rfl⟩
  have ho2 := ho
  rw [← hops] at ho2
  conv at ho2 => lhs; whnf
  injection ho2 with ho2
  conv at ho2 => lhs; whnf
  subst ho2
  have hd := ready_dep hr ho
  have HI := Hq0 h; have HD := Hq0 hd.1
  obtain ⟨d1, f1, hx1, q1⟩ : SV 151 ((((-11358536521387682) * (z * z)) + (2087570084197473) * 10 ^ 65) * (z * z)) 144 4 (tm.getD (sl20 11) undef) w := h.at_ 11 (by decide) (hd.2 { on := 11, ground := .data } (by simp) (by rfl))
  rw [show sl20 11 = 114 from rfl] at hx1
  have Q1 := Hq0 q1
  clear q1
  obtain ⟨d2, hx2, q2⟩ : SI (-22) 22 (-2755731417929674) 16 (tm.getD (sl20 13) undef) w := h.at_ 13 (by decide) (hd.2 { on := 13, ground := .data } (by simp) (by rfl))
  rw [show sl20 13 = 116 from rfl] at hx2
  have Q2 := Hq0 q2
  clear q2
  have HM := Hq0 (dv_add (p := 151) Q1.out (Q2.out.at 129 rfl rfl (Nat.le_refl _) (Nat.le_refl _)) (hk.same h.g) (by decide))
  clear hd hr hops h hl hq hk ht
  refine wpOp_step ho (fun K' hK => ?_)
  have HK := Hq0 hK
  rw [if_pos (by rfl)]
  clear hK
  go_wp2_with (fail)
  refine HM.out.mono ?_
  rintro r wk ⟨bA, eA, rfl, hbA, hdA, gk⟩
  exact HK.out _ _ (HI.out.next hb (by decide) rfl HD.out gk ⟨bA, eA, rfl, hdA⟩)
theorem op20_15 {ops : Array Oper} (hops : opsOf (Tryz.f34.body.bind (regOf 20)) = ops) {wr : World} {bq T : Nat} {eq z : Int} {base : List Value} {ds : List Deferred} {listed : Array Bool} {tm : Array Value} {w : World} {Q : Exit → Act → World → Prop} (h : I20 wr bq eq z base ds listed ⟨tm, ds⟩ w) (hb : base.length = 145) (hT : tm.getD 11 undef = .pointer (some ⟨T, 0, none⟩)) (hl : LV wr T bq eq) (hq : DV wr bq eq 62 (z * z) 62 2) (hk : TabK wr) (ht : TabC wr) (hr : 15 ∈ Region.ready .any ops listed) : wpOp Tryz.prog ops Q 15 (fun a' w' => I20 wr bq eq z base ds (listed.setIfInBounds 15 true) a' w') ⟨tm, ds⟩ w := by
  obtain ⟨o, ho⟩ : ∃ o, ops[15]? = some o := by rw [← hops]; exact ⟨_, rfl⟩
  have ho2 := ho
  rw [← hops] at ho2
  conv at ho2 => lhs; whnf
  injection ho2 with ho2
  conv at ho2 => lhs; whnf
  subst ho2
  have hd := ready_dep hr ho
  have HI := Hq0 h; have HD := Hq0 hd.1
  obtain ⟨c0, c1, c2, c3⟩ := LV.c (kpb h.g hl)
  clear hd hr hops h hl hq hk ht
  refine wpOp_step ho (fun K' hK => ?_)
  have HK := Hq0 hK
  rw [if_pos (by rfl)]
  clear hK
  go_wp2_with (fail)
  exact HK.out _ _ (HI.out.next hb (by decide) rfl HD.out (grown_refl _ _) rfl)
theorem op20_16 {ops : Array Oper} (hops : opsOf (Tryz.f34.body.bind (regOf 20)) = ops) {wr : World} {bq T : Nat} {eq z : Int} {base : List Value} {ds : List Deferred} {listed : Array Bool} {tm : Array Value} {w : World} {Q : Exit → Act → World → Prop} (h : I20 wr bq eq z base ds listed ⟨tm, ds⟩ w) (hb : base.length = 145) (hT : tm.getD 11 undef = .pointer (some ⟨T, 0, none⟩)) (hl : LV wr T bq eq) (hq : DV wr bq eq 62 (z * z) 62 2) (hk : TabK wr) (ht : TabC wr) (hr : 16 ∈ Region.ready .any ops listed) : wpOp Tryz.prog ops Q 16 (fun a' w' => I20 wr bq eq z base ds (listed.setIfInBounds 16 true) a' w') ⟨tm, ds⟩ w := by
  obtain ⟨o, ho⟩ : ∃ o, ops[16]? = some o := by rw [← hops]; exact ⟨_, rfl⟩
  have ho2 := ho
  rw [← hops] at ho2
  conv at ho2 => lhs; whnf
  injection ho2 with ho2
  conv at ho2 => lhs; whnf
  subst ho2
  have hd := ready_dep hr ho
  have HI := Hq0 h; have HD := Hq0 hd.1
  obtain ⟨d1, f1, hx1, q1⟩ : SV 151 (((((-11358536521387682) * (z * z)) + (2087570084197473) * 10 ^ 65) * (z * z)) + (-2755731417929674) * 10 ^ 129) 146 4 (tm.getD (sl20 14) undef) w := h.at_ 14 (by decide) (hd.2 { on := 14, ground := .data } (by simp) (by rfl))
  rw [show sl20 14 = 117 from rfl] at hx1
  have Q1 := Hq0 q1
  clear q1
  have hx2 : tm.getD 118 undef = (.agg #[.pointer (some ⟨bq, 0, none⟩), .int .i32 eq]) := h.at_ 15 (by decide) (hd.2 { on := 15, ground := .data } (by simp) (by rfl))
  have Q2 := Hq0 (hq.same h.g)
  have HM := Hq0 (dv_mulx Q1.out Q2.out (hk.same h.g) (by decide) (by decide))
  clear hd hr hops h hl hq hk ht
  refine wpOp_step ho (fun K' hK => ?_)
  have HK := Hq0 hK
  rw [if_pos (by rfl)]
  clear hK
  go_wp2_with (fail)
  refine HM.out.mono ?_
  rintro r wk ⟨bA, eA, rfl, hbA, hdA, gk⟩
  exact HK.out _ _ (HI.out.next hb (by decide) rfl HD.out gk ⟨bA, eA, rfl, hdA⟩)
theorem op20_17 {ops : Array Oper} (hops : opsOf (Tryz.f34.body.bind (regOf 20)) = ops) {wr : World} {bq T : Nat} {eq z : Int} {base : List Value} {ds : List Deferred} {listed : Array Bool} {tm : Array Value} {w : World} {Q : Exit → Act → World → Prop} (h : I20 wr bq eq z base ds listed ⟨tm, ds⟩ w) (hb : base.length = 145) (hT : tm.getD 11 undef = .pointer (some ⟨T, 0, none⟩)) (hl : LV wr T bq eq) (hq : DV wr bq eq 62 (z * z) 62 2) (hk : TabK wr) (ht : TabC wr) (hr : 17 ∈ Region.ready .any ops listed) : wpOp Tryz.prog ops Q 17 (fun a' w' => I20 wr bq eq z base ds (listed.setIfInBounds 17 true) a' w') ⟨tm, ds⟩ w := by
  obtain ⟨o, ho⟩ : ∃ o, ops[17]? = some o := by rw [← hops]; exact ⟨_, rfl⟩
  have ho2 := ho
  rw [← hops] at ho2
  conv at ho2 => lhs; whnf
  injection ho2 with ho2
  conv at ho2 => lhs; whnf
  subst ho2
  have hd := ready_dep hr ho
  have HI := Hq0 h; have HD := Hq0 hd.1
  have HC := Hq0 (cos_any (ht.same h.g))
  clear hd hr hops h hl hq hk ht
  refine wpOp_step ho (fun K' hK => ?_)
  have HK := Hq0 hK
  rw [if_pos (by rfl)]
  clear hK
  go_wp2_with (fail)
  refine HC.out.mono ?_
  rintro r wk ⟨b0, b1, b2, b3, b4, b5, rfl, q0, q1, q2, q3, q4, q5, gk⟩
  exact HK.out _ _ (HI.out.next hb (by decide) rfl HD.out gk ⟨b0, b1, b2, b3, b4, b5, rfl, dv_di q0 (by decide) (by decide), dv_di q1 (by decide) (by decide), dv_di q2 (by decide) (by decide), dv_di q3 (by decide) (by decide), dv_di q4 (by decide) (by decide), dv_di q5 (by decide) (by decide)⟩)
theorem op20_18 {ops : Array Oper} (hops : opsOf (Tryz.f34.body.bind (regOf 20)) = ops) {wr : World} {bq T : Nat} {eq z : Int} {base : List Value} {ds : List Deferred} {listed : Array Bool} {tm : Array Value} {w : World} {Q : Exit → Act → World → Prop} (h : I20 wr bq eq z base ds listed ⟨tm, ds⟩ w) (hb : base.length = 145) (hT : tm.getD 11 undef = .pointer (some ⟨T, 0, none⟩)) (hl : LV wr T bq eq) (hq : DV wr bq eq 62 (z * z) 62 2) (hk : TabK wr) (ht : TabC wr) (hr : 18 ∈ Region.ready .any ops listed) : wpOp Tryz.prog ops Q 18 (fun a' w' => I20 wr bq eq z base ds (listed.setIfInBounds 18 true) a' w') ⟨tm, ds⟩ w := by
  obtain ⟨o, ho⟩ : ∃ o, ops[18]? = some o := by rw [← hops]; exact ⟨_, rfl⟩
  have ho2 := ho
  rw [← hops] at ho2
  conv at ho2 => lhs; whnf
  injection ho2 with ho2
  conv at ho2 => lhs; whnf
  subst ho2
  have hd := ready_dep hr ho
  have HI := Hq0 h; have HD := Hq0 hd.1
  obtain ⟨b0, b1, b2, b3, b4, b5, hx, q0, q1, q2, q3, q4, q5⟩ : SC (tm.getD (sl20 17) undef) w := h.at_ 17 (by decide) (hd.2 { on := 17, ground := .data } (by simp) (by rfl))
  rw [show sl20 17 = 120 from rfl] at hx
  have QK := Hq0 q3
  have IX := run_ix3
  clear hd hr hops h hl hq hk ht q0 q1 q2 q3 q4 q5
  refine wpOp_step ho (fun K' hK => ?_)
  have HK := Hq0 hK
  rw [if_pos (by rfl)]
  clear hK
  go_wp2_with (fail)
  exact HK.out _ _ (HI.out.next hb (by decide) rfl HD.out (grown_refl _ _) ⟨b3, rfl, QK.out⟩)
theorem op20_19 {ops : Array Oper} (hops : opsOf (Tryz.f34.body.bind (regOf 20)) = ops) {wr : World} {bq T : Nat} {eq z : Int} {base : List Value} {ds : List Deferred} {listed : Array Bool} {tm : Array Value} {w : World} {Q : Exit → Act → World → Prop} (h : I20 wr bq eq z base ds listed ⟨tm, ds⟩ w) (hb : base.length = 145) (hT : tm.getD 11 undef = .pointer (some ⟨T, 0, none⟩)) (hl : LV wr T bq eq) (hq : DV wr bq eq 62 (z * z) 62 2) (hk : TabK wr) (ht : TabC wr) (hr : 19 ∈ Region.ready .any ops listed) : wpOp Tryz.prog ops Q 19 (fun a' w' => I20 wr bq eq z base ds (listed.setIfInBounds 19 true) a' w') ⟨tm, ds⟩ w := by
  obtain ⟨o, ho⟩ : ∃ o, ops[19]? = some o := by rw [← hops]; exact ⟨_, rfl⟩
  have ho2 := ho
  rw [← hops] at ho2
  conv at ho2 => lhs; whnf
  injection ho2 with ho2
  conv at ho2 => lhs; whnf
  subst ho2
  have hd := ready_dep hr ho
  have HI := Hq0 h; have HD := Hq0 hd.1
  obtain ⟨d1, f1, hx1, q1⟩ : SV 213 ((((((-11358536521387682) * (z * z)) + (2087570084197473) * 10 ^ 65) * (z * z)) + (-2755731417929674) * 10 ^ 129) * (z * z)) 208 6 (tm.getD (sl20 16) undef) w := h.at_ 16 (by decide) (hd.2 { on := 16, ground := .data } (by simp) (by rfl))
  rw [show sl20 16 = 119 from rfl] at hx1
  have Q1 := Hq0 q1
  clear q1
  obtain ⟨d2, hx2, q2⟩ : SI (-21) 21 (24801587288851704) 17 (tm.getD (sl20 18) undef) w := h.at_ 18 (by decide) (hd.2 { on := 18, ground := .data } (by simp) (by rfl))
  rw [show sl20 18 = 121 from rfl] at hx2
  have Q2 := Hq0 q2
  clear q2
  have HM := Hq0 (dv_add (p := 213) Q1.out (Q2.out.at 192 rfl rfl (Nat.le_refl _) (Nat.le_refl _)) (hk.same h.g) (by decide))
  clear hd hr hops h hl hq hk ht
  refine wpOp_step ho (fun K' hK => ?_)
  have HK := Hq0 hK
  rw [if_pos (by rfl)]
  clear hK
  go_wp2_with (fail)
  refine HM.out.mono ?_
  rintro r wk ⟨bA, eA, rfl, hbA, hdA, gk⟩
  exact HK.out _ _ (HI.out.next hb (by decide) rfl HD.out gk ⟨bA, eA, rfl, hdA⟩)
theorem op20_20 {ops : Array Oper} (hops : opsOf (Tryz.f34.body.bind (regOf 20)) = ops) {wr : World} {bq T : Nat} {eq z : Int} {base : List Value} {ds : List Deferred} {listed : Array Bool} {tm : Array Value} {w : World} {Q : Exit → Act → World → Prop} (h : I20 wr bq eq z base ds listed ⟨tm, ds⟩ w) (hb : base.length = 145) (hT : tm.getD 11 undef = .pointer (some ⟨T, 0, none⟩)) (hl : LV wr T bq eq) (hq : DV wr bq eq 62 (z * z) 62 2) (hk : TabK wr) (ht : TabC wr) (hr : 20 ∈ Region.ready .any ops listed) : wpOp Tryz.prog ops Q 20 (fun a' w' => I20 wr bq eq z base ds (listed.setIfInBounds 20 true) a' w') ⟨tm, ds⟩ w := by
  obtain ⟨o, ho⟩ : ∃ o, ops[20]? = some o := by rw [← hops]; exact ⟨_, rfl⟩
  have ho2 := ho
  rw [← hops] at ho2
  conv at ho2 => lhs; whnf
  injection ho2 with ho2
  conv at ho2 => lhs; whnf
  subst ho2
  have hd := ready_dep hr ho
  have HI := Hq0 h; have HD := Hq0 hd.1
  obtain ⟨c0, c1, c2, c3⟩ := LV.c (kpb h.g hl)
  clear hd hr hops h hl hq hk ht
  refine wpOp_step ho (fun K' hK => ?_)
  have HK := Hq0 hK
  rw [if_pos (by rfl)]
  clear hK
  go_wp2_with (fail)
  exact HK.out _ _ (HI.out.next hb (by decide) rfl HD.out (grown_refl _ _) rfl)
theorem op20_21 {ops : Array Oper} (hops : opsOf (Tryz.f34.body.bind (regOf 20)) = ops) {wr : World} {bq T : Nat} {eq z : Int} {base : List Value} {ds : List Deferred} {listed : Array Bool} {tm : Array Value} {w : World} {Q : Exit → Act → World → Prop} (h : I20 wr bq eq z base ds listed ⟨tm, ds⟩ w) (hb : base.length = 145) (hT : tm.getD 11 undef = .pointer (some ⟨T, 0, none⟩)) (hl : LV wr T bq eq) (hq : DV wr bq eq 62 (z * z) 62 2) (hk : TabK wr) (ht : TabC wr) (hr : 21 ∈ Region.ready .any ops listed) : wpOp Tryz.prog ops Q 21 (fun a' w' => I20 wr bq eq z base ds (listed.setIfInBounds 21 true) a' w') ⟨tm, ds⟩ w := by
  obtain ⟨o, ho⟩ : ∃ o, ops[21]? = some o := by rw [← hops]; exact ⟨_, rfl⟩
  have ho2 := ho
  rw [← hops] at ho2
  conv at ho2 => lhs; whnf
  injection ho2 with ho2
  conv at ho2 => lhs; whnf
  subst ho2
  have hd := ready_dep hr ho
  have HI := Hq0 h; have HD := Hq0 hd.1
  obtain ⟨d1, f1, hx1, q1⟩ : SV 213 (((((((-11358536521387682) * (z * z)) + (2087570084197473) * 10 ^ 65) * (z * z)) + (-2755731417929674) * 10 ^ 129) * (z * z)) + (24801587288851704) * 10 ^ 192) 210 6 (tm.getD (sl20 19) undef) w := h.at_ 19 (by decide) (hd.2 { on := 19, ground := .data } (by simp) (by rfl))
  rw [show sl20 19 = 122 from rfl] at hx1
  have Q1 := Hq0 q1
  clear q1
  have hx2 : tm.getD 123 undef = (.agg #[.pointer (some ⟨bq, 0, none⟩), .int .i32 eq]) := h.at_ 20 (by decide) (hd.2 { on := 20, ground := .data } (by simp) (by rfl))
  have Q2 := Hq0 (hq.same h.g)
  have HM := Hq0 (dv_mulx Q1.out Q2.out (hk.same h.g) (by decide) (by decide))
  clear hd hr hops h hl hq hk ht
  refine wpOp_step ho (fun K' hK => ?_)
  have HK := Hq0 hK
  rw [if_pos (by rfl)]
  clear hK
  go_wp2_with (fail)
  refine HM.out.mono ?_
  rintro r wk ⟨bA, eA, rfl, hbA, hdA, gk⟩
  exact HK.out _ _ (HI.out.next hb (by decide) rfl HD.out gk ⟨bA, eA, rfl, hdA⟩)
theorem op20_22 {ops : Array Oper} (hops : opsOf (Tryz.f34.body.bind (regOf 20)) = ops) {wr : World} {bq T : Nat} {eq z : Int} {base : List Value} {ds : List Deferred} {listed : Array Bool} {tm : Array Value} {w : World} {Q : Exit → Act → World → Prop} (h : I20 wr bq eq z base ds listed ⟨tm, ds⟩ w) (hb : base.length = 145) (hT : tm.getD 11 undef = .pointer (some ⟨T, 0, none⟩)) (hl : LV wr T bq eq) (hq : DV wr bq eq 62 (z * z) 62 2) (hk : TabK wr) (ht : TabC wr) (hr : 22 ∈ Region.ready .any ops listed) : wpOp Tryz.prog ops Q 22 (fun a' w' => I20 wr bq eq z base ds (listed.setIfInBounds 22 true) a' w') ⟨tm, ds⟩ w := by
  obtain ⟨o, ho⟩ : ∃ o, ops[22]? = some o := by rw [← hops]; exact ⟨_, rfl⟩
  have ho2 := ho
  rw [← hops] at ho2
  conv at ho2 => lhs; whnf
  injection ho2 with ho2
  conv at ho2 => lhs; whnf
  subst ho2
  have hd := ready_dep hr ho
  have HI := Hq0 h; have HD := Hq0 hd.1
  have HC := Hq0 (cos_any (ht.same h.g))
  clear hd hr hops h hl hq hk ht
  refine wpOp_step ho (fun K' hK => ?_)
  have HK := Hq0 hK
  rw [if_pos (by rfl)]
  clear hK
  go_wp2_with (fail)
  refine HC.out.mono ?_
  rintro r wk ⟨b0, b1, b2, b3, b4, b5, rfl, q0, q1, q2, q3, q4, q5, gk⟩
  exact HK.out _ _ (HI.out.next hb (by decide) rfl HD.out gk ⟨b0, b1, b2, b3, b4, b5, rfl, dv_di q0 (by decide) (by decide), dv_di q1 (by decide) (by decide), dv_di q2 (by decide) (by decide), dv_di q3 (by decide) (by decide), dv_di q4 (by decide) (by decide), dv_di q5 (by decide) (by decide)⟩)
theorem op20_23 {ops : Array Oper} (hops : opsOf (Tryz.f34.body.bind (regOf 20)) = ops) {wr : World} {bq T : Nat} {eq z : Int} {base : List Value} {ds : List Deferred} {listed : Array Bool} {tm : Array Value} {w : World} {Q : Exit → Act → World → Prop} (h : I20 wr bq eq z base ds listed ⟨tm, ds⟩ w) (hb : base.length = 145) (hT : tm.getD 11 undef = .pointer (some ⟨T, 0, none⟩)) (hl : LV wr T bq eq) (hq : DV wr bq eq 62 (z * z) 62 2) (hk : TabK wr) (ht : TabC wr) (hr : 23 ∈ Region.ready .any ops listed) : wpOp Tryz.prog ops Q 23 (fun a' w' => I20 wr bq eq z base ds (listed.setIfInBounds 23 true) a' w') ⟨tm, ds⟩ w := by
  obtain ⟨o, ho⟩ : ∃ o, ops[23]? = some o := by rw [← hops]; exact ⟨_, rfl⟩
  have ho2 := ho
  rw [← hops] at ho2
  conv at ho2 => lhs; whnf
  injection ho2 with ho2
  conv at ho2 => lhs; whnf
  subst ho2
  have hd := ready_dep hr ho
  have HI := Hq0 h; have HD := Hq0 hd.1
  obtain ⟨b0, b1, b2, b3, b4, b5, hx, q0, q1, q2, q3, q4, q5⟩ : SC (tm.getD (sl20 22) undef) w := h.at_ 22 (by decide) (hd.2 { on := 22, ground := .data } (by simp) (by rfl))
  rw [show sl20 22 = 125 from rfl] at hx
  have QK := Hq0 q4
  have IX := run_ix4
  clear hd hr hops h hl hq hk ht q0 q1 q2 q3 q4 q5
  refine wpOp_step ho (fun K' hK => ?_)
  have HK := Hq0 hK
  rw [if_pos (by rfl)]
  clear hK
  go_wp2_with (fail)
  exact HK.out _ _ (HI.out.next hb (by decide) rfl HD.out (grown_refl _ _) ⟨b4, rfl, QK.out⟩)
theorem op20_24 {ops : Array Oper} (hops : opsOf (Tryz.f34.body.bind (regOf 20)) = ops) {wr : World} {bq T : Nat} {eq z : Int} {base : List Value} {ds : List Deferred} {listed : Array Bool} {tm : Array Value} {w : World} {Q : Exit → Act → World → Prop} (h : I20 wr bq eq z base ds listed ⟨tm, ds⟩ w) (hb : base.length = 145) (hT : tm.getD 11 undef = .pointer (some ⟨T, 0, none⟩)) (hl : LV wr T bq eq) (hq : DV wr bq eq 62 (z * z) 62 2) (hk : TabK wr) (ht : TabC wr) (hr : 24 ∈ Region.ready .any ops listed) : wpOp Tryz.prog ops Q 24 (fun a' w' => I20 wr bq eq z base ds (listed.setIfInBounds 24 true) a' w') ⟨tm, ds⟩ w := by
  obtain ⟨o, ho⟩ : ∃ o, ops[24]? = some o := by rw [← hops]; exact ⟨_, rfl⟩
  have ho2 := ho
  rw [← hops] at ho2
  conv at ho2 => lhs; whnf
  injection ho2 with ho2
  conv at ho2 => lhs; whnf
  subst ho2
  have hd := ready_dep hr ho
  have HI := Hq0 h; have HD := Hq0 hd.1
  obtain ⟨d1, f1, hx1, q1⟩ : SV 275 ((((((((-11358536521387682) * (z * z)) + (2087570084197473) * 10 ^ 65) * (z * z)) + (-2755731417929674) * 10 ^ 129) * (z * z)) + (24801587288851704) * 10 ^ 192) * (z * z)) 272 8 (tm.getD (sl20 21) undef) w := h.at_ 21 (by decide) (hd.2 { on := 21, ground := .data } (by simp) (by rfl))
  rw [show sl20 21 = 124 from rfl] at hx1
  have Q1 := Hq0 q1
  clear q1
  obtain ⟨d2, hx2, q2⟩ : SI (-19) 19 (-13888888888873056) 17 (tm.getD (sl20 23) undef) w := h.at_ 23 (by decide) (hd.2 { on := 23, ground := .data } (by simp) (by rfl))
  rw [show sl20 23 = 126 from rfl] at hx2
  have Q2 := Hq0 q2
  clear q2
  have HM := Hq0 (dv_add (p := 275) Q1.out (Q2.out.at 256 rfl rfl (Nat.le_refl _) (Nat.le_refl _)) (hk.same h.g) (by decide))
  clear hd hr hops h hl hq hk ht
  refine wpOp_step ho (fun K' hK => ?_)
  have HK := Hq0 hK
  rw [if_pos (by rfl)]
  clear hK
  go_wp2_with (fail)
  refine HM.out.mono ?_
  rintro r wk ⟨bA, eA, rfl, hbA, hdA, gk⟩
  exact HK.out _ _ (HI.out.next hb (by decide) rfl HD.out gk ⟨bA, eA, rfl, hdA⟩)
theorem op20_25 {ops : Array Oper} (hops : opsOf (Tryz.f34.body.bind (regOf 20)) = ops) {wr : World} {bq T : Nat} {eq z : Int} {base : List Value} {ds : List Deferred} {listed : Array Bool} {tm : Array Value} {w : World} {Q : Exit → Act → World → Prop} (h : I20 wr bq eq z base ds listed ⟨tm, ds⟩ w) (hb : base.length = 145) (hT : tm.getD 11 undef = .pointer (some ⟨T, 0, none⟩)) (hl : LV wr T bq eq) (hq : DV wr bq eq 62 (z * z) 62 2) (hk : TabK wr) (ht : TabC wr) (hr : 25 ∈ Region.ready .any ops listed) : wpOp Tryz.prog ops Q 25 (fun a' w' => I20 wr bq eq z base ds (listed.setIfInBounds 25 true) a' w') ⟨tm, ds⟩ w := by
  obtain ⟨o, ho⟩ : ∃ o, ops[25]? = some o := by rw [← hops]; exact ⟨_, rfl⟩
  have ho2 := ho
  rw [← hops] at ho2
  conv at ho2 => lhs; whnf
  injection ho2 with ho2
  conv at ho2 => lhs; whnf
  subst ho2
  have hd := ready_dep hr ho
  have HI := Hq0 h; have HD := Hq0 hd.1
  obtain ⟨c0, c1, c2, c3⟩ := LV.c (kpb h.g hl)
  clear hd hr hops h hl hq hk ht
  refine wpOp_step ho (fun K' hK => ?_)
  have HK := Hq0 hK
  rw [if_pos (by rfl)]
  clear hK
  go_wp2_with (fail)
  exact HK.out _ _ (HI.out.next hb (by decide) rfl HD.out (grown_refl _ _) rfl)
theorem op20_26 {ops : Array Oper} (hops : opsOf (Tryz.f34.body.bind (regOf 20)) = ops) {wr : World} {bq T : Nat} {eq z : Int} {base : List Value} {ds : List Deferred} {listed : Array Bool} {tm : Array Value} {w : World} {Q : Exit → Act → World → Prop} (h : I20 wr bq eq z base ds listed ⟨tm, ds⟩ w) (hb : base.length = 145) (hT : tm.getD 11 undef = .pointer (some ⟨T, 0, none⟩)) (hl : LV wr T bq eq) (hq : DV wr bq eq 62 (z * z) 62 2) (hk : TabK wr) (ht : TabC wr) (hr : 26 ∈ Region.ready .any ops listed) : wpOp Tryz.prog ops Q 26 (fun a' w' => I20 wr bq eq z base ds (listed.setIfInBounds 26 true) a' w') ⟨tm, ds⟩ w := by
  obtain ⟨o, ho⟩ : ∃ o, ops[26]? = some o := by rw [← hops]; exact ⟨_, rfl⟩
  have ho2 := ho
  rw [← hops] at ho2
  conv at ho2 => lhs; whnf
  injection ho2 with ho2
  conv at ho2 => lhs; whnf
  subst ho2
  have hd := ready_dep hr ho
  have HI := Hq0 h; have HD := Hq0 hd.1
  obtain ⟨d1, f1, hx1, q1⟩ : SV 275 (((((((((-11358536521387682) * (z * z)) + (2087570084197473) * 10 ^ 65) * (z * z)) + (-2755731417929674) * 10 ^ 129) * (z * z)) + (24801587288851704) * 10 ^ 192) * (z * z)) + (-13888888888873056) * 10 ^ 256) 274 8 (tm.getD (sl20 24) undef) w := h.at_ 24 (by decide) (hd.2 { on := 24, ground := .data } (by simp) (by rfl))
  rw [show sl20 24 = 127 from rfl] at hx1
  have Q1 := Hq0 q1
  clear q1
  have hx2 : tm.getD 128 undef = (.agg #[.pointer (some ⟨bq, 0, none⟩), .int .i32 eq]) := h.at_ 25 (by decide) (hd.2 { on := 25, ground := .data } (by simp) (by rfl))
  have Q2 := Hq0 (hq.same h.g)
  have HM := Hq0 (dv_mulx Q1.out Q2.out (hk.same h.g) (by decide) (by decide))
  clear hd hr hops h hl hq hk ht
  refine wpOp_step ho (fun K' hK => ?_)
  have HK := Hq0 hK
  rw [if_pos (by rfl)]
  clear hK
  go_wp2_with (fail)
  refine HM.out.mono ?_
  rintro r wk ⟨bA, eA, rfl, hbA, hdA, gk⟩
  exact HK.out _ _ (HI.out.next hb (by decide) rfl HD.out gk ⟨bA, eA, rfl, hdA⟩)
theorem op20_27 {ops : Array Oper} (hops : opsOf (Tryz.f34.body.bind (regOf 20)) = ops) {wr : World} {bq T : Nat} {eq z : Int} {base : List Value} {ds : List Deferred} {listed : Array Bool} {tm : Array Value} {w : World} {Q : Exit → Act → World → Prop} (h : I20 wr bq eq z base ds listed ⟨tm, ds⟩ w) (hb : base.length = 145) (hT : tm.getD 11 undef = .pointer (some ⟨T, 0, none⟩)) (hl : LV wr T bq eq) (hq : DV wr bq eq 62 (z * z) 62 2) (hk : TabK wr) (ht : TabC wr) (hr : 27 ∈ Region.ready .any ops listed) : wpOp Tryz.prog ops Q 27 (fun a' w' => I20 wr bq eq z base ds (listed.setIfInBounds 27 true) a' w') ⟨tm, ds⟩ w := by
  obtain ⟨o, ho⟩ : ∃ o, ops[27]? = some o := by rw [← hops]; exact ⟨_, rfl⟩
  have ho2 := ho
  rw [← hops] at ho2
  conv at ho2 => lhs; whnf
  injection ho2 with ho2
  conv at ho2 => lhs; whnf
  subst ho2
  have hd := ready_dep hr ho
  have HI := Hq0 h; have HD := Hq0 hd.1
  have HC := Hq0 (cos_any (ht.same h.g))
  clear hd hr hops h hl hq hk ht
  refine wpOp_step ho (fun K' hK => ?_)
  have HK := Hq0 hK
  rw [if_pos (by rfl)]
  clear hK
  go_wp2_with (fail)
  refine HC.out.mono ?_
  rintro r wk ⟨b0, b1, b2, b3, b4, b5, rfl, q0, q1, q2, q3, q4, q5, gk⟩
  exact HK.out _ _ (HI.out.next hb (by decide) rfl HD.out gk ⟨b0, b1, b2, b3, b4, b5, rfl, dv_di q0 (by decide) (by decide), dv_di q1 (by decide) (by decide), dv_di q2 (by decide) (by decide), dv_di q3 (by decide) (by decide), dv_di q4 (by decide) (by decide), dv_di q5 (by decide) (by decide)⟩)
theorem op20_28 {ops : Array Oper} (hops : opsOf (Tryz.f34.body.bind (regOf 20)) = ops) {wr : World} {bq T : Nat} {eq z : Int} {base : List Value} {ds : List Deferred} {listed : Array Bool} {tm : Array Value} {w : World} {Q : Exit → Act → World → Prop} (h : I20 wr bq eq z base ds listed ⟨tm, ds⟩ w) (hb : base.length = 145) (hT : tm.getD 11 undef = .pointer (some ⟨T, 0, none⟩)) (hl : LV wr T bq eq) (hq : DV wr bq eq 62 (z * z) 62 2) (hk : TabK wr) (ht : TabC wr) (hr : 28 ∈ Region.ready .any ops listed) : wpOp Tryz.prog ops Q 28 (fun a' w' => I20 wr bq eq z base ds (listed.setIfInBounds 28 true) a' w') ⟨tm, ds⟩ w := by
  obtain ⟨o, ho⟩ : ∃ o, ops[28]? = some o := by rw [← hops]; exact ⟨_, rfl⟩
  have ho2 := ho
  rw [← hops] at ho2
  conv at ho2 => lhs; whnf
  injection ho2 with ho2
  conv at ho2 => lhs; whnf
  subst ho2
  have hd := ready_dep hr ho
  have HI := Hq0 h; have HD := Hq0 hd.1
  obtain ⟨b0, b1, b2, b3, b4, b5, hx, q0, q1, q2, q3, q4, q5⟩ : SC (tm.getD (sl20 27) undef) w := h.at_ 27 (by decide) (hd.2 { on := 27, ground := .data } (by simp) (by rfl))
  rw [show sl20 27 = 130 from rfl] at hx
  have QK := Hq0 q5
  have IX := run_ix5
  clear hd hr hops h hl hq hk ht q0 q1 q2 q3 q4 q5
  refine wpOp_step ho (fun K' hK => ?_)
  have HK := Hq0 hK
  rw [if_pos (by rfl)]
  clear hK
  go_wp2_with (fail)
  exact HK.out _ _ (HI.out.next hb (by decide) rfl HD.out (grown_refl _ _) ⟨b5, rfl, QK.out⟩)
theorem op20_29 {ops : Array Oper} (hops : opsOf (Tryz.f34.body.bind (regOf 20)) = ops) {wr : World} {bq T : Nat} {eq z : Int} {base : List Value} {ds : List Deferred} {listed : Array Bool} {tm : Array Value} {w : World} {Q : Exit → Act → World → Prop} (h : I20 wr bq eq z base ds listed ⟨tm, ds⟩ w) (hb : base.length = 145) (hT : tm.getD 11 undef = .pointer (some ⟨T, 0, none⟩)) (hl : LV wr T bq eq) (hq : DV wr bq eq 62 (z * z) 62 2) (hk : TabK wr) (ht : TabC wr) (hr : 29 ∈ Region.ready .any ops listed) : wpOp Tryz.prog ops Q 29 (fun a' w' => I20 wr bq eq z base ds (listed.setIfInBounds 29 true) a' w') ⟨tm, ds⟩ w := by
  obtain ⟨o, ho⟩ : ∃ o, ops[29]? = some o := by rw [← hops]; exact ⟨_, rfl⟩
  have ho2 := ho
  rw [← hops] at ho2
  conv at ho2 => lhs; whnf
  injection ho2 with ho2
  conv at ho2 => lhs; whnf
  subst ho2
  have hd := ready_dep hr ho
  have HI := Hq0 h; have HD := Hq0 hd.1
  obtain ⟨d1, f1, hx1, q1⟩ : SV 337 ((((((((((-11358536521387682) * (z * z)) + (2087570084197473) * 10 ^ 65) * (z * z)) + (-2755731417929674) * 10 ^ 129) * (z * z)) + (24801587288851704) * 10 ^ 192) * (z * z)) + (-13888888888873056) * 10 ^ 256) * (z * z)) 336 10 (tm.getD (sl20 26) undef) w := h.at_ 26 (by decide) (hd.2 { on := 26, ground := .data } (by simp) (by rfl))
  rw [show sl20 26 = 129 from rfl] at hx1
  have Q1 := Hq0 q1
  clear q1
  obtain ⟨d2, hx2, q2⟩ : SI (-18) 18 (41666666666666595) 17 (tm.getD (sl20 28) undef) w := h.at_ 28 (by decide) (hd.2 { on := 28, ground := .data } (by simp) (by rfl))
  rw [show sl20 28 = 131 from rfl] at hx2
  have Q2 := Hq0 q2
  clear q2
  have HM := Hq0 (dv_add (p := 337) Q1.out (Q2.out.at 319 rfl rfl (Nat.le_refl _) (Nat.le_refl _)) (hk.same h.g) (by decide))
  clear hd hr hops h hl hq hk ht
  refine wpOp_step ho (fun K' hK => ?_)
  have HK := Hq0 hK
  rw [if_pos (by rfl)]
  clear hK
  go_wp2_with (fail)
  refine HM.out.mono ?_
  rintro r wk ⟨bA, eA, rfl, hbA, hdA, gk⟩
  exact HK.out _ _ (HI.out.next hb (by decide) rfl HD.out gk ⟨bA, eA, rfl, hdA⟩)
theorem op20_30 {ops : Array Oper} (hops : opsOf (Tryz.f34.body.bind (regOf 20)) = ops) {wr : World} {bq T : Nat} {eq z : Int} {base : List Value} {ds : List Deferred} {listed : Array Bool} {tm : Array Value} {w : World} {Q : Exit → Act → World → Prop} (h : I20 wr bq eq z base ds listed ⟨tm, ds⟩ w) (hb : base.length = 145) (hT : tm.getD 11 undef = .pointer (some ⟨T, 0, none⟩)) (hl : LV wr T bq eq) (hq : DV wr bq eq 62 (z * z) 62 2) (hk : TabK wr) (ht : TabC wr) (hr : 30 ∈ Region.ready .any ops listed) : wpOp Tryz.prog ops Q 30 (fun a' w' => I20 wr bq eq z base ds (listed.setIfInBounds 30 true) a' w') ⟨tm, ds⟩ w := by
  obtain ⟨o, ho⟩ : ∃ o, ops[30]? = some o := by rw [← hops]; exact ⟨_, rfl⟩
  have ho2 := ho
  rw [← hops] at ho2
  conv at ho2 => lhs; whnf
  injection ho2 with ho2
  conv at ho2 => lhs; whnf
  subst ho2
  have hd := ready_dep hr ho
  have HI := Hq0 h; have HD := Hq0 hd.1
  obtain ⟨d1, f1, hx1, q1⟩ : SV 124 ((z * z) * (z * z)) 124 4 (tm.getD (sl20 2) undef) w := h.at_ 2 (by decide) (hd.2 { on := 2, ground := .data } (by simp) (by rfl))
  rw [show sl20 2 = 105 from rfl] at hx1
  have Q1 := Hq0 q1
  clear q1
  obtain ⟨d2, f2, hx2, q2⟩ : SV 337 (((((((((((-11358536521387682) * (z * z)) + (2087570084197473) * 10 ^ 65) * (z * z)) + (-2755731417929674) * 10 ^ 129) * (z * z)) + (24801587288851704) * 10 ^ 192) * (z * z)) + (-13888888888873056) * 10 ^ 256) * (z * z)) + (41666666666666595) * 10 ^ 319) 337 10 (tm.getD (sl20 29) undef) w := h.at_ 29 (by decide) (hd.2 { on := 29, ground := .data } (by simp) (by rfl))
  rw [show sl20 29 = 132 from rfl] at hx2
  have Q2 := Hq0 q2
  clear q2
  have HM := Hq0 (dv_mulx Q1.out Q2.out (hk.same h.g) (by decide) (by decide))
  clear hd hr hops h hl hq hk ht
  refine wpOp_step ho (fun K' hK => ?_)
  have HK := Hq0 hK
  rw [if_pos (by rfl)]
  clear hK
  go_wp2_with (fail)
  refine HM.out.mono ?_
  rintro r wk ⟨bA, eA, rfl, hbA, hdA, gk⟩
  exact HK.out _ _ (HI.out.next hb (by decide) rfl HD.out gk ⟨bA, eA, rfl, hdA⟩)
theorem op20_31 {ops : Array Oper} (hops : opsOf (Tryz.f34.body.bind (regOf 20)) = ops) {wr : World} {bq T : Nat} {eq z : Int} {base : List Value} {ds : List Deferred} {listed : Array Bool} {tm : Array Value} {w : World} {Q : Exit → Act → World → Prop} (h : I20 wr bq eq z base ds listed ⟨tm, ds⟩ w) (hb : base.length = 145) (hT : tm.getD 11 undef = .pointer (some ⟨T, 0, none⟩)) (hl : LV wr T bq eq) (hq : DV wr bq eq 62 (z * z) 62 2) (hk : TabK wr) (ht : TabC wr) (hr : 31 ∈ Region.ready .any ops listed) : wpOp Tryz.prog ops Q 31 (fun a' w' => I20 wr bq eq z base ds (listed.setIfInBounds 31 true) a' w') ⟨tm, ds⟩ w := by
  obtain ⟨o, ho⟩ : ∃ o, ops[31]? = some o := by rw [← hops]; exact ⟨_, rfl⟩
  have ho2 := ho
  rw [← hops] at ho2
  conv at ho2 => lhs; whnf
  injection ho2 with ho2
  conv at ho2 => lhs; whnf
  subst ho2
  have hd := ready_dep hr ho
  have HI := Hq0 h; have HD := Hq0 hd.1
  clear hd hr hops h hl hq hk ht
  refine wpOp_step ho (fun K' hK => ?_)
  have HK := Hq0 hK
  rw [if_pos (by rfl)]
  clear hK
  go_wp2_with (fail)
  exact HK.out _ _ (HI.out.next hb (by decide) rfl HD.out (World.grownBy_alloc _ _ _) ⟨w.heap.size, rfl, HI.out.g.size, none, 0, heap_new _ _⟩)
theorem op20_32 {ops : Array Oper} (hops : opsOf (Tryz.f34.body.bind (regOf 20)) = ops) {wr : World} {bq T : Nat} {eq z : Int} {base : List Value} {ds : List Deferred} {listed : Array Bool} {tm : Array Value} {w : World} {Q : Exit → Act → World → Prop} (h : I20 wr bq eq z base ds listed ⟨tm, ds⟩ w) (hb : base.length = 145) (hT : tm.getD 11 undef = .pointer (some ⟨T, 0, none⟩)) (hl : LV wr T bq eq) (hq : DV wr bq eq 62 (z * z) 62 2) (hk : TabK wr) (ht : TabC wr) (hr : 32 ∈ Region.ready .any ops listed) : wpOp Tryz.prog ops Q 32 (fun a' w' => I20 wr bq eq z base ds (listed.setIfInBounds 32 true) a' w') ⟨tm, ds⟩ w := by
  obtain ⟨o, ho⟩ : ∃ o, ops[32]? = some o := by rw [← hops]; exact ⟨_, rfl⟩
  have ho2 := ho
  rw [← hops] at ho2
  conv at ho2 => lhs; whnf
  injection ho2 with ho2
  conv at ho2 => lhs; whnf
  subst ho2
  have hd := ready_dep hr ho
  have HI := Hq0 h; have HD := Hq0 hd.1
  obtain ⟨b, e, hx, q⟩ : SV 461 ((z * z) * (z * z) * (((((((((((-11358536521387682) * (z * z)) + (2087570084197473) * 10 ^ 65) * (z * z)) + (-2755731417929674) * 10 ^ 129) * (z * z)) + (24801587288851704) * 10 ^ 192) * (z * z)) + (-13888888888873056) * 10 ^ 256) * (z * z)) + (41666666666666595) * 10 ^ 319)) 461 14 (tm.getD (sl20 30) undef) w := h.at_ 30 (by decide) (hd.2 { on := 30, ground := .data } (by simp) (by rfl))
  obtain ⟨U, hU, hU2, u, v, hU3⟩ : SA wr (tm.getD (sl20 31) undef) w := h.at_ 31 (by decide) (hd.2 { on := 31, ground := .data } (by simp) (by rfl))
  rw [show sl20 30 = 133 from rfl] at hx
  rw [show sl20 31 = 12 from rfl] at hU
  obtain ⟨c0, c1⟩ : w.cell? ⟨U, 0, none⟩ = some (.pointer u) ∧ w.cell? ⟨U, 1, none⟩ = some (.int .i32 v) := by constructor <;> simp [World.cell?, hU3]
  obtain ⟨c2, c3⟩ : w.frozen? ⟨U, 0, none⟩ = false ∧ w.frozen? ⟨U, 1, none⟩ = false := by constructor <;> simp [World.frozen?, hU3]
  have HS := Hq0 (st_var hU3 (.pointer (some ⟨b, 0, none⟩)) (.int .i32 e))
  have H3 := Hq0 hU3; have HQ := Hq0 q; have HU2 := Hq0 hU2; have HLA := Hq0 (hd.2 { on := 31, ground := .data } (by simp) (by rfl))
  have HUU := Hq0 hU
  clear hd hr hops h hl hq hk ht q hU2 hU3
  refine wpOp_step ho (fun K' hK => ?_)
  have HK := Hq0 hK
  rw [if_pos (by rfl)]
  clear hK
  go_wp2_with (fail)
  refine HK.out _ _ ⟨by rw [Array.size_setIfInBounds]; exact HI.out.size, rfl, HI.out.len, HI.out.out, grown_own HI.out.g HS.out.1 (.inr HU2.out), fun _ => by rw [getD_set_ne (by decide)]; exact HLA.out, fun j hj hlj => ?_⟩
  by_cases he : 32 = j
  · subst he
    rw [show sl20 32 = 12 from rfl, HUU.out]
    exact ⟨U, b, e, rfl, HU2.out, HS.out.2, HQ.out.own H3.out HS.out.1⟩
  · rw [getD_set_ne he] at hlj
    exact G20.own j (by omega) (HI.out.at_ j hj hlj) H3.out HS.out.2 HS.out.1
theorem set_of {l base : List Value} (W : List Nat) (hl : l.length = base.length) (h : ∀ k, k < base.length → k ∉ W → l[k]? = base[k]?) : l = W.foldl (fun acc k => acc.set k (l[k]?.getD undef)) base := by
  have key : ∀ (W : List Nat) (b : List Value), b.length = l.length → (∀ k, k < l.length → k ∉ W → l[k]? = b[k]?) → l = W.foldl (fun acc k => acc.set k (l[k]?.getD undef)) b := by
    intro W
    induction W with
    | nil =>
      intro b hb h
      apply List.ext_getElem?
      intro k
      by_cases hk : k < l.length
      · exact h k hk (by simp)
      · rw [List.getElem?_eq_none (by omega)]
        exact (List.getElem?_eq_none (by simp only [List.foldl_nil]; omega)).symm
    | cons x W ih =>
      intro b hb h
      rw [List.foldl_cons]
      refine ih _ (by rw [List.length_set]; exact hb) (fun k hk hn => ?_)
      by_cases hx : x = k
      · subst hx
        rw [List.getElem?_set_self (by omega), List.getElem?_eq_getElem hk]; rfl
      · rw [List.getElem?_set_ne hx]
        exact h k hk (by simp [hn, Ne.symm hx])
  exact key W base hl.symm (fun k hk hn => h k (by omega) hn)
def W20 : List Nat := 12 :: (List.range 31).map fun j => 103 + j
theorem reg20 {wr : World} {T bq : Nat} {eq z : Int} (c : Code) (hc : (Tryz.f34.body.bind (regOf 20)) = some c) (hq : DV wr bq eq (31 + 31) (z * z) (31 + 31) (1 + 1)) (hl : LV wr T bq eq) (hk : TabK wr) (ht : TabC wr)
    (Q : Exit → Act → World → Prop) (ds : List Deferred) (u0 u1 u2 u3 u4 u5 u6 u7 u8 u9 u10 u12 u13 u14 u15 u16 u17 u18 u19 u20 u21 u22 u23 u24 u25 u26 u27 u28 u29 u30 u31 u32 u33 u34 u35 u36 u37 u38 u39 u40 u41 u42 u43 u44 u45 u46 u47 u48 u49 u50 u51 u52 u53 u54 u55 u56 u57 u58 u59 u60 u61 u62 u63 u64 u65 u66 u67 u68 u69 u70 u71 u72 u73 u74 u75 u76 u77 u78 u79 u80 u81 u82 u83 u84 u85 u86 u87 u88 u89 u90 u91 u92 u93 u94 u95 u96 u97 u98 u99 u100 u101 u102 u103 u104 u105 u106 u107 u108 u109 u110 u111 u112 u113 u114 u115 u116 u117 u118 u119 u120 u121 u122 u123 u124 u125 u126 u127 u128 u129 u130 u131 u132 u133 u134 u135 u136 u137 u138 u139 u140 u141 u142 u143 u144 : Value)
    (hQ : ∀ (U bw : Nat) (ew : Int) (wx : World) (x103 x104 x105 x106 x107 x108 x109 x110 x111 x112 x113 x114 x115 x116 x117 x118 x119 x120 x121 x122 x123 x124 x125 x126 x127 x128 x129 x130 x131 x132 x133 : Value), wr.heap.size ≤ U → LV wx U bw ew → DV wx bw ew 461 (z * z * (z * z) * (((((-11358536521387682 * (z * z) + 2087570084197473 * 10 ^ 65) * (z * z) + -2755731417929674 * 10 ^ 129) * (z * z) + 24801587288851704 * 10 ^ 192) * (z * z) + -13888888888873056 * 10 ^ 256) * (z * z) + 41666666666666595 * 10 ^ 319)) 461 14 → wr.grownBy wx none → Q .normal ⟨#[u0, u1, u2, u3, u4, u5, u6, u7, u8, u9, u10, .pointer (some ⟨T, 0, none⟩), .pointer (some ⟨U, 0, none⟩), u13, u14, u15, u16, u17, u18, u19, u20, u21, u22, u23, u24, u25, u26, u27, u28, u29, u30, u31, u32, u33, u34, u35, u36, u37, u38, u39, u40, u41, u42, u43, u44, u45, u46, u47, u48, u49, u50, u51, u52, u53, u54, u55, u56, u57, u58, u59, u60, u61, u62, u63, u64, u65, u66, u67, u68, u69, u70, u71, u72, u73, u74, u75, u76, u77, u78, u79, u80, u81, u82, u83, u84, u85, u86, u87, u88, u89, u90, u91, u92, u93, u94, u95, u96, u97, u98, u99, u100, u101, u102, x103, x104, x105, x106, x107, x108, x109, x110, x111, x112, x113, x114, x115, x116, x117, x118, x119, x120, x121, x122, x123, x124, x125, x126, x127, x128, x129, x130, x131, x132, x133, u134, u135, u136, u137, u138, u139, u140, u141, u142, u143, u144], ds⟩ wx) :
    c.wp Tryz.prog Q ⟨#[u0, u1, u2, u3, u4, u5, u6, u7, u8, u9, u10, .pointer (some ⟨T, 0, none⟩), u12, u13, u14, u15, u16, u17, u18, u19, u20, u21, u22, u23, u24, u25, u26, u27, u28, u29, u30, u31, u32, u33, u34, u35, u36, u37, u38, u39, u40, u41, u42, u43, u44, u45, u46, u47, u48, u49, u50, u51, u52, u53, u54, u55, u56, u57, u58, u59, u60, u61, u62, u63, u64, u65, u66, u67, u68, u69, u70, u71, u72, u73, u74, u75, u76, u77, u78, u79, u80, u81, u82, u83, u84, u85, u86, u87, u88, u89, u90, u91, u92, u93, u94, u95, u96, u97, u98, u99, u100, u101, u102, u103, u104, u105, u106, u107, u108, u109, u110, u111, u112, u113, u114, u115, u116, u117, u118, u119, u120, u121, u122, u123, u124, u125, u126, u127, u128, u129, u130, u131, u132, u133, u134, u135, u136, u137, u138, u139, u140, u141, u142, u143, u144], ds⟩ wr := by
  obtain ⟨base, hbase⟩ : ∃ base : List Value, [u0, u1, u2, u3, u4, u5, u6, u7, u8, u9, u10, .pointer (some ⟨T, 0, none⟩), u12, u13, u14, u15, u16, u17, u18, u19, u20, u21, u22, u23, u24, u25, u26, u27, u28, u29, u30, u31, u32, u33, u34, u35, u36, u37, u38, u39, u40, u41, u42, u43, u44, u45, u46, u47, u48, u49, u50, u51, u52, u53, u54, u55, u56, u57, u58, u59, u60, u61, u62, u63, u64, u65, u66, u67, u68, u69, u70, u71, u72, u73, u74, u75, u76, u77, u78, u79, u80, u81, u82, u83, u84, u85, u86, u87, u88, u89, u90, u91, u92, u93, u94, u95, u96, u97, u98, u99, u100, u101, u102, u103, u104, u105, u106, u107, u108, u109, u110, u111, u112, u113, u114, u115, u116, u117, u118, u119, u120, u121, u122, u123, u124, u125, u126, u127, u128, u129, u130, u131, u132, u133, u134, u135, u136, u137, u138, u139, u140, u141, u142, u143, u144] = base := ⟨_, rfl⟩
  have hbl : base.length = 145 := by rw [← hbase]; rfl
  have hb11 : base[11]? = some (.pointer (some ⟨T, 0, none⟩)) := by rw [← hbase]; rfl
  have hQ2 : ∀ (U bw : Nat) (ew : Int) (wx : World) (l : List Value), l.length = base.length → (∀ k, k < 145 → k ≠ 12 → ¬ (103 ≤ k ∧ k ≤ 133) → l[k]? = base[k]?) → l[12]? = some (.pointer (some ⟨U, 0, none⟩)) → wr.heap.size ≤ U → LV wx U bw ew → DV wx bw ew 461 (z * z * (z * z) * (((((-11358536521387682 * (z * z) + 2087570084197473 * 10 ^ 65) * (z * z) + -2755731417929674 * 10 ^ 129) * (z * z) + 24801587288851704 * 10 ^ 192) * (z * z) + -13888888888873056 * 10 ^ 256) * (z * z) + 41666666666666595 * 10 ^ 319)) 461 14 → wr.grownBy wx none → Q .normal ⟨l.toArray, ds⟩ wx := by
    intro U bw ew wx l h1 h2 h3 h4 h5 h6 h7
    have hll := set_of W20 h1 (fun k hk hn => h2 k (by omega) (by intro e; subst e; apply hn; simp [W20]) (by intro e; apply hn; simp only [W20, List.mem_cons, List.mem_map, List.mem_range]; exact .inr ⟨k - 103, by omega, by omega⟩))
    have hU : l[12]?.getD undef = .pointer (some ⟨U, 0, none⟩) := by rw [h3]; rfl
    obtain ⟨f, hf⟩ : ∃ f : Nat → Value, ∀ k, l[k]?.getD undef = f k := ⟨_, fun _ => rfl⟩
    simp only [hf] at hll
    have hf12 : f 12 = .pointer (some ⟨U, 0, none⟩) := by rw [← hf]; exact hU
    have hlit : l = [u0, u1, u2, u3, u4, u5, u6, u7, u8, u9, u10, .pointer (some ⟨T, 0, none⟩), .pointer (some ⟨U, 0, none⟩), u13, u14, u15, u16, u17, u18, u19, u20, u21, u22, u23, u24, u25, u26, u27, u28, u29, u30, u31, u32, u33, u34, u35, u36, u37, u38, u39, u40, u41, u42, u43, u44, u45, u46, u47, u48, u49, u50, u51, u52, u53, u54, u55, u56, u57, u58, u59, u60, u61, u62, u63, u64, u65, u66, u67, u68, u69, u70, u71, u72, u73, u74, u75, u76, u77, u78, u79, u80, u81, u82, u83, u84, u85, u86, u87, u88, u89, u90, u91, u92, u93, u94, u95, u96, u97, u98, u99, u100, u101, u102, f 103, f 104, f 105, f 106, f 107, f 108, f 109, f 110, f 111, f 112, f 113, f 114, f 115, f 116, f 117, f 118, f 119, f 120, f 121, f 122, f 123, f 124, f 125, f 126, f 127, f 128, f 129, f 130, f 131, f 132, f 133, u134, u135, u136, u137, u138, u139, u140, u141, u142, u143, u144] := by
      rw [hll, ← hf12, ← hbase]
      kernel_rfl
    rw [hlit]
    exact hQ U bw ew wx (f 103) (f 104) (f 105) (f 106) (f 107) (f 108) (f 109) (f 110) (f 111) (f 112) (f 113) (f 114) (f 115) (f 116) (f 117) (f 118) (f 119) (f 120) (f 121) (f 122) (f 123) (f 124) (f 125) (f 126) (f 127) (f 128) (f 129) (f 130) (f 131) (f 132) (f 133) h4 h5 h6 h7
  obtain ⟨ops, hops⟩ : ∃ ops, opsOf (Tryz.f34.body.bind (regOf 20)) = ops := ⟨_, rfl⟩
  have hcr : (Tryz.f34.body.bind (regOf 20)) = some (.region 20 (opsOf (Tryz.f34.body.bind (regOf 20))) true) := by kernel_rfl
  rw [hc, Option.some.injEq] at hcr
  rw [hc] at hops
  have hos : ops.size = 33 := by
    have : (opsOf (Tryz.f34.body.bind (regOf 20))).size = 33 := by kernel_rfl
    rw [hc, hops] at this
    exact this
  have hord : ∀ (i : Nat) (o : Oper), ops[i]? = some o → ∀ e ∈ o.after, e.on < i := by
    have h1 : ((List.range 33).all fun i => ((opsOf (Tryz.f34.body.bind (regOf 20)))[i]?.map (fun o => o.after.all fun e => decide (e.on < i))).getD true) = true := by kernel_rfl
    rw [hc, hops] at h1
    intro i o ho e he
    have hi := (Array.getElem?_eq_some_iff.1 ho).1
    have h2 := List.all_eq_true.1 h1 i (List.mem_range.2 (by omega))
    rw [ho] at h2
    simp only [Option.map_some, Option.getD_some, Array.all_eq_true_iff_forall_mem, decide_eq_true_eq] at h2
    exact h2 e he
  have hops : opsOf (Tryz.f34.body.bind (regOf 20)) = ops := by rw [hc]; exact hops
  rw [hcr, ← hc, hops]
  have hI0 : I20 wr bq eq z base ds (Array.replicate ops.size false) ⟨base.toArray, ds⟩ wr.drew := by
    refine ⟨by simp [hos], rfl, by simp, fun k _ _ _ => by simp, grown_drew _, fun h => ?_, fun j hj h => ?_⟩
    · rw [hos] at h; cases h
    · rw [Array.getD_eq_getD_getElem?, Array.getElem?_replicate, if_pos (by omega)] at h
      cases h
  have hgo : wpAny Tryz.prog .any ops Q ops.size (Array.replicate ops.size false) ⟨base.toArray, ds⟩ wr.drew := by
    refine wpAny_inv (I20 wr bq eq z base ds) ?_ ?_ _ _ _ _ hI0 ?_
    · rintro listed ⟨tm, ds'⟩ w i hI hr
      obtain rfl : ds' = ds := hI.ds
      have hi : i < 33 := by
        unfold Region.ready at hr
        have := List.mem_range.1 (List.mem_filter.1 hr).1
        omega
      have hT : tm.getD 11 undef = .pointer (some ⟨T, 0, none⟩) := by
        have h1 : tm[11]? = base[11]? := hI.out 11 (by decide) (by decide) (by decide)
        rw [Array.getD_eq_getD_getElem?, h1, hb11]; rfl
      match i, hi, hr with
      | 0, _, hr => exact op20_0 hops hI hbl hT hl hq hk ht hr
      | 1, _, hr => exact op20_1 hops hI hbl hT hl hq hk ht hr
      | 2, _, hr => exact op20_2 hops hI hbl hT hl hq hk ht hr
      | 3, _, hr => exact op20_3 hops hI hbl hT hl hq hk ht hr
      | 4, _, hr => exact op20_4 hops hI hbl hT hl hq hk ht hr
      | 5, _, hr => exact op20_5 hops hI hbl hT hl hq hk ht hr
      | 6, _, hr => exact op20_6 hops hI hbl hT hl hq hk ht hr
      | 7, _, hr => exact op20_7 hops hI hbl hT hl hq hk ht hr
      | 8, _, hr => exact op20_8 hops hI hbl hT hl hq hk ht hr
      | 9, _, hr => exact op20_9 hops hI hbl hT hl hq hk ht hr
      | 10, _, hr => exact op20_10 hops hI hbl hT hl hq hk ht hr
      | 11, _, hr => exact op20_11 hops hI hbl hT hl hq hk ht hr
      | 12, _, hr => exact op20_12 hops hI hbl hT hl hq hk ht hr
      | 13, _, hr => exact op20_13 hops hI hbl hT hl hq hk ht hr
      | 14, _, hr => exact op20_14 hops hI hbl hT hl hq hk ht hr
      | 15, _, hr => exact op20_15 hops hI hbl hT hl hq hk ht hr
      | 16, _, hr => exact op20_16 hops hI hbl hT hl hq hk ht hr
      | 17, _, hr => exact op20_17 hops hI hbl hT hl hq hk ht hr
      | 18, _, hr => exact op20_18 hops hI hbl hT hl hq hk ht hr
      | 19, _, hr => exact op20_19 hops hI hbl hT hl hq hk ht hr
      | 20, _, hr => exact op20_20 hops hI hbl hT hl hq hk ht hr
      | 21, _, hr => exact op20_21 hops hI hbl hT hl hq hk ht hr
      | 22, _, hr => exact op20_22 hops hI hbl hT hl hq hk ht hr
      | 23, _, hr => exact op20_23 hops hI hbl hT hl hq hk ht hr
      | 24, _, hr => exact op20_24 hops hI hbl hT hl hq hk ht hr
      | 25, _, hr => exact op20_25 hops hI hbl hT hl hq hk ht hr
      | 26, _, hr => exact op20_26 hops hI hbl hT hl hq hk ht hr
      | 27, _, hr => exact op20_27 hops hI hbl hT hl hq hk ht hr
      | 28, _, hr => exact op20_28 hops hI hbl hT hl hq hk ht hr
      | 29, _, hr => exact op20_29 hops hI hbl hT hl hq hk ht hr
      | 30, _, hr => exact op20_30 hops hI hbl hT hl hq hk ht hr
      | 31, _, hr => exact op20_31 hops hI hbl hT hl hq hk ht hr
      | 32, _, hr => exact op20_32 hops hI hbl hT hl hq hk ht hr
      | i + 33, h, _ => omega
    · rintro listed ⟨tm, ds'⟩ w hI hr
      obtain rfl : ds' = ds := hI.ds
      have hall := all_listed (by rw [hI.size, hos]) hord hr
      obtain ⟨U, bw, ew, h1, h2, h3, h4⟩ := hI.at_ 32 (by decide) (hall 32 (by omega))
      have h1 : tm.getD 12 undef = .pointer (some ⟨U, 0, none⟩) := h1
      have hlen : tm.size = 145 := by have := hI.len; rw [hbl] at this; exact this
      have h5 : tm.toList[12]? = some (.pointer (some ⟨U, 0, none⟩)) := by
        rw [Array.getElem?_toList]
        rw [Array.getD_eq_getD_getElem?, Array.getElem?_eq_getElem (by omega)] at h1
        rw [Array.getElem?_eq_getElem (by omega)]
        exact congrArg some h1
      have := hQ2 U bw ew w tm.toList (by rw [Array.length_toList]; exact hI.len) (fun k k1 k2 k3 => by rw [Array.getElem?_toList]; exact hI.out k k1 k2 k3) h5 h2 h3 h4 hI.g
      exact this
    · rw [Array.toList_replicate, hos]; decide
  have := wp_region_any (P := Tryz.prog) (id := 20) (by kernel_rfl) hgo
  rw [← hbase] at this
  exact this
end Go.Proofs.YtjcfacinlgogaaaGreatDoor
