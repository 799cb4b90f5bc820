/- Natural numbers as slices of words: norm, make, setWord, set, compare, alias. Conditions: at most 2^40 words. Natural numbers: room for a result; setWord, set. Conditions: at most 10^12 words. Natural numbers: set, compare, products with a word. Conditions: at most 10^12 words. Natural numbers: which one is greater. Conditions: both are without zeros at the end, of at most 10^12 words. Natural numbers: products. Conditions: at most 10^11 words; the shorter one of fewer than 40. -/
import Derived.Test.YtndphemomhcjlaaGreatDoorQ06
import Derived.Laws.MakeOwn
set_option linter.all false

namespace Go.Proofs.YtndphemomhcjlaaGreatDoor
open Go.RowKit

/-- v is the slice of the words l, at the beginning of a block of words -/
def IsNat (w : World) (v : Value) (l : List Int) : Prop :=
  (v = .slice none 0 0 ∧ l = []) ∨ ∃ b cap M, v = .slice (some ⟨b, 0, none⟩) l.length cap ∧ w.heap[b]? = some (blk (l ++ M)) ∧ cap = l.length + M.length ∧ cap ≤ 9223372036854775807

theorem norm_any (b o n cap : Nat) (l : List Int) (w : World) (hl : l.length = n) (hnc : n ≤ cap) (hc : n ≤ 9223372036854775807) (hX : At w b o l) :
    Calls Tryz.prog 67 #[.slice (some ⟨b, o, none⟩) n cap] w fun e w' => e = .returned (.slice (some ⟨b, o, none⟩) (nrm l).length cap) ∧ w = w' := by
  have HX := Lib.hid hX; have Hl := Lib.hid hl
  clear hX hl
  go_enter Tryz.func67, Tryz.ntmps67
  go_wp2
  go_loop [3] (fun i => ∃ k : Nat, k ≤ n ∧ i = .int .i64 k ∧ Hid (nrm (l.take k) = nrm l)) (fun i => (intOf i).toNat)
  case atStart => exact ⟨n, Nat.le_refl _, rfl, by show _ = _; rw [← Hl.out, List.take_length]⟩
  case round =>
    obtain ⟨k, hk, rfl, hn⟩ := hrel
    cases k with
    | zero =>
      have hn := hn.out
      rw [List.take_zero] at hn
      have HL : Hid ((nrm l).length = 0) := by show _ = _; rw [← hn]; rfl
      clear hn
      go_wp2
      go_ret
      exact ⟨ret_sl HL.out.symm, rfl⟩
    | succ k =>
      have hc1 := HX.out k (by have := Hl.out; omega)
      by_cases h0 : l[k]?.getD 0 = 0
      · rw [h0] at hc1
        have hn : Hid (nrm (l.take k) = nrm l) := by show _ = _; rw [← nrm_take0 l k (by have := Hl.out; omega) h0]; exact hn.out
        clear h0
        go_wp2
        go_round
        case rel => exact ⟨k, by omega, by go_num, hn⟩
        case measure => simp [intOf]
      · have h0' : ((l[k]?.getD 0) == 0) = false := by simp [h0]
        have HL : Hid ((nrm l).length = k + 1) := by
          show _ = _
          rw [← hn.out, nrm_take1 l k (by have := Hl.out; omega) h0]; have := Hl.out; simp; omega
        clear hn h0
        go_wp2
        go_ret
        exact ⟨ret_sl HL.out.symm, rfl⟩

def zeros (n : Nat) : List Int := List.replicate n 0
theorem zeros_length (n : Nat) : (zeros n).length = n := by simp [zeros]
theorem wfL_zeros (n : Nat) : wfL (zeros n) := by intro a h; have := (List.mem_replicate.1 h).2; rw [this]; exact u0
theorem val_zeros (n : Nat) : val (zeros n) = 0 := by
  unfold zeros
  induction n with
  | zero => rfl
  | succ n ih => rw [List.replicate_succ]; simp [val, ih]

theorem run_makeW (n c : Nat) (lo hi : Int) (hlo : lo = n) (hhi : hi = c) (h : n ≤ c) (hc : c ≤ 1099511627776) (w : World) :
    (Instr.makeSlice 88 (.int .i64 lo) (.int .i64 hi)).run Tryz.prog w = .ok (.slice (some ⟨w.heap.size, 0, none⟩) n c) (w.alloc (blk (zeros c))) := by
  subst hlo; subst hhi
  have hp : (Tryz.prog.info? 87).map (fun i => (i.zero, i.size, i.bytes)) = some (some (.int .u64 0), 1, 8) := by kernel_rfl
  cases hq : Tryz.prog.info? 87 with
  | none => rw [hq] at hp; simp at hp
  | some i =>
    rw [hq] at hp
    simp only [Option.map_some, Option.some.injEq, Prod.mk.injEq] at hp
    have := run_make (P := Tryz.prog) w 88 87 i (.int .u64 0) und88 hq hp.1 .i64 .i64 (n : Int) (c : Int) (by omega) (by omega) (by rw [hp.2.2]; omega) (by omega)
    rw [this]
    have e : Obj.cells (madeCells (Value.int .u64 0).cells ((c : Int).toNat * i.size)) 87 = blk (zeros c) := by
      rw [hp.2.1, Int.toNat_natCast, Nat.mul_one]
      have h1 := toList_madeCells_one (Value.int .u64 0) c
      have h2 : madeCells #[Value.int .u64 0] c = (List.replicate c (Value.int .u64 0)).toArray := by rw [← h1]
      show Obj.cells (madeCells #[Value.int .u64 0] c) _ = _
      rw [h2]; simp [blk, zeros]
    rw [e]
    simp only [Int.toNat_natCast]

theorem make_fit (b n m cap : Nat) (w : World) (h : n ≤ cap) (hc : cap ≤ 9223372036854775807) :
    Calls Tryz.prog 98 #[.slice (some ⟨b, 0, none⟩) m cap, .int .i64 n] w fun e w' => e = .returned (.slice (some ⟨b, 0, none⟩) n cap) ∧ w = w' := by
  go_enter Tryz.func98, Tryz.ntmps98
  go_wp2
  go_ret
  exact ⟨rfl, rfl⟩

/-- the capacity of a new slice -/
def capOf (n : Nat) : Nat := if n = 1 then 1 else n + 4
theorem make_new (a : Option Addr) (n m cap : Nat) (w : World) (h : cap < n) (hn : n ≤ 1000000000000) :
    Calls Tryz.prog 98 #[.slice a m cap, .int .i64 n] w fun e w' => e = .returned (.slice (some ⟨w.heap.size, 0, none⟩) n (capOf n)) ∧ w' = w.alloc (blk (zeros (capOf n))) := by
  have hk := run_makeW 1 1 1 1 rfl rfl (by omega) (by omega)
  have hk2 := run_makeW n (n + 4) (n : Int) ((n : Int) + 4) rfl (by omega) (by omega) (by omega)
  by_cases h1 : n = 1
  · subst h1
    clear hk2
    go_enter Tryz.func98, Tryz.ntmps98
    go_wp2
    go_ret
    exact ⟨rfl, rfl⟩
  · have h1' : ((n : Int) == 1) = false := by simp; omega
    have e1 : Hid (capOf n = n + 4) := by show _ = _; unfold capOf; rw [if_neg h1]
    clear hk
    go_enter Tryz.func98, Tryz.ntmps98
    go_wp2
    go_ret
    exact ⟨by rw [e1.out]; rfl, by rw [e1.out]⟩
end Go.Proofs.YtndphemomhcjlaaGreatDoor

namespace Go.Proofs.YtndphemomhcjlaaGreatDoor
open Go.RowKit

/-- w' is w with new blocks and writes to the block zb alone, and v is the slice of l there: in zb or in a new block -/
structure NatRes (w w' : World) (zb : Option Nat) (v : Value) (l : List Int) : Prop where
  grown : w.grownBy w' zb
  nat : IsNat w' v l
  own : ∀ k, v.ownBlock = some k → some k = zb ∨ w.heap.size ≤ k
structure Made (w w' : World) (z : Value) (b cap : Nat) (L : List Int) : Prop where
  here : w'.heap[b]? = some (blk L)
  len : L.length = cap
  most : cap ≤ 9223372036854775807
  grown : w.grownBy w' none
  own : z.ownBlock = some b ∨ w.heap.size ≤ b

theorem grown_trans {w w1 w2 : World} {r : Option Nat} (h : w.grownBy w1 r) (k : w1.grownBy w2 r) : w.grownBy w2 r :=
  ⟨k.os.trans h.os, k.tape.trans h.tape, k.output.trans h.output, Nat.le_trans h.size k.size, fun i hi hr => (k.block i (Nat.lt_of_lt_of_le hi h.size) hr).trans (h.block i hi hr)⟩
theorem grown_weak {w w1 : World} {r : Option Nat} (h : w.grownBy w1 none) : w.grownBy w1 r := ⟨h.os, h.tape, h.output, h.size, fun i hi _ => h.block i hi (by simp)⟩
theorem grown_refl (w : World) (r : Option Nat) : w.grownBy w r := ⟨rfl, rfl, rfl, Nat.le_refl _, fun _ _ _ => rfl⟩
theorem grown_drewN (w : World) (n : Nat) : w.grownBy (w.drewN n) none := ⟨rfl, rfl, rfl, Nat.le_refl _, fun _ _ _ => rfl⟩
/-- writes to a block that is z's own or new -/
theorem grown_own {w w1 w2 : World} {zb : Option Nat} {b : Nat} (h : w.grownBy w1 zb) (k : w1.grownBy w2 (some b)) (ho : some b = zb ∨ w.heap.size ≤ b) : w.grownBy w2 zb :=
  ⟨k.os.trans h.os, k.tape.trans h.tape, k.output.trans h.output, Nat.le_trans h.size k.size, fun i hi hr => (k.block i (Nat.lt_of_lt_of_le hi h.size) (by
    intro e; injection e with e; rcases ho with ho | ho
    · rw [← e] at ho; exact hr ho
    · omega)).trans (h.block i hi hr)⟩

theorem IsNat.grown {w w1 : World} {r : Option Nat} {v : Value} {l : List Int} (h : IsNat w v l) (g : w.grownBy w1 r) (hr : v.ownBlock = none ∨ v.ownBlock ≠ r) : IsNat w1 v l := by
  rcases h with h | ⟨b, cap, M, rfl, hb, hc, hm⟩
  · exact .inl h
  · refine .inr ⟨b, cap, M, rfl, ?_, hc, hm⟩
    rw [g.block b (Array.getElem?_eq_some_iff.1 hb).1 (by rcases hr with hr | hr <;> simpa [Value.ownBlock] using hr)]
    exact hb
theorem IsNat.grown0 {w w1 : World} {v : Value} {l : List Int} (h : IsNat w v l) (g : w.grownBy w1 none) : IsNat w1 v l :=
  h.grown g (by rcases h with ⟨rfl, _⟩ | ⟨b, cap, M, rfl, _⟩ <;> simp [Value.ownBlock])
theorem IsNat.lt {w : World} {v : Value} {l : List Int} (h : IsNat w v l) : ∀ k, v.ownBlock = some k → k < w.heap.size := by
  intro k hk
  rcases h with ⟨rfl, _⟩ | ⟨b, cap, M, rfl, hb, _⟩
  · simp [Value.ownBlock] at hk
  · simp [Value.ownBlock] at hk; subst hk; exact (Array.getElem?_eq_some_iff.1 hb).1
theorem IsNat.nil (w : World) : IsNat w (.slice none 0 0) [] := .inl ⟨rfl, rfl⟩

theorem Made.res {w w1 w2 : World} {z : Value} {b cap : Nat} {L L2 l : List Int} (h : Made w w1 z b cap L) (u : Upd w1 w2 b L2) (hl : L2.length = L.length) (hc : l.length ≤ cap) (ht : L2.take l.length = l) :
    NatRes w w2 z.ownBlock (.slice (some ⟨b, 0, none⟩) l.length cap) l := by
  refine ⟨grown_own (grown_weak h.grown) u.grown (by rcases h.own with o | o; exact .inl o.symm; exact .inr o), ?_, ?_⟩
  · refine .inr ⟨b, cap, L2.drop l.length, rfl, ?_, ?_, h.most⟩
    · have e : l ++ L2.drop l.length = L2 := by
        have := List.take_append_drop l.length L2
        rw [ht] at this; exact this
      rw [e]; exact u.here
    · simp only [List.length_drop]; have := h.len; omega
  · intro k hk
    simp [Value.ownBlock] at hk; subst hk
    rcases h.own with o | o
    · exact .inl o.symm
    · exact .inr o

theorem capOf_le {n : Nat} (h1 : 1 ≤ n) (h : n ≤ 1000000000000) : n ≤ capOf n ∧ capOf n ≤ 9223372036854775807 := by unfold capOf; split <;> omega

theorem make_any {w : World} {z : Value} {lz : List Int} (hz : IsNat w z lz) (n : Nat) (h1 : 1 ≤ n) (hn : n ≤ 1000000000000) :
    Calls Tryz.prog 98 #[z, .int .i64 n] w fun e w' => ∃ b cap L, e = .returned (.slice (some ⟨b, 0, none⟩) n cap) ∧ n ≤ cap ∧ Made w w' z b cap L := by
  have hnew : ∀ a m cap, cap < n → Calls Tryz.prog 98 #[.slice a m cap, .int .i64 n] w fun e w' => ∃ b cap' L, e = .returned (.slice (some ⟨b, 0, none⟩) n cap') ∧ n ≤ cap' ∧ Made w w' (.slice a m cap) b cap' L := by
    intro a m cap hlt
    refine (make_new a n m cap w hlt hn).mono ?_
    rintro e w' ⟨rfl, rfl⟩
    obtain ⟨c1, c2⟩ := capOf_le h1 hn
    exact ⟨_, _, _, rfl, c1, heap_alloc_new w _, zeros_length _, c2, World.grownBy_alloc w _ none, .inr (Nat.le_refl _)⟩
  rcases hz with ⟨rfl, rfl⟩ | ⟨b, cap, M, rfl, hb, hc, hm⟩
  · exact hnew none 0 0 (by omega)
  · by_cases h : n ≤ cap
    · refine (make_fit b n lz.length cap w h hm).mono ?_
      rintro e w' ⟨rfl, rfl⟩
      exact ⟨b, cap, lz ++ M, rfl, h, hb, by simp; omega, hm, grown_refl _ _, .inl rfl⟩
    · exact hnew _ _ _ (by omega)

theorem run_slice0 {P : Program} {T e : TypeId} (hT : P.underlying T = some (.slice e)) (hs : (P.info? e).map (·.size) = some 1) (b n c : Nat) (wx : World) :
    (Instr.slice T (.slice (some ⟨b, 0, none⟩) n c) none (some (.int .i64 0)) none).run P wx = .ok (.slice (some ⟨b, 0, none⟩) 0 c) wx := by
  cases hq : P.info? e with
  | none => simp [hq] at hs
  | some i =>
    simp [Instr.slice, Instr.sliceBounds, Instr.sliceBound, run_underlying hT, sizeOf, typeInfo, hq, asIntOf]
    intro _; simp [Addr.add]

theorem res_zero {w : World} {z : Value} {lz : List Int} (hz : IsNat w z lz) : ∃ v, (∀ wx, (Instr.slice 88 z none (some (.int .i64 0)) none).run Tryz.prog wx = .ok v wx) ∧ NatRes w w z.ownBlock v [] := by
  rcases hz with ⟨rfl, rfl⟩ | ⟨b, cap, M, rfl, hb, hc, hm⟩
  · exact ⟨.slice none 0 0, fun wx => by kernel_rfl, grown_refl _ _, IsNat.nil w, by intro k hk; simp [Value.ownBlock] at hk⟩
  · refine ⟨.slice (some ⟨b, 0, none⟩) 0 cap, run_slice0 und88 siz87 b _ cap, grown_refl _ _, .inr ⟨b, cap, lz ++ M, rfl, hb, by simp; omega, hm⟩, by intro k hk; left; exact hk.symm⟩

theorem setWord_any {w : World} {z : Value} {lz : List Int} (hz : IsNat w z lz) (x : Int) :
    Calls Tryz.prog 99 #[z, .int .u64 x] w fun e w' => ∃ v, e = .returned v ∧ NatRes w w' z.ownBlock v (nrm [x]) := by
  by_cases h0 : x = 0
  · subst h0
    obtain ⟨v, hv, hres⟩ := res_zero hz
    have HR := Lib.hid hres
    clear hres hz
    go_enter Tryz.func99, Tryz.ntmps99
    go_wp2
    go_ret
    exact ⟨_, rfl, HR.out⟩
  · have h0' : (x == 0) = false := by simp [h0]
    have en : Hid (nrm [x] = [x]) := by show _ = _; simp [nrm, h0]
    have Hz := Lib.hid hz
    clear h0 hz
    go_enter Tryz.func99, Tryz.ntmps99
    go_wp2_with (fail)
    refine (make_any Hz.out 1 (Nat.le_refl _) (by omega)).mono ?_
    rintro e w1 ⟨b, cap, L, rfl, hc, hm⟩
    have g1 := cell_blk hm.here 0 (by have := hm.len; omega)
    have g2 := frozen_blk hm.here 0
    have HM := Lib.hid hm
    clear hm
    go_wp2
    go_ret
    refine ⟨_, rfl, ?_⟩
    rw [en.out]
    have hu := (Upd.refl HM.out.here).set 0 x
    refine Made.res (l := [x]) HM.out hu (by simp) (by simpa using hc) ?_
    have := HM.out.len
    cases L with
    | nil => simp at this; omega
    | cons a L => simp
end Go.Proofs.YtndphemomhcjlaaGreatDoor

namespace Go.Proofs.YtndphemomhcjlaaGreatDoor
open Go.RowKit

theorem make_zero {w : World} {z : Value} {lz : List Int} (hz : IsNat w z lz) :
    Calls Tryz.prog 98 #[z, .int .i64 0] w fun e w' => ∃ v, e = .returned v ∧ w = w' ∧ NatRes w w z.ownBlock v [] := by
  rcases hz with ⟨rfl, rfl⟩ | ⟨b, cap, M, rfl, hb, hc, hm⟩
  · have hr : NatRes w w (Value.slice none 0 0).ownBlock (.slice none 0 0) [] := ⟨grown_refl _ _, IsNat.nil w, by intro k hk; simp [Value.ownBlock] at hk⟩
    have HR := Lib.hid hr
    clear hr
    have hv : ∀ wx, (Instr.slice 88 (.slice none 0 0) none (some (.int .i64 0)) none).run Tryz.prog wx = .ok (.slice none 0 0) wx := fun wx => by kernel_rfl
    go_enter Tryz.func98, Tryz.ntmps98
    go_wp2
    go_ret
    exact ⟨_, rfl, rfl, HR.out⟩
  · have hr : NatRes w w (Value.slice (some ⟨b, 0, none⟩) lz.length cap).ownBlock (.slice (some ⟨b, 0, none⟩) 0 cap) [] :=
      ⟨grown_refl _ _, .inr ⟨b, cap, lz ++ M, rfl, hb, by simp; omega, hm⟩, by intro k hk; left; exact hk.symm⟩
    have HR := Lib.hid hr
    clear hr hb hc
    refine (make_fit b 0 lz.length cap w (by omega) hm).mono ?_
    rintro e w' ⟨rfl, rfl⟩
    exact ⟨_, rfl, rfl, HR.out⟩

/-- a number's words in memory -/
theorem IsNat.at_ {w : World} {b cap : Nat} {l M : List Int} (hb : w.heap[b]? = some (blk (l ++ M))) : At w b 0 l :=
  At.of_blk hb l (by simp) (fun i hi => by rw [Nat.zero_add, List.getElem?_append_left hi])
theorem IsNat.split {w : World} {v : Value} {l : List Int} (h : IsNat w v l) (hl : l ≠ []) : ∃ b cap M, v = .slice (some ⟨b, 0, none⟩) l.length cap ∧ w.heap[b]? = some (blk (l ++ M)) ∧ l.length ≤ cap ∧ cap ≤ 9223372036854775807 ∧ At w b 0 l ∧ v.ownBlock = some b := by
  rcases h with ⟨_, h⟩ | ⟨b, cap, M, rfl, hb, hc, hm⟩
  · exact absurd h hl
  · exact ⟨b, cap, M, rfl, hb, by omega, hm, IsNat.at_ (cap := cap) hb, rfl⟩
theorem At.grown {w w1 : World} {b o : Nat} {X : List Int} (h : At w b o X) (g : w.grownBy w1 none) (hb : b < w.heap.size) : At w1 b o X := by
  intro i hi
  rw [World.cell?_of_block (w := w) (w' := w1) (a := ⟨b, o + i, none⟩) (g.block b hb (by simp))]; exact h i hi

theorem spl_take (L X : List Int) (h : X.length ≤ L.length) : (spl L 0 X).take X.length = X := by
  unfold spl; simp
theorem set_any {w : World} {z x : Value} {lz lx : List Int} (hz : IsNat w z lz) (hx : IsNat w x lx) (hn : lx.length ≤ 1000000000000) :
    Calls Tryz.prog 78 #[z, x] w fun e w' => ∃ v, e = .returned v ∧ NatRes w w' z.ownBlock v lx := by
  by_cases h0 : lx = []
  · subst h0
    obtain ⟨xa, xc, rfl⟩ : ∃ xa xc, x = .slice xa 0 xc := by
      rcases hx with ⟨rfl, _⟩ | ⟨b, cap, M, rfl, _⟩
      · exact ⟨none, 0, rfl⟩
      · exact ⟨some ⟨b, 0, none⟩, cap, rfl⟩
    have Hz := Lib.hid hz
    clear hz hx
    go_enter Tryz.func78, Tryz.ntmps78
    go_wp2_with (fail)
    refine (make_zero Hz.out).mono ?_
    rintro e w1 ⟨v, rfl, rfl, hres⟩
    obtain ⟨va, vc, rfl⟩ : ∃ va vc, v = .slice va 0 vc := by
      rcases hres.nat with ⟨rfl, _⟩ | ⟨b, cap, M, rfl, _⟩
      · exact ⟨none, 0, rfl⟩
      · exact ⟨some ⟨b, 0, none⟩, cap, rfl⟩
    have HR := Lib.hid hres
    clear hres
    go_wp2_with (with_reducible refine wpList_copy_nothing rfl (.tmp 9) (.tmp 10) 88 88 rfl 87 und88 siz87 _ _ _ _ _ _ rfl rfl rfl ?_)
    go_ret
    exact ⟨_, rfl, HR.out⟩
  · obtain ⟨b, cap, M, rfl, hb, hc, hm, hat, hown⟩ := hx.split h0
    have hl1 : 1 ≤ lx.length := by cases lx with | nil => exact absurd rfl h0 | cons a l => simp
    have Hz := Lib.hid hz; have Hb := Lib.hid hb; have Hat := Lib.hid hat
    clear hz hb hat hown h0
    go_enter Tryz.func78, Tryz.ntmps78
    go_wp2_with (fail)
    refine (make_any Hz.out lx.length hl1 hn).mono ?_
    rintro e w1 ⟨b1, cap1, L, rfl, hc1, hmade⟩
    have HM := Lib.hid hmade
    clear hmade
    go_wp2_with (with_reducible refine wpList_copy_w rfl (.tmp 9) (.tmp 10) 88 88 rfl 87 und88 siz87 _ _ _ _ _ _ rfl rfl b1 0 L lx HM.out.here (by simp) (fun _ => ⟨rfl, b, 0, rfl, Hat.out.grown HM.out.grown (Array.getElem?_eq_some_iff.1 Hb.out).1⟩) (by have := HM.out.len; omega) ?_)
    intro w2 hu2
    have HU := Lib.hid hu2
    clear hu2
    go_wp2
    go_ret
    exact ⟨_, rfl, HM.out.res HU.out (spl_length _ _ _ (by have := HM.out.len; omega)) hc1 (spl_take _ _ (by have := HM.out.len; omega))⟩
end Go.Proofs.YtndphemomhcjlaaGreatDoor

namespace Go.Proofs.YtndphemomhcjlaaGreatDoor
open Go.RowKit

theorem dd (w : World) (a b : Nat) : (w.drewN a).drewN b = w.drewN (a + b) := by unfold World.drewN; simp [Nat.add_assoc]
theorem dd3 (w : World) (a b c : Nat) : ((w.drewN a).drewN b).drewN c = w.drewN (a + b + c) := by rw [dd, dd, Nat.add_assoc]
theorem dd4 (w : World) (a b c d : Nat) : (((w.drewN a).drewN b).drewN c).drewN d = w.drewN (a + b + c + d) := by rw [dd, dd, dd]; congr 1; omega
def Nrm (l : List Int) : Prop := nrm l = l
def icmp (a b : Int) : Int := if a < b then -1 else if b < a then 1 else 0
theorem Nrm.last {l : List Int} (h : Nrm l) (hl : 0 < l.length) : l[l.length - 1]?.getD 0 ≠ 0 := by
  intro h0
  have e : l.take (l.length - 1 + 1) = l := by rw [show l.length - 1 + 1 = l.length by omega, List.take_length]
  have h1 := nrm_take0 l (l.length - 1) (by omega) h0
  rw [e, h] at h1
  have h2 := nrm_length_le (l.take (l.length - 1))
  rw [← h1] at h2; simp at h2; omega
theorem Nrm.nil : Nrm [] := rfl
theorem val_at (l : List Int) (k : Nat) (h : k < l.length) : val l = val (l.take k) + B64 ^ k * (l[k]?.getD 0 + B64 * val (l.drop (k + 1))) := by
  rw [val_split l k (by omega), drop_cons l k h]; simp [val]
theorem val_ge {l : List Int} (h : Nrm l) (wl : wfL l) (hl : 0 < l.length) : B64 ^ (l.length - 1) ≤ val l := by
  have h1 := h.last hl
  have h2 := getD_u64 wl (l.length - 1) (by omega)
  have h3 := val_nonneg (wfL_take wl (l.length - 1))
  rw [val_at l (l.length - 1) (by omega), List.drop_eq_nil_of_le (by omega)]
  simp only [val]
  have h4 : B64 ^ (l.length - 1) * 1 ≤ B64 ^ (l.length - 1) * (l[l.length - 1]?.getD 0 + B64 * 0) := Int.mul_le_mul_of_nonneg_left (by have := h2.1; omega) (Int.le_of_lt (B64_pow_pos _))
  omega
theorem pow_mono {a b : Nat} (h : a ≤ b) : B64 ^ a ≤ B64 ^ b := by
  rw [show b = a + (b - a) by omega, Int.pow_add]
  have := B64_pow_pos a
  have h2 : 1 ≤ B64 ^ (b - a) := B64_pow_pos (b - a)
  have h3 : B64 ^ a * 1 ≤ B64 ^ a * B64 ^ (b - a) := Int.mul_le_mul_of_nonneg_left h2 (by omega)
  omega
theorem val_lt_of_len {l m : List Int} (wl : wfL l) (wm : wfL m) (hm : Nrm m) (h : l.length < m.length) : val l < val m := by
  have h1 := val_lt wl
  have h2 := val_ge hm wm (by omega)
  have h3 := pow_mono (a := l.length) (b := m.length - 1) (by omega)
  omega
theorem val_lt_at {l m : List Int} (wl : wfL l) (wm : wfL m) {k : Nat} (hk : k < l.length) (hk2 : k < m.length) (hd : l.drop (k + 1) = m.drop (k + 1)) (h : l[k]?.getD 0 < m[k]?.getD 0) : val l < val m := by
  rw [val_at l k hk, val_at m k hk2, hd]
  have h1 := val_lt (wfL_take wl k)
  rw [List.length_take, show min k l.length = k by omega] at h1
  have h2 := val_nonneg (wfL_take wm k)
  have h3 : B64 ^ k * (l[k]?.getD 0 + 1) ≤ B64 ^ k * (m[k]?.getD 0) := Int.mul_le_mul_of_nonneg_left (by omega) (Int.le_of_lt (B64_pow_pos _))
  rw [Int.mul_add] at h3
  rw [Int.mul_add, Int.mul_add]; omega

theorem icmp_lt {a b : Int} (h : a < b) : icmp a b = -1 := by unfold icmp; rw [if_pos h]
theorem icmp_gt {a b : Int} (h : b < a) : icmp a b = 1 := by unfold icmp; rw [if_neg (by omega), if_pos h]
theorem icmp_eq {a b : Int} (h : a = b) : icmp a b = 0 := by unfold icmp; rw [if_neg (by omega), if_neg (by omega)]

set_option maxRecDepth 100000 in
theorem cmp_len {w : World} {x y : Value} {lx ly : List Int} (hx : IsNat w x lx) (hy : IsNat w y ly) (wx : wfL lx) (wy : wfL ly) (nx : Nrm lx) (ny : Nrm ly) (h : lx.length ≠ ly.length ∨ lx = []) (h1 : lx.length ≤ 1000000000000) (h2 : ly.length ≤ 1000000000000) :
    Calls Tryz.prog 73 #[x, y] w fun e w' => e = .returned (.int .i64 (icmp (val lx) (val ly))) ∧ w = w' := by
  obtain ⟨xa, xc, rfl⟩ : ∃ xa xc, x = .slice xa lx.length xc := by
    rcases hx with ⟨rfl, rfl⟩ | ⟨b, cap, M, rfl, _⟩
    · exact ⟨none, 0, rfl⟩
    · exact ⟨some ⟨b, 0, none⟩, cap, rfl⟩
  obtain ⟨ya, yc, rfl⟩ : ∃ ya yc, y = .slice ya ly.length yc := by
    rcases hy with ⟨rfl, rfl⟩ | ⟨b, cap, M, rfl, _⟩
    · exact ⟨none, 0, rfl⟩
    · exact ⟨some ⟨b, 0, none⟩, cap, rfl⟩
  clear hx hy
  rcases Nat.lt_trichotomy lx.length ly.length with hlt | heq | hgt
  · have HC := Lib.hid (icmp_lt (val_lt_of_len wx wy ny hlt))
    have hne : ((lx.length : Int) != (ly.length : Int)) = true := by rw [bne_iff_ne]; omega
    generalize lx.length = n at *
    generalize ly.length = m at *
    clear h
    go_enter Tryz.func73, Tryz.ntmps73
    go_wp2
    go_ret
    exact ⟨ret_int HC.out.symm, rfl⟩
  · rcases h with h | h
    · exact absurd heq h
    · subst h
      have hl : ly = [] := List.eq_nil_of_length_eq_zero (by simpa using heq.symm)
      subst hl
      have HC := Lib.hid (icmp_eq (a := val []) (b := val []) rfl)
      go_enter Tryz.func73, Tryz.ntmps73
      go_wp2
      go_ret
      exact ⟨ret_int HC.out.symm, rfl⟩
  · have HC := Lib.hid (icmp_gt (val_lt_of_len wy wx nx hgt))
    have hne : ((lx.length : Int) != (ly.length : Int)) = true := by rw [bne_iff_ne]; omega
    have hnl : ¬ ((lx.length : Int) < (ly.length : Int)) := by omega
    generalize lx.length = n at *
    generalize ly.length = m at *
    clear h
    go_enter Tryz.func73, Tryz.ntmps73
    go_wp2
    go_ret
    exact ⟨ret_int HC.out.symm, rfl⟩

def CmpAt (lx ly : List Int) (k : Nat) : Prop := lx.drop (k + 1) = ly.drop (k + 1)
set_option maxRecDepth 100000 in
theorem cmp_same {w : World} {bx by_ n cx cy : Nat} {lx ly : List Int} (hx : At w bx 0 lx) (hy : At w by_ 0 ly) (wx : wfL lx) (wy : wfL ly) (h1 : lx.length = n) (h2 : ly.length = n) (hn : n ≤ 1000000000000) (h0 : 1 ≤ n) :
    Calls Tryz.prog 73 #[.slice (some ⟨bx, 0, none⟩) n cx, .slice (some ⟨by_, 0, none⟩) n cy] w fun e w' => e = .returned (.int .i64 (icmp (val lx) (val ly))) ∧ ∃ q, w' = w.drewN q := by
  have HX := Lib.hid hx; have HY := Lib.hid hy; have L1 := Lib.hid h1; have L2 := Lib.hid h2
  have hne : ((n : Int) != (n : Int)) = false := by simp
  have hn0 : ((n : Int) == 0) = false := by simp; omega
  clear hx hy h1 h2
  go_enter Tryz.func73, Tryz.ntmps73
  go_wp2
  go_loopw [7] (fun i wr => ∃ k : Nat, k < n ∧ i = .int .i64 k ∧ CmpAt lx ly k ∧ ∃ q, wr = w.drewN q) (fun i _ => (intOf i).toNat)
  case atStart => exact ⟨n - 1, by omega, by go_num, by unfold CmpAt; rw [List.drop_eq_nil_of_le (by have := L1.out; omega), List.drop_eq_nil_of_le (by have := L2.out; omega)], 0, rfl⟩
  case round =>
    obtain ⟨k, hk, rfl, hC, q, rfl⟩ := hrel
    have HC := Lib.hid hC
    clear hC
    have l1 := L1.out; have l2 := L2.out
    have e0 : ∀ q, (w.drewN q).cell? = w.cell? := fun q => rfl
    cases k with
    | zero =>
      have g1 := HX.out 0 (by omega)
      have g2 := HY.out 0 (by omega)
      rcases Int.lt_trichotomy (lx[0]?.getD 0) (ly[0]?.getD 0) with hlt | heq | hgt
      · have HV := Lib.hid (icmp_lt (val_lt_at wx wy (k := 0) (by omega) (by omega) HC.out hlt))
        clear l1 l2 e0
        generalize lx[0]?.getD 0 = x0 at *
        generalize ly[0]?.getD 0 = y0 at *
        go_wp2_with (fail)
        go_quiet (fail)
        go_wp2_with (fail)
        go_quiet (fail)
        go_wp2
        go_ret
        exact ⟨ret_int HV.out.symm, _, dd3 _ _ _ _⟩
      · have hv : lx = ly := by
          rw [show lx = lx.drop 0 by simp, show ly = ly.drop 0 by simp, drop_cons lx 0 (by omega), drop_cons ly 0 (by omega), heq]
          congr 1
        have HV := Lib.hid (icmp_eq (congrArg val hv))
        have hnl : ¬ (lx[0]?.getD 0 < ly[0]?.getD 0) := by omega
        have hng : ¬ (ly[0]?.getD 0 < lx[0]?.getD 0) := by omega
        have d1 : decide (lx[0]?.getD 0 < ly[0]?.getD 0) = false := by simpa using hnl
        have d2 : decide (ly[0]?.getD 0 < lx[0]?.getD 0) = false := by simpa using hng
        clear l1 l2 e0 heq hv hnl hng
        generalize lx[0]?.getD 0 = x0 at *
        generalize ly[0]?.getD 0 = y0 at *
        go_wp2_with (fail)
        go_quiet (fail)
        go_wp2_with (fail)
        go_quiet (fail)
        go_wp2_with (fail)
        go_quiet (fail)
        go_wp2
        go_ret
        exact ⟨ret_int HV.out.symm, _, dd4 _ _ _ _ _⟩
      · have HV := Lib.hid (icmp_gt (val_lt_at wy wx (k := 0) (by omega) (by omega) HC.out.symm hgt))
        have hnl : ¬ (lx[0]?.getD 0 < ly[0]?.getD 0) := by omega
        have d1 : decide (lx[0]?.getD 0 < ly[0]?.getD 0) = false := by simpa using hnl
        clear l1 l2 e0 hnl
        generalize lx[0]?.getD 0 = x0 at *
        generalize ly[0]?.getD 0 = y0 at *
        go_wp2_with (fail)
        go_quiet (fail)
        go_wp2_with (fail)
        go_quiet (fail)
        go_wp2_with (fail)
        go_quiet (fail)
        go_wp2
        go_ret
        exact ⟨ret_int HV.out.symm, _, dd4 _ _ _ _ _⟩
    | succ k =>
      have g1 := HX.out (k + 1) (by omega)
      have g2 := HY.out (k + 1) (by omega)
      rw [Nat.zero_add] at g1 g2
      have hp0 : (0 : Int) < (k : Int) + 1 := by omega
      have hp1 : (k : Int) + 1 < n := by omega
      have hp3 : 0 ≤ (k : Int) + 1 := by omega
      have hp2 : ((k : Int) + 1).toNat = k + 1 := by omega
      rcases Int.lt_trichotomy (lx[k + 1]?.getD 0) (ly[k + 1]?.getD 0) with hlt | heq | hgt
      · have HV := Lib.hid (icmp_lt (val_lt_at wx wy (k := k + 1) (by omega) (by omega) HC.out hlt))
        have d0 : (lx[k + 1]?.getD 0 == ly[k + 1]?.getD 0) = false := by rw [beq_eq_false_iff_ne]; omega
        clear l1 l2 e0
        generalize lx[k + 1]?.getD 0 = x0 at *
        generalize ly[k + 1]?.getD 0 = y0 at *
        go_wp2_with (fail)
        go_quiet (fail)
        go_wp2_with (fail)
        go_quiet (fail)
        go_wp2
        go_ret
        exact ⟨ret_int HV.out.symm, _, dd3 _ _ _ _⟩
      · have HN : Hid (CmpAt lx ly k) := by show CmpAt lx ly k; unfold CmpAt; rw [drop_cons lx (k + 1) (by omega), drop_cons ly (k + 1) (by omega), heq]; congr 1
        have d0 : (lx[k + 1]?.getD 0 == ly[k + 1]?.getD 0) = true := by rw [beq_iff_eq]; exact heq
        clear l1 l2 e0 heq
        generalize lx[k + 1]?.getD 0 = x0 at *
        generalize ly[k + 1]?.getD 0 = y0 at *
        go_wp2_with (fail)
        go_quiet (fail)
        go_wp2
        go_roundw
        case rel => exact ⟨k, by omega, by go_num, HN.out, _, rfl⟩
        case measure => simp [intOf]
      · have HV := Lib.hid (icmp_gt (val_lt_at wy wx (k := k + 1) (by omega) (by omega) HC.out.symm hgt))
        have d0 : (lx[k + 1]?.getD 0 == ly[k + 1]?.getD 0) = false := by rw [beq_eq_false_iff_ne]; omega
        have hnl : ¬ (lx[k + 1]?.getD 0 < ly[k + 1]?.getD 0) := by omega
        have d1 : decide (lx[k + 1]?.getD 0 < ly[k + 1]?.getD 0) = false := by simpa using hnl
        clear l1 l2 e0 hnl
        generalize lx[k + 1]?.getD 0 = x0 at *
        generalize ly[k + 1]?.getD 0 = y0 at *
        go_wp2_with (fail)
        go_quiet (fail)
        go_wp2_with (fail)
        go_quiet (fail)
        go_wp2_with (fail)
        go_quiet (fail)
        go_wp2
        go_ret
        exact ⟨ret_int HV.out.symm, _, dd4 _ _ _ _ _⟩

theorem cmp_any {w : World} {x y : Value} {lx ly : List Int} (hx : IsNat w x lx) (hy : IsNat w y ly) (wx : wfL lx) (wy : wfL ly) (nx : Nrm lx) (ny : Nrm ly) (h1 : lx.length ≤ 1000000000000) (h2 : ly.length ≤ 1000000000000) :
    Calls Tryz.prog 73 #[x, y] w fun e w' => e = .returned (.int .i64 (icmp (val lx) (val ly))) ∧ ∃ q, w' = w.drewN q := by
  by_cases h : lx.length ≠ ly.length ∨ lx = []
  · exact (cmp_len hx hy wx wy nx ny h h1 h2).mono fun e w' ⟨a, b⟩ => ⟨a, 0, b.symm⟩
  · have hl : lx ≠ [] := fun e => h (.inr e)
    have he : lx.length = ly.length := Classical.byContradiction fun e => h (.inl e)
    have hl2 : ly ≠ [] := by intro e; subst e; exact hl (List.eq_nil_of_length_eq_zero (by simpa using he))
    obtain ⟨b, cap, M, rfl, hb, hc, hm, hat, hown⟩ := hx.split hl
    obtain ⟨b2, cap2, M2, rfl, hb2, hc2, hm2, hat2, hown2⟩ := hy.split hl2
    have := cmp_same (cx := cap) (cy := cap2) hat hat2 wx wy rfl he.symm h1 (by cases lx with | nil => exact absurd rfl hl | cons a l => simp)
    rw [he] at this ⊢; exact this
end Go.Proofs.YtndphemomhcjlaaGreatDoor

namespace Go.Proofs.YtndphemomhcjlaaGreatDoor
open Go.RowKit

theorem addVV (bz oz bx ox by_ oy n cz cx cy : Nat) (L X Y : List Int) (w : World) (hn : n ≤ 9223372036854775807) (hz : w.heap[bz]? = some (blk L)) (hl : oz + n ≤ L.length)
    (hX : At w bx ox X) (hY : At w by_ oy Y) (lx : X.length = n) (ly : Y.length = n) (wx : wfL X) (wy : wfL Y) (ax : bx = bz → ox = oz) (ay : by_ = bz → oy = oz) :
    Calls Tryz.prog 192 #[.slice (some ⟨bz, oz, none⟩) n cz, .slice (some ⟨bx, ox, none⟩) n cx, .slice (some ⟨by_, oy, none⟩) n cy] w fun e w' =>
      ∃ c, e = .returned (.int .u64 c) ∧ VRel (AddF X Y n) w bz oz L n c w' := by
  have H := Lib.hid (addVV_g bz oz bx ox by_ oy n cz cx cy L X Y w hn hz hl hX hY lx ly wx wy ax ay)
  clear hX hY hl hz lx ly ax ay
  go_enter Tryz.func192, Tryz.ntmps192
  go_wp2_with (fail)
  refine H.out.mono ?_
  rintro e w' ⟨c, rfl, hv⟩
  have HV := Lib.hid hv; clear hv
  go_wp2
  go_ret
  exact ⟨_, rfl, HV.out⟩
theorem subVV (bz oz bx ox by_ oy n cz cx cy : Nat) (L X Y : List Int) (w : World) (hn : n ≤ 9223372036854775807) (hz : w.heap[bz]? = some (blk L)) (hl : oz + n ≤ L.length)
    (hX : At w bx ox X) (hY : At w by_ oy Y) (lx : X.length = n) (ly : Y.length = n) (wx : wfL X) (wy : wfL Y) (ax : bx = bz → ox = oz) (ay : by_ = bz → oy = oz) :
    Calls Tryz.prog 186 #[.slice (some ⟨bz, oz, none⟩) n cz, .slice (some ⟨bx, ox, none⟩) n cx, .slice (some ⟨by_, oy, none⟩) n cy] w fun e w' =>
      ∃ c, e = .returned (.int .u64 c) ∧ VRel (SubF X Y n) w bz oz L n c w' := by
  have H := Lib.hid (subVV_g bz oz bx ox by_ oy n cz cx cy L X Y w hn hz hl hX hY lx ly wx wy ax ay)
  clear hX hY hl hz lx ly ax ay
  go_enter Tryz.func186, Tryz.ntmps186
  go_wp2_with (fail)
  refine H.out.mono ?_
  rintro e w' ⟨c, rfl, hv⟩
  have HV := Lib.hid hv; clear hv
  go_wp2
  go_ret
  exact ⟨_, rfl, HV.out⟩
theorem mulAddVWW (bz oz bx ox n cz cx : Nat) (L X : List Int) (y r : Int) (w : World) (hn : n ≤ 9223372036854775807) (hz : w.heap[bz]? = some (blk L)) (hl : oz + n ≤ L.length)
    (hX : At w bx ox X) (lx : X.length = n) (wx : wfL X) (ax : bx = bz → ox = oz) (hy : U64 y) (hr : U64 r) :
    Calls Tryz.prog 193 #[.slice (some ⟨bz, oz, none⟩) n cz, .slice (some ⟨bx, ox, none⟩) n cx, .int .u64 y, .int .u64 r] w fun e w' =>
      ∃ c, e = .returned (.int .u64 c) ∧ VRel (MulF X y r n) w bz oz L n c w' := by
  have H := Lib.hid (mulAddVWW_g bz oz bx ox n cz cx L X y r w hn hz hl hX lx wx ax hy hr)
  clear hX hl hz lx ax
  go_enter Tryz.func193, Tryz.ntmps193
  go_wp2_with (fail)
  refine H.out.mono ?_
  rintro e w' ⟨c, rfl, hv⟩
  have HV := Lib.hid hv; clear hv
  go_wp2
  go_ret
  exact ⟨_, rfl, HV.out⟩
theorem addMulVVWW (bz oz bx ox by_ oy n cz cx cy : Nat) (L X Y : List Int) (m a : Int) (w : World) (hn : n ≤ 9223372036854775807) (hz : w.heap[bz]? = some (blk L)) (hl : oz + n ≤ L.length)
    (hX : At w bx ox X) (hY : At w by_ oy Y) (lx : X.length = n) (ly : Y.length = n) (wx : wfL X) (wy : wfL Y) (ax : bx = bz → ox = oz) (ay : by_ = bz → oy = oz) (hm : U64 m) (ha : U64 a) :
    Calls Tryz.prog 191 #[.slice (some ⟨bz, oz, none⟩) n cz, .slice (some ⟨bx, ox, none⟩) n cx, .slice (some ⟨by_, oy, none⟩) n cy, .int .u64 m, .int .u64 a] w fun e w' =>
      ∃ c, e = .returned (.int .u64 c) ∧ VRel (AddMulF X Y m a n) w bz oz L n c w' := by
  have H := Lib.hid (addMulVVWW_g bz oz bx ox by_ oy n cz cx cy L X Y m a w hn hz hl hX hY lx ly wx wy ax ay hm ha)
  clear hX hY hl hz lx ly ax ay
  go_enter Tryz.func191, Tryz.ntmps191
  go_wp2_with (fail)
  refine H.out.mono ?_
  rintro e w' ⟨c, rfl, hv⟩
  have HV := Lib.hid hv; clear hv
  go_wp2
  go_ret
  exact ⟨_, rfl, HV.out⟩
theorem lshVU (bz oz bx ox n cz cx s : Nat) (L X : List Int) (w : World) (hn : n ≤ 9223372036854775807) (h1 : 1 ≤ n) (hz : w.heap[bz]? = some (blk L)) (hl : oz + n ≤ L.length)
    (hX : At w bx ox X) (nx : bx ≠ bz) (lx : X.length = n) (wx : wfL X) (hs0 : 1 ≤ s) (hs1 : s ≤ 63) :
    Calls Tryz.prog 106 #[.slice (some ⟨bz, oz, none⟩) n cz, .slice (some ⟨bx, ox, none⟩) n cx, .int .u64 s] w fun e w' =>
      ∃ c, e = .returned (.int .u64 c) ∧ VRel (ShlF X s) w bz oz L n c w' := by
  have H := Lib.hid (lshVU_g bz oz bx ox n cz cx s L X w hn h1 hz hl hX nx lx wx hs0 hs1)
  clear hX hl hz lx
  go_enter Tryz.func106, Tryz.ntmps106
  go_wp2_with (fail)
  refine H.out.mono ?_
  rintro e w' ⟨c, rfl, hv⟩
  have HV := Lib.hid hv; clear hv
  go_wp2
  go_ret
  exact ⟨_, rfl, HV.out⟩

theorem Made.fin {w w1 w2 : World} {z : Value} {b cap : Nat} {L Z : List Int} (h : Made w w1 z b cap L) (u : Upd w1 w2 b (spl L 0 Z)) (hz : Z.length ≤ cap) :
    NatRes w w2 z.ownBlock (.slice (some ⟨b, 0, none⟩) (nrm Z).length cap) (nrm Z) := by
  have h1 := nrm_length_le Z
  have h2 := h.len
  refine h.res u (spl_length _ _ _ (by omega)) (by omega) ?_
  unfold spl
  rw [List.append_assoc, List.take_zero, List.nil_append, List.take_append_of_le_length h1, nrm_take]
theorem At.spl0 {w : World} {b : Nat} {L Z : List Int} (h : w.heap[b]? = some (blk (spl L 0 Z))) (hz : Z.length ≤ L.length) : At w b 0 Z :=
  At.of_blk h Z (by rw [spl_length _ _ _ (by omega)]; omega) (fun i hi => spl_in L 0 Z i hi (by omega))

/-- what a product's walk ends in -/
def NatVal (w w' : World) (zb : Option Nat) (e : Ending) (n : Int) : Prop := ∃ v l, e = .returned v ∧ NatRes w w' zb v l ∧ wfL l ∧ Nrm l ∧ val l = n

theorem NatRes.draw {w w1 : World} {zb : Option Nat} {v : Value} {l : List Int} (h : NatRes w w1 zb v l) (n : Nat) : NatRes w (w1.drewN n) zb v l :=
  ⟨grown_trans h.grown (grown_weak (grown_drewN w1 n)), h.nat.grown0 (grown_drewN w1 n), h.own⟩

set_option maxRecDepth 100000 in
theorem mulAddWW_any {w : World} {z x : Value} {lz lx : List Int} (y r : Int) (hz : IsNat w z lz) (hx : IsNat w x lx) (wx : wfL lx) (hn : lx.length ≤ 100000000000) (hy : U64 y) (hr : U64 r) :
    Calls Tryz.prog 147 #[z, x, .int .u64 y, .int .u64 r] w fun e w' => NatVal w w' z.ownBlock e (val lx * y + r) := by
  by_cases h0 : lx = []
  · subst h0
    obtain ⟨xa, xc, rfl⟩ : ∃ xa xc, x = .slice xa 0 xc := by
      rcases hx with ⟨rfl, _⟩ | ⟨b, cap, M, rfl, _⟩
      · exact ⟨none, 0, rfl⟩
      · exact ⟨some ⟨b, 0, none⟩, cap, rfl⟩
    have Hz := Lib.hid hz
    have HE : Hid (∀ e w', (∃ v, e = .returned v ∧ NatRes w w' z.ownBlock v (nrm [r])) → NatVal w w' z.ownBlock e (val [] * y + r)) := by
      rintro e w' ⟨v, rfl, h⟩
      exact ⟨v, _, rfl, h, wfL_nrm (wfL_cons hr wfL_nil), nrm_nrm _, by rw [val_nrm]; simp [val]⟩
    clear hz hx
    go_enter Tryz.func147, Tryz.ntmps147
    go_wp2_with (fail)
    refine (setWord_any Hz.out r).mono ?_
    rintro e w1 ⟨v, rfl, hres⟩
    have HR := Lib.hid (HE.out _ _ ⟨v, rfl, hres⟩)
    clear hres
    go_wp2
    go_ret
    exact HR.out
  · by_cases hy0 : y = 0
    · subst hy0
      obtain ⟨b, cap, M, rfl, hb, hc, hm, hat, hown⟩ := hx.split h0
      have Hz := Lib.hid hz
      have HE : Hid (∀ e w', (∃ v, e = .returned v ∧ NatRes w w' z.ownBlock v (nrm [r])) → NatVal w w' z.ownBlock e (val lx * 0 + r)) := by
        rintro e w' ⟨v, rfl, h⟩
        exact ⟨v, _, rfl, h, wfL_nrm (wfL_cons hr wfL_nil), nrm_nrm _, by rw [val_nrm]; simp [val]⟩
      have hl1 : ((lx.length : Int) == 0) = false := by
        cases lx with
        | nil => exact absurd rfl h0
        | cons a l => simp; omega
      clear hz hx hb hat hown h0
      go_enter Tryz.func147, Tryz.ntmps147
      go_wp2_with (fail)
      refine (setWord_any Hz.out r).mono ?_
      rintro e w1 ⟨v, rfl, hres⟩
      have HR := Lib.hid (HE.out _ _ ⟨v, rfl, hres⟩)
      clear hres
      go_wp2
      go_ret
      exact HR.out
    · obtain ⟨b, cap, M, rfl, hb, hc, hm, hat, hown⟩ := hx.split h0
      have hl1 : ((lx.length : Int) == 0) = false := by
        cases lx with
        | nil => exact absurd rfl h0
        | cons a l => simp; omega
      have hy1 : (y == 0) = false := by simp [hy0]
      have Hz := Lib.hid hz; have Hb := Lib.hid hb; have Hat := Lib.hid hat
      obtain ⟨n, hln⟩ : ∃ n, lx.length = n := ⟨_, rfl⟩
      have Hln := Lib.hid hln
      have hn1 : 1 ≤ n := by rw [← hln]; cases lx with | nil => exact absurd rfl h0 | cons a l => simp
      rw [hln] at hc hn ⊢
      clear hz hx hb hat hown h0 hy0 hln hl1
      have hl1 : ((n : Int) == 0) = false := by simp; omega
      go_enter Tryz.func147, Tryz.ntmps147
      go_wp2_with (fail)
      refine (make_any Hz.out (n + 1) (by omega) (by omega)).mono ?_
      rintro e w1 ⟨b1, cap1, L, rfl, hc1, hmade⟩
      have HM := Lib.hid hmade
      clear hmade
      go_wp2_with (fail)
      refine (mulAddVWW b1 0 b 0 n cap1 cap L lx y r w1 (by omega) HM.out.here (by have := HM.out.len; omega) (Hat.out.grown HM.out.grown (Array.getElem?_eq_some_iff.1 Hb.out).1) Hln.out wx (fun _ => rfl) hy hr).mono ?_
      rintro e w2 ⟨c, rfl, hv⟩
      obtain ⟨Z, hZ, wZ, ⟨uc, hF⟩, hu⟩ := hv
      have g1 := cell_blk hu.here n (by rw [spl_length _ _ _ (by have := HM.out.len; omega)]; have := HM.out.len; omega)
      have g2 := frozen_blk hu.here n
      have hu3 := hu.set n c
      rw [show n = 0 + Z.length by omega, spl_snoc _ _ _ _ (by have := HM.out.len; omega), show 0 + Z.length = n by omega] at hu3
      have hat3 := At.spl0 hu3.here (by have := HM.out.len; simp; omega)
      have HR : Hid (NatVal w (w2.setCell ⟨b1, n, none⟩ (.int .u64 c)) z.ownBlock (.returned (.slice (some ⟨b1, 0, none⟩) (nrm (Z ++ [c])).length cap1)) (val lx * y + r)) := by
        refine ⟨_, _, rfl, HM.out.fin hu3 (by simp; omega), wfL_nrm (wfL_snoc wZ uc), nrm_nrm _, ?_⟩
        rw [val_nrm, val_snoc, hZ]
        rw [← Hln.out, List.take_length] at hF
        rw [← Hln.out]; exact hF
      have HA := Lib.hid hat3; have HL : Hid ((Z ++ [c]).length = n + 1) := by show _ = _; simp [hZ]
      clear hu hu3 hat3 hF hZ wZ
      generalize (spl L 0 Z)[n]?.getD 0 = old at *
      go_wp2_with (fail)
      refine (norm_any b1 0 (n + 1) cap1 (Z ++ [c]) _ HL.out hc1 (by omega) HA.out).mono ?_
      rintro e w4 ⟨rfl, rfl⟩
      go_wp2
      go_ret
      exact HR.out
end Go.Proofs.YtndphemomhcjlaaGreatDoor
