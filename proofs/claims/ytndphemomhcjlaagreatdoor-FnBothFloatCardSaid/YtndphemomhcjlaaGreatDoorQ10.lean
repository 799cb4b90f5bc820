/- Division of a number by a number of one word. Natural numbers: the length in bits, the lowest word, alias. Whole numbers behind a pointer: what is read of them. Whole numbers behind a pointer: their worth as a machine's integer; comparisons; the length in bits. Whole numbers behind a pointer: comparisons; the length in bits. Whole numbers behind a pointer: new ones. -/
import Derived.Test.YtndphemomhcjlaaGreatDoorQ09
import Derived.Lib.SliceRun
set_option linter.all false

namespace Go.Proofs.YtndphemomhcjlaaGreatDoor
open Go.RowKit

theorem nrm_one {y : Int} (h : y ≠ 0) : nrm [y] = [y] := by
  have := nrm_snoc [] y h; simpa using this
set_option maxRecDepth 100000 in
theorem div_one {w : World} {z z2 u v : Value} {lz l2 lu : List Int} (stk : Value) (y : Int) (hz : IsNat w z lz) (h2 : IsNat w z2 l2) (hu : IsNat w u lu) (hv : IsNat w v [y]) (wu : wfL lu) (nu : Nrm lu)
    (hn : lu.length ≤ 100000000000) (hy : U64 y) (h0 : y ≠ 0) (ho : z2.ownBlock = none ∨ z2.ownBlock ≠ z.ownBlock) :
    Calls Tryz.prog 83 #[z, stk, z2, u, v] w fun e w' => ∃ q r w1 lq, e = .returned (.tuple #[q, r]) ∧ NatRes w w1 z.ownBlock q lq ∧ wfL lq ∧ Nrm lq ∧ val lq = val lu / y ∧
      NatRes w1 w' z2.ownBlock r (nrm [val lu % y]) ∧ IsNat w' q lq := by
  obtain ⟨b, cap, M, rfl, hb, hc, hm, hat, hown⟩ := hv.split (by simp)
  have g1 : w.cell? ⟨b, 0, none⟩ = some (.int .u64 y) := hat 0 (by simp)
  have Hz := Lib.hid hz; have Hu := Lib.hid hu; have H2 := Lib.hid h2
  clear hz hu hv hb hat hown h2
  go_enter Tryz.func83, Tryz.ntmps83
  go_wp2_with (fail)
  refine (divW_any y Hz.out Hu.out wu nu hn hy h0).mono ?_
  rintro e w1 ⟨q, lq, rfl, hr1, wq, nq, hq⟩
  have H21 := Lib.hid (H2.out.grown hr1.grown ho)
  have HR1 := Lib.hid hr1
  clear hr1
  go_wp2_with (fail)
  refine (setWord_any H21.out (val lu % y)).mono ?_
  rintro e w2 ⟨r, rfl, hr2⟩
  have HR2 := Lib.hid hr2
  clear hr2
  go_wp2
  go_ret2
  refine ⟨q, r, w1, lq, rfl, HR1.out, wq, nq, hq, HR2.out, ?_⟩
  refine HR1.out.nat.grown HR2.out.grown ?_
  by_cases hq0 : q.ownBlock = none
  · exact .inl hq0
  · right
    obtain ⟨k, hk⟩ : ∃ k, q.ownBlock = some k := Option.ne_none_iff_exists'.1 hq0
    intro he
    rw [hk] at he
    rcases HR1.out.own k hk with h | h
    · rcases ho with ho | ho
      · rw [ho] at he; cases he
      · rw [← he, h] at ho; exact ho rfl
    · have := H2.out.lt k he.symm; omega

/-- set of nothing: a new slice -/
theorem set_new {w : World} {x : Value} {lx : List Int} (hx : IsNat w x lx) (hn : lx.length ≤ 1000000000000) (h0 : lx ≠ []) :
    Calls Tryz.prog 78 #[.slice none 0 0, x] w fun e w' => e = .returned (.slice (some ⟨w.heap.size, 0, none⟩) lx.length (capOf lx.length)) ∧ NatRes w w' none (.slice (some ⟨w.heap.size, 0, none⟩) lx.length (capOf lx.length)) lx := by
  obtain ⟨b, cap, M, rfl, hb, hc, hm, hat, hown⟩ := hx.split h0
  have hl1 : 1 ≤ lx.length := by cases lx with | nil => exact absurd rfl h0 | cons a l => simp
  have Hb := Lib.hid hb; have Hat := Lib.hid hat
  obtain ⟨c1, c2⟩ := capOf_le hl1 hn
  have HM : Hid (Made w (w.alloc (blk (zeros (capOf lx.length)))) (.slice none 0 0) w.heap.size (capOf lx.length) (zeros (capOf lx.length))) := ⟨heap_alloc_new w _, zeros_length _, c2, World.grownBy_alloc w _ none, .inr (Nat.le_refl _)⟩
  clear hb hat hown h0
  go_enter Tryz.func78, Tryz.ntmps78
  go_wp2_with (fail)
  refine (make_new none lx.length 0 0 w (by omega) hn).mono ?_
  rintro e w1 ⟨rfl, rfl⟩
  go_wp2_with (with_reducible refine wpList_copy_w rfl (.tmp 9) (.tmp 10) 88 88 rfl 87 und88 siz87 _ _ _ _ _ _ rfl rfl w.heap.size 0 (zeros (capOf lx.length)) lx HM.out.here (by simp) (fun _ => ⟨rfl, b, 0, rfl, Hat.out.grown HM.out.grown (Array.getElem?_eq_some_iff.1 Hb.out).1⟩) (by have := HM.out.len; omega) ?_)
  intro w2 hu2
  have HU := Lib.hid hu2
  clear hu2
  go_wp2
  go_ret
  exact ⟨rfl, HM.out.res HU.out (spl_length _ _ _ (by have := HM.out.len; omega)) c1 (spl_take _ _ (by have := HM.out.len; omega))⟩

/-- a slice of a slice -/
theorem run_slice_mid {P : Program} {T e : TypeId} (hT : P.underlying T = some (.slice e)) (hs : (P.info? e).map (·.size) = some 1) (b n c k h : Nat) (lo hi : Int) (hlo : lo = k) (hhi : hi = h) (hk : k ≤ h) (hh : h ≤ c) (wx : World) :
    (Instr.slice T (.slice (some ⟨b, 0, none⟩) n c) (some (.int .i64 lo)) (some (.int .i64 hi)) none).run P wx = .ok (.slice (some ⟨b, adv 0 k c, none⟩) (h - k) (c - k)) wx := by
  subst hlo hhi
  cases hq : P.info? e with
  | none => simp [hq] at hs
  | some i =>
    have hi : i.size = 1 := by simpa [hq] using hs
    unfold adv
    by_cases hc : c = k
    · have : h = k := by omega
      subst this; subst hc
      simp [Instr.slice, Instr.sliceBounds, Instr.sliceBound, run_underlying hT, sizeOf, typeInfo, hq, asIntOf, Addr.add]
    · by_cases h0 : k = 0
      · subst h0; simp [Instr.slice, Instr.sliceBounds, Instr.sliceBound, run_underlying hT, sizeOf, typeInfo, hq, asIntOf, hc, Addr.add, hh]
      · simp [Instr.slice, Instr.sliceBounds, Instr.sliceBound, run_underlying hT, sizeOf, typeInfo, hq, hi, asIntOf, hk, hc, Addr.add, h0, hh]

theorem set_same (L : List Int) (o : Nat) (h : o < L.length) (h0 : L[o]?.getD 0 = 0) : L.set o 0 = L := by
  apply List.ext_getElem?
  intro i
  rw [List.getElem?_set]
  split
  · rename_i hi; subst hi
    rw [List.getElem?_eq_getElem h] at h0 ⊢
    simp at h0; rw [h0]
  · rfl
theorem Upd.zeros {b : Nat} : ∀ (n o : Nat) {L : List Int} {w w' : World}, Upd w w' b L → o + n ≤ L.length → (∀ j, j < n → L[o + j]?.getD 0 = 0) → Upd w (w'.setCells b o (List.replicate n (.int .u64 0))) b L
  | 0, o, L, w, w', h, _, _ => h
  | n + 1, o, L, w, w', h, hl, h0 => by
    have h1 := h.set o 0
    rw [set_same L o (by omega) (h0 0 (by omega))] at h1
    rw [List.replicate_succ]
    exact Upd.zeros n (o + 1) h1 (by omega) (fun j hj => by rw [show o + 1 + j = o + (j + 1) by omega]; exact h0 _ (by omega))
/-- zeros over zeros -/
theorem run_clear_zeros (b n c cap : Nat) (Z : List Int) (w : World) (h : w.heap[b]? = some (blk (zeros n ++ Z))) (hc : cap = c) :
    ∃ w', (∀ ty, (Builtin.clear_ #[88] ty #[.slice (some ⟨b, 0, none⟩) n cap]).run Tryz.prog w = .ok (.tuple #[]) w') ∧ Upd w w' b (zeros n ++ Z) := by
  by_cases hn : n = 0
  · subst hn
    exact ⟨w, fun ty => by simp [Builtin.clear_, run_underlying und88], Upd.refl h⟩
  · refine ⟨_, fun ty => Lib.run_clear_slice w _ 87 ty (.int .u64 0) und88 (fun w => by kernel_rfl) rfl rfl b 0 n cap (by omega) ?_ ?_, ?_⟩
    · intro j hj
      rw [Nat.zero_add, cell_blk h j (by simp [zeros]; omega)]; rfl
    · intro j hj; exact frozen_blk h _
    · refine Upd.zeros n 0 (Upd.refl h) (by simp [zeros]) (fun j hj => ?_)
      simp [zeros, List.getElem?_append, hj]

theorem val_zeros_app (k : Nat) (l : List Int) : val (zeros k ++ l) = B64 ^ k * val l := by
  rw [val_append, val_zeros, zeros_length]; simp
theorem nrm_val_pos {l : List Int} (h : val l ≠ 0) : nrm l ≠ [] := by
  intro h0; rw [← val_nrm, h0] at h; exact h rfl

theorem u64_of_lt_pow {c : Int} {t : Nat} (h0 : 0 ≤ c) (h1 : c < 2 ^ t) (ht : t ≤ 64) : U64 c := by
  have h2 : 2 ^ t ≤ 2 ^ 64 := Nat.pow_le_pow_right (by decide) ht
  have h3 : (2 : Int) ^ t = ((2 ^ t : Nat) : Int) := by simp
  rw [h3] at h1; unfold U64 B64; omega
set_option maxRecDepth 100000 in
theorem lsh_new {w : World} {x : Value} {lx : List Int} (za : Option Addr) (zn zc s : Nat) (hx : IsNat w x lx) (wx : wfL lx) (hn : lx.length ≤ 100000000000) (h0 : lx ≠ []) (hs0 : 1 ≤ s) (hs1 : s ≤ 1000000000) (hz : zc < lx.length + s / 64 + 1) :
    Calls Tryz.prog 82 #[.slice za zn zc, x, .int .u64 s] w fun e w' => NatVal w w' none e (val lx * 2 ^ s) := by
  obtain ⟨b, cap, M, rfl, hb, hc, hm, hat, hown⟩ := hx.split h0
  have hl1 : 1 ≤ lx.length := by cases lx with | nil => exact absurd rfl h0 | cons a l => simp
  obtain ⟨n, hln⟩ : ∃ n, lx.length = n := ⟨_, rfl⟩
  obtain ⟨k, hk⟩ : ∃ k, s / 64 = k := ⟨_, rfl⟩
  obtain ⟨t, ht⟩ : ∃ t, s % 64 = t := ⟨_, rfl⟩
  have Hb := Lib.hid hb; have Hat := Lib.hid hat; have Hln := Lib.hid hln
  rw [hln] at hl1 hn hc hz ⊢
  have E1 : Hid ((s : Int) / 64 = k) := by show _ = _; omega
  have E2 : Hid ((s : Int) % 64 = t) := by show _ = _; omega
  have s0 : ((s : Int) == 0) = false := by simp; omega
  have n0 : ((n : Int) == 0) = false := by simp; omega
  have hz2 : zc < n + k + 1 := by omega
  have hk2 : k ≤ 15625000 := by omega
  have ht2 : t < 64 := by omega
  have hst : s = 64 * k + t := by omega
  obtain ⟨c1, c2⟩ := capOf_le (n := n + k + 1) (by omega) (by omega)
  obtain ⟨cp, hcp⟩ : ∃ cp, capOf (n + k + 1) = cp := ⟨_, rfl⟩
  have HM : Hid (Made w (w.alloc (blk (zeros cp))) (.slice none 0 0) w.heap.size cp (zeros cp)) := by
    rw [← hcp]; exact ⟨heap_alloc_new w _, zeros_length _, c2, World.grownBy_alloc w _ none, .inr (Nat.le_refl _)⟩
  have MN := make_new za (n + k + 1) zn zc w (by omega) (by omega)
  rw [hcp] at c1 c2 MN
  have e3 : ((n + k + 1 : Nat) : Int) = (n : Int) + k + 1 := by omega
  rw [e3] at MN
  have e4 : IntKind.i64.wrap ((n : Int) + k) = (n : Int) + k := IntWalk.i64_in _ (by omega)
  have e5 : IntKind.i64.wrap (k : Int) = k := IntWalk.i64_in _ (by omega)
  have e6 : IntKind.i64.wrap ((n : Int) + k + 1) = (n : Int) + k + 1 := IntWalk.i64_in _ (by omega)
  have e7 : IntKind.i64.wrap ((n : Int) + k - n) = k := by rw [show (n : Int) + k - n = k by omega]; exact e5
  have R1 := run_slice_mid (P := Tryz.prog) und88 siz87 w.heap.size (n + k + 1) cp k (n + k) (k : Int) ((n : Int) + k) rfl (by omega) (by omega) (by omega)
  have R2 := run_slice_mid (P := Tryz.prog) und88 siz87 w.heap.size (n + k + 1) cp 0 k (0 : Int) (k : Int) rfl rfl (by omega) (by omega)
  rw [adv_lt (by omega)] at R1 R2
  simp only [Nat.zero_add, Nat.sub_zero, Nat.add_zero] at R1 R2
  rw [show n + k - k = n by omega] at R1
  have HS := Lib.hid hst
  clear hb hat hown h0 hln hx hz hk ht hst hcp hs0
  by_cases ht0 : t = 0
  · have t0 : ((s : Int) % 64 == 0) = true := by rw [E2.out]; simp; omega
    go_enter Tryz.func82, Tryz.ntmps82
    go_wp2_with (fail)
    rw [E1.out]
    refine MN.mono ?_
    rintro e w1 ⟨rfl, rfl⟩
    have hat1 := Lib.hid (Hat.out.grown HM.out.grown (Array.getElem?_eq_some_iff.1 Hb.out).1)
    go_wp2_with (with_reducible refine wpList_copy_w rfl (.tmp 46) (.tmp 47) 88 88 rfl 87 und88 siz87 _ _ _ _ _ _ rfl rfl w.heap.size k (zeros cp) lx HM.out.here (by have := Hln.out; simp; omega) (fun _ => ⟨rfl, b, 0, rfl, hat1.out⟩) (by have := HM.out.len; have := Hln.out; omega) ?_)
    intro w2 hu
    have hlz := zeros_length cp
    have hZ := Hln.out
    have g1 := cell_blk hu.here (n + k) (by rw [spl_length _ _ _ (by omega)]; omega)
    have g2 := frozen_blk hu.here (n + k)
    have hu3 := hu.set (k + lx.length) 0
    rw [spl_snoc _ _ _ _ (by omega), hZ, show k + n = n + k by omega] at hu3
    have hsp : spl (zeros cp) k (lx ++ [0]) = zeros k ++ (lx ++ [0] ++ zeros (cp - (n + k + 1))) := by
      have e9 : (lx ++ [(0 : Int)]).length = n + 1 := by simp [hZ]
      unfold spl zeros
      rw [e9, List.take_replicate, List.drop_replicate, Nat.min_eq_left (by omega), show cp - (k + (n + 1)) = cp - (n + k + 1) by omega, List.append_assoc]
    rw [hsp] at hu3
    obtain ⟨w4, hcl, hu4⟩ := run_clear_zeros w.heap.size k cp cp _ _ hu3.here rfl
    have hu5 := hu3.trans hu4
    have hat3 : At w4 w.heap.size 0 (zeros k ++ (lx ++ [0])) := by
      refine At.of_blk hu5.here _ (by simp [zeros]) (fun i hi => ?_)
      rw [Nat.zero_add, ← List.append_assoc, ← List.append_assoc, List.getElem?_append_left (by simpa [zeros, List.append_assoc] using hi), List.append_assoc]
    have hlen : (zeros k ++ (lx ++ [0])).length = n + k + 1 := by simp [zeros]; omega
    have wl : wfL (zeros k ++ (lx ++ [0])) := wfL_append (wfL_zeros k) (wfL_snoc wx u0)
    have hsp0 : zeros k ++ (lx ++ [0] ++ zeros (cp - (n + k + 1))) = spl (zeros cp) 0 (zeros k ++ (lx ++ [0])) := by
      unfold spl
      rw [hlen]
      unfold zeros
      rw [List.drop_replicate, List.take_zero, Nat.zero_add, List.nil_append, ← List.append_assoc, ← List.append_assoc]
    have HR : Hid (NatVal w w4 none (.returned (.slice (some ⟨w.heap.size, 0, none⟩) (nrm (zeros k ++ (lx ++ [0]))).length cp)) (val lx * 2 ^ s)) := by
      refine ⟨_, _, rfl, HM.out.fin (by rw [hsp0] at hu5; exact hu5) (by omega), wfL_nrm wl, nrm_nrm _, ?_⟩
      rw [val_nrm, val_zeros_app, val_snoc, HS.out, ht0, Nat.add_zero, show (B64 : Int) = 2 ^ 64 from rfl, ← Int.pow_mul]
      grind
    have HA := Lib.hid hat3; have HL := Lib.hid hlen
    clear hu3 hu4 hu5 hat3 hlen wl hZ hsp hlz hsp0
    generalize (spl (zeros cp) k lx)[n + k]?.getD 0 = old at *
    go_wp2_with (fail)
    refine (norm_any w.heap.size 0 (n + k + 1) cp (zeros k ++ (lx ++ [0])) _ HL.out c1 (by omega) HA.out).mono ?_
    rintro e w5 ⟨rfl, rfl⟩
    go_wp2
    go_ret
    exact HR.out
  · have t0 : ((s : Int) % 64 == 0) = false := by rw [E2.out]; simp; omega
    go_enter Tryz.func82, Tryz.ntmps82
    go_wp2_with (fail)
    rw [E1.out]
    refine MN.mono ?_
    rintro e w1 ⟨rfl, rfl⟩
    go_wp2_with (fail)
    rw [E2.out]
    refine (lshVU w.heap.size k b 0 n (cp - k) cap t (zeros cp) lx (w.alloc (blk (zeros cp))) (by omega) hl1 HM.out.here (by have := HM.out.len; omega) (Hat.out.grown HM.out.grown (Array.getElem?_eq_some_iff.1 Hb.out).1) (by have := (Array.getElem?_eq_some_iff.1 Hb.out).1; omega) Hln.out wx (by omega) (by omega)).mono ?_
    rintro e w2 ⟨c, rfl, hv⟩
    obtain ⟨Z, hZ, wZ, ⟨cc0, cc1, hF⟩, hu⟩ := hv
    have hlz := zeros_length cp
    have g1 := cell_blk hu.here (n + k) (by rw [spl_length _ _ _ (by omega)]; omega)
    have g2 := frozen_blk hu.here (n + k)
    have hu3 := hu.set (k + Z.length) c
    rw [spl_snoc _ _ _ _ (by omega), hZ, show k + n = n + k by omega] at hu3
    have hsp : spl (zeros cp) k (Z ++ [c]) = zeros k ++ (Z ++ [c] ++ zeros (cp - (n + k + 1))) := by
      have e9 : (Z ++ [c]).length = n + 1 := by simp [hZ]
      unfold spl zeros
      rw [e9, List.take_replicate, List.drop_replicate, Nat.min_eq_left (by omega), show cp - (k + (n + 1)) = cp - (n + k + 1) by omega, List.append_assoc]
    rw [hsp] at hu3
    obtain ⟨w4, hcl, hu4⟩ := run_clear_zeros w.heap.size k cp cp _ _ hu3.here rfl
    have hu5 := hu3.trans hu4
    have hat3 : At w4 w.heap.size 0 (zeros k ++ (Z ++ [c])) := by
      refine At.of_blk hu5.here _ (by simp [zeros]) (fun i hi => ?_)
      rw [Nat.zero_add, ← List.append_assoc, ← List.append_assoc, List.getElem?_append_left (by simpa [zeros, List.append_assoc] using hi), List.append_assoc]
    have hlen : (zeros k ++ (Z ++ [c])).length = n + k + 1 := by simp [zeros]; omega
    have wl : wfL (zeros k ++ (Z ++ [c])) := wfL_append (wfL_zeros k) (wfL_snoc wZ (u64_of_lt_pow cc0 cc1 (by omega)))
    have hsp0 : zeros k ++ (Z ++ [c] ++ zeros (cp - (n + k + 1))) = spl (zeros cp) 0 (zeros k ++ (Z ++ [c])) := by
      unfold spl
      rw [hlen]
      unfold zeros
      rw [List.drop_replicate, List.take_zero, Nat.zero_add, List.nil_append, ← List.append_assoc, ← List.append_assoc]
    have HR : Hid (NatVal w w4 none (.returned (.slice (some ⟨w.heap.size, 0, none⟩) (nrm (zeros k ++ (Z ++ [c]))).length cp)) (val lx * 2 ^ s)) := by
      refine ⟨_, _, rfl, HM.out.fin (by rw [show zeros k ++ (Z ++ [c] ++ zeros (cp - (n + k + 1))) = spl (zeros cp) 0 (zeros k ++ (Z ++ [c])) by (unfold spl; simp [zeros, hZ]; omega)] at hu5; exact hu5) (by omega), wfL_nrm wl, nrm_nrm _, ?_⟩
      rw [val_nrm, val_zeros_app, val_snoc, hZ, HS.out, Int.pow_add, ← Int.mul_assoc]
      rw [Hln.out] at hF
      rw [hF, show (B64 : Int) = 2 ^ 64 from rfl, ← Int.pow_mul]
      grind
    have HA := Lib.hid hat3; have HL := Lib.hid hlen
    clear hu3 hu4 hu5 hat3 hlen wl hF hZ wZ hsp hlz
    generalize (spl (zeros cp) k Z)[n + k]?.getD 0 = old at *
    go_wp2_with (fail)
    refine (norm_any w.heap.size 0 (n + k + 1) cp (zeros k ++ (Z ++ [c])) _ HL.out c1 (by omega) HA.out).mono ?_
    rintro e w5 ⟨rfl, rfl⟩
    go_wp2
    go_ret
    exact HR.out
end Go.Proofs.YtndphemomhcjlaaGreatDoor

namespace Go.Proofs.YtndphemomhcjlaaGreatDoor
open Go.RowKit

theorem low64_any {w : World} {x : Value} {lx : List Int} (hx : IsNat w x lx) (hn : lx.length ≤ 1000000000000) :
    Calls Tryz.prog 44 #[x] w fun e w' => e = .returned (.int .u64 (lx[0]?.getD 0)) ∧ ∃ q, w' = w.drewN q := by
  by_cases h0 : lx = []
  · subst h0
    obtain ⟨xa, xc, rfl⟩ : ∃ xa xc, x = .slice xa 0 xc := by
      rcases hx with ⟨rfl, _⟩ | ⟨b, cap, M, rfl, _⟩
      · exact ⟨none, 0, rfl⟩
      · exact ⟨some ⟨b, 0, none⟩, cap, rfl⟩
    clear hx
    go_enter Tryz.func44, Tryz.ntmps44
    go_wp2
    go_ret
    exact ⟨rfl, 0, rfl⟩
  · obtain ⟨b, cap, M, rfl, hb, hc, hm, hat, hown⟩ := hx.split h0
    have hl1 : 1 ≤ lx.length := by cases lx with | nil => exact absurd rfl h0 | cons a l => simp
    have g1 : w.cell? ⟨b, 0, none⟩ = some (.int .u64 (lx[0]?.getD 0)) := hat 0 (by omega)
    generalize lx[0]?.getD 0 = a at *
    generalize lx.length = n at *
    have n0 : ((n : Int) == 0) = false := by simp; omega
    clear hx hat hb hown h0
    go_enter Tryz.func44, Tryz.ntmps44
    go_wp2
    go_ret
    exact ⟨rfl, 0, rfl⟩

set_option maxRecDepth 100000 in
theorem alias_nil {w : World} {y : Value} {ly : List Int} (hy : IsNat w y ly) :
    Calls Tryz.prog 77 #[.slice none 0 0, y] w fun e w' => e = .returned (.bool false) ∧ ∃ q, w' = w.drewN q := by
  obtain ⟨ya, yc, rfl, hyc⟩ : ∃ ya yc, y = .slice ya ly.length yc ∧ yc ≤ 9223372036854775807 := by
    rcases hy with ⟨rfl, rfl⟩ | ⟨b, cap, M, rfl, _, _, h⟩
    · exact ⟨none, 0, rfl, by omega⟩
    · exact ⟨some ⟨b, 0, none⟩, cap, rfl, h⟩
  clear hy
  go_enter Tryz.func77, Tryz.ntmps77
  go_wp2_with (fail)
  go_quiet (fail)
  go_wp2
  go_ret
  exact ⟨rfl, _, rfl⟩

theorem bitLen_or {x k : Nat} (h : x < 18446744073709551616) : Lib.bitLen (x ||| x / 2 ^ k) = Lib.bitLen x ∧ (x ||| x / 2 ^ k) < 18446744073709551616 := by
  by_cases h0 : x = 0
  · subst h0; simp
  · have hd : x / 2 ^ k ≤ x := Nat.div_le_self _ _
    have hge : x ≤ x ||| x / 2 ^ k := Nat.left_le_or
    have hlt : (x ||| x / 2 ^ k) < 2 ^ 64 := Nat.or_lt_two_pow (by omega) (by omega)
    refine ⟨?_, by omega⟩
    obtain ⟨a1, a2, a3⟩ := Lib.bitLenAux_bounds 64 x (by omega) h0
    obtain ⟨b1, b2, b3⟩ := Lib.bitLenAux_bounds 64 (x ||| x / 2 ^ k) (by omega) (by omega)
    have hlt2 : (x ||| x / 2 ^ k) < 2 ^ Lib.bitLenAux 64 x := Nat.or_lt_two_pow a3 (by omega)
    unfold Lib.bitLen
    have c1 := (Nat.pow_lt_pow_iff_right (by decide : 1 < 2)).1 (Nat.lt_of_le_of_lt b2 hlt2)
    have c2 := (Nat.pow_lt_pow_iff_right (by decide : 1 < 2)).1 (Nat.lt_of_le_of_lt (Nat.le_trans a2 hge) b3)
    omega
/-- the word with its upper half copied down -/
def smear (x : Int) (d : Int) : Int := bits .or .u64 x (x / d)
theorem smear_ok {x : Int} (k : Nat) (hx : U64 x) : U64 (smear x (2 ^ k)) ∧ Lib.bitLen (smear x (2 ^ k)).toNat = Lib.bitLen x.toNat := by
  obtain ⟨X, rfl⟩ := Int.eq_ofNat_of_zero_le hx.1
  have h2 := hx.2; unfold B64 at h2
  have e : ((X : Int) / 2 ^ k) = ((X / 2 ^ k : Nat) : Int) := by simp
  have hd : X / 2 ^ k ≤ X := Nat.div_le_self _ _
  obtain ⟨b1, b2⟩ := bitLen_or (x := X) (k := k) (by omega)
  unfold smear
  rw [e, u64_or_nat _ _ (by omega) (by omega)]
  exact ⟨⟨by omega, by unfold B64; omega⟩, by simpa using b1⟩

/-- how many bits a number has -/
def IsLen (n : Int) (B : Nat) : Prop := (n = 0 → B = 0) ∧ (0 < n → 1 ≤ B ∧ 2 ^ (B - 1) ≤ n ∧ n < 2 ^ B)
theorem isLen_word {x : Int} (hx : U64 x) : IsLen x (Lib.bitLen x.toNat) := by
  have h1 := hx.1; have h2 := hx.2; unfold B64 at h2
  refine ⟨fun h => by subst h; rfl, fun h => ?_⟩
  obtain ⟨a1, a2, a3⟩ := Lib.bitLenAux_bounds 64 x.toNat (by omega) (by omega)
  unfold Lib.bitLen
  generalize Lib.bitLenAux 64 x.toNat = b at *
  have c1 : ((2 : Int) ^ b) = ((2 ^ b : Nat) : Int) := by simp
  have c2 : ((2 : Int) ^ (b - 1)) = ((2 ^ (b - 1) : Nat) : Int) := by simp
  rw [c1, c2]
  exact ⟨a1, by omega, by omega⟩
theorem isLen_nat {l : List Int} (wl : wfL l) (nl : Nrm l) (h : 0 < l.length) : IsLen (val l) (64 * (l.length - 1) + Lib.bitLen (l[l.length - 1]?.getD 0).toNat) := by
  have hu := getD_u64 wl (l.length - 1) (by omega)
  have hne := nl.last h
  have hlow := val_lt (wfL_take wl (l.length - 1))
  have hlow0 := val_nonneg (wfL_take wl (l.length - 1))
  rw [List.length_take, Nat.min_eq_left (by omega)] at hlow
  have hv := val_at l (l.length - 1) (by omega)
  rw [List.drop_eq_nil_of_le (by omega)] at hv
  simp only [val, Int.mul_zero, Int.add_zero] at hv
  generalize l[l.length - 1]?.getD 0 = t at *
  generalize val (l.take (l.length - 1)) = lo at *
  generalize l.length - 1 = k at *
  obtain ⟨i1, i2⟩ := isLen_word hu
  obtain ⟨j1, j2, j3⟩ := i2 (by have := hu.1; omega)
  generalize Lib.bitLen t.toNat = b at *
  have hB : (B64 : Int) ^ k = 2 ^ (64 * k) := by rw [show (B64 : Int) = 2 ^ 64 from rfl, ← Int.pow_mul]
  rw [hB] at hlow hv
  have hp : (0 : Int) < 2 ^ (64 * k) := Int.pow_pos (by decide)
  refine ⟨fun h => ?_, fun _ => ⟨by omega, ?_, ?_⟩⟩
  · have : 0 < (2 : Int) ^ (64 * k) * t := Int.mul_pos hp (by have := hu.1; omega)
    omega
  · rw [show 64 * k + b - 1 = 64 * k + (b - 1) by omega, Int.pow_add]
    have := Int.mul_le_mul_of_nonneg_left j2 (Int.le_of_lt hp)
    omega
  · rw [Int.pow_add]
    have := Int.mul_le_mul_of_nonneg_left (show t + 1 ≤ 2 ^ b by omega) (Int.le_of_lt hp)
    rw [Int.mul_add] at this
    omega

set_option maxRecDepth 100000 in
theorem bitLen_any {w : World} {x : Value} {lx : List Int} (hx : IsNat w x lx) (wx : wfL lx) (nx : Nrm lx) (hn : lx.length ≤ 1000000000000) :
    Calls Tryz.prog 70 #[x] w fun e w' => (∃ B : Nat, e = .returned (.int .i64 B) ∧ IsLen (val lx) B ∧ B ≤ 64 * lx.length) ∧ ∃ q, w' = w.drewN q := by
  by_cases h0 : lx = []
  · subst h0
    obtain ⟨xa, xc, rfl⟩ : ∃ xa xc, x = .slice xa 0 xc := by
      rcases hx with ⟨rfl, _⟩ | ⟨b, cap, M, rfl, _⟩
      · exact ⟨none, 0, rfl⟩
      · exact ⟨some ⟨b, 0, none⟩, cap, rfl⟩
    clear hx
    go_enter Tryz.func70, Tryz.ntmps70
    go_wp2
    go_ret
    exact ⟨⟨0, rfl, ⟨fun _ => rfl, fun h => by simp [val] at h⟩, by omega⟩, 0, rfl⟩
  · obtain ⟨b, cap, M, rfl, hb, hc, hm, hat, hown⟩ := hx.split h0
    have hl1 : 1 ≤ lx.length := by cases lx with | nil => exact absurd rfl h0 | cons a l => simp
    obtain ⟨n, hln⟩ : ∃ n, lx.length = n + 1 := ⟨lx.length - 1, by omega⟩
    have g1 : w.cell? ⟨b, n, none⟩ = some (.int .u64 (lx[n]?.getD 0)) := by have := hat n (by omega); rwa [Nat.zero_add] at this
    have hu := getD_u64 wx n (by omega)
    have hI := Lib.hid (isLen_nat wx nx (by omega))
    rw [hln, Nat.add_sub_cancel] at hI
    have e1 : ((n + 1 : Nat) : Int) - 1 = n := by omega
    obtain ⟨u1, b1⟩ := smear_ok 1 hu
    obtain ⟨u2, b2⟩ := smear_ok 2 u1
    obtain ⟨u3, b3⟩ := smear_ok 4 u2
    obtain ⟨u4, b4⟩ := smear_ok 8 u3
    obtain ⟨u5, b5⟩ := smear_ok 16 u4
    obtain ⟨u6, b6⟩ := smear_ok 32 u5
    rw [b5, b4, b3, b2, b1] at b6
    have HL := Lib.hid hln
    rw [hln] at hn hc ⊢
    clear hx hat hb hown h0 b1 b2 b3 b4 b5 u1 u2 u3 u4 u5
    generalize lx[n]?.getD 0 = a at *
    have e2 : smear (smear (smear (smear (smear (smear a (2 ^ 1)) (2 ^ 2)) (2 ^ 4)) (2 ^ 8)) (2 ^ 16)) (2 ^ 32) = smear (smear (smear (smear (smear (smear a 2) 4) 16) 256) 65536) 4294967296 := rfl
    rw [e2] at u6 b6
    have hle := bitLen_le64 a.toNat (by have := hu.1; have := hu.2; unfold B64 at *; omega)
    go_enter Tryz.func70, Tryz.ntmps70
    go_wp2_with (fail)
    unfold smear at u6 b6
    generalize bits .or .u64 a (a / 2) = s1 at *
    generalize bits .or .u64 s1 (s1 / 4) = s2 at *
    generalize bits .or .u64 s2 (s2 / 16) = s3 at *
    generalize bits .or .u64 s3 (s3 / 256) = s4 at *
    generalize bits .or .u64 s4 (s4 / 65536) = s5 at *
    have e7 : s5 / 65536 / 65536 = s5 / 4294967296 := by omega
    rw [e7]
    generalize bits .or .u64 s5 (s5 / 4294967296) = s6 at *
    refine (sym (Tryz.bits_Len s6 _ u6.1 (by have := u6.2; unfold B64 at this; omega))).mono ?_
    rintro e w' ⟨rfl, rfl⟩
    rw [b6]
    generalize Lib.bitLen a.toNat = bb at *
    go_wp2_with (fail)
    go_ret
    exact ⟨⟨64 * n + bb, ret_int (by first | rfl | omega), hI.out, by omega⟩, 0, rfl⟩
end Go.Proofs.YtndphemomhcjlaaGreatDoor

namespace Go.Proofs.YtndphemomhcjlaaGreatDoor
open Go.RowKit

/-- a number behind the address b, o: its sign, its words v -/
structure IntC (w : World) (b o : Nat) (v : Value) (n : Int) : Prop where
  neg : w.cell? ⟨b, o, none⟩ = some (.bool (decide (n < 0)))
  abs : w.cell? ⟨b, o + 1, none⟩ = some v
  obj : ∃ cs T, w.heap[b]? = some (.cells cs T)
  nat : ∃ l, IsNat w v l ∧ wfL l ∧ Nrm l ∧ val l = n.natAbs ∧ l.length ≤ 10000000000

theorem und51 : Tryz.prog.underlying 51 = some (.pointer 90) := by kernel_rfl
theorem siz90 : (Tryz.prog.info? 90).map (·.size) = some 2 := by kernel_rfl
theorem inf90 : ∃ j, Tryz.prog.info? 90 = some j ∧ j.size ≠ 0 := by
  have h := siz90
  cases hq : Tryz.prog.info? 90 with
  | none => rw [hq] at h; simp at h
  | some j => rw [hq] at h; simp at h; exact ⟨j, rfl, by omega⟩
theorem ptr_neq_same (a : Addr) (wx : World) : (binOp .neq 51 (.pointer (some a)) (.pointer (some a))).run Tryz.prog wx = .ok (.bool false) wx := by
  obtain ⟨j, hj, _⟩ := inf90
  have h : ∀ d : Nat, (Op.equalIn (d + 1) 51 (.pointer (some a)) (.pointer (some a))).run Tryz.prog wx = .ok true wx := fun d => by
    simp [Op.equalIn, run_underlying und51, sizeOf, typeInfo, hj, run_sameAddr_same]
  simp only [binOp]
  simp [Op.equal, Op.maxDepth, h 9999]
theorem ptr_eql_other {a b : Addr} {wx : World} (hne : a ≠ b) (ha : ∃ cs T, wx.heap[a.block]? = some (.cells cs T)) (hb : ∃ cs T, wx.heap[b.block]? = some (.cells cs T)) :
    (binOp .eql 51 (.pointer (some a)) (.pointer (some b))).run Tryz.prog wx = .ok (.bool false) wx ∧ (binOp .neq 51 (.pointer (some a)) (.pointer (some b))).run Tryz.prog wx = .ok (.bool true) wx := by
  obtain ⟨j, hj, hs⟩ := inf90
  obtain ⟨ca, ta, ha⟩ := ha
  obtain ⟨cb, tb, hb⟩ := hb
  have h : ∀ d : Nat, (Op.equalIn (d + 1) 51 (.pointer (some a)) (.pointer (some b))).run Tryz.prog wx = .ok false wx := fun d => by
    simp [Op.equalIn, run_underlying und51, sizeOf, typeInfo, hj, hs, run_sameAddr_other wx hne ha hb]
  constructor
  · simp only [binOp]
    simp [Op.equal, Op.maxDepth, h 9999]
  · simp only [binOp]
    simp [Op.equal, Op.maxDepth, h 9999]

theorem IsNat.slice {w : World} {v : Value} {l : List Int} (h : IsNat w v l) : ∃ a c, v = .slice a l.length c := by
  rcases h with ⟨rfl, rfl⟩ | ⟨b, cap, M, rfl, _⟩
  · exact ⟨none, 0, rfl⟩
  · exact ⟨some ⟨b, 0, none⟩, cap, rfl⟩
theorem Nrm.nil_iff {l : List Int} (h : Nrm l) (wl : wfL l) : l = [] ↔ val l = 0 := by
  constructor
  · intro e; rw [e]; rfl
  · intro e
    by_cases h0 : 0 < l.length
    · have := val_ge h wl h0
      have := B64_pow_pos (l.length - 1)
      omega
    · exact List.eq_nil_of_length_eq_zero (by omega)
/-- the sign of a number -/
def isgn (n : Int) : Int := if n = 0 then 0 else if n < 0 then -1 else 1

theorem Sign_any {w : World} {b o : Nat} {v : Value} {n : Int} (h : IntC w b o v n) :
    Calls Tryz.prog 42 #[.pointer (some ⟨b, o, none⟩)] w fun e w' => e = .returned (.int .i64 (isgn n)) ∧ w = w' := by
  obtain ⟨h1, h2, _, l, hn, wl, nl, hv, hlen⟩ := h
  obtain ⟨a, c, rfl⟩ := hn.slice
  have hnil := nl.nil_iff wl
  rw [hv] at hnil
  by_cases h0 : n = 0
  · subst h0
    obtain rfl := hnil.2 (by simp)
    clear hn hv hnil
    go_enter Tryz.func42, Tryz.ntmps42
    go_wp2
    go_ret
    exact ⟨rfl, rfl⟩
  · have hl : ((l.length : Int) == 0) = false := by
      have : l ≠ [] := fun e => h0 (by have := hnil.1 e; omega)
      cases l with
      | nil => exact absurd rfl this
      | cons a t => simp; omega
    generalize l.length = m at *
    clear hn hv hnil
    by_cases hneg : n < 0
    · have e : isgn n = -1 := by unfold isgn; rw [if_neg h0, if_pos hneg]
      have hd : decide (n < 0) = true := by simp [hneg]
      rw [hd] at h1
      have HE := Lib.hid e
      clear hneg hd h0 e
      go_enter Tryz.func42, Tryz.ntmps42
      go_wp2
      go_ret
      exact ⟨ret_int HE.out.symm, rfl⟩
    · have e : isgn n = 1 := by unfold isgn; rw [if_neg h0, if_neg hneg]
      have hd : decide (n < 0) = false := by simp [hneg]
      rw [hd] at h1
      have HE := Lib.hid e
      clear hneg hd h0 e
      go_enter Tryz.func42, Tryz.ntmps42
      go_wp2
      go_ret
      exact ⟨ret_int HE.out.symm, rfl⟩
end Go.Proofs.YtndphemomhcjlaaGreatDoor

namespace Go.Proofs.YtndphemomhcjlaaGreatDoor
open Go.RowKit

def S64 (n : Int) : Prop := -9223372036854775808 ≤ n ∧ n ≤ 9223372036854775807
theorem val_low {l : List Int} (h : l.length ≤ 1) : val l = l[0]?.getD 0 := by
  match l, h with
  | [], _ => rfl
  | [a], _ => simp [val]
theorem IntC.same {w w' : World} {b o : Nat} {v : Value} {n : Int} (h : IntC w b o v n) (g : w.grownBy w' none) : IntC w' b o v n := by
  obtain ⟨h1, h2, ⟨cs, T, h3⟩, l, hn, hl⟩ := h
  have e := g.block b (Array.getElem?_eq_some_iff.1 h3).1 (by simp)
  exact ⟨by rw [World.cell?_of_block e]; exact h1, by rw [World.cell?_of_block e]; exact h2, ⟨cs, T, by rw [e]; exact h3⟩, l, hn.grown0 g, hl⟩
theorem IntC.draw {w : World} {b o : Nat} {v : Value} {n : Int} (h : IntC w b o v n) (q : Nat) : IntC (w.drewN q) b o v n := h.same (grown_drewN w q)

theorem Int64_any {w : World} {b o : Nat} {v : Value} {n : Int} (h : IntC w b o v n) (hs : S64 n) :
    Calls Tryz.prog 28 #[.pointer (some ⟨b, o, none⟩)] w fun e w' => e = .returned (.int .i64 n) ∧ ∃ q, w' = w.drewN q := by
  obtain ⟨h1, h2, _, l, hn, wl, nl, hv, hlen⟩ := h
  have hl1 : l.length ≤ 1 := by
    rcases Nat.lt_or_ge 1 l.length with h | h
    · have h3 := val_ge nl wl (by omega)
      have h4 := pow_mono (a := 1) (b := l.length - 1) (by omega)
      rw [hv, Int.pow_one] at *
      unfold S64 B64 at *; omega
    · exact h
  have hlow := val_low hl1
  rw [hv] at hlow
  have HN := Lib.hid hn; have HS := Lib.hid hs; have HL := Lib.hid hlow
  clear hn hs hlow hv hl1
  by_cases hneg : n < 0
  · have hd : decide (n < 0) = true := by simp [hneg]
    rw [hd] at h1
    have e1 : IntKind.i64.wrap (-(IntKind.i64.wrap (l[0]?.getD 0))) = n := by
      rw [← HL.out]; have := HS.out; unfold S64 at this
      rw [IntKind.wrap_i64, IntKind.wrap_i64]; omega
    have HE := Lib.hid e1
    clear hneg hd e1
    go_enter Tryz.func28, Tryz.ntmps28
    go_wp2_with (fail)
    refine (low64_any HN.out (by omega)).mono ?_
    rintro e w' ⟨rfl, q, rfl⟩
    have h3 : (w.drewN q).cell? ⟨b, o, none⟩ = some (.bool true) := h1
    generalize l[0]?.getD 0 = x at *
    go_wp2
    go_ret
    exact ⟨ret_int (by first | exact HE.out | (have := HE.out; simp only [IntKind.wrap_i64] at this; unfold wrap64; omega)), _, rfl⟩
  · have hd : decide (n < 0) = false := by simp [hneg]
    rw [hd] at h1
    have e1 : IntKind.i64.wrap (l[0]?.getD 0) = n := by
      rw [← HL.out]; have := HS.out; unfold S64 at this
      rw [IntKind.wrap_i64]; omega
    have HE := Lib.hid e1
    clear hneg hd e1
    go_enter Tryz.func28, Tryz.ntmps28
    go_wp2_with (fail)
    refine (low64_any HN.out (by omega)).mono ?_
    rintro e w' ⟨rfl, q, rfl⟩
    have h3 : (w.drewN q).cell? ⟨b, o, none⟩ = some (.bool false) := h1
    generalize l[0]?.getD 0 = x at *
    go_wp2
    go_ret
    exact ⟨ret_int (by first | exact HE.out | (have := HE.out; simp only [IntKind.wrap_i64] at this; unfold wrap64; omega)), _, rfl⟩

theorem IsInt64_any {w : World} {b o : Nat} {v : Value} {n : Int} (h : IntC w b o v n) :
    Calls Tryz.prog 27 #[.pointer (some ⟨b, o, none⟩)] w fun e w' => e = .returned (.bool (decide (-9223372036854775808 ≤ n ∧ n ≤ 9223372036854775807))) ∧ ∃ q, w' = w.drewN q := by
  obtain ⟨h1, h2, _, l, hn, wl, nl, hv, hlen⟩ := h
  obtain ⟨a, c, rfl⟩ := hn.slice
  by_cases hl1 : l.length ≤ 1
  · have hlow := val_low hl1
    rw [hv] at hlow
    have hle : decide ((l.length : Int) ≤ 1) = true := by simp; omega
    have HN := Lib.hid hn; have HL := Lib.hid hlow
    have hu : U64 (l[0]?.getD 0) := by
      match l, hl1, wl with
      | [], _, _ => exact u0
      | [x], _, wl => exact wl x (by simp)
    clear hn hlow hv wl nl
    have hle2 : (l.length : Int) ≤ 1 := by omega
    rcases Int.lt_or_le (l[0]?.getD 0) 9223372036854775808 with hx | hx
    · have e1 : IntKind.i64.wrap (l[0]?.getD 0) = l[0]?.getD 0 := by rw [IntKind.wrap_i64]; have := hu.1; omega
      have e2 : decide (-9223372036854775808 ≤ n ∧ n ≤ 9223372036854775807) = true := by have := HL.out; simp; omega
      have e3 : (0 : Int) ≤ l[0]?.getD 0 := hu.1
      rw [e2]
      clear e2 hle hu
      go_enter Tryz.func27, Tryz.ntmps27
      go_wp2_with (fail)
      refine (low64_any HN.out (by omega)).mono ?_
      rintro e w' ⟨rfl, q, rfl⟩
      generalize l[0]?.getD 0 = x at *
      go_wp2
      go_ret
      exact ⟨rfl, _, rfl⟩
    · have HU : Hid (decide ((18446744073709551616 : Int) ≤ l[0]?.getD 0) = false) := Lib.hid (by have := hu.2; unfold B64 at this; simp; omega)
      have e1 : IntKind.i64.wrap (l[0]?.getD 0) = l[0]?.getD 0 - 18446744073709551616 := by rw [IntKind.wrap_i64]; have := hu.2; unfold B64 at this; omega
      have e3 : ¬ ((0 : Int) ≤ l[0]?.getD 0 - 18446744073709551616) := by have := hu.2; unfold B64 at this; omega
      by_cases hneg : n < 0
      · have hd : decide (n < 0) = true := by simp [hneg]
        rw [hd] at h1
        by_cases hm : l[0]?.getD 0 = 9223372036854775808
        · have e2 : decide (-9223372036854775808 ≤ n ∧ n ≤ 9223372036854775807) = true := by have := HL.out; simp; omega
          have e4 : IntKind.i64.wrap (-(l[0]?.getD 0 - 18446744073709551616)) = l[0]?.getD 0 - 18446744073709551616 := by rw [hm, IntKind.wrap_i64]; omega
          rw [e2]
          clear e2 hle hu hd hneg hm
          go_enter Tryz.func27, Tryz.ntmps27
          go_wp2_with (fail)
          refine (low64_any HN.out (by omega)).mono ?_
          rintro e w' ⟨rfl, q, rfl⟩
          have h3 : (w.drewN q).cell? ⟨b, o, none⟩ = some (.bool true) := h1
          generalize l[0]?.getD 0 = x at *
          go_wp2
          go_ret
          exact ⟨by simp, _, rfl⟩
        · have e2 : decide (-9223372036854775808 ≤ n ∧ n ≤ 9223372036854775807) = false := by have := HL.out; simp; omega
          have e4 : IntKind.i64.wrap (-(l[0]?.getD 0 - 18446744073709551616)) = 18446744073709551616 - l[0]?.getD 0 := by rw [IntKind.wrap_i64]; have := hu.2; unfold B64 at this; omega
          have e5 : (l[0]?.getD 0 - 18446744073709551616 == 18446744073709551616 - l[0]?.getD 0) = false := by simp; omega
          rw [e2]
          clear e2 hle hu hd hneg hm
          go_enter Tryz.func27, Tryz.ntmps27
          go_wp2_with (fail)
          refine (low64_any HN.out (by omega)).mono ?_
          rintro e w' ⟨rfl, q, rfl⟩
          have h3 : (w.drewN q).cell? ⟨b, o, none⟩ = some (.bool true) := h1
          generalize l[0]?.getD 0 = x at *
          go_wp2
          go_ret
          exact ⟨by first | rfl | exact congrArg (fun t => Ending.returned (.bool t)) HU.out, _, rfl⟩
      · have hd : decide (n < 0) = false := by simp [hneg]
        rw [hd] at h1
        have e2 : decide (-9223372036854775808 ≤ n ∧ n ≤ 9223372036854775807) = false := by have := HL.out; simp; omega
        rw [e2]
        clear e2 hle hu hd hneg
        go_enter Tryz.func27, Tryz.ntmps27
        go_wp2_with (fail)
        refine (low64_any HN.out (by omega)).mono ?_
        rintro e w' ⟨rfl, q, rfl⟩
        have h3 : (w.drewN q).cell? ⟨b, o, none⟩ = some (.bool false) := h1
        generalize l[0]?.getD 0 = x at *
        go_wp2
        go_ret
        exact ⟨by first | rfl | exact congrArg (fun t => Ending.returned (.bool t)) HU.out, _, rfl⟩
  · have e2 : decide (-9223372036854775808 ≤ n ∧ n ≤ 9223372036854775807) = false := by
      have h3 := val_ge nl wl (by omega)
      have h4 := pow_mono (a := 1) (b := l.length - 1) (by omega)
      rw [Int.pow_one] at h4
      rw [hv] at h3
      unfold B64 at h3 h4
      simp; omega
    have hle : ¬ ((l.length : Int) ≤ 1) := by omega
    rw [e2]
    clear hn hv wl nl e2
    generalize l.length = m at *
    go_enter Tryz.func27, Tryz.ntmps27
    go_wp2
    go_ret
    exact ⟨rfl, 0, rfl⟩
end Go.Proofs.YtndphemomhcjlaaGreatDoor

namespace Go.Proofs.YtndphemomhcjlaaGreatDoor
open Go.RowKit

theorem BitLen_any {w : World} {b o : Nat} {v : Value} {n : Int} (h : IntC w b o v n) :
    Calls Tryz.prog 47 #[.pointer (some ⟨b, o, none⟩)] w fun e w' => (∃ B : Nat, e = .returned (.int .i64 B) ∧ IsLen n.natAbs B) ∧ ∃ q, w' = w.drewN q := by
  obtain ⟨h1, h2, _, l, hn, wl, nl, hv, hlen⟩ := h
  have HN := Lib.hid hn; have HV := Lib.hid hv
  clear hn hv
  go_enter Tryz.func47, Tryz.ntmps47
  go_wp2_with (fail)
  refine (bitLen_any HN.out wl nl (by omega)).mono ?_
  rintro e w' ⟨⟨B, rfl, hB, _⟩, q, rfl⟩
  have HB := Lib.hid hB
  clear hB
  go_wp2
  go_ret
  exact ⟨⟨B, rfl, by rw [← HV.out]; exact HB.out⟩, _, rfl⟩

set_option maxRecDepth 100000 in
theorem CmpAbs_any {w : World} {b o b2 o2 : Nat} {v v2 : Value} {n n2 : Int} (h : IntC w b o v n) (k : IntC w b2 o2 v2 n2) :
    Calls Tryz.prog 49 #[.pointer (some ⟨b, o, none⟩), .pointer (some ⟨b2, o2, none⟩)] w fun e w' => e = .returned (.int .i64 (icmp n.natAbs n2.natAbs)) ∧ ∃ q, w' = w.drewN q := by
  obtain ⟨h1, h2, _, l, hn, wl, nl, hv, hlen⟩ := h
  obtain ⟨k1, k2, _, m, hm, wm, nm, hu, hlem⟩ := k
  have HN := Lib.hid hn; have HV := Lib.hid hv
  have HM := Lib.hid hm; have HU := Lib.hid hu
  rw [← hv, ← hu]
  clear hn hv hm hu
  go_enter Tryz.func49, Tryz.ntmps49
  go_wp2_with (fail)
  go_quiet ((go_at_call 73; exact Calls.quiet_of (cmp_any (HN.out.grown0 (grown_drewN _ _)) (HM.out.grown0 (grown_drewN _ _)) wl wm nl nm (by omega) (by omega))))
  go_wp2
  go_ret
  exact ⟨rfl, _, rfl⟩

theorem icmp_neg (a b : Int) : icmp (-a) (-b) = - icmp a b := by
  unfold icmp
  split <;> split <;> (try split) <;> omega
theorem i64_left' (n : Int) : IntKind.i64.wrap n = wrap64 n := by rw [IntKind.wrap_i64]; unfold wrap64; omega
set_option maxRecDepth 100000 in
theorem Cmp_any {w : World} {b o b2 o2 : Nat} {v v2 : Value} {n n2 : Int} (h : IntC w b o v n) (k : IntC w b2 o2 v2 n2) (hne : (⟨b, o, none⟩ : Addr) ≠ ⟨b2, o2, none⟩) :
    Calls Tryz.prog 101 #[.pointer (some ⟨b, o, none⟩), .pointer (some ⟨b2, o2, none⟩)] w fun e w' => e = .returned (.int .i64 (icmp n n2)) ∧ ∃ q, w' = w.drewN q := by
  obtain ⟨h1, h2, ho, l, hn, wl, nl, hv, hlen⟩ := h
  obtain ⟨k1, k2, ko, m, hm, wm, nm, hu, hlem⟩ := k
  have E := fun q : Nat => (ptr_eql_other (wx := w.drewN q) hne ho ko).1
  have E0 := (ptr_eql_other (wx := w) hne ho ko).1
  have HN := Lib.hid hn; have HV := Lib.hid hv
  have HM := Lib.hid hm; have HU := Lib.hid hu
  clear hn hv hm hu ho ko hne
  by_cases hs : decide (n < 0) = decide (n2 < 0)
  · rw [← hs] at k1
    by_cases hneg : n < 0
    · have hd : decide (n < 0) = true := by simp [hneg]
      have hneg2 : n2 < 0 := by rw [hd] at hs; simpa using hs.symm
      rw [hd] at h1 k1
      have HR : Hid (IntKind.i64.wrap (-(icmp (val l) (val m))) = icmp n n2) := by
        show _ = _
        rw [HV.out, HU.out, show n = -(n.natAbs : Int) by omega, show n2 = -(n2.natAbs : Int) by omega, icmp_neg]
        simp only [Int.natAbs_neg, Int.natAbs_natCast]
        unfold icmp
        split
        · rfl
        · split <;> rfl
      clear hs hd hneg hneg2
      go_enter Tryz.func101, Tryz.ntmps101
      go_wp2_with (fail)
      go_quiet (fail)
      go_wp2_with (fail)
      obtain ⟨w1, hw1⟩ : ∃ w1, w.drewN nq = w1 := ⟨_, rfl⟩
      have HN1 : IsNat w1 v l := by rw [← hw1]; exact HN.out.grown0 (grown_drewN _ _)
      have HM1 : IsNat w1 v2 m := by rw [← hw1]; exact HM.out.grown0 (grown_drewN _ _)
      have g1 : w1.cell? ⟨b, o, none⟩ = some (.bool true) := by rw [← hw1]; exact h1
      have g2 : w1.cell? ⟨b, o + 1, none⟩ = some v := by rw [← hw1]; exact h2
      have g4 : w1.cell? ⟨b2, o2 + 1, none⟩ = some v2 := by rw [← hw1]; exact k2
      have HN1 := Lib.hid HN1; have HM1 := Lib.hid HM1
      rw [hw1]
      have HW := Lib.hid hw1
      clear hw1
      go_quiet ((go_at_call 73; exact Calls.quiet_of (cmp_any (HN1.out.grown0 (grown_drewN _ _)) (HM1.out.grown0 (grown_drewN _ _)) wl wm nl nm (by omega) (by omega))))
      go_wp2
      go_ret
      exact ⟨ret_int (by first | exact HR.out | (have := HR.out; rw [i64_left'] at this; exact this)), _, by rw [← HW.out, dd]⟩
    · have hd : decide (n < 0) = false := by simp [hneg]
      have hneg2 : ¬ n2 < 0 := by rw [hd] at hs; simpa using hs.symm
      rw [hd] at h1 k1
      have HR : Hid (icmp (val l) (val m) = icmp n n2) := by
        show _ = _
        rw [HV.out, HU.out, show (n.natAbs : Int) = n by omega, show (n2.natAbs : Int) = n2 by omega]
      clear hs hd hneg hneg2
      go_enter Tryz.func101, Tryz.ntmps101
      go_wp2_with (fail)
      go_quiet (fail)
      go_wp2_with (fail)
      obtain ⟨w1, hw1⟩ : ∃ w1, w.drewN nq = w1 := ⟨_, rfl⟩
      have HN1 : IsNat w1 v l := by rw [← hw1]; exact HN.out.grown0 (grown_drewN _ _)
      have HM1 : IsNat w1 v2 m := by rw [← hw1]; exact HM.out.grown0 (grown_drewN _ _)
      have g1 : w1.cell? ⟨b, o, none⟩ = some (.bool false) := by rw [← hw1]; exact h1
      have g2 : w1.cell? ⟨b, o + 1, none⟩ = some v := by rw [← hw1]; exact h2
      have g4 : w1.cell? ⟨b2, o2 + 1, none⟩ = some v2 := by rw [← hw1]; exact k2
      have HN1 := Lib.hid HN1; have HM1 := Lib.hid HM1
      rw [hw1]
      have HW := Lib.hid hw1
      clear hw1
      go_quiet ((go_at_call 73; exact Calls.quiet_of (cmp_any (HN1.out.grown0 (grown_drewN _ _)) (HM1.out.grown0 (grown_drewN _ _)) wl wm nl nm (by omega) (by omega))))
      go_wp2
      go_ret
      exact ⟨ret_int (by first | exact HR.out | (have := HR.out; rw [i64_left'] at this; exact this)), _, by rw [← HW.out, dd]⟩
  · by_cases hneg : n < 0
    · have hd : decide (n < 0) = true := by simp [hneg]
      have hneg2 : ¬ n2 < 0 := by intro h; apply hs; simp [hneg, h]
      have hd2 : decide (n2 < 0) = false := by simp [hneg2]
      rw [hd] at h1
      rw [hd2] at k1
      have HR : Hid (-1 = icmp n n2) := by show _ = _; rw [icmp_lt (by omega)]
      clear hs hd hneg hneg2 hd2
      go_enter Tryz.func101, Tryz.ntmps101
      go_wp2_with (fail)
      go_quiet (fail)
      have h3 : ∀ q, (w.drewN q).cell? ⟨b, o, none⟩ = some (.bool true) := fun _ => h1
      go_wp2
      go_ret
      exact ⟨ret_int HR.out, _, rfl⟩
    · have hd : decide (n < 0) = false := by simp [hneg]
      have hneg2 : n2 < 0 := by
        apply Classical.byContradiction; intro h; apply hs; simp [hneg, h]
      have hd2 : decide (n2 < 0) = true := by simp [hneg2]
      rw [hd] at h1
      rw [hd2] at k1
      have HR : Hid (1 = icmp n n2) := by show _ = _; rw [icmp_gt (by omega)]
      clear hs hd hneg hneg2 hd2
      go_enter Tryz.func101, Tryz.ntmps101
      go_wp2_with (fail)
      go_quiet (fail)
      have h3 : ∀ q, (w.drewN q).cell? ⟨b, o, none⟩ = some (.bool false) := fun _ => h1
      go_wp2
      go_ret
      exact ⟨ret_int HR.out, _, rfl⟩
end Go.Proofs.YtndphemomhcjlaaGreatDoor

namespace Go.Proofs.YtndphemomhcjlaaGreatDoor
open Go.RowKit

/-- the two cells of a whole number -/
def ibox (neg : Bool) (v : Value) : Obj := .cells #[.bool neg, v] 90
/-- a number in a block of its own -/
structure IntBox (w : World) (b : Nat) (v : Value) (n : Int) : Prop where
  here : w.heap[b]? = some (ibox (decide (n < 0)) v)
  nat : ∃ l, IsNat w v l ∧ wfL l ∧ Nrm l ∧ val l = n.natAbs ∧ l.length ≤ 10000000000
theorem cell_ibox {w : World} {b : Nat} {g : Bool} {v : Value} (h : w.heap[b]? = some (ibox g v)) : w.cell? ⟨b, 0, none⟩ = some (.bool g) ∧ w.cell? ⟨b, 1, none⟩ = some v ∧ w.frozen? ⟨b, 0, none⟩ = false ∧ w.frozen? ⟨b, 1, none⟩ = false := by
  refine ⟨?_, ?_, ?_, ?_⟩ <;> simp [World.cell?, World.frozen?, h, ibox]
theorem IntBox.c {w : World} {b : Nat} {v : Value} {n : Int} (h : IntBox w b v n) : IntC w b 0 v n :=
  ⟨(cell_ibox h.here).1, (cell_ibox h.here).2.1, ⟨_, _, h.here⟩, h.nat⟩
theorem set_ibox0 {w : World} {b : Nat} {g : Bool} {v : Value} (h : w.heap[b]? = some (ibox g v)) (g2 : Bool) : (w.setCell ⟨b, 0, none⟩ (.bool g2)).heap[b]? = some (ibox g2 v) := by
  simp [World.setCell, Array.getElem?_modify, h, ibox]
theorem set_ibox1 {w : World} {b : Nat} {g : Bool} {v : Value} (h : w.heap[b]? = some (ibox g v)) (v2 : Value) : (w.setCell ⟨b, 1, none⟩ v2).heap[b]? = some (ibox g v2) := by
  simp [World.setCell, Array.getElem?_modify, h, ibox]
theorem isNat_ibox {w : World} {b : Nat} {g : Bool} {u v : Value} {l : List Int} (h : w.heap[b]? = some (ibox g u)) (hn : IsNat w v l) : v.ownBlock ≠ some b := by
  intro e
  rcases hn with ⟨rfl, _⟩ | ⟨c, cap, M, rfl, hc, _⟩
  · simp [Value.ownBlock] at e
  · simp [Value.ownBlock] at e; subst e
    rw [h] at hc
    simp only [ibox, blk, Option.some.injEq, Obj.cells.injEq] at hc
    exact absurd hc.2.1 (by decide)
theorem IntBox.fresh {w : World} {b : Nat} {v : Value} {n : Int} {g : Bool} {l : List Int} (h : w.heap[b]? = some (ibox g v)) (hg : g = decide (n < 0)) (hn : IsNat w v l) (wl : wfL l) (nl : Nrm l) (hv : val l = n.natAbs) (hl : l.length ≤ 10000000000) : IntBox w b v n :=
  ⟨by rw [← hg]; exact h, l, hn, wl, nl, hv, hl⟩
theorem heap_new (w : World) (o : Obj) : (w.alloc o).heap[w.heap.size]? = some o := heap_alloc_new w o

/-- what makes a new number -/
def IntNew (w w' : World) (e : Ending) (n : Int) : Prop := ∃ b v, e = .returned (.pointer (some ⟨b, 0, none⟩)) ∧ w.heap.size ≤ b ∧ IntBox w' b v n ∧ w.grownBy w' none

theorem size_alloc (w : World) (o : Obj) : (w.alloc o).heap.size = w.heap.size + 1 := Array.size_push _
theorem isNat_word (w : World) (X : Int) : IsNat (w.alloc (blk [X])) (.slice (some ⟨w.heap.size, 0, none⟩) 1 1) [X] := by
  refine .inr ⟨w.heap.size, 1, [], rfl, ?_, ?_, ?_⟩
  · rw [List.append_nil]; exact heap_new _ _
  · rfl
  · show 1 ≤ 9223372036854775807; omega
theorem intNew_word (w : World) (x : Int) (h0 : x ≠ 0) (hu : U64 x.natAbs) :
    IntNew w ((w.alloc (blk [(x.natAbs : Int)])).alloc (ibox (decide (x < 0)) (.slice (some ⟨w.heap.size, 0, none⟩) 1 1))) (.returned (.pointer (some ⟨w.heap.size + 1, 0, none⟩))) x := by
  have hX : (x.natAbs : Int) ≠ 0 := by omega
  generalize hx : (x.natAbs : Int) = X at *
  have hs := size_alloc w (blk [X])
  have hv : val [X] = X := by simp only [val]; omega
  have g2 := World.grownBy_alloc (w.alloc (blk [X])) (ibox (decide (x < 0)) (.slice (some ⟨w.heap.size, 0, none⟩) 1 1)) none
  refine ⟨_, _, rfl, Nat.le_succ _, ⟨?_, [X], (isNat_word w X).grown0 g2, wfL_cons hu wfL_nil, nrm_one hX, by rw [hv, hx], (show 1 ≤ 10000000000 by decide)⟩, grown_trans (World.grownBy_alloc w _ none) g2⟩
  rw [← hs]; exact heap_new _ _

set_option maxRecDepth 100000 in
theorem NewInt_any (x : Int) (w : World) (h : S64 x) :
    Calls Tryz.prog 69 #[.int .i64 x] w fun e w' => IntNew w w' e x := by
  have hg : ∀ o, w.grownBy (w.alloc o) none := fun o => World.grownBy_alloc w o none
  by_cases h0 : x = 0
  · subst h0
    have HR : Hid (IntNew w (w.alloc (ibox false (.slice none 0 0))) (.returned (.pointer (some ⟨w.heap.size, 0, none⟩))) 0) :=
      ⟨_, _, rfl, Nat.le_refl _, IntBox.fresh (heap_new _ _) rfl (IsNat.nil _) wfL_nil Nrm.nil rfl (by simp), hg _⟩
    clear hg h
    go_enter Tryz.func69, Tryz.ntmps69
    go_wp2
    go_ret
    exact HR.out
  · have hx0 : (x == 0) = false := by simp [h0]
    have hu : U64 x.natAbs := by unfold S64 at h; unfold U64 B64; omega
    have HR := Lib.hid (intNew_word w x h0 hu)
    by_cases hneg : x < 0
    · have e1 : IntKind.u64.wrap (-(IntKind.u64.wrap x)) = x.natAbs := by
        unfold S64 at h
        rw [IntKind.wrap_u64, IntKind.wrap_u64]; omega
      have hd : decide (x < 0) = true := by simp [hneg]
      rw [hd] at HR
      have HE := Lib.hid e1
      clear hg h hu h0 e1
      go_enter Tryz.func69, Tryz.ntmps69
      go_wp2_with (fail)
      rw [HE.out]
      go_ret
      exact HR.out
    · have e1 : IntKind.u64.wrap x = x.natAbs := by
        unfold S64 at h
        rw [IntKind.wrap_u64]; omega
      have hd : decide (x < 0) = false := by simp [hneg]
      rw [hd] at HR
      have HE := Lib.hid e1
      clear hg h hu h0 e1
      go_enter Tryz.func69, Tryz.ntmps69
      go_wp2_with (fail)
      rw [HE.out]
      go_ret
      exact HR.out
end Go.Proofs.YtndphemomhcjlaaGreatDoor
