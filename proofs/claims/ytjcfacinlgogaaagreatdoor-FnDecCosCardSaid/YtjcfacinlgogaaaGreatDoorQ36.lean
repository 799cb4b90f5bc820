/- The text of a big number. Conditions: at most 600 digits. -/
import Derived.Lib.ItoaWalk
import Derived.Lib.JoinLaws
import Derived.Test.YtjcfacinlgogaaaGreatDoorQ28
set_option linter.all false
set_option maxHeartbeats 4000000
set_option maxRecDepth 100000
set_option exponentiation.threshold 3000
namespace Go.Proofs.YtjcfacinlgogaaaGreatDoor
open Go.RowKit
theorem Bits_any {w : World} {b : Nat} {v : Value} {n : Int} (h : IntC w b 0 v n) :
    Calls Tryz.prog 92 #[.pointer (some ⟨b, 0, none⟩)] w fun e w' => e = .returned v ∧ w = w' := by
  have h1 := h.abs
  rw [Nat.zero_add] at h1
  clear h
  go_enter Tryz.func92, Tryz.ntmps92
  go_wp2
  go_ret
  exact ⟨rfl, rfl⟩
def lb (n j : Nat) : Nat := n / 2 ^ (32 * j) % 4294967296
def L32 (n t : Nat) : List Value := (List.range t).map fun j => .int .u64 (lb n j : Nat)
theorem L32_at {n t j : Nat} (h : j < t) : (L32 n t)[j]? = some (.int .u64 (lb n j : Nat)) := by unfold L32; simp [h]
theorem L32_succ2 (n t : Nat) : L32 n (t + 2) = L32 n t ++ [.int .u64 (lb n t : Nat), .int .u64 (lb n (t + 1) : Nat)] := by
  unfold L32; rw [List.range_succ, List.range_succ, List.map_append, List.map_append, List.append_assoc]; rfl
theorem word_at : ∀ (l : List Int) (n i : Nat), wfL l → val l = (n : Int) → i < l.length → l[i]?.getD 0 = ((n / 2 ^ (64 * i) % 18446744073709551616 : Nat) : Int)
  | [], _, _, _, _, h => by simp at h
  | a :: l, n, i, hw, hv, hi => by
    have ha := hw a (by simp)
    have hl : wfL l := fun x hx => hw x (by simp [hx])
    have hp := val_nonneg hl
    unfold U64 B64 at ha
    have hv2 : a + 18446744073709551616 * val l = (n : Int) := hv
    cases i with
    | zero => simp; omega
    | succ i =>
      have h3 : val l = ((n / 18446744073709551616 : Nat) : Int) := by omega
      have := word_at l (n / 18446744073709551616) i hl h3 (by simpa using hi)
      rw [List.getElem?_cons_succ, this, Nat.div_div_eq_div_mul, show 64 * (i + 1) = 64 + 64 * i by omega, Nat.pow_add]
theorem lb_lo (n i : Nat) : n / 2 ^ (64 * i) % 18446744073709551616 % 4294967296 = lb n (2 * i) := by
  unfold lb
  rw [show 32 * (2 * i) = 64 * i by omega]
  omega
theorem lb_hi (n i : Nat) : n / 2 ^ (64 * i) % 18446744073709551616 / 4294967296 = lb n (2 * i + 1) := by
  unfold lb
  rw [show 32 * (2 * i + 1) = 64 * i + 32 by omega, Nat.pow_add, ← Nat.div_div_eq_div_mul]
  omega
theorem and_lo (x : Nat) (h : x < 18446744073709551616) : bits .and .u64 (x : Int) 4294967295 = ((x % 4294967296 : Nat) : Int) := by
  show IntKind.u64.wrap ((BitVec.ofInt 64 (x : Int) &&& BitVec.ofInt 64 ((4294967295 : Nat) : Int)).toNat : Int) = _
  rw [BitVec.toNat_and, ofInt_u64 x h, ofInt_u64 4294967295 (by decide), show (4294967295 : Nat) = 2 ^ 32 - 1 from rfl, Nat.and_two_pow_sub_one_eq_mod, IntKind.wrap_u64]
  omega
theorem or_lo (n x : Nat) (hn : n < 4294967296) (hx : x < 4294967296) : bits .or .u64 ((n * 4294967296 : Nat) : Int) (x : Int) = ((n * 4294967296 + x : Nat) : Int) := by
  show IntKind.u64.wrap ((BitVec.ofInt 64 ((n * 4294967296 : Nat) : Int) ||| BitVec.ofInt 64 (x : Int)).toNat : Int) = _
  rw [BitVec.toNat_or, ofInt_u64 _ (by omega), ofInt_u64 x (by omega)]
  have h2 : n * 4294967296 ||| x = n * 4294967296 + x := by
    have := Nat.two_pow_add_eq_or_of_lt (i := 32) (b := x) (by omega) n
    rw [Nat.mul_comm n]
    exact this.symm
  rw [h2, IntKind.wrap_u64]
  omega
theorem lb_lt (n j : Nat) : lb n j < 4294967296 := Nat.mod_lt _ (by decide)
theorem div_step (m k : Nat) : (m / 2 ^ (32 * (k + 1)) % 1000000000 * 4294967296 + lb m k) / 1000000000 = lb (m / 1000000000) k ∧ (m / 2 ^ (32 * (k + 1)) % 1000000000 * 4294967296 + lb m k) % 1000000000 = m / 2 ^ (32 * k) % 1000000000 := by
  unfold lb
  rw [show m / 1000000000 / 2 ^ (32 * k) = m / 2 ^ (32 * k) / 1000000000 by rw [Nat.div_div_eq_div_mul, Nat.div_div_eq_div_mul, Nat.mul_comm], show 32 * (k + 1) = 32 * k + 32 by omega, Nat.pow_add, ← Nat.div_div_eq_div_mul]
  generalize m / 2 ^ (32 * k) = y
  omega
theorem cell_two_new (w : World) (a c : Value) (t : TypeId) : ∀ j u, [a, c][j]? = some u → (w.alloc (.cells #[a, c] t)).cell? ((⟨w.heap.size, 0, none⟩ : Addr).add j) = some u := by
  intro j u h
  have hh : (w.alloc (.cells #[a, c] t)).heap[w.heap.size]? = some (.cells #[a, c] t) := heap_new w (.cells #[a, c] t)
  match j, h with
  | 0, h => simp at h; subst h; show (w.alloc (.cells #[a, c] t)).cell? ⟨w.heap.size, 0, none⟩ = _; unfold World.cell?; rw [hh]; rfl
  | 1, h => simp at h; subst h; show (w.alloc (.cells #[a, c] t)).cell? ⟨w.heap.size, 1, none⟩ = _; unfold World.cell?; rw [hh]; rfl
  | j + 2, h => simp at h
theorem siz8 : (Tryz.prog.info? 5).map (fun i => (i.zero, i.size, i.bytes)) = some (some (.int .u8 0), 1, 1) := by kernel_rfl
theorem und81 : Tryz.prog.underlying 77 = some (.slice 5) := by kernel_rfl
def outV (c q : Nat) : List Value := (List.range q).map fun j => .int .u8 ((48 + c / 10 ^ j % 10 : Nat) : Int)
theorem outV_succ (c q : Nat) : outV c (q + 1) = outV c q ++ [.int .u8 ((48 + c / 10 ^ q % 10 : Nat) : Int)] := by
  unfold outV; rw [List.range_succ, List.map_append]; rfl
theorem dig_limb (c i k : Nat) (hk : k < 9) : c / 10 ^ (9 * i) % 1000000000 / 10 ^ k % 10 = c / 10 ^ (9 * i + k) % 10 := by
  rw [Nat.pow_add, ← Nat.div_div_eq_div_mul]
  generalize c / 10 ^ (9 * i) = y
  have : ∀ k, k < 9 → ∃ r, 1000000000 = 10 ^ k * (10 * r) := by
    intro k hk
    exact ⟨10 ^ (8 - k), by rw [← Nat.pow_succ', ← Nat.pow_add, show k + (8 - k).succ = 9 by omega]⟩
  obtain ⟨r, hr⟩ := this k hk
  rw [hr, Nat.mod_mul_right_div_self, Nat.mod_mul_right_mod]
theorem limb_zero {c i k : Nat} (hk : k ≤ 9) (h : c / 10 ^ (9 * i) % 1000000000 / 10 ^ k = 0) (hc : c < 10 ^ (9 * (i + 1))) : c / 10 ^ (9 * i + k) = 0 := by
  rw [Nat.pow_add, ← Nat.div_div_eq_div_mul]
  have : c / 10 ^ (9 * i) < 1000000000 := by
    rw [Nat.div_lt_iff_lt_mul (Nat.pow_pos (by decide)), Nat.mul_comm, show 1000000000 = 10 ^ 9 by decide, ← Nat.pow_add]; exact hc
  rwa [Nat.mod_eq_of_lt this] at h
theorem limb_pos {c i k : Nat} (h : c / 10 ^ (9 * i) % 1000000000 / 10 ^ k ≠ 0) : c / 10 ^ (9 * i + k) ≠ 0 := by
  intro e
  rw [Nat.pow_add, ← Nat.div_div_eq_div_mul] at e
  apply h
  have h1 : c / 10 ^ (9 * i) % 1000000000 / 10 ^ k ≤ c / 10 ^ (9 * i) / 10 ^ k := Nat.div_le_div_right (Nat.mod_le _ _)
  rw [e] at h1
  exact Nat.le_zero.1 h1
theorem pos_of_le {c a b : Nat} (h : 10 ^ b ≤ c) (hab : a ≤ b) : c / 10 ^ a ≠ 0 := by
  have : 0 < c / 10 ^ a := Nat.div_pos (Nat.le_trans (Nat.pow_le_pow_right (by decide) hab) h) (Nat.pow_pos (by decide))
  omega
theorem shorter {w : World} {base n cap m : Nat} {e : TypeId} {g : Nat} {xs : List Value} (h : w.ownsRow base e 1 (.slice (some ⟨g, 0, none⟩) n cap) n xs) (hm : m ≤ n) : w.ownsRow base e 1 (.slice (some ⟨g, 0, none⟩) m cap) m (xs.take m) := by
  obtain ⟨h1, h2⟩ := h
  refine ⟨by rw [List.length_take]; omega, ?_⟩
  rcases h2 with ⟨h3, _⟩ | ⟨g', cap', cur, h3, h4, h5, h6, h7, h8, h9⟩
  · cases h3
  · injection h3 with a1 a2 a3
    injection a1 with a1
    injection a1 with a1
    subst a1 a3
    exact .inr ⟨g, cap, cur, rfl, h4, h5, by omega, h7, h8, by rw [← h9, List.take_take]; congr 1; omega⟩
theorem L32_take {n t m : Nat} (h : m ≤ t) : (L32 n t).take m = L32 n m := by
  unfold L32
  rw [← List.map_take, List.take_range]
  congr 2; omega
def Lmx (m k t : Nat) : List Value := (List.range t).map fun j => .int .u64 ((if j < k then lb m j else lb (m / 1000000000) j : Nat) : Int)
theorem Lmx_all (m t : Nat) : Lmx m t t = L32 m t := by
  unfold Lmx L32
  apply List.map_congr_left
  intro j hj
  have := List.mem_range.1 hj
  rw [if_pos this]
theorem Lmx_none (m t : Nat) : Lmx m 0 t = L32 (m / 1000000000) t := by
  unfold Lmx L32
  apply List.map_congr_left
  intro j hj
  rw [if_neg (by omega)]
theorem Lmx_at {m k t : Nat} (h : k < t) : (Lmx m (k + 1) t)[k]? = some (.int .u64 (lb m k : Nat)) := by unfold Lmx; simp [h]
theorem Lmx_set {m k t : Nat} (h : k < t) : (Lmx m (k + 1) t).set k (.int .u64 (lb (m / 1000000000) k : Nat)) = Lmx m k t := by
  apply List.ext_getElem?
  intro j
  by_cases hj : j = k
  · subst hj
    rw [List.getElem?_set_self (by simp [Lmx]; exact h)]
    unfold Lmx; simp [h]
  · rw [List.getElem?_set_ne (by omega)]
    unfold Lmx
    by_cases hjt : j < t
    · simp only [List.getElem?_map, List.getElem?_range hjt, Option.map_some]
      have : (j < k + 1) = (j < k) := by apply propext; omega
      simp only [this]
    · rw [List.getElem?_eq_none (by simp; omega), List.getElem?_eq_none (by simp; omega)]
theorem two_rows {w : World} {base n1 n2 : Nat} {e1 e2 : TypeId} {v1 v2 : Value} {x1 x2 : List Value} (h1 : w.ownsRow base e1 1 v1 n1 x1) (h2 : w.ownsRow base e2 1 v2 n2 x2) (hne : e1 ≠ e2) : v1.ownBlock = none ∨ v1.ownBlock ≠ v2.ownBlock := by
  rcases h1.2 with ⟨rfl, _⟩ | ⟨g, cap, cur, rfl, _, h3, _⟩
  · exact .inl rfl
  · right
    rcases h2.2 with ⟨rfl, _⟩ | ⟨g2, cap2, cur2, rfl, _, h4, _⟩
    · simp [Value.ownBlock]
    · intro e
      simp only [Value.ownBlock, Option.some.injEq] at e
      subst e
      rw [h3] at h4
      simp only [Option.some.injEq, Obj.cells.injEq] at h4
      exact hne h4.2.1
theorem top_zero {m t : Nat} (h : m < 2 ^ (32 * (t + 1))) : lb m t = 0 ↔ m < 2 ^ (32 * t) := by
  unfold lb
  have h1 : m / 2 ^ (32 * t) < 4294967296 := by
    rw [Nat.div_lt_iff_lt_mul (Nat.pow_pos (by decide)), Nat.mul_comm, show 4294967296 = 2 ^ 32 by decide, ← Nat.pow_add]
    exact h
  rw [Nat.mod_eq_of_lt h1, Nat.div_eq_zero_iff]
  have : 2 ^ (32 * t) ≠ 0 := Nat.pos_iff_ne_zero.1 (Nat.pow_pos (by decide))
  omega
theorem lb_add {m t : Nat} (h : m < 2 ^ (32 * t)) : m / 2 ^ (32 * t) % 1000000000 = 0 := by rw [Nat.div_eq_of_lt h]
theorem div_pow9 (c i : Nat) : c / 10 ^ (9 * (i + 1)) = c / 10 ^ (9 * i) / 1000000000 := by
  rw [show 9 * (i + 1) = 9 * i + 9 by omega, Nat.pow_add, ← Nat.div_div_eq_div_mul]
structure OI (w wx : World) (c i t q : Nat) (s3 s6 : Value) : Prop where
  l : wx.ownsRow w.heap.size 70 1 s3 t (L32 (c / 10 ^ (9 * i)) t)
  lt : c / 10 ^ (9 * i) < 2 ^ (32 * t)
  z : t = 0 ↔ c / 10 ^ (9 * i) = 0
  b : wx.ownsRow w.heap.size 5 1 s6 q (outV c q)
  q0 : c / 10 ^ (9 * i) ≠ 0 → q = 9 * i
  q1 : c / 10 ^ (9 * i) = 0 → c / 10 ^ q = 0
  q2 : q = 0 ∨ c / 10 ^ (q - 1) ≠ 0
  g : w.grownBy wx none
theorem OI.q600 {w wx : World} {c i t q : Nat} {s3 s6 : Value} (h : OI w wx c i t q s3 s6) (hc : c < 10 ^ 600) : q ≤ 600 := by
  rcases h.q2 with h | h
  · omega
  · rcases Nat.lt_or_ge 600 q with hq | hq
    · exact absurd (Nat.div_eq_of_lt (Nat.lt_of_lt_of_le hc (Nat.pow_le_pow_right (by decide) (show 600 ≤ q - 1 by omega)))) h
    · exact hq
theorem OI.start {w wx : World} {c L : Nat} {v : Value} (how : wx.ownsRow w.heap.size 70 1 v (2 * L) (L32 c (2 * L))) (hlt : c < 2 ^ (32 * (2 * L))) (hz : L = 0 ↔ c = 0) (g : w.grownBy wx none) : OI w wx c 0 (2 * L) 0 v (.slice none 0 0) :=
  ⟨by simpa using how, by simpa using hlt, by simp; omega, World.ownsRow_nil _ _ _ _, fun _ => rfl, fun h => by simpa using h, .inl rfl, g⟩
theorem mea3 {i j : Nat} (h : i < j) : j - (intOf (Value.int .i64 ((i : Int) + 1))).toNat < j - (intOf (Value.int .i64 (i : Int))).toNat := by
  show j - ((i : Int) + 1).toNat < j - ((i : Int)).toNat; omega
theorem pow_le_of_div {c n : Nat} (h : c / 10 ^ n ≠ 0) : 10 ^ n ≤ c := by
  rcases Nat.lt_or_ge c (10 ^ n) with h1 | h1
  · exact absurd (Nat.div_eq_of_lt h1) h
  · exact h1
theorem div_zero_lt {c n : Nat} (h : c / 10 ^ n = 0) : c < 10 ^ n := by
  rcases Nat.lt_or_ge c (10 ^ n) with h1 | h1
  · exact h1
  · have := Nat.div_pos h1 (Nat.pow_pos (by decide)); omega
theorem grown_set1 (w : World) (b o : Nat) (v : Value) : w.grownBy (w.setCell ⟨b, o, none⟩ v) (some b) := by
  refine ⟨rfl, rfl, rfl, by simp [World.setCell], fun i hi hr => ?_⟩
  have hne : i ≠ b := by intro e; subst e; exact hr rfl
  exact Below.heap_setCell _ _ _ _ hne
theorem or_lo2 (n x : Nat) (hn : n < 4294967296) (hx : x < 4294967296) : bits .or .u64 ((n : Int) * 4294967296) (x : Int) = (n : Int) * 4294967296 + (x : Int) := by
  have := or_lo n x hn hx
  rw [Int.natCast_add, Int.natCast_mul] at this
  exact this
def txtV (s : ByteArray) : List Value := s.data.toList.map fun x => .int .u8 (x.toNat : Int)
def mkS (L : List Nat) : ByteArray := ⟨(L.map UInt8.ofNat).toArray⟩
theorem txtV_mk {L : List Nat} (h : ∀ x ∈ L, x < 256) : txtV (mkS L) = L.map fun x => Value.int .u8 ((x : Nat) : Int) := by
  unfold txtV mkS
  simp only [List.map_map]
  apply List.map_congr_left
  intro x hx
  have := h x hx
  simp [UInt8.toNat_ofNat', Nat.mod_eq_of_lt this]
theorem txtV_len (s : ByteArray) : (txtV s).length = s.size := by unfold txtV; simp
theorem byte_at' (s : ByteArray) (i : Nat) (h : i < s.size) : s.data.toList[i]? = some (s[i]'h) := by
  rw [Array.getElem?_toList, Array.getElem?_eq_getElem h]; rfl
theorem bytes_own {w : World} {base tk n cap : Nat} {s : ByteArray} (h : w.ownsRow base 5 1 (.slice (some ⟨tk, 0, none⟩) n cap) n (txtV s)) : Lib.Bytes w tk 0 s := by
  intro i hi
  have hl := h.1
  rw [txtV_len] at hl
  rw [Nat.zero_add, h.cellAt i (by omega)]
  unfold txtV
  rw [List.getElem?_map, byte_at' s i hi]; rfl
def digB (neg : Bool) (c q : Nat) : List Nat := (if neg then [45] else []) ++ (List.range q).map fun j => 48 + c / 10 ^ (q - 1 - j) % 10
structure TxtD (s : ByteArray) (neg : Bool) (c q : Nat) : Prop where
  here : s = mkS (digB neg c q)
  q1 : 1 ≤ q
  lt : c < 10 ^ q
  top : (c = 0 ∧ q = 1) ∨ 10 ^ (q - 1) ≤ c
theorem digB_lt (neg : Bool) (c q : Nat) : ∀ x ∈ digB neg c q, x < 256 := by
  intro x hx
  unfold digB at hx
  rcases List.mem_append.1 hx with h | h
  · cases neg <;> simp at h; omega
  · obtain ⟨j, _, rfl⟩ := List.mem_map.1 h
    omega
theorem out_rev (neg : Bool) (c q : Nat) : (outV c q ++ (if neg then [Value.int .u8 45] else [])).reverse = txtV (mkS (digB neg c q)) := by
  rw [txtV_mk (digB_lt neg c q), List.reverse_append]
  unfold digB
  rw [List.map_append]
  congr 1
  · cases neg <;> rfl
  · unfold outV
    apply List.ext_getElem?
    intro j
    by_cases hj : j < q
    · rw [List.getElem?_reverse (by simpa using hj)]
      simp only [List.length_map, List.length_range, List.getElem?_map, List.map_map]
      rw [List.getElem?_range (by omega), List.getElem?_range hj]
      rfl
    · rw [List.getElem?_eq_none (by simp; omega), List.getElem?_eq_none (by simp; omega)]
def revP (L : List Value) (p : Nat) : List Value := (List.range L.length).map fun j => L[if j < p ∨ L.length ≤ p + j then L.length - 1 - j else j]?.getD undef
theorem revP_len (L : List Value) (p : Nat) : (revP L p).length = L.length := by simp [revP]
theorem revP_get {L : List Value} {p j : Nat} (h : j < L.length) : (revP L p)[j]? = some (L[if j < p ∨ L.length ≤ p + j then L.length - 1 - j else j]?.getD undef) := by
  unfold revP; simp [h]
theorem revP_zero (L : List Value) : revP L 0 = L := by
  apply List.ext_getElem?
  intro j
  by_cases hj : j < L.length
  · rw [revP_get hj, if_neg (by omega), List.getElem?_eq_getElem hj]; rfl
  · rw [List.getElem?_eq_none (by rw [revP_len]; omega), List.getElem?_eq_none (by omega)]
theorem revP_step {L : List Value} {p p2 : Nat} (h : p + p2 + 1 = L.length) (h2 : p < p2) : ((revP L p).set p (L[p2]?.getD undef)).set p2 (L[p]?.getD undef) = revP L (p + 1) := by
  apply List.ext_getElem?
  intro j
  by_cases hj : j < L.length
  · by_cases e1 : j = p2
    · subst e1
      rw [List.getElem?_set_self (by rw [List.length_set, revP_len]; exact hj), revP_get hj, if_pos (by omega), show L.length - 1 - j = p by omega]
    · rw [List.getElem?_set_ne (by omega)]
      by_cases e2 : j = p
      · subst e2
        rw [List.getElem?_set_self (by rw [revP_len]; exact hj), revP_get hj, if_pos (by omega), show L.length - 1 - j = p2 by omega]
      · rw [List.getElem?_set_ne (by omega), revP_get hj, revP_get hj]
        by_cases e3 : j < p ∨ L.length ≤ p + j
        · rw [if_pos e3, if_pos (by omega)]
        · rw [if_neg e3, if_neg (by omega)]
  · rw [List.getElem?_eq_none (by rw [List.length_set, List.length_set, revP_len]; omega), List.getElem?_eq_none (by rw [revP_len]; omega)]
theorem revP_done {L : List Value} {p p2 : Nat} (h : p + p2 + 1 = L.length) (h1 : p ≤ p2 + 1) (h2 : ¬ p < p2) : revP L p = L.reverse := by
  apply List.ext_getElem?
  intro j
  by_cases hj : j < L.length
  · rw [revP_get hj, List.getElem?_reverse hj]
    by_cases e : j < p ∨ L.length ≤ p + j
    · rw [if_pos e, List.getElem?_eq_getElem (by omega)]; rfl
    · rw [if_neg e, show L.length - 1 - j = j by omega, List.getElem?_eq_getElem hj]; rfl
  · rw [List.getElem?_eq_none (by rw [revP_len]; omega), List.getElem?_eq_none (by simp; omega)]
theorem owns_le {w : World} {base n : Nat} {e : TypeId} {v : Value} {xs : List Value} (h : w.ownsRow base e 1 v n xs) : n ≤ 9223372036854775807 := by
  rcases h.2 with ⟨_, rfl⟩ | ⟨g, cap, cur, rfl, _, _, h1, h2, _⟩
  · omega
  · simp only [maxLen] at h2; omega
theorem owns_cap {w : World} {base n m cap : Nat} {e : TypeId} {g : Nat} {xs : List Value} (h : w.ownsRow base e 1 (.slice (some ⟨g, 0, none⟩) m cap) n xs) : n ≤ cap := by
  rcases h.2 with ⟨h1, _⟩ | ⟨g', cap', cur, h1, _, _, h2, _⟩
  · cases h1
  · injection h1 with _ a2 a3; omega
theorem out_u8 (neg : Bool) (c q : Nat) : ∀ j, j < (outV c q ++ (if neg then [Value.int .u8 45] else [])).length → ∃ z : Int, (outV c q ++ (if neg then [Value.int .u8 45] else []))[j]?.getD undef = .int .u8 z := by
  intro j hj
  rw [List.getElem?_eq_getElem hj]
  have h := List.getElem_mem hj
  show ∃ z : Int, (outV c q ++ (if neg then [Value.int .u8 45] else []))[j] = .int .u8 z
  generalize (outV c q ++ (if neg then [Value.int .u8 45] else []))[j] = x at *
  rcases List.mem_append.1 h with h | h
  · unfold outV at h
    obtain ⟨i, _, rfl⟩ := List.mem_map.1 h
    exact ⟨_, rfl⟩
  · cases neg
    · simp at h
    · simp at h; exact ⟨45, h⟩
theorem txt0 : TxtD ⟨#[48]⟩ false 0 1 := ⟨by rfl, by decide, by decide, .inl ⟨rfl, rfl⟩⟩
def DgS (w : World) (n : Int) (r : Ending) (w' : World) : Prop := ∃ s q, r = .returned (.string s) ∧ TxtD s (decide (n < 0)) n.natAbs q ∧ w.grownBy w' none
def sLen : Value → Nat
  | .slice _ n _ => n
  | _ => 0
theorem impl_digits_any {w : World} {b : Nat} {v : Value} {n : Int} (h : IntC w b 0 v n) (hn : n.natAbs < 10 ^ 600) :
    Calls Tryz.prog 57 #[.pointer (some ⟨b, 0, none⟩)] w fun r w' => DgS w n r w' := by
  obtain ⟨i0, hi0, hz0, hz1, hz2⟩ := info_parts siz8
  obtain ⟨i8, hi8, hy0, hy1, hy2⟩ := info_parts inf22
  obtain ⟨l, hv, hw, hnrm, hval, hlen⟩ := h.nat
  obtain ⟨c, hc⟩ : ∃ c, n.natAbs = c := ⟨_, rfl⟩
  rw [hc] at hval hn
  have HI := Hq0 h; have HV := Hq0 hv; have HW := Hq0 hw; have HN := Hq0 hnrm; have HVL := Hq0 hval; have HC := Hq0 hn; have HL := Hq0 hlen
  have HCN := Hq0 hc
  have HB := Hq0 (fun (wx : World) (g : w.grownBy wx none) => Bits_any (h.same g))
  clear h hw hnrm hval hn hlen hc
  go_enter Tryz.func57, Tryz.ntmps57
  go_wp2_with (fail)
  refine (HB.out _ (grown_refl _ _)).mono ?_
  rintro r w1 ⟨rfl, rfl⟩
  clear HB
  have hvs : ∃ a cap, v = .slice a l.length cap ∧ (l.length = 0 ∨ ∃ g, a = some ⟨g, 0, none⟩) := by
    rcases hv with ⟨rfl, rfl⟩ | ⟨g, cap, M, rfl, _⟩
    · exact ⟨none, 0, rfl, .inl rfl⟩
    · exact ⟨_, cap, rfl, .inr ⟨g, rfl⟩⟩
  obtain ⟨a, cap, rfl, hag⟩ := hvs
  have HAG := Hq0 hag
  clear hag hv
  go_upto_block 0 with (fail)
  go_cut [3] from 14 to 26 (fun s3 wx => wx.ownsRow w.heap.size 70 1 s3 (2 * l.length) (L32 c (2 * l.length)) ∧ w.grownBy wx none)
  case first =>
    go_wp2_with (fail)
    go_loopw [3, 15] (fun s3 s15 wx => ∃ i : Nat, i ≤ l.length ∧ s15 = .int .i64 (i : Nat) ∧ wx.ownsRow w.heap.size 70 1 s3 (2 * i) (L32 c (2 * i)) ∧ w.grownBy wx none) (fun _ s15 _ => l.length - (intOf s15).toNat)
    case atStart => exact ⟨0, Nat.zero_le _, rfl, World.ownsRow_nil _ _ _ _, grown_refl _ _⟩
    case round =>
      obtain ⟨i, hi, rfl, how, hg⟩ := hrel
      have HOW := Hq0 how; have HG := Hq0 hg
      clear how hg
      by_cases hil : i < l.length
      · have hil2 : (i : Int) < l.length := by omega
        rcases HAG.out with h0 | ⟨g, rfl⟩
        · omega
        · have hx : wr.cell? ⟨g, i, none⟩ = some (.int .u64 ((c / 2 ^ (64 * i) % 18446744073709551616 : Nat) : Int)) := by
            rcases HV.out.grown0 HG.out with ⟨h1, _⟩ | ⟨g2, cap2, M, h1, h2, _⟩
            · cases h1
            · injection h1 with h1 _ _
              injection h1 with h1
              injection h1 with h1
              subst h1
              rw [cell_blk h2 i (by simp; omega), List.getElem?_append_left hil, word_at l c i HW.out HVL.out hil]
          obtain ⟨x, hxx⟩ : ∃ x, c / 2 ^ (64 * i) % 18446744073709551616 = x := ⟨_, rfl⟩
          have hxl : x < 18446744073709551616 := by rw [← hxx]; exact Nat.mod_lt _ (by decide)
          rw [hxx] at hx
          have e1 : bits .and .u64 (x : Int) 4294967295 = ((x % 4294967296 : Nat) : Int) := and_lo x hxl
          have HXX := Hq0 hxx
          have hsz := HG.out.size
          have hlim := HL.out
          clear hxx
          go_upto_region 5 with (fail)
          go_wp2_with (at_builtin; refine wpList_append_own _ rfl (.tmp 19) (.tmp 24) 101 rfl w.heap.size 70 i8 _ 1 8 und84 hi8 hy0 hy1 hy2 rfl (by decide) _ (2 * i) (L32 c (2 * i)) rfl (HOW.out.alloc _) ⟨wr.heap.size, 0, none⟩ 2 2 [.int .u64 ((x : Int) % 4294967296), .int .u64 ((x : Int) / 4294967296)] rfl rfl (cell_two_new _ _ _ _) (by intro u hu; simp at hu; rcases hu with rfl | rfl <;> rfl) (by simp only [maxLen]; omega) (by omega) (by simp; omega) ?_; intro v' w' hown' hg' hv')
          refine ⟨⟨i + 1, hil, rfl, ?_, grown_ownb (grown_trans HG.out (grown_new _ _)) hg' fun b hb => (HOW.out.lt b hb).1⟩, mea3 hil⟩
          have k1 := lb_lo c i
          have k2 := lb_hi c i
          rw [HXX.out] at k1 k2
          rw [show 2 * (i + 1) = 2 * i + 2 by omega, L32_succ2, ← k1, ← k2]
          exact hown'
      · have hie : i = l.length := by omega
        subst hie
        clear hil hi
        go_wp2_with (fail)
        go_meet
        exact ⟨HOW.out, HG.out⟩
  case rest =>
    obtain ⟨how, hg⟩ := hcut
    have HOW := Hq0 how; have HG := Hq0 hg
    clear how hg HAG
    have hc0 : l.length = 0 ↔ c = 0 := by
      constructor
      · intro h
        have h1 := List.eq_nil_of_length_eq_zero h
        have h2 := HVL.out
        rw [h1] at h2
        have h3 : (0 : Int) = (c : Int) := h2
        omega
      · intro h
        have h2 := HVL.out
        rw [h] at h2
        rcases Nat.eq_zero_or_pos l.length with h3 | h3
        · exact h3
        · have h4 : val [] < val l := val_lt_of_len wfL_nil HW.out HN.out h3
          rw [h2] at h4
          have h5 : (0 : Int) < ((0 : Nat) : Int) := h4
          omega
    have hclt : c < 2 ^ (32 * (2 * l.length)) := by
      have h1 := val_lt HW.out
      rw [HVL.out] at h1
      rw [show 32 * (2 * l.length) = 64 * l.length by omega, Nat.pow_mul]
      have h2 : ((18446744073709551616 ^ l.length : Nat) : Int) = B64 ^ l.length := by rw [Int.natCast_pow]; rfl
      have h3 : (c : Int) < ((18446744073709551616 ^ l.length : Nat) : Int) := by rw [h2]; exact h1
      exact Int.ofNat_lt.1 h3
    have HO0 := Hq0 (OI.start HOW.out hclt hc0 HG.out)
    clear hc0 hclt
    clear HOW HG
    go_wp2_with (fail)
    go_loopw [3, 6] (fun s3 s6 wx => ∃ i t q : Nat, OI w wx c i t q s3 s6) (fun _ s6 _ => 601 - sLen s6)
    case atStart => exact ⟨0, _, 0, HO0.out⟩
    case round =>
      obtain ⟨i, t, q, ho⟩ := hrel
      have hq := ho.q600 HC.out
      obtain ⟨a6, cap6, rfl, hac6⟩ := ho.b.slice
      obtain ⟨a3, cap3, rfl, hac3⟩ := ho.l.slice
      have HO := Hq0 ho
      have HA6 := Hq0 hac6; have HA3 := Hq0 hac3
      clear ho hac6 hac3 HO0
      by_cases ht : 0 < t
      · have ht2 : (0 : Int) < t := by omega
        rcases HA3.out with ⟨_, h2⟩ | ⟨g3, rfl, hgb3⟩
        · omega
        · obtain ⟨m, hm⟩ : ∃ m, c / 10 ^ (9 * i) = m := ⟨_, rfl⟩
          have HM := Hq0 hm
          have HT := Hq0 ht
          have hl := HO.out.l
          rw [hm] at hl
          have HL3 := Hq0 hl
          have hmlt := HO.out.lt
          rw [hm] at hmlt
          have HMLT := Hq0 hmlt
          have hm0 : m ≠ 0 := by have := HO.out.z; rw [hm] at this; omega
          have hqi : q = 9 * i := HO.out.q0 (by rw [hm]; exact hm0)
          have HM0 := Hq0 hm0; have HQI := Hq0 hqi
          have hb := HO.out.b
          have HB6 := Hq0 hb; have HG := Hq0 HO.out.g
          have hq1 : q = 0 ∨ c / 10 ^ (q - 1) ≠ 0 := HO.out.q2
          have HQ1 := Hq0 hq1
          clear hm ht hl hmlt hm0 hqi hb hq1 HO
          go_upto_block 4 with (fail)
          clear ht2
          go_cut [7] from 27 to 50 (fun s7 wx => s7 = .int .u64 ((m % 1000000000 : Nat) : Int) ∧ wx.ownsRow w.heap.size 70 1 (.slice (some ⟨g3, 0, none⟩) t cap3) t (L32 (m / 1000000000) t) ∧ wx.ownsRow w.heap.size 5 1 (.slice a6 q cap6) q (outV c q) ∧ w.grownBy wx none)
          case first =>
            have ht63 := owns_le HL3.out
            have htp := HT.out
            have ew : wrap64 ((t : Int) - 1) = (t : Int) - 1 := by rw [← i64_left']; exact IntWalk.i64_in _ (by omega)
            have EW := Hq0 ew
            clear ew ht63 htp
            have hstart : (0 : Int) = ((m / 2 ^ (32 * t) % 1000000000 : Nat) : Int) := by rw [lb_add HMLT.out]; rfl
            have HST := Hq0 hstart
            clear hstart
            go_wp2_with (fail)
            go_loopw [7, 8] (fun s7 s8 wx => ∃ k : Nat, k ≤ t ∧ s7 = .int .u64 ((m / 2 ^ (32 * k) % 1000000000 : Nat) : Int) ∧ s8 = .int .i64 ((k : Int) - 1) ∧ wx.ownsRow w.heap.size 70 1 (.slice (some ⟨g3, 0, none⟩) t cap3) t (Lmx m k t) ∧ wx.ownsRow w.heap.size 5 1 (.slice a6 q cap6) q (outV c q) ∧ w.grownBy wx none) (fun _ s8 _ => (intOf s8 + 1).toNat)
            case atStart => exact ⟨t, Nat.le_refl _, congrArg (Value.int .u64) HST.out, congrArg (Value.int .i64) EW.out, by rw [Lmx_all]; exact HL3.out, HB6.out, HG.out⟩
            case round =>
              obtain ⟨k, hk, rfl, rfl, hl, hb, hg⟩ := hrel
              have HLK := Hq0 hl; have HBK := Hq0 hb; have HGK := Hq0 hg
              clear hb hg
              cases k with
              | zero =>
                rw [Lmx_none] at HLK
                have e0 : m / 2 ^ (32 * 0) = m := by simp
                rw [e0]
                clear hl hk e0
                go_wp2_with (fail)
                go_meet
                exact ⟨rfl, HLK.out, HBK.out, HGK.out⟩
              | succ kk =>
                rw [show ((kk + 1 : Nat) : Int) - 1 = (kk : Int) by omega]
                have hx := hl.cellAt kk (by omega)
                have hfz := hl.frozenAt kk
                rw [Lmx_at (by omega)] at hx
                have hds := div_step m kk
                have hxl := lb_lt m kk
                have hrl := Nat.mod_lt (m / 2 ^ (32 * (kk + 1))) (show 0 < 1000000000 by decide)
                have hset := (hl.stored kk (.int .u64 (lb (m / 1000000000) kk : Nat))).1
                rw [Lmx_set (by omega)] at hset
                have HSET := Hq0 hset
                rw [← hds.1] at HSET
                have HDS := Hq0 hds.2
                clear hds hl hset
                generalize lb m kk = x at *
                generalize m / 2 ^ (32 * (kk + 1)) % 1000000000 = r at *
                have hor := or_lo2 r x (by omega) hxl
                have hkt : (kk : Int) < t := by omega
                have hk0 : (0 : Int) ≤ kk := by omega
                have r1 : (r : Int) * 4294967296 + x < 18446744073709551616 := by omega
                have HKT := Hq0 hk
                have e9 : (((r * 4294967296 + x) / 1000000000 : Nat) : Int) = ((r : Int) * 4294967296 + x) / 1000000000 := by omega
                have ek : wrap64 ((kk : Int) - 1) = (kk : Int) - 1 := by have := owns_le HL3.out; rw [← i64_left']; exact IntWalk.i64_in _ (by omega)
                have EK := Hq0 ek
                rw [e9] at HSET
                have KB := Hq0 (HBK.out.kept (grown_set1 wr g3 kk (.int .u64 (((r : Int) * 4294967296 + x) / 1000000000))) (two_rows HBK.out HLK.out (by decide)))
                clear hk e9 ek
                go_wp2_with (fail)
                refine ⟨⟨kk, by have := HKT.out; omega, congrArg (Value.int .u64) (by rw [← HDS.out]; omega), congrArg (Value.int .i64) EK.out, HSET.out, KB.out, grown_own HGK.out (grown_set1 _ _ _ _) (.inr hgb3)⟩, ?_⟩
                rw [EK.out]
                show ((kk : Int) - 1 + 1).toNat < ((kk : Int) + 1).toNat
                omega
          case rest =>
            obtain ⟨rfl, hl, hb, hg⟩ := hcut
            obtain ⟨m2, hm2⟩ : ∃ m2, m / 1000000000 = m2 := ⟨_, rfl⟩
            obtain ⟨n0, hn0⟩ : ∃ n0, m % 1000000000 = n0 := ⟨_, rfl⟩
            rw [hm2] at hl
            rw [hn0]
            have HM2 := Hq0 hm2; have HN0 := Hq0 hn0
            have HLR := Hq0 hl; have HBR := Hq0 hb; have HGR := Hq0 hg
            have HCAP := Hq0 (owns_cap hl)
            have hm2t : m2 < 2 ^ (32 * t) := Nat.lt_of_le_of_lt (by rw [← hm2]; exact Nat.div_le_self _ _) HMLT.out
            have HM2T := Hq0 hm2t
            clear hl hb hg hm2 hn0 hm2t
            go_upto_block 6 with (fail)
            go_cut [3] from 51 to 67 (fun s3 wx => ∃ t2 : Nat, s3 = .slice (some ⟨g3, 0, none⟩) t2 cap3 ∧ t2 ≤ t ∧ m2 < 2 ^ (32 * t2) ∧ (t2 = 0 ↔ m2 = 0) ∧ wc = wx)
            case first =>
              go_wp2_with (fail)
              go_loopw [3] (fun s3 wx => ∃ t2 : Nat, t2 ≤ t ∧ s3 = .slice (some ⟨g3, 0, none⟩) t2 cap3 ∧ m2 < 2 ^ (32 * t2) ∧ wc = wx) (fun s3 _ => sLen s3)
              case atStart => exact ⟨t, Nat.le_refl _, rfl, HM2T.out, rfl⟩
              case round =>
                obtain ⟨t2, ht2, rfl, hlt, rfl⟩ := hrel
                have HLT := Hq0 hlt; have HT2 := Hq0 ht2
                clear hlt
                cases t2 with
                | zero =>
                  have hz : m2 = 0 := by have := HLT.out; simp at this; exact this
                  have HZ := Hq0 hz
                  clear ht2 hz
                  go_wp2_with (fail)
                  go_meet
                  exact ⟨0, rfl, Nat.zero_le _, HLT.out, ⟨fun _ => HZ.out, fun _ => rfl⟩, rfl⟩
                | succ tt =>
                  have hx := HLR.out.cellAt tt (by omega)
                  rw [L32_at (by omega)] at hx
                  have hxl := lb_lt m2 tt
                  have htz := top_zero HLT.out
                  have HTZ := Hq0 htz
                  obtain ⟨x, hxx⟩ : ∃ x, lb m2 tt = x := ⟨_, rfl⟩
                  rw [hxx] at hx hxl
                  have HXX := Hq0 hxx
                  have hlen : ((tt + 1 : Nat) : Int) ≤ 9223372036854775807 := by have := owns_le HLR.out; omega
                  have hcc : ((tt + 1 : Nat) : Int) ≤ cap3 := by have := HCAP.out; omega
                  clear htz hxx ht2
                  go_upto_region 16 with (fail)
                  go_cut [62] from 51 to 62 (fun s62 wx => s62 = .bool (decide (x = 0)) ∧ wc = wx)
                  case first =>
                    by_cases hx0 : x = 0
                    · subst hx0
                      go_wp2_with (fail)
                      go_meet
                      exact ⟨rfl, rfl⟩
                    · have hxe : ((x : Int) == 0) = false := by simp; exact hx0
                      have HX0 := Hq0 hx0
                      clear hx0
                      go_wp2_with (fail)
                      go_meet
                      exact ⟨by rw [decide_eq_false HX0.out], rfl⟩
                  case rest =>
                    obtain ⟨rfl, rfl⟩ := hcut
                    by_cases hx0 : x = 0
                    · rw [decide_eq_true hx0]
                      have HX0 := Hq0 hx0
                      clear hx0 hx hxl
                      go_wp2_with (fail)
                      go_roundw
                      case rel => exact ⟨tt, by have := HT2.out; omega, by first | rfl | (congr 1), HTZ.out.1 (by rw [HXX.out]; exact HX0.out), trivial⟩
                      case measure => show tt < tt + 1; omega
                    · rw [decide_eq_false hx0]
                      have HX0 := Hq0 hx0
                      clear hx0 hx hxl
                      go_wp2_with (fail)
                      go_meet
                      exact ⟨tt + 1, rfl, HT2.out, HLT.out, ⟨fun h => (Nat.succ_ne_zero _ h).elim, fun h => absurd (HTZ.out.2 (by rw [h]; exact Nat.pow_pos (by decide))) (by rw [HXX.out]; exact HX0.out)⟩, rfl⟩
            case rest =>
              obtain ⟨t2, rfl, ht2, hm2l, htz2, rfl⟩ := hcut
              have HLS : Hid (wc.ownsRow w.heap.size 70 1 (.slice (some ⟨g3, 0, none⟩) t2 cap3) t2 (L32 m2 t2)) := Hq0 (by have := shorter HLR.out ht2; rw [L32_take ht2] at this; exact this)
              have HTZ2 := Hq0 htz2; have HM2L := Hq0 hm2l
              have hn9 : n0 < 1000000000 := by rw [← HN0.out]; exact Nat.mod_lt _ (by decide)
              have HN9 := Hq0 hn9
              have HQ6 := Hq0 hq
              clear hq
              have hq := HQI.out
              subst hq
              have hmm : c / 10 ^ (9 * (i + 1)) = m2 := by rw [div_pow9, HM.out, HM2.out]
              have HMM := Hq0 hmm
              clear ht2 hm2l htz2 hn9 hmm
              go_upto_block 8 with (fail)
              go_wp2_with (fail)
              go_loopw [6, 7, 9] (fun s6 s7 s9 wx => ∃ k : Nat, k ≤ 9 ∧ s9 = .int .i64 k ∧ s7 = .int .u64 ((n0 / 10 ^ k : Nat) : Int) ∧ wx.ownsRow w.heap.size 5 1 s6 (9 * i + k) (outV c (9 * i + k)) ∧ (9 * i + k = 0 ∨ c / 10 ^ (9 * i + k - 1) ≠ 0) ∧ wx.ownsRow w.heap.size 70 1 (.slice (some ⟨g3, 0, none⟩) t2 cap3) t2 (L32 m2 t2) ∧ w.grownBy wx none) (fun _ _ s9 _ => 9 - (intOf s9).toNat)
              case atStart => exact ⟨0, by omega, rfl, by simp, HBR.out, HQ1.out, HLS.out, HGR.out⟩
              case round =>
                obtain ⟨k, hk9, rfl, rfl, how, hpos, hls, hg⟩ := hrel
                obtain ⟨x, hxx⟩ : ∃ x, n0 / 10 ^ k = x := ⟨_, rfl⟩
                have hxle : x ≤ n0 := by rw [← hxx]; exact Nat.div_le_self _ _
                have hn9 := HN9.out
                have HXX := Hq0 hxx; have HWK := Hq0 how; have HPK := Hq0 hpos; have HGK := Hq0 hg; have HLK := Hq0 hls
                rw [hxx]
                have hqk : Hid (9 * i + k ≤ 700) := Hq0 (by
                  rcases hpos with h | h
                  · omega
                  · rcases Nat.lt_or_ge 700 (9 * i + k) with h2 | h2
                    · exact absurd (Nat.div_eq_of_lt (Nat.lt_of_lt_of_le HC.out (Nat.pow_le_pow_right (by decide) (show 600 ≤ 9 * i + k - 1 by omega)))) h
                    · exact h2)
                have hg6 := how.slice
                obtain ⟨a7, cap7, hs6, hac7⟩ := hg6
                have HS6 := Hq0 hs6
                clear how hpos hg hxx hls hac7 hs6
                go_upto_region 19 with (fail)
                go_cut [78] from 68 to 78 (fun s78 wx => s78 = .bool (decide (k < 9) && (decide (x ≠ 0) || decide (0 < t2))) ∧ wr = wx)
                case first =>
                  by_cases c1 : k < 9
                  · have d1 : (k : Int) < 9 := by omega
                    by_cases c2 : x ≠ 0
                    · have d2 : ((x : Int) != 0) = true := by simp; omega
                      go_wp2_with (fail)
                      go_meet
                      exact ⟨congrArg Value.bool (by simp [c1, c2]), rfl⟩
                    · have d2 : ((x : Int) != 0) = false := by simp; omega
                      go_wp2_with (fail)
                      go_meet
                      exact ⟨congrArg Value.bool (by simp [c1, c2]; try omega), rfl⟩
                  · have d1 : ¬ (k : Int) < 9 := by omega
                    go_wp2_with (fail)
                    go_meet
                    exact ⟨congrArg Value.bool (by simp [c1]), rfl⟩
                case rest =>
                  obtain ⟨rfl, rfl⟩ := hcut
                  obtain ⟨rfl⟩ := HS6.out
                  by_cases hb : (decide (k < 9) && (decide (x ≠ 0) || decide (0 < t2))) = true
                  · rw [hb]
                    have hb2 : k < 9 ∧ (x ≠ 0 ∨ 0 < t2) := by simpa using hb
                    have HB := Hq0 hb2
                    have hk9' := hb2.1
                    clear hb hb2
                    have hsz := HGK.out.size
                    have hq7 := hqk.out
                    have e8 : IntKind.u8.wrap (48 + (x : Int) % 10) = ((48 + x % 10 : Nat) : Int) := by rw [IntKind.wrap_u8]; omega
                    go_wp2_with (at_builtin; refine wpList_append_own _ rfl (.tmp 81) (.tmp 86) 77 rfl w.heap.size 5 i0 _ 1 1 und81 hi0 hz0 hz1 hz2 rfl (by decide) _ (9 * i + k) (outV c (9 * i + k)) rfl (HWK.out.alloc _) ⟨wr.heap.size, 0, none⟩ 1 1 [_] rfl rfl (cell_one_new _ _ _) (ints_oneCell .u8 [_]) (by simp only [maxLen]; omega) (by omega) (by simp; omega) ?_; intro v' w' hown' hg' hv')
                    have ed : x % 10 = c / 10 ^ (9 * i + k) % 10 := by rw [← HXX.out, ← HN0.out, ← HM.out]; exact dig_limb c i k hk9'
                    refine ⟨⟨k + 1, by omega, rfl, congrArg (Value.int .u64) ?_, ?_, .inr ?_, ?_, grown_ownb (grown_trans HGK.out (grown_new _ _)) hg' fun b hb => (HWK.out.lt b hb).1⟩, mea3 hk9'⟩
                    · rw [Nat.pow_succ, ← Nat.div_div_eq_div_mul, HXX.out]; simp
                    · rw [← Nat.add_assoc, outV_succ, ← ed]; exact hown'
                    · rw [← Nat.add_assoc, Nat.add_sub_cancel]
                      rcases HB.out.2 with hx | hx
                      · exact limb_pos (by rw [HM.out, HN0.out, HXX.out]; exact hx)
                      · exact pos_of_le (pow_le_of_div (n := 9 * (i + 1)) (by rw [HMM.out]; have := HTZ2.out; omega)) (by omega)
                    · exact (HLK.out.kept (grown_new _ _) (own_any _)).kept hg' (two_rows HLK.out HWK.out (by decide))
                  · rw [Bool.eq_false_iff.2 hb]
                    have hb2 : ¬ (k < 9 ∧ (x ≠ 0 ∨ 0 < t2)) := by simpa using hb
                    have HB := Hq0 hb2
                    clear hb hb2
                    go_wp2_with (fail)
                    have hb := HB.out
                    have hz0 : c / 10 ^ (9 * (i + 1)) = 0 → c / 10 ^ (9 * i + k) = 0 := by
                      intro h0
                      refine limb_zero hk9 ?_ (div_zero_lt h0)
                      rw [HM.out, HN0.out]
                      by_cases hk : k = 9
                      · subst hk; exact Nat.div_eq_of_lt HN9.out
                      · rw [HXX.out]; omega
                    have hk1 : 0 < k := by
                      rcases Nat.eq_zero_or_pos k with h0 | h0
                      · subst h0
                        have h1 := HXX.out
                        have h2 := HN0.out; have h3 := HM2.out; have h4 := HTZ2.out; have h5 := HM0.out
                        simp at h1
                        omega
                      · exact h0
                    refine ⟨⟨i + 1, t2, 9 * i + k, ⟨by rw [HMM.out]; exact HLK.out, by rw [HMM.out]; exact HM2L.out, by rw [HMM.out]; exact HTZ2.out, HWK.out, fun h => ?_, hz0, HPK.out, HGK.out⟩⟩, ?_⟩
                    · rw [HMM.out] at h
                      have := HTZ2.out
                      omega
                    · show 601 - (9 * i + k) < 601 - 9 * i
                      have := HQ6.out
                      omega
      · have ht0 : t = 0 := by omega
        subst ht0
        have hm0 := HO.out.z.1 rfl
        have hz := HO.out.q1 hm0
        have hnz := HO.out.q2
        have HW6 := Hq0 HO.out.b; have HG := Hq0 HO.out.g
        clear hm0 ht HO HA3
        by_cases hq0 : q = 0
        · subst hq0
          have hc0 : c = 0 := by simpa using hz
          have HC0 := Hq0 hc0
          clear hz hnz hc0
          go_wp2_with (fail)
          go_ret
          have hn0 : n = 0 := by have := HCN.out; have := HC0.out; omega
          subst hn0
          exact ⟨_, 1, rfl, txt0, HG.out⟩
        · have hq1 : ((q : Int) == 0) = false := by simp; omega
          have HZ := Hq0 hz; have HNZ := Hq0 hnz; have HQ0 := Hq0 hq0
          have HSG := Hq0 (Sign_any (HI.out.same HG.out))
          clear hz hnz hq0
          go_wp2_with (fail)
          refine HSG.out.mono ?_
          rintro r w2 ⟨rfl, rfl⟩
          have hsz := HG.out.size
          have hq7 : q ≤ 600 := hq
          have hisg : (isgn n < 0) = (n < 0) := by unfold isgn; apply propext; split <;> (try split) <;> omega
          obtain ⟨neg, hneg⟩ : ∃ neg, decide (n < 0) = neg := ⟨_, rfl⟩
          have HNEG := Hq0 hneg
          obtain ⟨Q, hQ⟩ : ∃ Q, q + (if neg then 1 else 0) = Q := ⟨_, rfl⟩
          have HQQ := Hq0 hQ
          clear hq hQ HSG
          go_upto_if 95 with (fail)
          go_cut [6] from 96 to 98 (fun s6 wx => wx.ownsRow w.heap.size 5 1 s6 Q (outV c q ++ (if neg then [Value.int .u8 45] else [])) ∧ w.grownBy wx none)
          case first =>
            cases neg
            · have h0 : ¬ isgn n < 0 := by rw [hisg]; exact of_decide_eq_false hneg
              clear hisg hneg
              go_wp2_with (fail)
              go_meet
              exact ⟨by rw [← HQQ.out]; simpa using HW6.out, HG.out⟩
            · have h0 : isgn n < 0 := by rw [hisg]; exact of_decide_eq_true hneg
              clear hisg hneg
              go_wp2_with (at_builtin; refine wpList_append_own _ rfl (.tmp 96) (.tmp 97) 77 rfl w.heap.size 5 i0 _ 1 1 und81 hi0 hz0 hz1 hz2 rfl (by decide) _ q (outV c q) rfl (HW6.out.alloc _) ⟨wr.heap.size, 0, none⟩ 1 1 [_] rfl rfl (cell_one_new _ _ _) (ints_oneCell .u8 [_]) (by simp only [maxLen]; omega) (by omega) (by simp; omega) ?_; intro v' w' hown' hg' hv')
              go_meet
              exact ⟨by rw [← HQQ.out]; exact hown', grown_ownb (grown_trans HG.out (grown_new _ _)) hg' fun b hb => (HW6.out.lt b hb).1⟩
          case rest =>
            obtain ⟨how, hg⟩ := hcut
            obtain ⟨L, hL⟩ : ∃ L, outV c q ++ (if neg then [Value.int .u8 45] else []) = L := ⟨_, rfl⟩
            rw [hL] at how
            have HLL := Hq0 hL
            have hLl : L.length = Q := by have := how.1; omega
            have hQ1 : 0 < Q := by have h1 := HQQ.out; have h2 := HQ0.out; omega
            have hQ7 : Q ≤ 700 := by have h1 := HQQ.out; split at h1 <;> omega
            obtain ⟨a9, cap9, hs9, hac9⟩ := how.slice
            rcases hac9 with ⟨_, h2⟩ | ⟨g9, rfl, hgb9⟩
            · omega
            subst hs9
            have HOW := Hq0 how; have HGC := Hq0 hg; have HLN := Hq0 hLl
            have HU8 : Hid (∀ j, j < Q → ∃ z : Int, L[j]?.getD undef = .int .u8 z) := Hq0 (by rw [← hLl, ← hL]; exact out_u8 neg c q)
            have hQi : (Q : Int) ≤ 700 := by omega
            have hQi1 : (1 : Int) ≤ Q := by omega
            clear how hg hL hLl HW6 HG hisg hneg hsz
            go_upto_block 10 with (fail)
            go_cut [10, 11] from 102 to 122 (fun _ _ wx => wx.ownsRow w.heap.size 5 1 (.slice (some ⟨g9, 0, none⟩) Q cap9) Q L.reverse ∧ w.grownBy wx none)
            case first =>
              go_wp2_with (fail)
              go_loopw [10, 11] (fun s10 s11 wx => ∃ p p2 : Nat, s10 = .int .i64 p ∧ s11 = .int .i64 p2 ∧ p + p2 + 1 = Q ∧ p ≤ p2 + 1 ∧ wx.ownsRow w.heap.size 5 1 (.slice (some ⟨g9, 0, none⟩) Q cap9) Q (revP L p) ∧ w.grownBy wx none) (fun _ s11 _ => (intOf s11).toNat)
              case atStart =>
                exact ⟨0, Q - 1, rfl, congrArg (Value.int .i64) (by omega), by omega, by omega, by rw [revP_zero]; exact HOW.out, HGC.out⟩
              case round =>
                obtain ⟨p, p2, rfl, rfl, hpq, hpp, how, hg⟩ := hrel
                have HWR := Hq0 how; have HGR := Hq0 hg
                by_cases hlt : p < p2
                · have hlt2 : (p : Int) < p2 := by omega
                  have x1 := how.cellAt p (by omega)
                  have x2 := how.cellAt p2 (by omega)
                  rw [revP_get (by have := HLN.out; omega), if_neg (by have := HLN.out; omega)] at x1
                  rw [revP_get (by have := HLN.out; omega), if_neg (by have := HLN.out; omega)] at x2
                  have f1 := how.frozenAt p
                  have f2 := how.frozenAt p2
                  have hpq1 : (p : Int) < Q := by omega
                  have hpq2 : (p2 : Int) < Q := by omega
                  obtain ⟨v1, hv1⟩ := HU8.out p (by omega)
                  obtain ⟨v2, hv2⟩ := HU8.out p2 (by omega)
                  rw [hv1] at x1
                  rw [hv2] at x2
                  have HV1 := Hq0 hv1; have HV2 := Hq0 hv2; have HPQ := Hq0 hpq
                  have hne : p ≠ p2 := by omega
                  clear how hg hv1 hv2
                  go_upto_region 30 with (fail)
                  go_region
                  all_goals
                    go_wp2_with (fail)
                    go_roundw
                  case rel =>
                    have s2 := ((HWR.out.stored p (.int .u8 v2)).1.stored p2 (.int .u8 v1)).1
                    rw [← HV1.out, ← HV2.out, revP_step (by rw [HLN.out]; exact HPQ.out) hlt] at s2
                    rw [← HV1.out, ← HV2.out]
                    exact ⟨p + 1, p2 - 1, congrArg (Value.int .i64) (by omega), congrArg (Value.int .i64) (by omega), by have := HPQ.out; omega, by omega, s2.kept (grown_drew _) (own_any _), grown_trans (gset hgb9 _ _ (gset hgb9 _ _ HGR.out)) (grown_drew _)⟩
                  case measure => simp [intOf]; omega
                · have hlt2 : ¬ (p : Int) < p2 := by omega
                  rw [revP_done (by have := HLN.out; omega) hpp hlt] at how
                  have HWR := Hq0 how
                  clear how hg
                  go_wp2_with (fail)
                  go_meet
                  exact ⟨HWR.out, HGR.out⟩
            case rest =>
              obtain ⟨how, hg⟩ := hcut
              rw [← HLL.out, out_rev] at how
              have HGE := Hq0 hg
              have hsz : (mkS (digB neg c q)).size = Q := by rw [← txtV_len, ← out_rev, List.length_reverse, HLL.out]; exact HLN.out
              have hcv := fun cap => Lib.run_convert_whole (P := Tryz.prog) wc 77 5 9 und81 (by kernel_rfl) (by kernel_rfl) g9 0 (mkS (digB neg c q)) (bytes_own how) cap
              rw [hsz] at hcv
              clear how hg hsz
              go_wp2_with (fail)
              go_ret
              refine ⟨_, q, rfl, ?_, HGE.out⟩
              rw [HNEG.out, HCN.out]
              exact ⟨rfl, by have := HQ0.out; omega, div_zero_lt HZ.out, .inr (pow_le_of_div (HNZ.out.resolve_left HQ0.out))⟩
end Go.Proofs.YtjcfacinlgogaaaGreatDoor
