/- The sums of the cosine's series beside the polynomial's values (plain arithmetic). Conditions: at most 10. -/
import Derived.Lib.ItoaWalk
import Derived.Lib.JoinLaws
import Derived.Recover
import Derived.Deep.Onto
import Derived.Test.YtjcfacinlgogaaaGreatDoorQ27
set_option linter.all false
set_option maxRecDepth 100000
set_option exponentiation.threshold 3000
namespace Go.Proofs.YtjcfacinlgogaaaGreatDoor
namespace CosM
def ev : List Int → Int → Int
  | [], _ => 0
  | a :: l, x => a + x * ev l x
def padd : List Int → List Int → List Int
  | [], m => m
  | l, [] => l
  | a :: l, b :: m => (a + b) :: padd l m
def pscale (c : Int) : List Int → List Int
  | [] => []
  | a :: l => c * a :: pscale c l
def step (w a : Int) (l : List Int) : List Int := padd (a :: l) (pscale w l)
def sh : List Int → Int → List Int
  | [], _ => []
  | a :: l, w => step w a (sh l w)
theorem ev_padd (l m : List Int) (x : Int) : ev (padd l m) x = ev l x + ev m x := by
  induction l generalizing m with
  | nil => simp [padd, ev]
  | cons a l ih =>
    cases m with
    | nil => simp [padd, ev]
    | cons b m => simp only [padd, ev, ih]; grind
theorem ev_pscale (c : Int) (l : List Int) (x : Int) : ev (pscale c l) x = c * ev l x := by
  induction l with
  | nil => simp [pscale, ev]
  | cons a l ih => simp only [pscale, ev, ih]; grind
theorem ev_sh (l : List Int) (w x : Int) : ev (sh l w) x = ev l (x + w) := by
  induction l with
  | nil => simp [sh, ev]
  | cons a l ih => simp only [sh, step, ev, ev_padd, ev_pscale, ih]; grind
def ab : List Int → Nat → Nat
  | [], _ => 0
  | a :: l, z => a.natAbs + z * ab l z
theorem ev_le (l : List Int) (x : Int) (z : Nat) (h : x.natAbs ≤ z) : (ev l x).natAbs ≤ ab l z := by
  induction l with
  | nil => simp [ev, ab]
  | cons a l ih =>
    simp only [ev, ab]
    have h1 := Int.natAbs_add_le a (x * ev l x)
    rw [Int.natAbs_mul] at h1
    have h2 := Nat.mul_le_mul h ih
    omega
def fct : Nat → Int
  | 0 => 1
  | n + 1 => ((n + 1 : Nat) : Int) * fct n
def sg (k : Nat) : Int := if k % 4 = 0 then 1 else if k % 4 = 2 then -1 else 0
def co (k : Nat) : Int := fct 64 / fct k * 10 ^ (31 * (64 - k))
def cosC : List Int := (List.range 65).map fun k => sg k * co k
def W1 : Int := 7853981256484985 * 10 ^ 15 + 3774894707930798 * 10 ^ 8 + 26951514290790595
def interleave : List Int → List Int
  | [] => []
  | a :: l => a :: 0 :: interleave l
def cosV : List Int := interleave [10 ^ 461, -5 * 10 ^ 398, 41666666666666595 * 10 ^ 319, -13888888888873056 * 10 ^ 256, 24801587288851704 * 10 ^ 192, -2755731417929674 * 10 ^ 129, 2087570084197473 * 10 ^ 65, -11358536521387682]
def sinV : List Int := 0 :: interleave [10 ^ 398, -1666666666666663 * 10 ^ 320, 8333333333322118 * 10 ^ 256, -1984126982958954 * 10 ^ 193, 27557313621385722 * 10 ^ 128, -25050747762857807 * 10 ^ 64, 15896230157654656]
def gap (w : Int) (s : Int) (v : List Int) (p : Nat) : List Int := padd (pscale (10 ^ p) (sh cosC w)) (pscale (-(s * (fct 64 * 10 ^ 1984))) v)
def half1 : Int := 3928 * 10 ^ 27
def gapOk (w : Int) (s : Int) (v : List Int) (p : Nat) : Bool :=
  Nat.ble (10 ^ 14 * ab (sh (gap w s v p) half1) (3928 * 10 ^ 27)) (3 * 10 ^ p * fct 64 * 10 ^ 1984).natAbs &&
  Nat.ble (10 ^ 14 * ab (sh (gap w s v p) (-half1)) (3928 * 10 ^ 27)) (3 * 10 ^ p * fct 64 * 10 ^ 1984).natAbs
theorem g0 : gapOk 0 1 cosV 461 = true := by decide +kernel
theorem g2 : gapOk (2 * W1) (-1) sinV 429 = true := by decide +kernel
theorem g4 : gapOk (4 * W1) (-1) cosV 461 = true := by decide +kernel
theorem g6 : gapOk (6 * W1) (1) sinV 429 = true := by decide +kernel
theorem g8 : gapOk (8 * W1) (1) cosV 461 = true := by decide +kernel
theorem g10 : gapOk (10 * W1) (-1) sinV 429 = true := by decide +kernel
theorem g12 : gapOk (12 * W1) (-1) cosV 461 = true := by decide +kernel
theorem gap_near {w s : Int} {v : List Int} {p : Nat} (h : gapOk w s v p = true) {z : Int} (hz : z.natAbs ≤ 7856 * 10 ^ 27) :
    10 ^ 14 * (10 ^ p * ev cosC (z + w) - s * (fct 64 * 10 ^ 1984) * ev v z).natAbs ≤ (3 * 10 ^ p * fct 64 * 10 ^ 1984).natAbs := by
  unfold gapOk at h
  simp only [Bool.and_eq_true, Nat.ble_eq] at h
  have e : 10 ^ p * ev cosC (z + w) - s * (fct 64 * 10 ^ 1984) * ev v z = ev (gap w s v p) z := by
    unfold gap
    rw [ev_padd, ev_pscale, ev_pscale, ev_sh]
    generalize (10 : Int) ^ p = t
    generalize fct 64 * 10 ^ 1984 = u
    grind
  rw [e]
  have hh : half1 = 3928 * 10 ^ 27 := rfl
  by_cases hs : 0 ≤ z
  · have h1 : (z - half1).natAbs ≤ 3928 * 10 ^ 27 := by rw [hh]; omega
    have h2 := ev_le (sh (gap w s v p) half1) (z - half1) _ h1
    rw [ev_sh, show z - half1 + half1 = z by omega] at h2
    exact Nat.le_trans (Nat.mul_le_mul_left _ h2) h.1
  · have h1 : (z + half1).natAbs ≤ 3928 * 10 ^ 27 := by rw [hh]; omega
    have h2 := ev_le (sh (gap w s v p) (-half1)) (z + half1) _ h1
    rw [ev_sh, show z + half1 + -half1 = z by omega] at h2
    exact Nat.le_trans (Nat.mul_le_mul_left _ h2) h.2
def pt (X : Int) : Nat → Int
  | 0 => 10 ^ 40
  | n + 1 => (pt X n * X).tdiv (10 ^ 40 * ((n + 1 : Nat) : Int))
def cosS (X : Int) : Nat → Int
  | 0 => 0
  | n + 1 => cosS X n + sg n * pt X n
def er : Nat → Nat
  | 0 => 0
  | n + 1 => 10 * er n / (n + 1) + 2
def sumTo (f : Nat → Int) : Nat → Int
  | 0 => 0
  | n + 1 => sumTo f n + f n
theorem ev_range' (f : Nat → Int) (x : Int) (n k : Nat) : ev ((List.range' k n).map f) x * x ^ k = sumTo (fun i => f i * x ^ i) (k + n) - sumTo (fun i => f i * x ^ i) k := by
  induction n generalizing k with
  | zero => simp [ev]
  | succ n ih =>
    have h := ih (k + 1)
    simp only [List.range'_succ, List.map_cons, ev]
    have e : (f k + x * ev (List.map f (List.range' (k + 1) n)) x) * x ^ k = f k * x ^ k + ev (List.map f (List.range' (k + 1) n)) x * x ^ (k + 1) := by
      rw [Int.pow_succ]; grind
    rw [e, h, show k + 1 + n = k + (n + 1) by omega, show sumTo (fun i => f i * x ^ i) (k + 1) = sumTo (fun i => f i * x ^ i) k + f k * x ^ k from rfl]
    omega
theorem ev_cosC (x : Int) : ev cosC x = sumTo (fun i => sg i * co i * x ^ i) 65 := by
  have h := ev_range' (fun k => sg k * co k) x 65 0
  simp only [Int.pow_zero, Int.mul_one, Nat.zero_add] at h
  rw [show sumTo (fun i => sg i * co i * x ^ i) 0 = 0 from rfl] at h
  unfold cosC
  rw [List.range_eq_range', h]; omega
def tr (xi : Int) (k : Nat) : Int := co k * xi ^ k
theorem co_step : ∀ k, k < 64 → co (k + 1) * (((k + 1 : Nat) : Int) * 10 ^ 31) = co k := by decide +kernel
theorem tr_step (xi : Int) (k : Nat) (hk : k < 64) : tr xi (k + 1) * (((k + 1 : Nat) : Int) * 10 ^ 31) = tr xi k * xi := by
  unfold tr
  rw [← co_step k hk, Int.pow_succ]; grind
def S : Int := fct 64 * 10 ^ 1984
theorem S_pos : 0 < S := by decide +kernel
theorem tr_zero (xi : Int) : tr xi 0 = S := by
  unfold tr; rw [Int.pow_zero, Int.mul_one]; decide +kernel
theorem pt_nonneg (X : Int) (hX : 0 ≤ X) (n : Nat) : 0 ≤ pt X n := by
  induction n with
  | zero => show (0:Int) ≤ 10 ^ 40; decide
  | succ n ih =>
    unfold pt
    exact Int.tdiv_nonneg (Int.mul_nonneg ih hX) (Int.mul_nonneg (by decide) (by omega))
theorem pt_succ (X : Int) (hX : 0 ≤ X) (n : Nat) :
    pt X (n + 1) * (10 ^ 40 * ((n + 1 : Nat) : Int)) ≤ pt X n * X ∧ pt X n * X < (pt X (n + 1) + 1) * (10 ^ 40 * ((n + 1 : Nat) : Int)) := by
  have h0 := Int.mul_nonneg (pt_nonneg X hX n) hX
  have hd : (0 : Int) < 10 ^ 40 * ((n + 1 : Nat) : Int) := Int.mul_pos (by decide) (by omega)
  have e : pt X (n + 1) = pt X n * X / (10 ^ 40 * ((n + 1 : Nat) : Int)) := by
    show (pt X n * X).tdiv _ = _
    rw [Int.tdiv_eq_ediv_of_nonneg h0]
  rw [e]
  generalize pt X n * X = a at *
  generalize 10 ^ 40 * ((n + 1 : Nat) : Int) = d at *
  exact ⟨Int.ediv_mul_le a (by omega), Int.lt_ediv_add_one_mul_self a hd⟩
theorem pt_near (xi : Int) (h0 : 0 ≤ xi) (h1 : xi ≤ 10 ^ 32) (k : Nat) (hk : k ≤ 64) :
    S * pt (xi * 10 ^ 9) k ≤ 10 ^ 40 * tr xi k ∧ 10 ^ 40 * tr xi k ≤ S * pt (xi * 10 ^ 9) k + S * er k := by
  have hX : 0 ≤ xi * 10 ^ 9 := Int.mul_nonneg h0 (by decide)
  have hS := S_pos
  induction k with
  | zero => rw [tr_zero]; simp only [pt, er]; constructor <;> grind
  | succ k ih =>
    obtain ⟨ih1, ih2⟩ := ih (by omega)
    obtain ⟨hp1, hp2⟩ := pt_succ (xi * 10 ^ 9) hX k
    have ht := tr_step xi k (by omega)
    have hp0 := pt_nonneg (xi * 10 ^ 9) hX k
    have hpn := pt_nonneg (xi * 10 ^ 9) hX (k + 1)
    have her : (10 * er k : Nat) < (er (k + 1) - 1) * (k + 1) := by
      show _ < (10 * er k / (k + 1) + 2 - 1) * (k + 1)
      have := Nat.lt_div_mul_add (a := 10 * er k) (b := k + 1) (by omega)
      have e : (10 * er k / (k + 1) + 2 - 1) * (k + 1) = 10 * er k / (k + 1) * (k + 1) + (k + 1) := by
        generalize 10 * er k / (k + 1) = q
        rw [show q + 2 - 1 = q + 1 by omega, Nat.add_mul, Nat.one_mul]
      rw [e]; generalize 10 * er k / (k + 1) * (k + 1) = q at *; omega
    have her1 : 1 ≤ er (k + 1) := by show 1 ≤ 10 * er k / (k + 1) + 2; generalize 10 * er k / (k + 1) = q; omega
    generalize pt (xi * 10 ^ 9) (k + 1) = p' at *
    generalize pt (xi * 10 ^ 9) k = p at *
    generalize tr xi (k + 1) = t' at *
    generalize tr xi k = t at *
    generalize er (k + 1) = e' at *
    generalize er k = e at *
    generalize hm : ((k + 1 : Nat) : Int) = m at *
    have hm1 : 1 ≤ m := by omega
    have he' : (10 * (e : Int)) ≤ ((e' : Int) - 1) * m := by
      have h2 : ((10 * e : Nat) : Int) ≤ (((e' - 1) * (k + 1) : Nat) : Int) := Int.ofNat_le.2 (Nat.le_of_lt her)
      rw [Int.natCast_mul, Int.natCast_mul, hm] at h2
      have h3 : ((e' - 1 : Nat) : Int) = (e' : Int) - 1 := by omega
      rw [h3] at h2; exact h2
    have key : ∀ a b : Int, a * (m * 10 ^ 31) ≤ b * (m * 10 ^ 31) → a ≤ b := fun a b h =>
      Int.le_of_mul_le_mul_right h (Int.mul_pos (by omega) (by decide))
    constructor
    · apply key
      have a1 : S * p' * (m * 10 ^ 31) * 10 ^ 9 = S * (p' * (10 ^ 40 * m)) := by grind
      have a2 : S * (p' * (10 ^ 40 * m)) ≤ S * (p * (xi * 10 ^ 9)) := Int.mul_le_mul_of_nonneg_left hp1 (by omega)
      have a3 : S * (p * (xi * 10 ^ 9)) = S * p * xi * 10 ^ 9 := by grind
      have a4 : S * p * xi ≤ 10 ^ 40 * t * xi := Int.mul_le_mul_of_nonneg_right ih1 h0
      have a5 : 10 ^ 40 * t' * (m * 10 ^ 31) = 10 ^ 40 * t * xi := by grind
      rw [a5]
      generalize S * p' * (m * 10 ^ 31) = u at *
      generalize S * p * xi = v at *
      generalize 10 ^ 40 * t * xi = z at *
      omega
    · apply key
      have a5 : 10 ^ 40 * t' * (m * 10 ^ 31) = 10 ^ 40 * t * xi := by grind
      have b1 : 10 ^ 40 * t * xi ≤ (S * p + S * e) * xi := Int.mul_le_mul_of_nonneg_right ih2 h0
      have b2 : S * (p * (xi * 10 ^ 9)) ≤ S * ((p' + 1) * (10 ^ 40 * m)) := Int.mul_le_mul_of_nonneg_left (by omega) (by omega)
      have b3 : S * e * xi ≤ S * e * 10 ^ 32 := Int.mul_le_mul_of_nonneg_left h1 (Int.mul_nonneg (by omega) (by omega))
      have b4 : S * (10 * (e : Int)) ≤ S * (((e' : Int) - 1) * m) := Int.mul_le_mul_of_nonneg_left he' (by omega)
      have c1 : (S * p + S * e) * xi = S * p * xi + S * e * xi := by grind
      have c2 : S * (p * (xi * 10 ^ 9)) = (S * p * xi) * 10 ^ 9 := by grind
      have c3 : S * ((p' + 1) * (10 ^ 40 * m)) = ((S * p' + S) * (m * 10 ^ 31)) * 10 ^ 9 := by grind
      have c4 : S * e * 10 ^ 32 = S * (10 * (e : Int)) * 10 ^ 31 := by grind
      have c5 : S * (((e' : Int) - 1) * m) * 10 ^ 31 = (S * e' - S) * (m * 10 ^ 31) := by grind
      have c6 : (S * p' + S * e') * (m * 10 ^ 31) = (S * p' + S) * (m * 10 ^ 31) + (S * e' - S) * (m * 10 ^ 31) := by grind
      rw [a5, c6, ← c5]
      rw [c1] at b1
      rw [c2, c3] at b2
      rw [c4] at b3
      generalize 10 ^ 40 * t * xi = u1 at *
      generalize S * p * xi = u2 at *
      generalize S * e * xi = u3 at *
      generalize (S * p' + S) * (m * 10 ^ 31) = u4 at *
      generalize S * (10 * (e : Int)) = u5 at *
      generalize S * (((e' : Int) - 1) * m) = u6 at *
      omega
def ub : Nat → Nat
  | 0 => 10 ^ 40
  | n + 1 => ub n * 10 / (n + 1)
theorem pt_le (X : Int) (hX : 0 ≤ X) (h1 : X ≤ 10 ^ 41) (n : Nat) : pt X n ≤ (ub n : Int) := by
  induction n with
  | zero => show (10 : Int) ^ 40 ≤ ((10 ^ 40 : Nat) : Int); decide
  | succ n ih =>
    obtain ⟨h2, _⟩ := pt_succ X hX n
    have hn := pt_nonneg X hX n
    show pt X (n + 1) ≤ ((ub n * 10 / (n + 1) : Nat) : Int)
    rw [Int.natCast_ediv, Int.natCast_mul]
    apply Int.le_ediv_of_mul_le (by omega)
    have a1 : pt X n * X ≤ pt X n * 10 ^ 41 := Int.mul_le_mul_of_nonneg_left h1 hn
    have a2 : pt X n * 10 ^ 41 ≤ (ub n : Int) * 10 ^ 41 := Int.mul_le_mul_of_nonneg_right ih (by decide)
    have a3 : pt X (n + 1) * (10 ^ 40 * ((n + 1 : Nat) : Int)) = pt X (n + 1) * ((n + 1 : Nat) : Int) * 10 ^ 40 := by grind
    rw [a3] at h2
    show pt X (n + 1) * ((n + 1 : Nat) : Int) ≤ (ub n : Int) * 10
    generalize pt X (n + 1) * ((n + 1 : Nat) : Int) = u at *
    omega
theorem ub_zero (n : Nat) (h : ub n = 0) (k : Nat) : ub (n + k) = 0 := by
  induction k with
  | zero => exact h
  | succ k ih => show ub (n + k) * 10 / (n + k + 1) = 0; rw [ih]; simp
theorem pt_90 (X : Int) (hX : 0 ≤ X) (h1 : X ≤ 10 ^ 41) (k : Nat) (hk : 90 ≤ k) : pt X k = 0 := by
  have h := pt_le X hX h1 k
  have h0 := pt_nonneg X hX k
  have hu := ub_zero 90 (by decide +kernel) (k - 90)
  rw [show 90 + (k - 90) = k by omega] at hu
  rw [hu] at h; omega
def sumN (f : Nat → Nat) : Nat → Nat
  | 0 => 0
  | n + 1 => sumN f n + f n
theorem sg_abs (k : Nat) : sg k = 1 ∨ sg k = -1 ∨ sg k = 0 := by
  unfold sg; split
  · exact .inl rfl
  · split
    · exact .inr (.inl rfl)
    · exact .inr (.inr rfl)
theorem cosS_tail (X : Int) (hX : 0 ≤ X) (h1 : X ≤ 10 ^ 41) (n : Nat) :
    (cosS X (65 + n) - cosS X 65).natAbs ≤ sumN (fun k => ub (65 + k)) n := by
  induction n with
  | zero => simp [sumN]
  | succ n ih =>
    have e : cosS X (65 + (n + 1)) = cosS X (65 + n) + sg (65 + n) * pt X (65 + n) := rfl
    have hl := pt_le X hX h1 (65 + n)
    have h0 := pt_nonneg X hX (65 + n)
    have hu : sumN (fun k => ub (65 + k)) (n + 1) = sumN (fun k => ub (65 + k)) n + ub (65 + n) := rfl
    rw [e, hu]
    rcases sg_abs (65 + n) with h | h | h <;> rw [h] <;> omega
theorem cosS_near (xi : Int) (h0 : 0 ≤ xi) (h1 : xi ≤ 10 ^ 32) (n : Nat) (hn : n ≤ 65) :
    (S * cosS (xi * 10 ^ 9) n - 10 ^ 40 * sumTo (fun i => sg i * co i * xi ^ i) n).natAbs ≤ S.natAbs * sumN er n := by
  have hS := S_pos
  induction n with
  | zero => simp [cosS, sumTo]
  | succ n ih =>
    have ih := ih (by omega)
    obtain ⟨p1, p2⟩ := pt_near xi h0 h1 n (by omega)
    have e1 : cosS (xi * 10 ^ 9) (n + 1) = cosS (xi * 10 ^ 9) n + sg n * pt (xi * 10 ^ 9) n := rfl
    have e2 : sumTo (fun i => sg i * co i * xi ^ i) (n + 1) = sumTo (fun i => sg i * co i * xi ^ i) n + sg n * tr xi n := by
      show _ + sg n * co n * xi ^ n = _; unfold tr; rw [Int.mul_assoc]
    have e3 : sumN er (n + 1) = sumN er n + er n := rfl
    rw [e1, e2, e3]
    have e4 : S.natAbs * (sumN er n + er n) = S.natAbs * sumN er n + S.natAbs * er n := Nat.mul_add ..
    have e5 : ((S.natAbs * er n : Nat) : Int) = S * er n := by rw [Int.natCast_mul, Int.natAbs_of_nonneg (by omega)]
    rw [e4]
    have e6 : S * (cosS (xi * 10 ^ 9) n + sg n * pt (xi * 10 ^ 9) n) - 10 ^ 40 * (sumTo (fun i => sg i * co i * xi ^ i) n + sg n * tr xi n) =
      (S * cosS (xi * 10 ^ 9) n - 10 ^ 40 * sumTo (fun i => sg i * co i * xi ^ i) n) + sg n * (S * pt (xi * 10 ^ 9) n - 10 ^ 40 * tr xi n) := by grind
    rw [e6]
    generalize S.natAbs * er n = q at *
    generalize S * pt (xi * 10 ^ 9) n = q2 at *
    generalize 10 ^ 40 * tr xi n = q3 at *
    rcases sg_abs n with h | h | h <;> rw [h] <;> omega
theorem cos_series (xi : Int) (h0 : 0 ≤ xi) (h1 : xi ≤ 10 ^ 32) :
    (S * cosS (xi * 10 ^ 9) 100 - 10 ^ 40 * ev cosC xi).natAbs ≤ S.natAbs * 10 ^ 20 := by
  have hS := S_pos
  have a := cosS_near xi h0 h1 65 (Nat.le_refl _)
  have b := cosS_tail (xi * 10 ^ 9) (Int.mul_nonneg h0 (by decide)) (by omega) 35
  rw [← ev_cosC] at a
  have hn1 : sumN er 65 ≤ 10 ^ 19 := by decide +kernel
  have hn2 : sumN (fun k => ub (65 + k)) 35 ≤ 10 ^ 19 := by decide +kernel
  have c : (S * (cosS (xi * 10 ^ 9) 100 - cosS (xi * 10 ^ 9) 65)).natAbs ≤ S.natAbs * 10 ^ 19 := by
    rw [Int.natAbs_mul]; exact Nat.mul_le_mul_left _ (Nat.le_trans b hn2)
  have a' := Nat.le_trans a (Nat.mul_le_mul_left S.natAbs hn1)
  have e : S * cosS (xi * 10 ^ 9) 100 - 10 ^ 40 * ev cosC xi = (S * (cosS (xi * 10 ^ 9) 100 - cosS (xi * 10 ^ 9) 65)) + (S * cosS (xi * 10 ^ 9) 65 - 10 ^ 40 * ev cosC xi) := by grind
  rw [e]
  generalize S * (cosS (xi * 10 ^ 9) 100 - cosS (xi * 10 ^ 9) 65) = y at *
  generalize S * cosS (xi * 10 ^ 9) 65 - 10 ^ 40 * ev cosC xi = z at *
  clear e
  generalize S = s at *
  omega
attribute [local irreducible] S ev cosC cosV sinV
def oct (xi : Int) : Int := xi * 12732395447351625 / 10 ^ 47 + (xi * 12732395447351625 / 10 ^ 47) % 2
def zeta (xi : Int) : Int := xi - oct xi * W1
def cosT (xi : Int) : Int :=
  if oct xi = 0 ∨ oct xi = 8 then ev cosV (zeta xi) else if oct xi = 2 ∨ oct xi = 10 then -(10 ^ 32 * ev sinV (zeta xi))
  else if oct xi = 4 ∨ oct xi = 12 then -(ev cosV (zeta xi)) else 10 ^ 32 * ev sinV (zeta xi)
theorem combine {w s : Int} {v : List Int} {p : Nat} {xi : Int} (h0 : 0 ≤ xi) (h1 : xi ≤ 10 ^ 32) (g : gapOk w s v p = true) (hz : (xi - w).natAbs ≤ 7856 * 10 ^ 27) :
    (10 ^ 40 * (s * ev v (xi - w)) - 10 ^ p * cosS (xi * 10 ^ 9) 100).natAbs * 10 ^ 13 < 10 ^ p * 10 ^ 40 := by
  have hS := S_pos
  have a := gap_near g hz
  rw [show xi - w + w = xi by omega, show s * (fct 64 * 10 ^ 1984) * ev v (xi - w) = S * (s * ev v (xi - w)) by unfold S; generalize fct 64 * 10 ^ 1984 = u; grind] at a
  rw [show (3 * 10 ^ p * fct 64 * 10 ^ 1984 : Int) = 10 ^ p * (3 * S) by unfold S; grind, Int.natAbs_mul] at a
  have b := cos_series xi h0 h1
  have hp : ((10 : Int) ^ p).natAbs = 10 ^ p := by rw [Int.natAbs_pow]; rfl
  rw [hp] at a
  generalize ev cosC xi = T at *
  generalize s * ev v (xi - w) = V at *
  generalize cosS (xi * 10 ^ 9) 100 = C at *
  have b' : (10 ^ p * (S * C - 10 ^ 40 * T)).natAbs ≤ 10 ^ p * (S.natAbs * 10 ^ 20) := by
    rw [Int.natAbs_mul, hp]; exact Nat.mul_le_mul_left _ b
  have hpp : 0 < 10 ^ p := Nat.pow_pos (by decide)
  have hSn : 0 < S.natAbs := by omega
  clear g hz
  generalize S = S at *
  have e : S * (10 ^ 40 * V - 10 ^ p * C) = -(10 ^ 40 * (10 ^ p * T - S * V)) - 10 ^ p * (S * C - 10 ^ 40 * T) := by grind
  have e1 : (S * (10 ^ 40 * V - 10 ^ p * C)).natAbs * 10 ^ 13 < S.natAbs * (10 ^ p * 10 ^ 40) := by
    rw [e]
    have hp' : (10 ^ p * (3 * S).natAbs) = 3 * (10 ^ p * S.natAbs) := by
      rw [show (3 * S).natAbs = 3 * S.natAbs by omega]; generalize S.natAbs = u; grind
    have hq : 10 ^ p * (S.natAbs * 10 ^ 20) = 10 ^ 20 * (10 ^ p * S.natAbs) := by generalize S.natAbs = u; grind
    have hr : S.natAbs * (10 ^ p * 10 ^ 40) = 10 ^ 40 * (10 ^ p * S.natAbs) := by generalize S.natAbs = u; grind
    rw [hp'] at a
    rw [hq] at b'
    rw [hr]
    have hu : 0 < 10 ^ p * S.natAbs := Nat.mul_pos hpp hSn
    generalize 10 ^ p * S.natAbs = u at *
    generalize 10 ^ p * (S * C - 10 ^ 40 * T) = y at *
    generalize 10 ^ p * T - S * V = x at *
    omega
  rw [Int.natAbs_mul, Nat.mul_assoc] at e1
  exact Nat.lt_of_mul_lt_mul_left e1
theorem sin_up (p : Nat) (a b : Int) (h : (10 ^ 40 * a - 10 ^ p * b).natAbs * 10 ^ 13 < 10 ^ p * 10 ^ 40) :
    (10 ^ 40 * (10 ^ 32 * a) - 10 ^ (32 + p) * b).natAbs * 10 ^ 13 < 10 ^ (32 + p) * 10 ^ 40 := by
  rw [Int.pow_add, Nat.pow_add, show 10 ^ 40 * (10 ^ 32 * a) - 10 ^ 32 * 10 ^ p * b = 10 ^ 32 * (10 ^ 40 * a - 10 ^ p * b) by grind, Int.natAbs_mul,
    show (10 ^ 32 : Int).natAbs = 10 ^ 32 from rfl, Nat.mul_assoc, Nat.mul_assoc]
  exact Nat.mul_lt_mul_of_pos_left h (by decide)
theorem cos_near (q : Nat) (hq : q = 32 + 429) (xi : Int) (h0 : 0 ≤ xi) (h1 : xi < 10 ^ 32) :
    (10 ^ 40 * cosT xi - 10 ^ q * cosS (xi * 10 ^ 9) 100).natAbs * 10 ^ 13 < 10 ^ q * 10 ^ 40 := by
  have hk : oct xi = 0 ∨ oct xi = 2 ∨ oct xi = 4 ∨ oct xi = 6 ∨ oct xi = 8 ∨ oct xi = 10 ∨ oct xi = 12 := by unfold oct; omega
  have hz : (xi - oct xi * W1).natAbs ≤ 7856 * 10 ^ 27 := by unfold oct W1; omega
  have h1' : xi ≤ 10 ^ 32 := by omega
  have hc : ∀ w s, gapOk w s cosV 461 = true → gapOk w s cosV q = true := by intro w s h; rw [hq]; exact h
  unfold cosT zeta
  rcases hk with h | h | h | h | h | h | h <;> rw [h] at hz ⊢ <;> simp only [Int.reduceEq, or_true, or_false, if_true, if_false]
  · have := combine h0 h1' (w := 0 * W1) (s := 1) (by rw [Int.zero_mul]; exact hc _ _ g0) hz
    rw [Int.one_mul] at this; exact this
  · have := sin_up _ _ _ (combine h0 h1' (s := -1) g2 hz)
    rw [← hq, show (10 : Int) ^ 32 * (-1 * ev sinV (xi - 2 * W1)) = -(10 ^ 32 * ev sinV (xi - 2 * W1)) by grind] at this; exact this
  · have := combine h0 h1' (s := -1) (hc _ _ g4) hz
    rw [show (-1 * ev cosV (xi - 4 * W1)) = -(ev cosV (xi - 4 * W1)) by grind] at this; exact this
  · have := sin_up _ _ _ (combine h0 h1' (s := 1) g6 hz)
    rw [← hq, Int.one_mul] at this; exact this
  · have := combine h0 h1' (s := 1) (hc _ _ g8) hz
    rw [Int.one_mul] at this; exact this
  · have := sin_up _ _ _ (combine h0 h1' (s := -1) g10 hz)
    rw [← hq, show (10 : Int) ^ 32 * (-1 * ev sinV (xi - 10 * W1)) = -(10 ^ 32 * ev sinV (xi - 10 * W1)) by grind] at this; exact this
  · have := combine h0 h1' (s := -1) (hc _ _ g12) hz
    rw [show (-1 * ev cosV (xi - 12 * W1)) = -(ev cosV (xi - 12 * W1)) by grind] at this; exact this
theorem pt_neg (X : Int) (n : Nat) : pt (-X) n = if n % 2 = 0 then pt X n else -pt X n := by
  induction n with
  | zero => rfl
  | succ n ih =>
    show (pt (-X) n * -X).tdiv _ = _
    rw [ih]
    show _ = if (n + 1) % 2 = 0 then (pt X n * X).tdiv _ else -(pt X n * X).tdiv _
    rcases Nat.mod_two_eq_zero_or_one n with h | h
    · rw [if_pos h, if_neg (by omega), Int.mul_neg, Int.neg_tdiv]
    · rw [if_neg (by omega), if_pos (by omega), Int.neg_mul_neg]
theorem cosS_neg (X : Int) (n : Nat) : cosS (-X) n = cosS X n := by
  induction n with
  | zero => rfl
  | succ n ih =>
    show cosS (-X) n + sg n * pt (-X) n = cosS X n + sg n * pt X n
    rw [ih, pt_neg]
    split
    · rfl
    · rw [show sg n = 0 by unfold sg; rw [if_neg (by omega), if_neg (by omega)]]; simp
def sgS (k : Nat) : Int := if k % 4 = 1 then 1 else if k % 4 = 3 then -1 else 0
def sinS (X : Int) : Nat → Int
  | 0 => 0
  | n + 1 => sinS X n + sgS n * pt X n
theorem ub_le : ∀ k, k < 90 → ub k ≤ 10 ^ 45 := by decide +kernel
theorem pt_abs (X : Int) (h : X.natAbs ≤ 10 ^ 41) (n : Nat) : (pt X n).natAbs ≤ 10 ^ 45 := by
  have hp : ∀ Y : Int, 0 ≤ Y → Y ≤ 10 ^ 41 → (pt Y n).natAbs ≤ 10 ^ 45 := by
    intro Y h0 h1
    have a := pt_nonneg Y h0 n
    have b := pt_le Y h0 h1 n
    have c : ub n ≤ 10 ^ 45 := by
      by_cases hn : n < 90
      · exact ub_le n hn
      · have := ub_zero 90 (by decide +kernel) (n - 90)
        rw [show 90 + (n - 90) = n by omega] at this; omega
    omega
  by_cases hX : 0 ≤ X
  · exact hp X hX (by omega)
  · have := hp (-X) (by omega) (by omega)
    rw [pt_neg] at this
    split at this <;> omega
theorem cosS_abs (X : Int) (h : X.natAbs ≤ 10 ^ 41) (n : Nat) : (cosS X n).natAbs ≤ n * 10 ^ 45 := by
  induction n with
  | zero => simp [cosS]
  | succ n ih =>
    have := pt_abs X h n
    show (cosS X n + sg n * pt X n).natAbs ≤ _
    rcases sg_abs n with e | e | e <;> rw [e] <;> omega
theorem sinS_abs (X : Int) (h : X.natAbs ≤ 10 ^ 41) (n : Nat) : (sinS X n).natAbs ≤ n * 10 ^ 45 := by
  induction n with
  | zero => simp [sinS]
  | succ n ih =>
    have := pt_abs X h n
    show (sinS X n + sgS n * pt X n).natAbs ≤ _
    have : sgS n = 1 ∨ sgS n = -1 ∨ sgS n = 0 := by unfold sgS; split; simp; split <;> simp
    rcases this with e | e | e <;> rw [e] <;> omega
theorem pt_ne (X : Int) (h : X.natAbs ≤ 10 ^ 41) (n : Nat) (h0 : pt X n ≠ 0) : n < 90 := by
  refine Classical.byContradiction fun h2 => h0 ?_
  by_cases hX : 0 ≤ X
  · exact pt_90 X hX (by omega) n (by omega)
  · have := pt_90 (-X) (by omega) (by omega) n (by omega)
    rw [pt_neg] at this
    split at this <;> omega
theorem cosS_stop (X : Int) (n k : Nat) (h : pt X n = 0) : pt X (n + k) = 0 ∧ cosS X (n + k) = cosS X n := by
  induction k with
  | zero => exact ⟨h, rfl⟩
  | succ k ih =>
    constructor
    · show (pt X (n + k) * X).tdiv _ = 0; rw [ih.1]; simp
    · show cosS X (n + k) + sg (n + k) * pt X (n + k) = _; rw [ih.1, ih.2]; simp
theorem cosS_100 (X : Int) (n : Nat) (h : pt X n = 0) (hn : n ≤ 100) : cosS X n = cosS X 100 := by
  have := (cosS_stop X n (100 - n) h).2
  rw [show n + (100 - n) = 100 by omega] at this; exact this.symm
end CosM
end Go.Proofs.YtjcfacinlgogaaaGreatDoor
