/- The listed variables: what the listed data give the walks. No condition beyond the reading. -/
import Derived.Test.YtndphemomhcjlaaGreatDoorQ27
import Derived.Test.YtndphemomhcjlaaGreatDoorRows
import Derived.Lib.LaidU8
import Derived.OpenShut
set_option linter.all false

namespace Go.Proofs.YtndphemomhcjlaaGreatDoor
open Go.ChangeShapes Go.WideShapes Go.WideElems Go.RowKit

theorem trod_float {H : Type} {enc : TypeId × Value → H} {P : Program} {w : World} {base : Nat} {spare : Nat → Bool} {held : Bool} {fuel : Nat} {t : TypeId} {cs : List Value} {x : DataW H × List MemPlace} {k : FloatKind} (ht : P.underlying t = some (.float k)) (h : DataW.trod enc P w base spare held fuel t cs = some x) : ∃ b, cs = [.float k b] ∧ x = (.lit (.float k b), []) := by
  cases fuel with
  | zero => simp [DataW.trod] at h
  | succ n =>
    unfold DataW.trod at h
    rw [ht] at h
    split at h <;> simp_all

theorem cell_spot (W : World) (b o z : Nat) : W.cell? ⟨b, o, some z⟩ = none := by
  unfold World.cell?
  cases h : W.heap[b]? with
  | none => rfl
  | some x => cases x <;> simp
theorem gF : Tryz.prog.globalNamed "given.example/pub-alexandrine/pub/shopspring.float64Pow10" = some 0 := by kernel_rfl
theorem gI : Tryz.prog.globalNamed "internal/strconv.float64info" = some 8 := by kernel_rfl
theorem gO : Tryz.prog.globalNamed "internal/strconv.optimize" = some 7 := by kernel_rfl
theorem gW : Tryz.prog.globalNamed "internal/strconv.float64pow10" = some 15 := by kernel_rfl
theorem gT : Tryz.prog.globalNamed "internal/strconv.pow10Tab" = some 16 := by kernel_rfl
theorem tF : (Tryz.prog.globals[0]?).map (·.type) = some 73 := by kernel_rfl
theorem tI : (Tryz.prog.globals[8]?).map (·.type) = some 163 := by kernel_rfl
theorem tO : (Tryz.prog.globals[7]?).map (·.type) = some 4 := by kernel_rfl
theorem tW : (Tryz.prog.globals[15]?).map (·.type) = some 219 := by kernel_rfl
theorem tT : (Tryz.prog.globals[16]?).map (·.type) = some 243 := by kernel_rfl

def floats23 {H : Type} : List (DataW H) := (List.range 23).map fun i => .lit (.float .f64 (f10 i))
theorem dF : (Rows.laid_given_example_pub_alexandrine_pub_shopspring_float64Pow10 : DataW Unit) = .agg floats23 := by kernel_rfl
theorem dW : (Rows.laid_internal_strconv_float64pow10 : DataW Unit) = .slice floats23 [] := by kernel_rfl
theorem floats23_at (i : Nat) (hi : i < 23) : (floats23 (H := Unit))[i]? = some (.lit (.float .f64 (f10 i))) := by simp [floats23, hi]

theorem tabF_of {W : World} (h : Lib.VarReads Tryz.prog W "given.example/pub-alexandrine/pub/shopspring.float64Pow10" Rows.laid_given_example_pub_alexandrine_pub_shopspring_float64Pow10) : TabF W := by
  rw [dF] at h
  obtain ⟨g, t, cs, fuel, p, hg, ht, hv, hd⟩ := h
  obtain rfl := Option.some.inj (gF.symm.trans hg)
  obtain rfl := Option.some.inj (tF.symm.trans ht)
  have c29 : Tryz.prog.cellsOf 29 = 1 := by kernel_rfl
  obtain ⟨xs, m, rfl, hx, hl, hn, he⟩ := DataW.trod_array (n := 23) (e := 29) (by kernel_rfl) hd
  rw [c29] at he
  simp only [Prod.mk.injEq, DataW.agg.injEq] at hx
  intro i hi
  have h1 := he i hi
  obtain ⟨y, hy⟩ : ∃ y, xs[i]? = some y := ⟨xs[i]'(by omega), List.getElem?_eq_getElem (by omega)⟩
  rw [hy] at h1
  obtain ⟨b, hb, rfl⟩ := trod_float (k := .f64) (by kernel_rfl) h1
  have h2 := floats23_at i hi
  rw [hx.1, List.getElem?_map, hy] at h2
  simp only [Option.map_some, Option.some.injEq, DataW.lit.injEq, Lit.float.injEq, true_and] at h2
  subst h2
  have h3 := World.var?_cell hg hv i
  rw [h3]
  have h4 : (cs.toList.drop i)[0]? = some (.float .f64 (f10 i)) := by
    have := congrArg (fun l => l[0]?) hb
    simpa [List.getElem?_take] using this
  simpa using h4

set_option maxRecDepth 100000 in
theorem tabP_of {W : World} (h : Lib.VarReads Tryz.prog W "internal/strconv.pow10Tab" Rows.laid_internal_strconv_pow10Tab) : TabP W := by
  obtain ⟨g, t, cs, fuel, p, hg, ht, hv, hd⟩ := h
  obtain rfl := Option.some.inj (gT.symm.trans hg)
  obtain rfl := Option.some.inj (tT.symm.trans ht)
  have c242 : Tryz.prog.cellsOf 242 = 2 := by kernel_rfl
  have c22 : Tryz.prog.cellsOf 22 = 1 := by kernel_rfl
  obtain ⟨xs, m, rfl, hx, hl, hn, he⟩ := DataW.trod_array (n := 696) (e := 242) (by kernel_rfl) hd
  rw [c242] at he
  unfold Rows.laid_internal_strconv_pow10Tab Pinned.pow10Tab at hx
  simp only [Prod.mk.injEq, DataW.agg.injEq] at hx
  intro k hk
  have hrow : ∀ k, k < 20 → Pinned.pow10Rows[348 - k]? = some (hik k, lok k) := by decide +kernel
  have h0 := hrow k (by omega)
  have h1 := he (348 - k) (by omega)
  obtain ⟨y, hy⟩ : ∃ y, xs[348 - k]? = some y := ⟨xs[348 - k]'(by omega), List.getElem?_eq_getElem (by omega)⟩
  rw [hy] at h1
  have h2 : (xs.map (·.1))[348 - k]? = some (.agg [.lit (.int .u64 (hik k : Nat)), .lit (.int .u64 (lok k : Nat))]) := by
    rw [← hx.1, List.getElem?_map, h0]; rfl
  rw [List.getElem?_map, hy] at h2
  simp only [Option.map_some, Option.some.injEq] at h2
  obtain ⟨ys, m2, rfl, hx2, hl2, hn2, he2⟩ := DataW.trod_struct Tryz.underlying242 h1
  have e0 : DataW.trod (fun _ => ()) Tryz.prog W 0 (fun _ => true) false m2 22 ((((cs.toList.drop ((348 - k) * 2)).take 2).drop 0).take (Tryz.prog.cellsOf 22)) = ys[0]? := he2 0 _ rfl
  have e1 : DataW.trod (fun _ => ()) Tryz.prog W 0 (fun _ => true) false m2 22 ((((cs.toList.drop ((348 - k) * 2)).take 2).drop 1).take (Tryz.prog.cellsOf 22)) = ys[1]? := he2 1 _ rfl
  rw [c22] at e0 e1
  match ys, hn2 with
  | [y0, y1], _ =>
    simp only [List.getElem?_cons_zero, List.getElem?_cons_succ] at e0 e1
    obtain ⟨a0, ha0, rfl, -⟩ := DataW.trod_int (k := .u64) Tryz.underlying22 e0
    obtain ⟨a1, ha1, rfl, -⟩ := DataW.trod_int (k := .u64) Tryz.underlying22 e1
    rw [hx2] at h2
    simp only [List.map_cons, List.map_nil, DataW.agg.injEq, List.cons.injEq, DataW.lit.injEq, Lit.int.injEq, true_and, and_true] at h2
    obtain ⟨rfl, rfl⟩ := h2
    rw [World.var?_cell hg hv, World.var?_cell hg hv]
    constructor
    · have := congrArg (fun l => l[0]?) ha0
      simpa [List.getElem?_take] using this
    · have := congrArg (fun l => l[0]?) ha1
      simpa [List.getElem?_take] using this

theorem tabS_of {W : World} (hI : Lib.VarReads Tryz.prog W "internal/strconv.float64info" Rows.laid_internal_strconv_float64info) (hO : Lib.VarReads Tryz.prog W "internal/strconv.optimize" Rows.laid_internal_strconv_optimize) (hW : Lib.VarReads Tryz.prog W "internal/strconv.float64pow10" Rows.laid_internal_strconv_float64pow10) : TabS W := by
  refine ⟨?_, ?_, ?_⟩
  · obtain ⟨g, t, cs, fuel, p, hg, ht, hv, hd⟩ := hI
    obtain rfl := Option.some.inj (gI.symm.trans hg)
    obtain rfl := Option.some.inj (tI.symm.trans ht)
    obtain ⟨ys, m2, rfl, hx2, hl2, hn2, he2⟩ := DataW.trod_struct Tryz.underlying163 hd
    have c85 : Tryz.prog.cellsOf 85 = 1 := by kernel_rfl
    have e0 : DataW.trod (fun _ => ()) Tryz.prog W 0 (fun _ => true) false m2 85 ((cs.toList.drop 0).take (Tryz.prog.cellsOf 85)) = ys[0]? := he2 0 _ rfl
    rw [c85] at e0
    match ys, hn2 with
    | [y0, y1, y2], _ =>
      simp only [List.getElem?_cons_zero] at e0
      obtain ⟨a0, ha0, rfl, -⟩ := DataW.trod_int (k := .u64) Tryz.underlying85 e0
      unfold Rows.laid_internal_strconv_float64info at hx2
      simp only [Prod.mk.injEq, List.map_cons, List.map_nil, DataW.agg.injEq, List.cons.injEq, DataW.lit.injEq, Lit.int.injEq, true_and] at hx2
      obtain ⟨⟨rfl, -⟩, -⟩ := hx2
      rw [World.var?_cell hg hv]
      have := congrArg (fun l => l[0]?) ha0
      simpa [List.getElem?_take] using this
  · obtain ⟨g, t, cs, fuel, p, hg, ht, hv, hd⟩ := hO
    obtain rfl := Option.some.inj (gO.symm.trans hg)
    obtain rfl := Option.some.inj (tO.symm.trans ht)
    obtain ⟨b, hb, hx⟩ := DataW.trod_bool Tryz.underlying4 hd
    unfold Rows.laid_internal_strconv_optimize at hx
    simp only [Prod.mk.injEq, DataW.lit.injEq, Lit.bool.injEq] at hx
    obtain ⟨rfl, -⟩ := hx
    rw [World.var?_cell hg hv]
    have := congrArg (fun l => l[0]?) hb
    simpa using this
  · rw [dW] at hW
    obtain ⟨g, t, cs, fuel, p, hg, ht, hv, hd⟩ := hW
    obtain rfl := Option.some.inj (gW.symm.trans hg)
    obtain rfl := Option.some.inj (tW.symm.trans ht)
    have c29 : Tryz.prog.cellsOf 29 = 1 := by kernel_rfl
    rcases DataW.trod_slice Tryz.underlying219 hd with ⟨_, hx⟩ | ⟨a, len, cap, el, rs, m, rfl, hcs, hx, _, hlc, _, hel, helem, hsp, _⟩
    · cases hx
    rw [c29] at helem
    simp only [Prod.mk.injEq, DataW.slice.injEq] at hx
    obtain ⟨⟨eE, eR⟩, -⟩ := hx
    have hlen : len = 23 := by
      have := congrArg List.length eE
      simp [floats23] at this
      omega
    have hr0 : rs = [] := by
      have := congrArg List.length eR
      simp at this
      exact List.eq_nil_of_length_eq_zero this.symm
    have hcap : cap = 23 := by
      have := (hsp rfl).1
      rw [hr0] at this
      simp at this
      omega
    subst hlen hcap
    have hcell : ∀ i, i < 23 → W.cell? (a.add i) = some (.float .f64 (f10 i)) := by
      intro i hi
      have h1 := helem i hi
      obtain ⟨y, hy⟩ : ∃ y, el[i]? = some y := ⟨el[i]'(by omega), List.getElem?_eq_getElem (by omega)⟩
      rw [hy] at h1
      obtain ⟨ce, hce, hte⟩ := Option.bind_eq_some_iff.1 h1
      obtain ⟨b, hb, rfl⟩ := trod_float (k := .f64) (by kernel_rfl) hte
      have h2 := floats23_at i hi
      rw [eE, List.getElem?_map, hy] at h2
      simp only [Option.map_some, Option.some.injEq, DataW.lit.injEq, Lit.float.injEq, true_and] at h2
      subst h2
      obtain ⟨_, _, hcc⟩ := World.cells?_some hce
      have := hcc 0 (by omega)
      rw [hb] at this
      simpa [Addr.add] using this
    obtain ⟨b, o, sp⟩ := a
    have hsp0 : sp = none := by
      have h0 := hcell 0 (by omega)
      rw [show (Addr.mk b o sp).add 0 = Addr.mk b o sp by simp [Addr.add]] at h0
      cases sp with
      | none => rfl
      | some z => exact absurd h0 (by rw [cell_spot]; intro h; cases h)
    subst hsp0
    refine ⟨b, o, ?_, fun i hi => ?_⟩
    · rw [World.var?_cell hg hv]
      have := congrArg (fun l => l[0]?) hcs
      simpa using this
    · have := hcell i hi
      rw [add_none] at this
      exact this
end Go.Proofs.YtndphemomhcjlaaGreatDoor
