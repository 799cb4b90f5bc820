/- The listed variables: what the listed data give the walks. No condition beyond the reading. FnDecCos: whatever the input, the law answers true. Conditions: none beyond the row's own (the listed variables hold what the program's text lays). FnDecCos: the cosine of a decimal is less than 10^-13 away from the true one, and that of its opposite is the same: the row and the tied card. Conditions: none beyond the row's own (the listed variables hold what the program's text lays, which the card ties). -/
import Derived.Lib.LaidU8
import Derived.OpenShut
import Derived.Lay
import Derived.ProofKit
import Derived.OpenVars
import Derived.SevenTiedAt
import Derived.Lib.SmallJoins
import Derived.Test.YtjcfacinlgogaaaGreatDoorRows
import Derived.Test.YtjcfacinlgogaaaGreatDoorTie
import Derived.Test.YtjcfacinlgogaaaGreatDoorCards
import Derived.Test.YtjcfacinlgogaaaGreatDoorQ32
import Derived.Test.YtjcfacinlgogaaaGreatDoorQ52
set_option linter.all false
set_option maxRecDepth 100000
namespace Go.Proofs.YtjcfacinlgogaaaGreatDoor
open Go.ChangeShapes Go.WideShapes Go.WideElems Go.RowKit
theorem int_of_reads {W : World} {name : String} {gn : Nat} {z : Int} (hg0 : Tryz.prog.globalNamed name = some gn) (ht0 : (Tryz.prog.globals[gn]?).map (·.type) = some 3) (h : Lib.VarReads Tryz.prog W name (.lit (.int .i64 z))) : W.cell? ⟨gn, 0, none⟩ = some (.int .i64 z) := by
  obtain ⟨g, t, cs, fuel, p, hg, ht, hv, hd⟩ := h
  obtain rfl := Option.some.inj (hg0.symm.trans hg)
  obtain rfl := Option.some.inj (ht0.symm.trans ht)
  obtain ⟨b, hb, hx, -⟩ := DataW.trod_int (k := .i64) Tryz.underlying3 hd
  simp only [Prod.mk.injEq, DataW.lit.injEq, Lit.int.injEq, true_and] at hx
  obtain ⟨rfl, -⟩ := hx
  rw [World.var?_cell hg hv]
  have := congrArg (fun l => l[0]?) hb
  simpa using this
theorem g_kar : Tryz.prog.globalNamed "given.example/pub-alexandrine/pub/bigall.karatsubaThreshold" = some 4 := by kernel_rfl
theorem t_kar : (Tryz.prog.globals[4]?).map (·.type) = some 3 := by kernel_rfl
theorem g_bas : Tryz.prog.globalNamed "given.example/pub-alexandrine/pub/bigall.basicSqrThreshold" = some 2 := by kernel_rfl
theorem t_bas : (Tryz.prog.globals[2]?).map (·.type) = some 3 := by kernel_rfl
theorem g_kas : Tryz.prog.globalNamed "given.example/pub-alexandrine/pub/bigall.karatsubaSqrThreshold" = some 3 := by kernel_rfl
theorem t_kas : (Tryz.prog.globals[3]?).map (·.type) = some 3 := by kernel_rfl
theorem g_div : Tryz.prog.globalNamed "given.example/pub-alexandrine/pub/bigall.divRecursiveThreshold" = some 5 := by kernel_rfl
theorem t_div : (Tryz.prog.globals[5]?).map (·.type) = some 3 := by kernel_rfl
theorem g_pow : Tryz.prog.globalNamed "internal/strconv.pow10Tab" = some 8 := by kernel_rfl
theorem t_pow : (Tryz.prog.globals[8]?).map (·.type) = some 256 := by kernel_rfl
theorem g_u64 : Tryz.prog.globalNamed "internal/strconv.uint64pow10" = some 7 := by kernel_rfl
theorem t_u64 : (Tryz.prog.globals[7]?).map (·.type) = some 238 := by kernel_rfl
theorem u64_data : (Rows.laid_internal_strconv_uint64pow10 : DataW Unit) = Lib.tabData .u64 Lib.pow10Tab := by kernel_rfl
theorem tabIs_of {W : World} (h : Lib.VarReads Tryz.prog W "internal/strconv.uint64pow10" Rows.laid_internal_strconv_uint64pow10) : Lib.TabIs Tryz.prog W "internal/strconv.uint64pow10" .u64 Lib.pow10Tab := by
  rw [u64_data] at h
  obtain ⟨g, t, cs, fuel, p, hg, ht, hv, hd⟩ := h
  obtain rfl := Option.some.inj (g_u64.symm.trans hg)
  obtain rfl := Option.some.inj (t_u64.symm.trans ht)
  unfold Lib.TabIs
  rw [hv, ← Lib.cells_of_tab (n := 20) (e := 70) Tryz.underlying238 Tryz.underlying70 (by kernel_rfl) (by kernel_rfl) hd]
theorem tabQ_of {W : World} (h : Lib.VarReads Tryz.prog W "internal/strconv.pow10Tab" Rows.laid_internal_strconv_pow10Tab) : ∀ x ∈ tabQ, W.cell? ⟨8, x.1 * 2, none⟩ = some (.int .u64 (x.2.1 : Nat)) ∧ W.cell? ⟨8, x.1 * 2 + 1, none⟩ = some (.int .u64 (x.2.2 : Nat)) := by
  obtain ⟨g, t, cs, fuel, p, hg, ht, hv, hd⟩ := h
  obtain rfl := Option.some.inj (g_pow.symm.trans hg)
  obtain rfl := Option.some.inj (t_pow.symm.trans ht)
  have c242 : Tryz.prog.cellsOf 255 = 2 := by kernel_rfl
  have c22 : Tryz.prog.cellsOf 70 = 1 := by kernel_rfl
  obtain ⟨xs, m, rfl, hx, hl, hn, he⟩ := DataW.trod_array (n := 696) (e := 255) (by kernel_rfl) hd
  rw [c242] at he
  unfold Rows.laid_internal_strconv_pow10Tab Pinned.pow10Tab at hx
  simp only [Prod.mk.injEq, DataW.agg.injEq] at hx
  intro x hm
  have hrow : ∀ x ∈ tabQ, Pinned.pow10Rows[x.1]? = some (x.2.1, x.2.2) ∧ x.1 < 696 := by decide +kernel
  obtain ⟨h0, hlt⟩ := hrow x hm
  obtain ⟨i, hi, lo⟩ := x
  dsimp only at h0 hlt ⊢
  clear hrow hm
  have h1 := he i hlt
  obtain ⟨y, hy⟩ : ∃ y, xs[i]? = some y := ⟨xs[i]'(by omega), List.getElem?_eq_getElem (by omega)⟩
  rw [hy] at h1
  have h2 : (xs.map (·.1))[i]? = some (.agg [.lit (.int .u64 (hi : Nat)), .lit (.int .u64 (lo : Nat))]) := by
    rw [← hx.1, List.getElem?_map, h0]; rfl
  rw [List.getElem?_map, hy] at h2
  simp only [Option.map_some, Option.some.injEq] at h2
  obtain ⟨ys, m2, rfl, hx2, hl2, hn2, he2⟩ := DataW.trod_struct Tryz.underlying255 h1
  have e0 : DataW.trod (fun _ => ()) Tryz.prog W 0 (fun _ => true) false m2 70 ((((cs.toList.drop (i * 2)).take 2).drop 0).take (Tryz.prog.cellsOf 70)) = ys[0]? := he2 0 _ rfl
  have e1 : DataW.trod (fun _ => ()) Tryz.prog W 0 (fun _ => true) false m2 70 ((((cs.toList.drop (i * 2)).take 2).drop 1).take (Tryz.prog.cellsOf 70)) = ys[1]? := he2 1 _ rfl
  rw [c22] at e0 e1
  match ys, hn2 with
  | [y0, y1], _ =>
    simp only [List.getElem?_cons_zero, List.getElem?_cons_succ] at e0 e1
    obtain ⟨a0, ha0, rfl, -⟩ := DataW.trod_int (k := .u64) Tryz.underlying70 e0
    obtain ⟨a1, ha1, rfl, -⟩ := DataW.trod_int (k := .u64) Tryz.underlying70 e1
    rw [hx2] at h2
    simp only [List.map_cons, List.map_nil, DataW.agg.injEq, List.cons.injEq, DataW.lit.injEq, Lit.int.injEq, true_and, and_true] at h2
    obtain ⟨rfl, rfl⟩ := h2
    rw [World.var?_cell hg hv, World.var?_cell hg hv]
    constructor
    · have := congrArg (fun l => l[0]?) ha0
      simpa [List.getElem?_take] using this
    · have := congrArg (fun l => l[0]?) ha1
      simpa [List.getElem?_take] using this
end Go.Proofs.YtjcfacinlgogaaaGreatDoor
namespace Go.Proofs.YtjcfacinlgogaaaGreatDoor
open Go.ChangeShapes Go.WideShapes Go.WideElems Go.RowKit Go.Joins
theorem vars_len {H : Type} {enc : TypeId × Value → H} {P : Program} {w : World} {sp : Nat → Bool} : ∀ {ns : List String} {gs : List (DataW H)} {ps : List MemPlace}, DataW.TrodVars enc P w sp ns gs ps → gs.length = ns.length
  | [], [], _, _ => rfl
  | [], _ :: _, _, h => h.elim
  | _ :: _, [], _, h => h.elim
  | _ :: _, _ :: _, _, h => by
    obtain ⟨_, _, _, _, _, _, _, _, _, _, h, _⟩ := h
    simp [vars_len h]
theorem own : ownKnob Tryz.prog.godebug = none := by kernel_rfl
theorem laidOut : laidOutB Tryz.prog = true := by kernel_rfl
theorem of_laid {W : World} (h : laidMetH Tryz.prog Rows.fnDecCosRow.laid W) : TabK W ∧ TabC W := by
  rw [MakeChecks.laidMetH_plain _ _ _ (by kernel_rfl)] at h
  refine ⟨⟨?_, ?_, ?_, ?_⟩, ⟨?_, ?_⟩⟩
  · exact int_of_reads g_kar t_kar (Lib.laidMet.reads h (by simp [Rows.fnDecCosRow]; rfl))
  · exact int_of_reads g_bas t_bas (Lib.laidMet.reads h (by simp [Rows.fnDecCosRow]; rfl))
  · exact int_of_reads g_kas t_kas (Lib.laidMet.reads h (by simp [Rows.fnDecCosRow]; rfl))
  · exact int_of_reads g_div t_div (Lib.laidMet.reads h (by simp [Rows.fnDecCosRow]; rfl))
  · exact tabQ_of (Lib.laidMet.reads h (by simp [Rows.fnDecCosRow]))
  · exact tabIs_of (Lib.laidMet.reads h (by simp [Rows.fnDecCosRow]))
theorem lifted (os : Os) (started : os.Started) (H : Type) (enc : TypeId × Value → H) :
    ReturnsInHanded {} Tryz.checked os 3 .any (fun w args => (Rows.fnDecCosSpec.pre enc Tryz.prog Tryz.f3 [] false w args ∧ laidMetH Tryz.prog Rows.fnDecCosRow.laid w) ∧ sizedMet enc Tryz.prog Tryz.f3 (OpenSpec.ofChange Rows.fnDecCosSpec) false w args)
      (Rows.fnDecCosSpec.post enc Tryz.prog Tryz.f3 false true false false) := by
  refine returnsInHanded_of_change_and (C := Tryz.checked) (X := fun w _ => laidMetH Tryz.prog Rows.fnDecCosRow.laid w) (fun _ _ _ hh h => h.of_heap hh) own started (by kernel_rfl) Tryz.func3
    (ChangeSpec.witness_shaped (enc := enc) (C := Tryz.checked) (os := os) (X := fun w _ => laidMetH Tryz.prog Rows.fnDecCosRow.laid w) false (World.laidAll Tryz.prog os Rows.fnDecCosRow.laid) #[.agg #[.string ⟨#[]⟩, .int .i64 0]] 8 (World.laidAll_os _ _ _)
      (World.shaped_of_ZipB (by kernel_rfl) (by kernel_rfl)) (by kernel_rfl) (by kernel_rfl) (by kernel_rfl)
      (by rw [MakeChecks.laidMetH_plain _ _ _ (by kernel_rfl)]; exact laidMet_laidAll _ (by kernel_rfl) (by kernel_rfl))) ?_
  intro W base args ds gs before hval0 hW _ _ hL _
  have hval : ∀ (j : Nat) t v, Tryz.f3.params[j]? = some t → args[j]? = some v → Value.okWide Tryz.prog W .any base t v := hval0
  have hW' := hW
  obtain ⟨p, q, hA0, hV, rfl, _, _⟩ := hW
  have hA : DataW.TrodAll enc Tryz.prog W 0 (fun _ => true) true Tryz.f3.params.toList args.toList ds p := hA0
  rw [Tryz.params3] at hA hval
  obtain ⟨v0, d0, rfl, rfl, h0⟩ := trodAll_one hA
  obtain ⟨c0, c1, y0, y1, n, rfl, rfl, hp, t0, t1⟩ := open_agg2 Tryz.underlying23 (by kernel_rfl) (by kernel_rfl) (hval 0 23 v0 rfl rfl) h0
  obtain ⟨s, e0, rfl, hs⟩ := DataW.trod_string Tryz.underlying9 t0
  obtain ⟨x, e1, rfl, wx⟩ := DataW.trod_int Tryz.underlying3 t1
  simp only [List.cons.injEq, and_true] at e0 e1
  subst e0 e1
  obtain ⟨hK, hC⟩ := of_laid hL
  refine (FnDecCos_any s x W hK hC).mono fun e W' ⟨he, hg⟩ => ?_
  have hb : Below W.heap.size W W' := (Below.refl _ _).grown hg (Nat.le_refl _) (fun k e => by cases e)
  subst he
  have hlt : ∀ z ∈ p, z.block < W.heap.size := fun z hz => hW'.lt z (by simp [hz])
  have hln := vars_len hV
  match gs, hln with
  | [g1, g2, g3, g4], _ =>
    exact ⟨_, rfl, _, _, _, [], p, q, hW', trodAll_mk1 (shut_bool Tryz.underlying4 _), trodAll_mk1 (hb.trod laidOut (by kernel_rfl) (of_decide_eq_true (by kernel_rfl)) h0 hlt), hb.trodVars laidOut (by kernel_rfl) hV, hb.frame _, fun h => by cases h⟩
end Go.Proofs.YtjcfacinlgogaaaGreatDoor
namespace Go.Proofs.YtjcfacinlgogaaaGreatDoor
open Go.ChangeShapes Go.WideShapes Go.WideElems Go.RowKit Go.Joins
theorem x_fn : Tryz.pinned.checked.prog.funcNamed Rows.fnDecCosRow.func = some 3 := by kernel_rfl
theorem x_f3 : Tryz.pinned.checked.prog.funcs[3]? = some Tryz.f3 := Tryz.func3
theorem x_closed : joinedFacts Tryz.pinned.checked.prog 3 Tryz.f3 Rows.fnDecCosSpec Rows.fnDecCosRow = true := by kernel_rfl
theorem x_inst : Tryz.f3.isInstance Tryz.pinned.checked.prog Rows.fnDecCosRow.origin Rows.fnDecCosRow.targs := of_decide_eq_true (by kernel_rfl)
theorem x_wrap : Tryz.f3.isWrapper Tryz.pinned.checked.prog Rows.fnDecCosRow.wrapper Rows.fnDecCosRow.mainSum := by unfold Func.isWrapper; first | (rw [if_pos (by decide +kernel)]; kernel_rfl) | (rw [if_neg (by decide +kernel)]; exact ⟨rfl, rfl⟩)
theorem fnDecCos_holds : Rows.FnDecCosSaid :=
  OpenClaim.holds_of_wide 3 Tryz.f3 rfl rfl rfl rfl rfl rfl rfl ⟨rfl, rfl, rfl, rfl, rfl⟩ rfl rfl rfl rfl rfl x_fn x_f3 x_closed x_inst x_wrap
    (fun os started H enc _ => lifted os started H enc)
theorem card_holds : Rows.FnDecCosCardSaid :=
  Claim7.holds_tied_plain_at .later [] [.data, .data, .data, .data, .data, .data, .data, .data, .pinned, .pinned] true (true, "9b2dff3b9512db13fa1b38b9856a7e2743ee5b820fdfde1419b2e4a7d21a287b") false
    fnDecCos_holds (fun _ h => by cases h) (by kernel_rfl) (fun _ h => by cases h) fnDecCos_row_tie rfl ⟨rfl, rfl⟩ (by kernel_rfl) rfl
    (fun f fn hf hfn => by
      obtain rfl : f = 3 := Option.some.inj (x_fn.symm.trans hf) |>.symm
      obtain rfl : fn = Tryz.f3 := (Option.some.inj (Tryz.func3.symm.trans hfn)).symm
      exact ⟨by kernel_rfl, fun j t ht => by
        rw [Tryz.params3] at ht
        have hm : t ∈ [23] := by simpa using Array.mem_of_getElem? ht
        have hall : ([23].all fun u => !Tryz.prog.wantsStandIn u) = true := by kernel_rfl
        exact (show Tryz.prog.wantsStandIn t = false by simpa using List.all_eq_true.1 hall t hm)⟩)
    (by kernel_rfl)
#print axioms card_holds
end Go.Proofs.YtjcfacinlgogaaaGreatDoor
