/- FnBothFloat: whatever the input, the law answers true. Conditions: none beyond the row's own (the listed variables hold what the program's text lays). -/
import Derived.Test.YtndphemomhcjlaaGreatDoorQ28
import Derived.Test.YtndphemomhcjlaaGreatDoorTie
import Derived.Test.YtndphemomhcjlaaGreatDoorCards
import Derived.Lay
import Derived.ProofKit
import Derived.OpenVars
import Derived.SevenTiedAt
import Derived.Lib.SmallJoins
set_option linter.all false

namespace Go.Proofs.YtndphemomhcjlaaGreatDoor
open Go.ChangeShapes Go.WideShapes Go.WideElems Go.RowKit Go.Joins

theorem vars_len {H : Type} {enc : TypeId × Value → H} {P : Program} {w : World} {sp : Nat → Bool} : ∀ {ns : List String} {gs : List (DataW H)} {ps : List MemPlace}, DataW.TrodVars enc P w sp ns gs ps → gs.length = ns.length
  | [], [], _, _ => rfl
  | [], _ :: _, _, h => h.elim
  | _ :: _, [], _, h => h.elim
  | _ :: _, _ :: _, _, h => by
    obtain ⟨_, _, _, _, _, _, _, _, _, _, h, _⟩ := h
    simp [vars_len h]
theorem own : ownKnob Tryz.prog.godebug = none := by kernel_rfl
theorem laidOut : laidOutB Tryz.prog = true := by kernel_rfl

theorem of_laid {W : World} (h : laidMetH Tryz.prog Rows.fnBothFloatRow.laid W) : TabS W ∧ TabP W ∧ 16 < W.heap.size ∧ TabF W := by
  rw [MakeChecks.laidMetH_plain _ _ _ (by kernel_rfl)] at h
  have hP := tabP_of (Lib.laidMet.reads h (by simp [Rows.fnBothFloatRow]))
  exact ⟨tabS_of (Lib.laidMet.reads h (by simp [Rows.fnBothFloatRow])) (Lib.laidMet.reads h (by simp [Rows.fnBothFloatRow])) (Lib.laidMet.reads h (by simp [Rows.fnBothFloatRow])), hP, World.block_lt_of_cell? _ _ (hP 0 (by decide)).1, tabF_of (Lib.laidMet.reads h (by simp [Rows.fnBothFloatRow]))⟩

set_option maxRecDepth 100000 in
theorem lifted (os : Os) (started : os.Started) (H : Type) (enc : TypeId × Value → H) :
    ReturnsInHanded {} Tryz.checked os 3 .any (fun w args => (Rows.fnBothFloatSpec.pre enc Tryz.prog Tryz.f3 [] false w args ∧ laidMetH Tryz.prog Rows.fnBothFloatRow.laid w) ∧ sizedMet enc Tryz.prog Tryz.f3 (OpenSpec.ofChange Rows.fnBothFloatSpec) false w args)
      (Rows.fnBothFloatSpec.post enc Tryz.prog Tryz.f3 false true false false) := by
  refine returnsInHanded_of_change_and (C := Tryz.checked) (X := fun w _ => laidMetH Tryz.prog Rows.fnBothFloatRow.laid w) (fun _ _ _ hh h => h.of_heap hh) own started (by kernel_rfl) Tryz.func3
    (ChangeSpec.witness_shaped (enc := enc) (C := Tryz.checked) (os := os) (X := fun w _ => laidMetH Tryz.prog Rows.fnBothFloatRow.laid w) false (World.laidAll Tryz.prog os Rows.fnBothFloatRow.laid) #[.agg #[.bool false, .int .u64 0, .int .i64 0]] 8 (World.laidAll_os _ _ _)
      (World.shaped_of_ZipB (by kernel_rfl) (by kernel_rfl)) (by kernel_rfl) (by kernel_rfl) (by kernel_rfl)
      (by rw [MakeChecks.laidMetH_plain _ _ _ (by kernel_rfl)]; exact laidMet_laidAll _ (by kernel_rfl) (by kernel_rfl))) ?_
  intro W base args ds gs before hval0 hW _ _ hL _
  have hval : ∀ (j : Nat) t v, Tryz.f3.params[j]? = some t → args[j]? = some v → Value.okWide Tryz.prog W .any base t v := hval0
  have hW' := hW
  obtain ⟨p, q, hA0, hV, rfl, _, _⟩ := hW
  have hA : DataW.TrodAll enc Tryz.prog W 0 (fun _ => true) true Tryz.f3.params.toList args.toList ds p := hA0
  rw [Tryz.params3] at hA hval
  obtain ⟨v0, d0, rfl, rfl, h0⟩ := trodAll_one hA
  obtain ⟨c0, c1, c2, y0, y1, y2, n, rfl, rfl, hp, t0, t1, t2⟩ := open_agg3 Tryz.underlying24 (by kernel_rfl) (by kernel_rfl) (hval 0 24 v0 rfl rfl) h0
  obtain ⟨neg, e0, rfl⟩ := DataW.trod_bool Tryz.underlying4 t0
  obtain ⟨c, e1, rfl, wc⟩ := DataW.trod_int Tryz.underlying22 t1
  obtain ⟨x, e2, rfl, wx⟩ := DataW.trod_int Tryz.underlying3 t2
  simp only [List.cons.injEq, and_true] at e0 e1 e2
  subst e0 e1 e2
  have hc : 0 ≤ c ∧ c ≤ 18446744073709551615 := by simpa [Lit.wf, IntKind.min, IntKind.max, IntKind.signed, IntKind.bits] using wc
  obtain ⟨cn, rfl⟩ : ∃ cn : Nat, c = cn := ⟨c.toNat, by omega⟩
  obtain ⟨hS, hP, hPb, hT⟩ := of_laid hL
  refine (bothFloat_any neg cn x W (by omega) hS hP hPb hT).mono fun e W' ⟨he, hg⟩ => ?_
  have hb : Below W.heap.size W W' := (Below.refl _ _).grown hg (Nat.le_refl _) (fun k e => by cases e)
  subst he
  have hlt : ∀ z ∈ p, z.block < W.heap.size := fun z hz => hW'.lt z (by simp [hz])
  have hln := vars_len hV
  match gs, hln with
  | [g1, g2, g3, g4, g5, g6, g7], _ =>
    exact ⟨_, rfl, _, _, _, [], p, q, hW', trodAll_mk1 (shut_bool Tryz.underlying4 _), trodAll_mk1 (hb.trod laidOut (by kernel_rfl) (of_decide_eq_true (by kernel_rfl)) h0 hlt), hb.trodVars laidOut (by kernel_rfl) hV, hb.frame _, fun h => by cases h⟩

end Go.Proofs.YtndphemomhcjlaaGreatDoor
