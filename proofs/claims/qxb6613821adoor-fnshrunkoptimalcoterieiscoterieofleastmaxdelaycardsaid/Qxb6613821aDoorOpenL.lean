/- The row of IsCoterieOfLeastMaxDelay, out of the walk. -/
import Derived.Test.Qxb6613821aDoorOpen
namespace Go.Proofs.Qxb6613821aDoor
set_option linter.unusedVariables false
set_option linter.unusedSimpArgs false
open Go.ChangeShapes Go.WideShapes Go.RowKit Go.Deep

set_option maxRecDepth 100000 in
set_option maxHeartbeats 2000000 in
theorem least_lifted (hF : Lawful 3) (os : Os) (started : os.Started) (H : Type) (enc : TypeId × Value → H) :
    ReturnsInHanded {} Tryd.checked os 3 .any (fun w args => (Rows.fnShrunkOptimalCoterieIsCoterieOfLeastMaxDelaySpec.pre enc Tryd.prog Tryd.f3 [] false w args ∧ laidMetH Tryd.prog Rows.fnShrunkOptimalCoterieIsCoterieOfLeastMaxDelayRow.laid w) ∧ sizedMet enc Tryd.prog Tryd.f3 (OpenSpec.ofChange Rows.fnShrunkOptimalCoterieIsCoterieOfLeastMaxDelaySpec) false w args)
      (Rows.fnShrunkOptimalCoterieIsCoterieOfLeastMaxDelaySpec.post enc Tryd.prog Tryd.f3 false true false false) := by
  -- the settled world, the table (block 1) holding what its initialiser lays: the witness
  obtain ⟨w0, hw0⟩ : ∃ w0 : World, w0 = { World.holding Tryd.prog os ⟨#[], #[], []⟩ with heap := (World.holding Tryd.prog os ⟨#[], #[], []⟩).heap.modify 1 fun
      | .cells _ t frozen => .cells (Lib.deBruijn64tab.map fun (z : Nat) => Value.int .u8 (z : Int)).toArray t frozen
      | o => o } := ⟨_, rfl⟩
  have hmet : laidMetH Tryd.prog Rows.fnShrunkOptimalCoterieIsCoterieOfLeastMaxDelayRow.laid (w0.forCall (fun _ _ => 0) ⟨#[], #[.slice none 0 0], []⟩).memory := by
    rw [hw0]
    exact laidMet_of_run' 8 (by kernel_rfl) (by kernel_rfl)
  refine returnsInHanded_of_change_and (C := Tryd.checked) (X := fun w _ => laidMetH Tryd.prog Rows.fnShrunkOptimalCoterieIsCoterieOfLeastMaxDelayRow.laid w) (fun _ _ _ hh h => h.of_heap hh) Tryd.own started (by kernel_rfl) Tryd.func3
    (ChangeSpec.witness_at (enc := enc) (C := Tryd.checked) (os := os) (X := fun w _ => laidMetH Tryd.prog Rows.fnShrunkOptimalCoterieIsCoterieOfLeastMaxDelayRow.laid w) false w0 #[.slice none 0 0] 8 (by rw [hw0]; rfl) (by rw [hw0]; kernel_rfl) (by rw [hw0]; kernel_rfl) (by rw [hw0]; kernel_rfl) (by rw [hw0]; kernel_rfl) (by rw [hw0]; kernel_rfl) hmet) ?_
  intro W base args ds gs before hval0 hW _ _ hL _
  have hval : ∀ (j : Nat) t v, Tryd.f3.params[j]? = some t → args[j]? = some v → Value.okWide Tryd.prog W .any base t v := hval0
  have hW' := hW
  obtain ⟨p, q, hA0, hV0, rfl, hfz, hnd⟩ := hW
  have hA : DataW.TrodAll enc Tryd.prog W 0 (fun _ => true) true Tryd.f3.params.toList args.toList ds p := hA0
  have hV : DataW.TrodVars enc Tryd.prog W (fun _ => true) [] gs q := hV0
  rw [Tryd.params3] at hA hval
  obtain ⟨v0, d0, rfl, rfl, h0⟩ := trodAll_one hA
  obtain ⟨rfl, rfl⟩ : gs = [] ∧ q = [] := by
    cases gs with
    | nil => exact ⟨rfl, hV⟩
    | cons g r => exact absurd hV (by intro h; cases h)
  have h0k := h0
  obtain ⟨g0, l0, c0, rfl⟩ := okWide_slice Tryd.underlying22 (hval 0 22 v0 rfl rfl)
  obtain ⟨fuel, hf⟩ := h0
  obtain ⟨go, m, cap, b, o, rg, rl, rc, d, hv, hm, hgo, hrow, hel⟩ := open_frows (v := .slice g0 l0 c0) hf
  cases hv
  refine (hF W g0 l0 c0 b o rg rl rc d hm hgo hrow hel (tab_of_laid (show laidMetH Tryd.prog Rows.fnShrunkOptimalCoterieUnitFreeRow.laid W from hL))).mono fun e W' ⟨he, hb⟩ => ?_
  subst he
  refine ⟨_, rfl, _, _, _, [], p, [], hW', ?_, ?_, rfl, hb.frame _, fun h => by cases h⟩
  · exact trodAll_mk1 (shut_bool Tryd.underlying4 true)
  · exact trodAll_mk1 (Below.trod Tryd.laidOut (by kernel_rfl) (of_decide_eq_true (by kernel_rfl)) h0k hb (fun x hx => by simpa using hW'.lt x (by simpa using hx)))
end Go.Proofs.Qxb6613821aDoor
