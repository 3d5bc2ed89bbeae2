/- A [][]float64 that came in, opened; the listed table; a world that meets the row's condition. -/
import Derived.Test.Qxb6613821aDoorRows
import Derived.Deep.Slices
import Derived.Lib.TrailingZeros
import Derived.Lib.LaidTab
import Derived.LaidHandle
import Derived.LaidLaws
import Derived.Handed
import Derived.Carry
import Derived.ProofKit
namespace Go.Proofs.Qxb6613821aDoor
set_option linter.unusedVariables false
set_option linter.unusedSimpArgs false
open Go.ChangeShapes Go.WideShapes Go.RowKit Go.Deep

theorem Tryd.own : ownKnob Tryd.prog.godebug = none := by kernel_rfl
theorem Tryd.laidOut : laidOutB Tryd.prog = true := by kernel_rfl
theorem Tryd.cells24 : Tryd.prog.cellsOf 24 = 1 := by kernel_rfl
theorem Tryd.cells30 : Tryd.prog.cellsOf 30 = 1 := by kernel_rfl
section
variable {H : Type} {enc : TypeId × Value → H} {W : World} {base : Nat} {held : Bool}
theorem trod_float {P : Program} {spare : Nat → Bool} {fuel : Nat} {t : TypeId} {k : FloatKind} {cs : List Value} {x : DataW H × List MemPlace} (ht : P.underlying t = some (.float k)) (h : DataW.trod enc P W base spare held fuel t cs = some x) :
    ∃ n, cs = [.float k n] ∧ (Lit.float k n).wf = true := by
  cases fuel with
  | zero => simp [DataW.trod] at h
  | succ n =>
    unfold DataW.trod at h
    rw [ht] at h
    split at h <;> simp_all
theorem open_frow {fuel : Nat} {v : Value} {x : DataW H × List MemPlace} (h : DataW.trod enc Tryd.prog W base (fun _ => true) held fuel 24 [v] = some x) :
    ∃ (g : Option Addr) (len cap : Nat) (F : Nat → Nat), v = .slice g len cap ∧ len ≤ cap ∧ cap ≤ maxLen ∧ ∀ i, i < len → F i < 2 ^ 64 ∧ ∃ b p, g = some ⟨b, p, none⟩ ∧ W.cell? ⟨b, p + i, none⟩ = some (.float .f64 (F i)) := by
  rcases open_slice1 Tryd.underlying24 Tryd.cells30 h with ⟨hcs, _⟩ | ⟨a, len, cap, m, n, V, D, Pl, hcs, _, hl, hm, hmm, _, hx⟩
  · exact ⟨none, 0, 0, fun _ => 0, by simpa using hcs, Nat.le_refl _, Nat.zero_le _, fun i hi => absurd hi (by omega)⟩
  · simp only [if_true] at hmm
    obtain ⟨F, hF⟩ := choose_lt (α := Nat) (p := fun i n => V i = .float .f64 n ∧ (Lit.float .f64 n).wf = true) (fun i hi => by
      obtain ⟨n, h1, h2⟩ := trod_float Tryd.underlying30 (hx i hi).2
      exact ⟨n, by simpa using h1, h2⟩)
    refine ⟨some a, len, cap, F, by simpa using hcs, hl, hm, fun i hi => ?_⟩
    have hi2 : i < m := by omega
    obtain ⟨b, p, sp⟩ := a
    have hc := (hx i hi2).1
    have hsp : sp = none := by simpa [Addr.add] using World.cell?_spot (hx 0 (by omega)).1
    subst hsp
    have hw := (hF i hi2).2
    refine ⟨by simpa [Lit.wf] using hw, b, p, rfl, ?_⟩
    rw [(hF i hi2).1, add_plain] at hc
    exact hc
theorem open_frows {fuel : Nat} {v : Value} {x : DataW H × List MemPlace} (h : DataW.trod enc Tryd.prog W base (fun _ => true) held fuel 22 [v] = some x) :
    ∃ (go : Option Addr) (m cap b o : Nat) (rg : Nat → Option Addr) (rl rc : Nat → Nat) (d : Nat → Nat → Nat), v = .slice go m cap ∧ m ≤ maxLen ∧ (0 < m → go = some ⟨b, o, none⟩) ∧
      (∀ i, i < m → W.cell? ⟨b, o + i, none⟩ = some (.slice (rg i) (rl i) (rc i)) ∧ rl i ≤ rc i ∧ rc i ≤ maxLen) ∧
      (∀ i j, i < m → j < rl i → d i j < 2 ^ 64 ∧ ∃ g p, rg i = some ⟨g, p, none⟩ ∧ W.cell? ⟨g, p + j, none⟩ = some (.float .f64 (d i j))) := by
  rcases open_slice1 Tryd.underlying22 Tryd.cells24 h with ⟨hcs, _⟩ | ⟨a, len, cap, m, n, V, D, Pl, hcs, _, hl, hm, hmm, _, hx⟩
  · exact ⟨none, 0, 0, 0, 0, fun _ => none, fun _ => 0, fun _ => 0, fun _ _ => 0, by simpa using hcs, Nat.zero_le _, fun hi => absurd hi (by omega), fun i hi => absurd hi (by omega), fun i j hi => absurd hi (by omega)⟩
  · simp only [if_true] at hmm
    obtain ⟨y, hy⟩ := choose_lt (α := Option Addr × Nat × Nat × (Nat → Nat)) (p := fun i y => V i = .slice y.1 y.2.1 y.2.2.1 ∧ y.2.1 ≤ y.2.2.1 ∧ y.2.2.1 ≤ maxLen ∧ ∀ j, j < y.2.1 → y.2.2.2 j < 2 ^ 64 ∧ ∃ b p, y.1 = some ⟨b, p, none⟩ ∧ W.cell? ⟨b, p + j, none⟩ = some (.float .f64 (y.2.2.2 j))) (fun i hi => by
      obtain ⟨g, l, c, F, h1, h2, h3, h4⟩ := open_frow (hx i hi).2
      exact ⟨(g, l, c, F), h1, h2, h3, h4⟩)
    obtain ⟨b, o, sp⟩ := a
    refine ⟨some ⟨b, o, sp⟩, len, cap, b, o, fun i => (y i).1, fun i => (y i).2.1, fun i => (y i).2.2.1, fun i => (y i).2.2.2, by simpa using hcs, by omega, fun h0 => ?_, fun i hi => ?_, fun i j hi hj => ?_⟩
    · have hc := (hx 0 (by omega)).1
      have hsp : sp = none := by simpa [Addr.add] using World.cell?_spot hc
      rw [hsp]
    · have hi2 : i < m := by omega
      have hc := (hx i hi2).1
      have hsp : sp = none := by simpa [Addr.add] using World.cell?_spot (hx 0 (by omega)).1
      subst hsp
      rw [(hy i hi2).1, add_plain] at hc
      exact ⟨hc, (hy i hi2).2.1, (hy i hi2).2.2.1⟩
    · exact (hy i (by omega)).2.2.2 j hj
end

/-- What the walks give of one law: over whatever [][]float64, the listed table laid: true, and no old block turned. -/
def Lawful (f : FuncId) : Prop := ∀ (W : World) (go : Option Addr) (m cap b o : Nat) (rg : Nat → Option Addr) (rl rc : Nat → Nat) (d : Nat → Nat → Nat), m ≤ maxLen → (0 < m → go = some ⟨b, o, none⟩) →
  (∀ i, i < m → W.cell? ⟨b, o + i, none⟩ = some (.slice (rg i) (rl i) (rc i)) ∧ rl i ≤ rc i ∧ rc i ≤ maxLen) →
  (∀ i j, i < m → j < rl i → d i j < 2 ^ 64 ∧ ∃ g p, rg i = some ⟨g, p, none⟩ ∧ W.cell? ⟨g, p + j, none⟩ = some (.float .f64 (d i j))) →
  (∀ j, j < 64 → W.cell? ⟨1, j, none⟩ = some (.int .u8 (Lib.deBruijn64tab.getD j 0))) →
  Calls Tryd.prog f #[.slice go m cap] W fun e w' => e = .returned (.bool true) ∧ Below W.heap.size W w'
theorem Tryd.gT : Tryd.prog.globalNamed (Rows.fnShrunkOptimalCoterieUnitFreeRow.named.headD "") = some 1 := by kernel_rfl
theorem Tryd.gTType : (Tryd.prog.globals[1]?).map (·.type) = some 136 := by kernel_rfl
theorem Tryd.cells5 : Tryd.prog.cellsOf 5 = 1 := by kernel_rfl
theorem Tryd.cells136 : Tryd.prog.cellsOf 136 = 64 := by kernel_rfl

/-- What the row's condition says of the table. -/
theorem tab_of_laid {W : World} (hL : laidMetH Tryd.prog Rows.fnShrunkOptimalCoterieUnitFreeRow.laid W) : ∀ j, j < 64 → W.cell? ⟨1, j, none⟩ = some (.int .u8 (Lib.deBruijn64tab.getD j 0 : Int)) := by
  have h : laidMet Tryd.prog [(Rows.fnShrunkOptimalCoterieUnitFreeRow.named.headD "", Lib.tabData .u8 (Lib.deBruijn64tab.map fun (z : Nat) => (z : Int)))] W := hL
  have hT := Lib.tabIs_of_head Tryd.gT Tryd.gTType Tryd.underlying136 Tryd.underlying5 Tryd.cells5 Tryd.cells136 h
  intro j hj
  have hc := hT.cell Tryd.gT j (by rw [List.length_map]; exact hj)
  rw [hc, List.getD_eq_getElem?_getD, List.getElem?_map, List.getD_eq_getElem?_getD]
  cases Lib.deBruijn64tab[j]? <;> rfl
set_option maxRecDepth 100000 in
set_option maxHeartbeats 2000000 in
theorem unitFree_lifted (hF : Lawful 4) (os : Os) (started : os.Started) (H : Type) (enc : TypeId × Value → H) :
    ReturnsInHanded {} Tryd.checked os 4 .any (fun w args => (Rows.fnShrunkOptimalCoterieUnitFreeSpec.pre enc Tryd.prog Tryd.f4 [] false w args ∧ laidMetH Tryd.prog Rows.fnShrunkOptimalCoterieUnitFreeRow.laid w) ∧ sizedMet enc Tryd.prog Tryd.f4 (OpenSpec.ofChange Rows.fnShrunkOptimalCoterieUnitFreeSpec) false w args)
      (Rows.fnShrunkOptimalCoterieUnitFreeSpec.post enc Tryd.prog Tryd.f4 false true false false) := by
  -- the settled world, the table (block 1) holding what its initialiser lays: the witness
  obtain ⟨w0, hw0⟩ : ∃ w0 : World, w0 = { World.holding Tryd.prog os ⟨#[], #[], []⟩ with heap := (World.holding Tryd.prog os ⟨#[], #[], []⟩).heap.modify 1 fun
      | .cells _ t frozen => .cells (Lib.deBruijn64tab.map fun (z : Nat) => Value.int .u8 (z : Int)).toArray t frozen
      | o => o } := ⟨_, rfl⟩
  have hmet : laidMetH Tryd.prog Rows.fnShrunkOptimalCoterieUnitFreeRow.laid (w0.forCall (fun _ _ => 0) ⟨#[], #[.slice none 0 0], []⟩).memory := by
    rw [hw0]
    exact laidMet_of_run' 8 (by kernel_rfl) (by kernel_rfl)
  refine returnsInHanded_of_change_and (C := Tryd.checked) (X := fun w _ => laidMetH Tryd.prog Rows.fnShrunkOptimalCoterieUnitFreeRow.laid w) (fun _ _ _ hh h => h.of_heap hh) Tryd.own started (by kernel_rfl) Tryd.func4
    (ChangeSpec.witness_at (enc := enc) (C := Tryd.checked) (os := os) (X := fun w _ => laidMetH Tryd.prog Rows.fnShrunkOptimalCoterieUnitFreeRow.laid w) false w0 #[.slice none 0 0] 8 (by rw [hw0]; rfl) (by rw [hw0]; kernel_rfl) (by rw [hw0]; kernel_rfl) (by rw [hw0]; kernel_rfl) (by rw [hw0]; kernel_rfl) (by rw [hw0]; kernel_rfl) hmet) ?_
  intro W base args ds gs before hval0 hW _ _ hL _
  have hval : ∀ (j : Nat) t v, Tryd.f4.params[j]? = some t → args[j]? = some v → Value.okWide Tryd.prog W .any base t v := hval0
  have hW' := hW
  obtain ⟨p, q, hA0, hV0, rfl, hfz, hnd⟩ := hW
  have hA : DataW.TrodAll enc Tryd.prog W 0 (fun _ => true) true Tryd.f4.params.toList args.toList ds p := hA0
  have hV : DataW.TrodVars enc Tryd.prog W (fun _ => true) [] gs q := hV0
  rw [Tryd.params4] at hA hval
  obtain ⟨v0, d0, rfl, rfl, h0⟩ := trodAll_one hA
  obtain ⟨rfl, rfl⟩ : gs = [] ∧ q = [] := by
    cases gs with
    | nil => exact ⟨rfl, hV⟩
    | cons g r => exact absurd hV (by intro h; cases h)
  have h0k := h0
  obtain ⟨g0, l0, c0, rfl⟩ := okWide_slice Tryd.underlying22 (hval 0 22 v0 rfl rfl)
  obtain ⟨fuel, hf⟩ := h0
  obtain ⟨go, m, cap, b, o, rg, rl, rc, d, hv, hm, hgo, hrow, hel⟩ := open_frows (v := .slice g0 l0 c0) hf
  cases hv
  refine (hF W g0 l0 c0 b o rg rl rc d hm hgo hrow hel (tab_of_laid hL)).mono fun e W' ⟨he, hb⟩ => ?_
  subst he
  refine ⟨_, rfl, _, _, _, [], p, [], hW', ?_, ?_, rfl, hb.frame _, fun h => by cases h⟩
  · exact trodAll_mk1 (shut_bool Tryd.underlying4 true)
  · exact trodAll_mk1 (Below.trod Tryd.laidOut (by kernel_rfl) (of_decide_eq_true (by kernel_rfl)) h0k hb (fun x hx => by simpa using hW'.lt x (by simpa using hx)))
end Go.Proofs.Qxb6613821aDoor
