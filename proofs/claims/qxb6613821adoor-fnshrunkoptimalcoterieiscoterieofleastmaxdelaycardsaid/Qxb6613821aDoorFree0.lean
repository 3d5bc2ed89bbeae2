/- The doubled matrix in memory. -/
import Derived.Test.Qxb6613821aDoorMetric
import Derived.Test.Qxb6613821aDoorDbl2
namespace Go.Proofs.Qxb6613821aDoor
set_option linter.unusedVariables false
set_option linter.unusedSimpArgs false
open Ieee Go.RowKit

theorem GM.keep {w w' : World} {b o m : Nat} {rg : Nat → Option Addr} {rl rc : Nat → Nat} {d : Nat → Nat → Nat} (h : GM w b o m rg rl rc d) (hb : Below w.heap.size w w') : GM w' b o m rg rl rc d :=
  ⟨fun i hi => (hb.cell (World.block_lt_of_cell? _ _ (h.row i hi))).trans (h.row i hi),
   fun i j hi hj => by
     obtain ⟨g, p, e, hc⟩ := h.el i j hi hj
     exact ⟨g, p, e, (hb.cell (World.block_lt_of_cell? _ _ hc)).trans hc⟩, h.len, h.cap⟩
/-- The block and offset of a row. -/
def rbOf (rg : Nat → Option Addr) (i : Nat) : Nat := match rg i with | some ⟨g, _, _⟩ => g | none => 0
def roOf (rg : Nat → Option Addr) (i : Nat) : Nat := match rg i with | some ⟨_, p, _⟩ => p | none => 0
theorem GM.mat {w : World} {b o m : Nat} {rg : Nat → Option Addr} {rl rc : Nat → Nat} {d : Nat → Nat → Nat} (h : GM w b o m rg rl rc d) (hsq : ∀ i, i < m → rl i = m) (hm : 0 < m) : MatAt w b o m (rbOf rg) (roOf rg) rc d := by
  have key : ∀ i j, i < m → j < m → rg i = some ⟨rbOf rg i, roOf rg i, none⟩ ∧ w.cell? ⟨rbOf rg i, roOf rg i + j, none⟩ = some (.float .f64 (d i j)) := fun i j hi hj => by
    obtain ⟨g, p, e, hc⟩ := h.el i j hi (by rw [hsq i hi]; exact hj)
    have e1 : rbOf rg i = g := by unfold rbOf; rw [e]
    have e2 : roOf rg i = p := by unfold roOf; rw [e]
    rw [e1, e2]
    exact ⟨e, hc⟩
  refine ⟨fun i hi => ?_, fun i j hi hj => (key i j hi hj).2⟩
  have := h.row i hi
  rw [(key i 0 hi hm).1, hsq i hi] at this
  exact this

/-- The doubled matrix, its first i rows done. -/
structure TwAt (w : World) (tb n i : Nat) (d : Nat → Nat → Nat) : Prop where
  out : w.rowIs tb 24 n (fun k => if k < i then .slice (some ⟨tb + 1 + k, 0, none⟩) n n else .slice none 0 0)
  rows : ∀ k, k < i → w.rowIs (tb + 1 + k) 30 n (fun j => .float .f64 (dbl (d k j)))
  size : w.heap.size = tb + 1 + i
/-- And the first j places of row i. -/
structure TwRow (w : World) (tb n i j : Nat) (d : Nat → Nat → Nat) : Prop where
  out : w.rowIs tb 24 n (fun k => if k < i + 1 then .slice (some ⟨tb + 1 + k, 0, none⟩) n n else .slice none 0 0)
  rows : ∀ k, k < i → w.rowIs (tb + 1 + k) 30 n (fun j => .float .f64 (dbl (d k j)))
  cur : w.rowIs (tb + 1 + i) 30 n (fun c => if c < j then .float .f64 (dbl (d i c)) else .float .f64 0)
  size : w.heap.size = tb + 1 + (i + 1)
theorem TwAt.start (w : World) (n : Nat) (d : Nat → Nat → Nat) : TwAt (w.alloc (.cells (madeCells #[.slice none 0 0] n) 24)) w.heap.size n 0 d :=
  ⟨(World.rowIs_made w (.slice none 0 0) n 24).congr (fun i _ => by simp), fun k hk => absurd hk (by omega), by simp⟩
theorem TwAt.row {w : World} {tb n i : Nat} {d : Nat → Nat → Nat} (h : TwAt w tb n i d) : TwRow ((w.setCell ⟨tb, i, none⟩ (.slice (some ⟨w.heap.size, 0, none⟩) n n)).alloc (.cells (madeCells #[.float .f64 0] n) 30)) tb n i 0 d := by
  refine ⟨((h.out.set i _).alloc _).congr (fun k _ => ?_), fun k hk => ((h.rows k hk).setOther (by show tb + 1 + k ≠ tb; omega) _).alloc _, ?_, ?_⟩
  · by_cases e : k = i
    · subst e; simp [h.size]
    · by_cases e2 : k < i
      · simp [e, e2, show k < i + 1 from by omega]
      · simp [e, e2, show ¬ k < i + 1 from by omega]
  · have := World.rowIs_made (w.setCell ⟨tb, i, none⟩ (.slice (some ⟨w.heap.size, 0, none⟩) n n)) (.float .f64 0) n 30
    rw [show (w.setCell ⟨tb, i, none⟩ (.slice (some ⟨w.heap.size, 0, none⟩) n n)).heap.size = tb + 1 + i from by simp [h.size]] at this
    exact this.congr (fun c _ => by simp)
  · simp [h.size]; omega
theorem TwRow.next {w : World} {tb n i j : Nat} {d : Nat → Nat → Nat} (h : TwRow w tb n i j d) : TwRow (w.setCell ⟨tb + 1 + i, j, none⟩ (.float .f64 (dbl (d i j)))) tb n i (j + 1) d := by
  refine ⟨h.out.setOther (by show tb ≠ tb + 1 + i; omega) _, fun k hk => (h.rows k hk).setOther (by show tb + 1 + k ≠ tb + 1 + i; omega) _, (h.cur.set j _).congr (fun c _ => ?_), by simp [h.size]⟩
  by_cases e : c = j
  · subst e; simp
  · by_cases e2 : c < j
    · simp [e, e2, show c < j + 1 from by omega]
    · simp [e, e2, show ¬ c < j + 1 from by omega]
theorem TwRow.drewN {w : World} {tb n i j : Nat} {d : Nat → Nat → Nat} (h : TwRow w tb n i j d) (k : Nat) : TwRow (w.drewN k) tb n i j d := ⟨h.out, h.rows, h.cur, h.size⟩
theorem TwRow.full {w : World} {tb n i : Nat} {d : Nat → Nat → Nat} (h : TwRow w tb n i n d) : TwAt w tb n (i + 1) d := by
  refine ⟨h.out, fun k hk => ?_, h.size⟩
  by_cases e : k = i
  · subst e; exact h.cur.congr (fun c hc => by simp [hc])
  · exact h.rows k (by omega)
theorem TwAt.mat {w : World} {tb n : Nat} {d : Nat → Nat → Nat} (h : TwAt w tb n n d) : MatAt w tb 0 n (fun k => tb + 1 + k) (fun _ => 0) (fun _ => n) (fun i j => dbl (d i j)) := by
  refine ⟨fun i hi => ?_, fun i j hi hj => ?_⟩
  · have := h.out.cell hi
    rw [Nat.zero_add]
    simpa [hi] using this
  · have := (h.rows i hi).cell hj
    simpa using this
theorem info24 : (Tryd.prog.info? 24).map (fun i => (i.zero, i.size, i.bytes)) = some (some (.slice none 0 0), 1, 24) := by kernel_rfl
theorem info30 : (Tryd.prog.info? 30).map (fun i => (i.zero, i.size, i.bytes)) = some (some (.float .f64 0), 1, 8) := by kernel_rfl
theorem filter_len_le {α : Type} (p : α → Bool) (l : List α) {n : Nat} (h : l.length ≤ n) : (l.filter p).length ≤ n := Nat.le_trans (List.length_filter_le _ _) h
theorem kept_len (L : List (List Nat)) (n : Nat) : (kept L n).length ≤ n := by
  unfold kept klist
  exact filter_len_le _ _ (by simp)
theorem quorums_len (D : Nat → Nat → Nat) (n : Nat) : (quorums D n).length ≤ n := by
  unfold quorums
  rw [List.length_map]
  exact kept_len _ _
theorem quorums_short (D : Nat → Nat → Nat) (n : Nat) : ∀ l ∈ quorums D n, l.length ≤ n := fun l hl => by
  unfold quorums at hl
  rw [List.mem_map] at hl
  obtain ⟨k, _, rfl⟩ := hl
  rw [List.getD_eq_getElem?_getD]
  cases h : (leftB D n)[k]? with
  | none => simp
  | some l => exact leftB_short D n k l h
theorem diag_q {x : Nat} (h : nf x = true) (h0 : (FloatKind.f64.format.order x 0 != some .eq) = false) : q x = 0 := by
  have e : FloatKind.f64.format.order x 0 = some (compare (q x) (q 0)) := order_q h (by decide +kernel)
  rw [e] at h0
  have e2 : q 0 = 0 := by decide +kernel
  rw [e2] at h0
  cases hc : compare (q x) 0 with
  | eq => exact Nat.compare_eq_eq.1 hc
  | lt => rw [hc] at h0; simp at h0
  | gt => rw [hc] at h0; simp at h0
end Go.Proofs.Qxb6613821aDoor
