/- shrinkBalls: the first loop's relation. -/
import Derived.Test.Qxb6613821aDoorML
namespace Go.Proofs.Qxb6613821aDoor
set_option linter.unusedVariables false
set_option linter.unusedSimpArgs false
open Ieee Go.RowKit

structure G1 (w wx : World) (H n : Nat) (BL : List (List Nat)) (D : Nat → Nat → Nat) (i t : Nat) : Prop where
  ex : ∃ vs pl pv, BM w wx H n vs (hlists n (flat BL i t)) pl (fun _ _ => 0) pv (flat BL i t).length (pcells D (flat BL i t)) ∧ BA n (flat BL i t) pl

theorem G1.next {w wx : World} {H n : Nat} {BL : List (List Nat)} {D : Nat → Nat → Nat} {i t : Nat} (h : G1 w wx H n BL D i t) (e : flat BL i t = flat BL (i + 1) 0) : G1 w wx H n BL D (i + 1) 0 := ⟨by have := h.ex; rw [e] at this; exact this⟩
theorem rowIs_made'' {w : World} {z : Value} {n : Nat} {t : TypeId} {k : Nat} (h : k = w.heap.size) : (w.alloc (.cells (madeCells #[z] n) t)).rowIs k t n (fun _ => z) := by subst h; exact World.rowIs_made w z n t
theorem rowIs_one {w : World} {z : Value} {t : TypeId} {k : Nat} (h : k = w.heap.size) : (w.alloc (.cells #[z] t)).rowIs k t 1 (fun _ => z) := by
  subst h
  refine World.rowIs_alloc w #[z] t _ (fun i hi => ?_)
  have : i = 0 := by simp at hi; omega
  subst this; rfl
theorem bm_start (w : World) (n : Nat) : BM w ((((w.alloc (.cells (madeCells #[.slice none 0 0] n) 29)).alloc (.cells (madeCells #[.int .i64 0] (n * n)) 3)).alloc (.cells (madeCells #[.int .i32 0] (n * n)) 21)).alloc (.cells #[.slice none 0 0] 43)) w.heap.size n (List.replicate n (.slice none 0 0)) (List.replicate n []) (fun _ _ => 0) (fun _ _ => 0) (.slice none 0 0) 0 [] := by
  have hN := nest_made w n
  have hF : Fr (fun _ => False) (w.alloc (.cells (madeCells #[.slice none 0 0] n) 29)) ((((w.alloc (.cells (madeCells #[.slice none 0 0] n) 29)).alloc (.cells (madeCells #[.int .i64 0] (n * n)) 3)).alloc (.cells (madeCells #[.int .i32 0] (n * n)) 21)).alloc (.cells #[.slice none 0 0] 43)) := (((Fr.refl _ _).alloc _).alloc _).alloc _
  refine ⟨(hF.block _ hN.lt (fun x => x)).trans hN.out, ⟨hN.rows.len, fun i v l hv hl => ?_, hN.rows.apart⟩, ?_, ?_, ?_, World.ownsRow_nil _ _ _ _, fun i v hv => ?_, ?_, by simp⟩
  · obtain ⟨_, rfl⟩ := List.mem_replicate.1 (List.mem_of_getElem? hv)
    obtain ⟨_, rfl⟩ := List.mem_replicate.1 (List.mem_of_getElem? hl)
    exact World.ownsRow_nil _ _ _ _
  · exact World.rowIs.alloc (World.rowIs.alloc (rowIs_made'' (by simp)) _) _
  · exact World.rowIs.alloc (rowIs_made'' (by simp)) _
  · refine rowIs_one (by simp)
  · obtain ⟨_, rfl⟩ := List.mem_replicate.1 (List.mem_of_getElem? hv)
    exact Or.inl rfl
  · exact ((((Below.refl _ _).alloc (Nat.le_refl _) _).alloc (by simp) _).alloc (by simp; omega) _).alloc (by simp; omega) _

end Go.Proofs.Qxb6613821aDoor
