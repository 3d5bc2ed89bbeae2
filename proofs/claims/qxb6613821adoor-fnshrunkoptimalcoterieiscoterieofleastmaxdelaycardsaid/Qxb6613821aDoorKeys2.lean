/- The keys behind an exchange. -/
import Derived.Test.Qxb6613821aDoorSwap
namespace Go.Proofs.Qxb6613821aDoor
set_option linter.unusedVariables false
set_option linter.unusedSimpArgs false
open Ieee Go.RowKit Go.Sort Go.Lib

theorem get_swp (d : Array Nat) (i j k : Nat) (hi : i < d.size) (hj : j < d.size) : (swp d i j)[k]! = if k = j then d[i]! else if k = i then d[j]! else d[k]! := by
  unfold swp
  simp only [Array.getElem!_eq_getD, Array.getD_eq_getD_getElem?, Array.getElem?_setIfInBounds, Array.size_setIfInBounds]
  by_cases h1 : k = j
  · subst h1; simp [hj]
  · rw [if_neg h1]
    have h1' : ¬ j = k := fun x => h1 x.symm
    rw [if_neg h1']
    by_cases h2 : k = i
    · subst h2; simp [hi]
    · have h2' : ¬ i = k := fun x => h2 x.symm
      rw [if_neg h2', if_neg h2]

theorem kc_swp (bt sz : Nat → Nat) (wd : Nat) (d : Array Nat) (i j o : Nat) (hi : i < d.size) (hj : j < d.size) :
    (if o = j * 3 + 2 then Value.int .i64 (d[i]! : Int) else if o = j * 3 + 1 then .int .u64 (bt (d[i]! * wd) : Int) else if o = j * 3 then .int .i64 (sz d[i]! : Int) else
      if o = i * 3 + 2 then .int .i64 (d[j]! : Int) else if o = i * 3 + 1 then .int .u64 (bt (d[j]! * wd) : Int) else if o = i * 3 then .int .i64 (sz d[j]! : Int) else kc bt sz wd d o) = kc bt sz wd (swp d i j) o := by
  unfold kc
  rw [get_swp d i j _ hi hj]
  have hm : o % 3 = 0 ∨ o % 3 = 1 ∨ o % 3 = 2 := by omega
  rcases hm with hm | hm | hm
  · rw [if_neg (by omega), if_neg (by omega)]
    by_cases h1 : o = j * 3
    · rw [if_pos h1, if_pos hm, if_pos (by omega)]
    · rw [if_neg h1, if_neg (by omega), if_neg (by omega)]
      by_cases h2 : o = i * 3
      · rw [if_pos h2, if_pos hm, if_neg (by omega), if_pos (by omega)]
      · rw [if_neg h2, if_pos hm, if_pos hm, if_neg (by omega), if_neg (by omega)]
  · rw [if_neg (by omega)]
    by_cases h1 : o = j * 3 + 1
    · rw [if_pos h1, if_neg (by omega), if_pos hm, if_pos (by omega)]
    · rw [if_neg h1, if_neg (by omega), if_neg (by omega)]
      by_cases h2 : o = i * 3 + 1
      · rw [if_pos h2, if_neg (by omega), if_pos hm, if_neg (by omega), if_pos (by omega)]
      · rw [if_neg h2, if_neg (by omega), if_neg (by omega), if_pos hm, if_neg (by omega), if_pos hm, if_neg (by omega), if_neg (by omega)]
  · by_cases h1 : o = j * 3 + 2
    · rw [if_pos h1, if_neg (by omega), if_neg (by omega), if_pos (by omega)]
    · rw [if_neg h1, if_neg (by omega), if_neg (by omega)]
      by_cases h2 : o = i * 3 + 2
      · rw [if_pos h2, if_neg (by omega), if_neg (by omega), if_neg (by omega), if_pos (by omega)]
      · rw [if_neg h2, if_neg (by omega), if_neg (by omega), if_neg (by omega), if_neg (by omega), if_neg (by omega), if_neg (by omega), if_neg (by omega), if_neg (by omega)]

theorem rowIs_drewN {w : World} {b : Nat} {t : TypeId} {n : Nat} {f : Nat → Value} (h : w.rowIs b t n f) (k : Nat) : (w.drewN k).rowIs b t n f := h.of_block rfl
theorem grown_set {W W' : World} {kb : Nat} (h : W.grownBy W' (some kb)) (o : Nat) (v : Value) : W.grownBy (W'.setCell ⟨kb, o, none⟩ v) (some kb) :=
  ⟨h.os, h.tape, h.output, by simpa using h.size, fun b hb hne => (heap_setCell_other W' ⟨kb, o, none⟩ b v (fun x => hne (by rw [x]))).trans (h.block b hb hne)⟩
set_option maxHeartbeats 1000000 in
theorem KeysAt.swapped {W0 : World} {wb kb bb sb n wd M : Nat} {bt sz : Nat → Nat} (hkb : wb ≠ kb) (hbb : bb ≠ kb) (hsb : sb ≠ kb) {d : Array Nat} {W : World} (h : KeysAt W0 wb kb bb sb n wd M bt sz d W) (i j : Nat) (hi : i < n) (hj : j < n) (k : Nat) :
    KeysAt W0 wb kb bb sb n wd M bt sz (swp d i j) (((((((W.setCell ⟨kb, i * 3, none⟩ (.int .i64 (sz d[j]! : Int))).setCell ⟨kb, i * 3 + 1, none⟩ (.int .u64 (bt (d[j]! * wd) : Int))).setCell ⟨kb, i * 3 + 2, none⟩ (.int .i64 (d[j]! : Int))).setCell ⟨kb, j * 3, none⟩ (.int .i64 (sz d[i]! : Int))).setCell ⟨kb, j * 3 + 1, none⟩ (.int .u64 (bt (d[i]! * wd) : Int))).setCell ⟨kb, j * 3 + 2, none⟩ (.int .i64 (d[i]! : Int))).drewN k) := by
  have hg : W.grownBy (((((((W.setCell ⟨kb, i * 3, none⟩ (.int .i64 (sz d[j]! : Int))).setCell ⟨kb, i * 3 + 1, none⟩ (.int .u64 (bt (d[j]! * wd) : Int))).setCell ⟨kb, i * 3 + 2, none⟩ (.int .i64 (d[j]! : Int))).setCell ⟨kb, j * 3, none⟩ (.int .i64 (sz d[i]! : Int))).setCell ⟨kb, j * 3 + 1, none⟩ (.int .u64 (bt (d[i]! * wd) : Int))).setCell ⟨kb, j * 3 + 2, none⟩ (.int .i64 (d[i]! : Int))).drewN k) (some kb) := by
    exact grown_drew (grown_set (grown_set (grown_set (grown_set (grown_set (grown_set (grown_refl W (some kb)) _ _) _ _) _ _) _ _) _ _) _ _) k
  have hrow : World.rowIs (((((((W.setCell ⟨kb, i * 3, none⟩ (.int .i64 (sz d[j]! : Int))).setCell ⟨kb, i * 3 + 1, none⟩ (.int .u64 (bt (d[j]! * wd) : Int))).setCell ⟨kb, i * 3 + 2, none⟩ (.int .i64 (d[j]! : Int))).setCell ⟨kb, j * 3, none⟩ (.int .i64 (sz d[i]! : Int))).setCell ⟨kb, j * 3 + 1, none⟩ (.int .u64 (bt (d[i]! * wd) : Int))).setCell ⟨kb, j * 3 + 2, none⟩ (.int .i64 (d[i]! : Int))).drewN k) kb 107 (3 * n) _ :=
    rowIs_drewN ((((((h.row.set (i * 3) _).set (i * 3 + 1) _).set (i * 3 + 2) _).set (j * 3) _).set (j * 3 + 1) _).set (j * 3 + 2) _) k
  generalize (((((((W.setCell ⟨kb, i * 3, none⟩ (.int .i64 (sz d[j]! : Int))).setCell ⟨kb, i * 3 + 1, none⟩ (.int .u64 (bt (d[j]! * wd) : Int))).setCell ⟨kb, i * 3 + 2, none⟩ (.int .i64 (d[j]! : Int))).setCell ⟨kb, j * 3, none⟩ (.int .i64 (sz d[i]! : Int))).setCell ⟨kb, j * 3 + 1, none⟩ (.int .u64 (bt (d[i]! * wd) : Int))).setCell ⟨kb, j * 3 + 2, none⟩ (.int .i64 (d[i]! : Int))).drewN k) = W9 at *
  have hs := h.size
  refine ⟨by rw [size_swp]; exact hs, fun t ht => ?_, hg.cell h.f0 (by simpa using hkb), hg.cell h.f1 (by simpa using hkb), hg.cell h.f2 (by simpa using hkb), hg.cell h.f3 (by simpa using hkb), h.fam.grown hg (by simpa using hbb) (by simpa using hsb), ?_, ?_⟩
  · rw [get_swp d i j t (by omega) (by omega)]
    split
    · exact h.lt i hi
    · split
      · exact h.lt j hj
      · exact h.lt t ht
  · refine hrow.congr (fun o _ => ?_)
    exact kc_swp bt sz wd d i j o (by omega) (by omega)
  · exact ⟨hg.os.trans h.old.os, hg.tape.trans h.old.tape, hg.output.trans h.old.output, Nat.le_trans h.old.size hg.size, fun b hb hne => (hg.block b (Nat.lt_of_lt_of_le hb h.old.size) hne).trans (h.old.block b hb hne)⟩
end Go.Proofs.Qxb6613821aDoor
