/- shrinkBalls: what is left of the balls. -/
import Derived.Test.Qxb6613821aDoorL9
namespace Go.Proofs.Qxb6613821aDoor
set_option linter.unusedVariables false
set_option linter.unusedSimpArgs false
open Ieee Go.RowKit

/-- What is left, as it is gathered. -/
def RL (BL : List (List Nat)) (h : Nat → Nat → Bool) (n i t : Nat) : List (List Nat) := (List.range n).map fun a => if a < i then (BL.getD a []).filter (h a) else if a = i then ((BL.getD i []).take t).filter (h i) else []
def leftOf (BL : List (List Nat)) (h : Nat → Nat → Bool) (n : Nat) : List (List Nat) := (List.range n).map fun a => (BL.getD a []).filter (h a)
theorem RL_len (BL : List (List Nat)) (h : Nat → Nat → Bool) (n i t : Nat) : (RL BL h n i t).length = n := by simp [RL]
theorem RL_start (BL : List (List Nat)) (h : Nat → Nat → Bool) (n : Nat) : RL BL h n 0 0 = List.replicate n [] := by
  unfold RL
  apply List.ext_getElem?
  intro i
  by_cases hi : i < n
  · simp [hi]
  · simp [hi]
theorem RL_next {BL : List (List Nat)} {h : Nat → Nat → Bool} {n i t : Nat} (ht : t = (BL.getD i []).length) : RL BL h n i t = RL BL h n (i + 1) 0 := by
  unfold RL
  apply List.map_congr_left
  intro a _
  by_cases h1 : a < i
  · rw [if_pos h1, if_pos (by omega)]
  · rw [if_neg h1]
    by_cases e : a = i
    · rw [if_pos e, if_pos (by omega), ht, List.take_length, e]
    · rw [if_neg e, if_neg (by omega)]
      split <;> simp
theorem RL_end (BL : List (List Nat)) (h : Nat → Nat → Bool) (n : Nat) : RL BL h n n 0 = leftOf BL h n := by
  unfold RL leftOf
  apply List.map_congr_left
  intro a ha
  rw [if_pos (by simpa using ha)]
theorem RL_at {BL : List (List Nat)} {h : Nat → Nat → Bool} {n i t : Nat} (hi : i < n) : (RL BL h n i t)[i]? = some (((BL.getD i []).take t).filter (h i)) := by
  unfold RL; simp [hi]
theorem RL_no {BL : List (List Nat)} {h : Nat → Nat → Bool} {n i t v : Nat} (hv : (BL.getD i [])[t]? = some v) (hh : h i v = false) : RL BL h n i (t + 1) = RL BL h n i t := by
  unfold RL
  apply List.map_congr_left
  intro a _
  rw [List.take_add_one, hv]
  by_cases e : a = i
  · subst e; simp [hh]
  · simp [e]
theorem RL_yes {BL : List (List Nat)} {h : Nat → Nat → Bool} {n i t v : Nat} (hi : i < n) (hv : (BL.getD i [])[t]? = some v) (hh : h i v = true) : RL BL h n i (t + 1) = (RL BL h n i t).set i (((BL.getD i []).take t).filter (h i) ++ [v]) := by
  apply List.ext_getElem?
  intro a
  by_cases e : a = i
  · subst e
    rw [List.getElem?_set_self (by rw [RL_len]; exact hi), RL_at hi, List.take_add_one, hv]
    simp [hh]
  · rw [List.getElem?_set_ne (fun x => e x.symm)]
    unfold RL
    by_cases ha : a < n
    · simp [e, ha]
    · simp [ha]
end Go.Proofs.Qxb6613821aDoor
