/- The keys' order is strict and total. -/
import Derived.Test.Qxb6613821aDoorKeys3
namespace Go.Proofs.Qxb6613821aDoor
set_option linter.unusedVariables false
set_option linter.unusedSimpArgs false
open Ieee Go.RowKit Go.Sort Go.Lib

/-- A key's rank as a list of numbers: its size, its words, its index. -/
def krank (bt sz : Nat → Nat) (wd q : Nat) : List Nat := sz q :: ((List.range wd).map (fun k => bt (q * wd + k)) ++ [q])
def lexlt : List Nat → List Nat → Bool
  | [], [] => false
  | [], _ :: _ => true
  | _ :: _, [] => false
  | x :: l, y :: m => if x = y then lexlt l m else decide (x < y)
theorem lex_irrefl : ∀ l, lexlt l l = false
  | [] => rfl
  | x :: l => by simp [lexlt, lex_irrefl l]
theorem lex_trans : ∀ l m k, lexlt l m = true → lexlt m k = true → lexlt l k = true
  | [], [], _, h, _ => by simp [lexlt] at h
  | [], _ :: _, [], _, h => by simp [lexlt] at h
  | [], _ :: _, _ :: _, _, _ => by simp [lexlt]
  | _ :: _, [], _, h, _ => by simp [lexlt] at h
  | _ :: _, _ :: _, [], _, h => by simp [lexlt] at h
  | x :: l, y :: m, z :: k, h1, h2 => by
    unfold lexlt at h1 h2 ⊢
    by_cases e1 : x = y
    · subst e1
      rw [if_pos rfl] at h1
      by_cases e2 : x = z
      · subst e2
        rw [if_pos rfl] at h2 ⊢
        exact lex_trans l m k h1 h2
      · rw [if_neg e2] at h2 ⊢; exact h2
    · rw [if_neg e1] at h1
      by_cases e2 : y = z
      · subst e2
        rw [if_neg e1]; exact h1
      · rw [if_neg e2] at h2
        simp at h1 h2
        rw [if_neg (by omega)]
        simp; omega
theorem lex_tri : ∀ l m, l.length = m.length → lexlt l m = false → lexlt m l = false → l = m
  | [], [], _, _, _ => rfl
  | [], _ :: _, h, _, _ => by simp at h
  | _ :: _, [], h, _, _ => by simp at h
  | x :: l, y :: m, h, h1, h2 => by
    unfold lexlt at h1 h2
    by_cases e : x = y
    · subst e
      rw [if_pos rfl] at h1 h2
      rw [lex_tri l m (by simpa using h) h1 h2]
    · rw [if_neg e] at h1
      rw [if_neg (fun x => e x.symm)] at h2
      simp at h1 h2
      omega
end Go.Proofs.Qxb6613821aDoor
