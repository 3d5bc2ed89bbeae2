/- The keys' order is the lexicographic one of their ranks. -/
import Derived.Test.Qxb6613821aDoorKeys4
namespace Go.Proofs.Qxb6613821aDoor
set_option linter.unusedVariables false
set_option linter.unusedSimpArgs false
open Ieee Go.RowKit Go.Sort Go.Lib

def wordsF (bt : Nat → Nat) (p : Nat) : Nat → Nat → List Nat
  | 0, _ => []
  | k + 1, j => bt (p + j) :: wordsF bt p k (j + 1)
theorem cmpI_zero (x y : Nat) : cmpI x y = 0 ↔ x = y := by
  unfold cmpI
  split
  · constructor <;> intro h <;> omega
  · split
    · constructor <;> intro h <;> omega
    · constructor <;> intro h <;> omega
theorem cmpI_neg (x y : Nat) : cmpI x y < 0 ↔ x < y := by
  unfold cmpI
  split
  · constructor <;> intro h <;> omega
  · split
    · constructor <;> intro h <;> omega
    · constructor <;> intro h <;> omega
theorem cmpWF_lex (bt : Nat → Nat) (p r q q' : Nat) : ∀ k j, lexlt (wordsF bt p k j ++ [q]) (wordsF bt r k j ++ [q']) = if cmpWF bt p r k j = 0 then decide (q < q') else decide (cmpWF bt p r k j < 0)
  | 0, j => by
    simp only [wordsF, cmpWF, List.nil_append, if_pos]
    unfold lexlt
    by_cases e : q = q'
    · subst e; simp [lexlt]
    · rw [if_neg e]
  | k + 1, j => by
    simp only [wordsF, List.cons_append]
    unfold lexlt cmpWF
    by_cases e : bt (p + j) = bt (r + j)
    · rw [if_pos e, if_pos e]
      exact cmpWF_lex bt p r q q' k (j + 1)
    · rw [if_neg e, if_neg e]
      have h0 : ¬ cmpI (bt (p + j)) (bt (r + j)) = 0 := fun h => e ((cmpI_zero _ _).1 h)
      rw [if_neg h0]
      have := cmpI_neg (bt (p + j)) (bt (r + j))
      simp [this]
/-- A key's rank. -/
def kr (bt sz : Nat → Nat) (wd q : Nat) : List Nat := sz q :: (wordsF bt (q * wd) wd 0 ++ [q])
theorem klt_lex (bt sz : Nat → Nat) (wd q r : Nat) (hw : 0 < wd) : klt bt sz wd q r = lexlt (kr bt sz wd q) (kr bt sz wd r) := by
  unfold klt kr
  conv => rhs; unfold lexlt
  by_cases e : sz q = sz r
  · rw [if_pos e, if_pos e, cmpWF_lex]
    have hc : compareF bt sz wd q r = cmpWF bt (q * wd) (r * wd) wd 0 := by unfold compareF; rw [if_pos e]
    rw [hc]
    by_cases e2 : bt (q * wd) = bt (r * wd)
    · rw [if_pos e2]
    · rw [if_neg e2]
      obtain ⟨k, rfl⟩ : ∃ k, wd = k + 1 := ⟨wd - 1, by omega⟩
      have h1 : cmpWF bt (q * (k + 1)) (r * (k + 1)) (k + 1) 0 = cmpI (bt (q * (k + 1))) (bt (r * (k + 1))) := by
        conv => lhs; unfold cmpWF
        simp only [Nat.add_zero]
        rw [if_neg e2]
      rw [h1, if_neg (fun h => e2 ((cmpI_zero _ _).1 h))]
      have := cmpI_neg (bt (q * (k + 1))) (bt (r * (k + 1)))
      simp [this]
  · rw [if_neg e, if_neg e]
theorem wordsF_len (bt : Nat → Nat) (p : Nat) : ∀ k j, (wordsF bt p k j).length = k
  | 0, _ => rfl
  | k + 1, j => by simp [wordsF, wordsF_len bt p k]
theorem kr_len (bt sz : Nat → Nat) (wd q : Nat) : (kr bt sz wd q).length = wd + 2 := by simp [kr, wordsF_len]
theorem kr_inj (bt sz : Nat → Nat) (wd q r : Nat) (h : kr bt sz wd q = kr bt sz wd r) : q = r := by
  unfold kr at h
  rw [← List.cons_append, ← List.cons_append] at h
  have h1 := congrArg List.getLast? h
  rw [List.getLast?_concat, List.getLast?_concat] at h1
  simpa using h1
theorem klt_swo (bt sz : Nat → Nat) (wd : Nat) (hw : 0 < wd) : SWO (klt bt sz wd) where
  irrefl := fun x => by rw [klt_lex _ _ _ _ _ hw]; exact lex_irrefl _
  trans := fun x y z h1 h2 => by rw [klt_lex _ _ _ _ _ hw] at *; exact lex_trans _ _ _ h1 h2
  ntrans := fun x y z h1 h2 => by
    rw [klt_lex _ _ _ _ _ hw] at *
    cases h3 : lexlt (kr bt sz wd x) (kr bt sz wd z) with
    | false => rfl
    | true =>
      exfalso
      cases h4 : lexlt (kr bt sz wd z) (kr bt sz wd y) with
      | true => rw [lex_trans _ _ _ h3 h4] at h1; cases h1
      | false =>
        have h5 := lex_tri _ _ (by rw [kr_len, kr_len]) h2 h4
        rw [← h5, h1] at h3
        cases h3
end Go.Proofs.Qxb6613821aDoor
