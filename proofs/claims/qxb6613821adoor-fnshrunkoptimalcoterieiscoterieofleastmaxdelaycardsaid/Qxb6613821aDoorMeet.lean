/- zzMeet and zzSubset. -/
import Derived.Test.Qxb6613821aDoorRadius
namespace Go.Proofs.Qxb6613821aDoor
set_option linter.unusedVariables false
set_option linter.unusedSimpArgs false
open Ieee Go.RowKit

theorem asc_le {l : List Nat} (ha : ∀ (j x y : Nat), l[j]? = some x → l[j + 1]? = some y → x < y) : ∀ (d i x y : Nat), l[i]? = some x → l[i + d]? = some y → x ≤ y
  | 0, i, x, y, h1, h2 => by rw [Nat.add_zero, h1] at h2; cases h2; exact Nat.le_refl _
  | d + 1, i, x, y, h1, h2 => by
    have hl : i + d < l.length := by have := (List.getElem?_eq_some_iff.1 h2).1; omega
    have h3 : l[i + d]? = some l[i + d] := List.getElem?_eq_getElem hl
    have a1 := asc_le ha d i x _ h1 h3
    have a2 := ha (i + d) _ y h3 (by rw [Nat.add_assoc]; exact h2)
    omega
theorem asc_at {l : List Nat} (ha : ∀ (j x y : Nat), l[j]? = some x → l[j + 1]? = some y → x < y) {i p x y : Nat} (h1 : l[i]? = some x) (h2 : l[p]? = some y) (h : i ≤ p) : x ≤ y :=
  asc_le ha (p - i) i x y h1 (by rw [show i + (p - i) = p from by omega]; exact h2)

set_option maxHeartbeats 4000000 in
theorem meet_any (g1 g2 c1 c2 v : Nat) (l1 l2 : List Nat) (hl1 : l1.length ≤ 65536) (hl2 : l2.length ≤ 65536) (hc1 : l1.length ≤ c1) (hc2 : l2.length ≤ c2) (ha1 : ∀ (j x y : Nat), l1[j]? = some x → l1[j + 1]? = some y → x < y) (ha2 : ∀ (j x y : Nat), l2[j]? = some x → l2[j + 1]? = some y → x < y)
    (hv1 : v ∈ l1) (hv2 : v ∈ l2) (w : World) (hA : ∀ (j x : Nat), l1[j]? = some x → w.cell? ⟨g1, j, none⟩ = some (.int .i64 (x : Int))) (hB : ∀ (j x : Nat), l2[j]? = some x → w.cell? ⟨g2, j, none⟩ = some (.int .i64 (x : Int))) :
    Calls Tryd.prog 9 #[.slice (some ⟨g1, 0, none⟩) l1.length c1, .slice (some ⟨g2, 0, none⟩) l2.length c2] w fun e w' => e = .returned (.bool true) ∧ ∃ k, w' = w.drewN k := by
  obtain ⟨p, hp⟩ := List.getElem?_of_mem hv1
  obtain ⟨r, hr⟩ := List.getElem?_of_mem hv2
  have hpl : p < l1.length := (List.getElem?_eq_some_iff.1 hp).1
  have hrl : r < l2.length := (List.getElem?_eq_some_iff.1 hr).1
  have HP : Hid (l1[p]? = some v) := hp
  have HR : Hid (l2[r]? = some v) := hr
  have HA : Hid (∀ (j x : Nat), l1[j]? = some x → w.cell? ⟨g1, j, none⟩ = some (.int .i64 (x : Int))) := hA
  have HB : Hid (∀ (j x : Nat), l2[j]? = some x → w.cell? ⟨g2, j, none⟩ = some (.int .i64 (x : Int))) := hB
  have H1 : Hid (∀ (j x y : Nat), l1[j]? = some x → l1[j + 1]? = some y → x < y) := ha1
  have H2 : Hid (∀ (j x y : Nat), l2[j]? = some x → l2[j + 1]? = some y → x < y) := ha2
  clear hp hr hA hB ha1 ha2 hv1 hv2
  obtain ⟨n1, hn1⟩ : ∃ n, n = l1.length := ⟨_, rfl⟩
  obtain ⟨n2, hn2⟩ : ∃ n, n = l2.length := ⟨_, rfl⟩
  have HN1 : Hid (n1 = l1.length) := hn1
  have HN2 : Hid (n2 = l2.length) := hn2
  rw [← hn1] at hl1 hc1 hpl ⊢
  rw [← hn2] at hl2 hc2 hrl ⊢
  clear hn1 hn2
  go_enter Tryd.func9, Tryd.ntmps9
  go_wp2
  go_loopw [5, 6] (fun vi vj wr => ∃ i j k : Nat, vi = .int .i64 i ∧ vj = .int .i64 j ∧ i ≤ p ∧ j ≤ r ∧ wr = w.drewN k) (fun vi vj _ => (p - (intOf vi).toNat) + (r - (intOf vj).toNat))
  case atStart => exact ⟨0, 0, 0, rfl, rfl, Nat.zero_le _, Nat.zero_le _, rfl⟩
  case round =>
    obtain ⟨i, j, k, rfl, rfl, hi, hj, rfl⟩ := hrel
    obtain ⟨x, hx⟩ : ∃ x, l1[i]? = some x := ⟨_, List.getElem?_eq_getElem (by have := HN1.out; omega)⟩
    obtain ⟨y, hy⟩ : ∃ y, l2[j]? = some y := ⟨_, List.getElem?_eq_getElem (by have := HN2.out; omega)⟩
    have hcx := HA.out i x hx
    have hcy := HB.out j y hy
    have hin : i < n1 := by omega
    have hjn : j < n2 := by omega
    have HXV : Hid (x ≤ v) := asc_at H1.out hx HP.out hi
    have HYV : Hid (y ≤ v) := asc_at H2.out hy HR.out hj
    have HXP : Hid (i = p → x = v) := fun e => by rw [e, HP.out] at hx; exact (Option.some.inj hx).symm
    have HYP : Hid (j = r → y = v) := fun e => by rw [e, HR.out] at hy; exact (Option.some.inj hy).symm
    clear hx hy
    by_cases hxy : x = y
    · subst hxy
      go_wp2
      go_quiet (fail)
      go_wp2
      go_ret
      exact ⟨rfl, _, dq0 _ _ _⟩
    · have hne : ((x : Int) == (y : Int)) = false := by simp; omega
      by_cases hlt : x < y
      · have hip : i < p := by
          by_cases e : i = p
          · have := HXP.out e; have := HYV.out; omega
          · omega
        have hd : decide ((x : Int) < (y : Int)) = true := decide_eq_true (by omega)
        go_wp2
        go_quiet (fail)
        go_wp2
        go_quiet (fail)
        go_wp2
        go_roundw
        case rel => exact ⟨i + 1, j, _, by go_num, rfl, by omega, hj, rfl⟩
        case measure => simp [intOf]; omega
      · have hjr : j < r := by
          by_cases e : j = r
          · have := HYP.out e; have := HXV.out; omega
          · omega
        have hd : decide ((x : Int) < (y : Int)) = false := decide_eq_false (by omega)
        go_wp2
        go_quiet (fail)
        go_wp2
        go_quiet (fail)
        go_wp2
        go_roundw
        case rel => exact ⟨i, j + 1, _, rfl, by go_num, hi, by omega, rfl⟩
        case measure => simp [intOf]; omega

set_option maxHeartbeats 4000000 in
theorem subset_any (g1 g2 c1 c2 : Nat) (l1 l2 : List Nat) (hl1 : l1.length ≤ 65536) (hl2 : l2.length ≤ 65536) (hc1 : l1.length ≤ c1) (hc2 : l2.length ≤ c2) (hno : ¬ ∀ v ∈ l1, v ∈ l2)
    (w : World) (hA : ∀ (j x : Nat), l1[j]? = some x → w.cell? ⟨g1, j, none⟩ = some (.int .i64 (x : Int))) (hB : ∀ (j x : Nat), l2[j]? = some x → w.cell? ⟨g2, j, none⟩ = some (.int .i64 (x : Int))) :
    Calls Tryd.prog 10 #[.slice (some ⟨g1, 0, none⟩) l1.length c1, .slice (some ⟨g2, 0, none⟩) l2.length c2] w fun e w' => e = .returned (.bool false) ∧ ∃ k, w' = w.drewN k := by
  have HNO : Hid (¬ ∀ v ∈ l1, v ∈ l2) := hno
  have HA : Hid (∀ (j x : Nat), l1[j]? = some x → w.cell? ⟨g1, j, none⟩ = some (.int .i64 (x : Int))) := hA
  have HB : Hid (∀ (j x : Nat), l2[j]? = some x → w.cell? ⟨g2, j, none⟩ = some (.int .i64 (x : Int))) := hB
  clear hA hB hno
  obtain ⟨n1, hn1⟩ : ∃ n, n = l1.length := ⟨_, rfl⟩
  obtain ⟨n2, hn2⟩ : ∃ n, n = l2.length := ⟨_, rfl⟩
  have HN1 : Hid (n1 = l1.length) := hn1
  have HN2 : Hid (n2 = l2.length) := hn2
  rw [← hn1] at hl1 hc1 ⊢
  rw [← hn2] at hl2 hc2 ⊢
  clear hn1 hn2
  go_enter Tryd.func10, Tryd.ntmps10
  go_wp2
  go_loopw [5, 6] (fun vj vi wr => ∃ i j k : Nat, vi = .int .i64 i ∧ vj = .int .i64 j ∧ i ≤ n1 ∧ j ≤ n2 ∧ wr = w.drewN k ∧ Hid (∀ t x, t < i → l1[t]? = some x → x ∈ l2)) (fun _ vi _ => n1 - (intOf vi).toNat)
  case atStart => exact ⟨0, 0, 0, rfl, rfl, Nat.zero_le _, Nat.zero_le _, rfl, fun t x ht => absurd ht (by omega)⟩
  case round =>
    obtain ⟨i, j, k, rfl, rfl, hi, hj, rfl, HI⟩ := hrel
    by_cases hin : i < n1
    · obtain ⟨x, hx⟩ : ∃ x, l1[i]? = some x := ⟨_, List.getElem?_eq_getElem (by have := HN1.out; omega)⟩
      have HX : Hid (l1[i]? = some x) := hx
      have HCX : Hid (w.cell? ⟨g1, i, none⟩ = some (.int .i64 (x : Int))) := HA.out i x hx
      clear hx
      go_wp2
      go_loopw [5] (fun vj wr => ∃ j k : Nat, vj = .int .i64 j ∧ j ≤ n2 ∧ wr = w.drewN k) (fun vj _ => n2 - (intOf vj).toNat)
      case atStart => exact ⟨j, k, rfl, hj, rfl⟩
      case round =>
        clear hj
        obtain ⟨j, k2, rfl, hj, rfl⟩ := hrel
        have hcx := HCX.out
        by_cases hjn : j < n2
        · obtain ⟨y, hy⟩ : ∃ y, l2[j]? = some y := ⟨_, List.getElem?_eq_getElem (by have := HN2.out; omega)⟩
          have hcy := HB.out j y hy
          have HYM : Hid (y ∈ l2) := List.mem_of_getElem? hy
          clear hy
          by_cases hlt : y < x
          · have hd : decide ((y : Int) < (x : Int)) = true := decide_eq_true (by omega)
            go_wp2
            go_quiet (fail)
            go_wp2
            go_roundw
            case rel => exact ⟨j + 1, _, by go_num, by omega, rfl⟩
            case measure => simp [intOf]; omega
          · have hd : decide ((y : Int) < (x : Int)) = false := decide_eq_false (by omega)
            have hjne : ((j : Int) == (n2 : Int)) = false := by simp; omega
            by_cases hxy : y = x
            · have HI2 : Hid (∀ t z, t < i + 1 → l1[t]? = some z → z ∈ l2) := fun t z ht hz => by
                by_cases e : t = i
                · subst e; rw [HX.out] at hz; cases hz; rw [← hxy]; exact HYM.out
                · exact HI.out t z (by omega) hz
              subst hxy
              go_wp2
              go_quiet (fail)
              go_wp2
              go_quiet (fail)
              go_wp2
              go_roundw
              case rel => exact ⟨i + 1, j, _, by go_num, rfl, by omega, hj, rfl, HI2⟩
              case measure => simp [intOf]; omega
            · have hne : ((y : Int) != (x : Int)) = true := by simp; omega
              go_wp2
              go_quiet (fail)
              go_wp2
              go_quiet (fail)
              go_wp2
              go_ret
              exact ⟨rfl, _, (by rw [dq0, dq0])⟩
        · have hj2 : j = n2 := by omega
          subst hj2
          go_wp2
          go_quiet (fail)
          go_wp2
          go_quiet (fail)
          go_wp2
          go_ret
          exact ⟨rfl, _, (by rw [dq0, dq0])⟩
    · exact absurd (fun v hv => by
        obtain ⟨t, ht⟩ := List.getElem?_of_mem hv
        exact HI.out t v (by have := (List.getElem?_eq_some_iff.1 ht).1; have := HN1.out; omega) ht) HNO.out
end Go.Proofs.Qxb6613821aDoor
