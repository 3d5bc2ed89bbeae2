import Derived.Test.Qxb6613043aWalks
namespace Go.Proofs.Qxb6613043a
open Ieee

theorem signed_zero {s : Bool} {m k : Nat} (h : signed s m k = 0) : m = 0 := by
  unfold signed at h
  have h2 : m <<< k = 0 := by split at h <;> omega
  rw [Nat.shiftLeft_eq] at h2
  rcases Nat.mul_eq_zero.1 h2 with h3 | h3
  · exact h3
  · exact absurd h3 (Nat.ne_of_gt (Nat.two_pow_pos _))

theorem read_zero_of {x : Nat} (h : double.order x 0 = some .eq) : ∃ s i, double.read x = .number s 0 i := by
  have h0 : double.read 0 = .number false 0 double.leastPlace := by rfl
  unfold Format.order at h
  rw [h0] at h
  match hr : double.read x with
  | .nan .. => rw [hr] at h; simp [Datum.order] at h
  | .infinity s => rw [hr] at h; cases s <;> simp [Datum.order] at h
  | .number s m i =>
    rw [hr] at h
    simp only [Datum.order, Option.some.injEq] at h
    have h2 := Int.compare_eq_eq.1 h
    have h3 : signed false 0 (double.leastPlace - min i double.leastPlace).toNat = 0 := by simp [signed]
    rw [h3] at h2
    exact ⟨s, i, by rw [signed_zero h2]⟩

theorem quo_zero {x : Nat} (h : double.order x 0 = some .eq) : ∃ r, floatBits .quo .f64 4607182418800017408 x = some r := by
  obtain ⟨s, i, hr⟩ := read_zero_of h
  have h1 : double.read 4607182418800017408 = .number false 4503599627370496 (-52) := by kernel_rfl
  refine ⟨double.write (.infinity (false ^^ s)), ?_⟩
  show double.div 4607182418800017408 x = _
  unfold Format.div
  rw [h1, hr]
  rfl

theorem same_self (x : Nat) (w : World) :
    Calls Try.prog 8 #[.float .f64 x, .float .f64 x] w fun e w' => e = .returned (.bool true) ∧ w' = w := by
  by_cases h1 : (FloatKind.f64.format.order x x != some .eq) = true
  · go_enter Try.func8, Try.ntmps8
    go_wp2
    go_ret
    exact ⟨rfl, rfl⟩
  · have h1' : (FloatKind.f64.format.order x x != some .eq) = false := by simpa using h1
    clear h1
    by_cases h2 : (FloatKind.f64.format.order x 0 == some .eq) = true
    · obtain ⟨r, hr⟩ := quo_zero (eq_of_beq h2)
      have hop : ∀ t w, (binOp .quo t (.float .f64 4607182418800017408) (.float .f64 x)).run Try.prog w = .ok (.float .f64 r) w := fun t w => run_float_arith w .quo t .f64 _ x r hr
      clear hr
      go_enter Try.func8, Try.ntmps8
      go_wp2_with (simp only [hop])
      go_ret
      exact ⟨rfl, rfl⟩
    · have h2' : (FloatKind.f64.format.order x 0 == some .eq) = false := by simpa using h2
      clear h2
      go_enter Try.func8, Try.ntmps8
      go_wp2
      go_ret
      exact ⟨rfl, rfl⟩

theorem same_nan (x y : Nat) (w : World) (hx : FloatKind.f64.format.order x x = none) (hy : FloatKind.f64.format.order y y = none) :
    Calls Try.prog 8 #[.float .f64 x, .float .f64 y] w fun e w' => e = .returned (.bool true) ∧ w' = w := by
  have h1 : (FloatKind.f64.format.order x x != some .eq) = true := by rw [hx]; rfl
  have h2 : (FloatKind.f64.format.order y y != some .eq) = true := by rw [hy]; rfl
  clear hx hy
  go_enter Try.func8, Try.ntmps8
  go_wp2
  go_ret
  exact ⟨rfl, rfl⟩
end Go.Proofs.Qxb6613043a
