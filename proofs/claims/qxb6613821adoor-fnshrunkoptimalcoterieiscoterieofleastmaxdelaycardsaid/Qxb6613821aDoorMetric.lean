/- zzMetricLike over any matrix. -/
import Derived.Test.Qxb6613821aDoorGen
namespace Go.Proofs.Qxb6613821aDoor
set_option linter.unusedVariables false
set_option linter.unusedSimpArgs false
open Ieee Go.RowKit

/-- The NaN that the model draws for a difference that is none. -/
def nanOf (x : Nat) (w : World) : Nat := (Question.nanBits .f64 x x).cut (w.tape w.drawn (.nanBits .f64 x x))
theorem nan_read (t : Nat) : ∃ s f, double.read ((t % 2) * 2 ^ 63 + 0x7ff0000000000000 + 1 + (t / 2) % (2 ^ 52 - 1)) = .nan s f := by
  have h1 := Nat.mod_lt (t / 2) (show 0 < 2 ^ 52 - 1 by decide)
  generalize (t / 2) % (2 ^ 52 - 1) = r at *
  have h2 := Nat.mod_lt t (show 0 < 2 by decide)
  generalize t % 2 = s at *
  have e1 : (s * 2 ^ 63 + 0x7ff0000000000000 + 1 + r) % 2 ^ 63 = 0x7ff0000000000000 + 1 + r := by omega
  unfold Format.read
  rw [show double.signWeight = 2 ^ 63 from by decide +kernel, show double.binade = 2 ^ 52 from by decide +kernel, show double.infRung = 0x7ff0000000000000 from by decide +kernel, e1]
  simp only
  rw [if_neg (by omega), if_neg (by omega), if_neg (by omega)]
  exact ⟨_, _, rfl⟩
theorem nan_order (x : Nat) (w : World) : FloatKind.f64.format.order (nanOf x w) 0 = none := by
  obtain ⟨s, f, h⟩ := nan_read (w.tape w.drawn (.nanBits .f64 x x))
  have e : FloatKind.f64.format.read (nanOf x w) = .nan s f := h
  unfold Format.order
  rw [e]
  rfl
theorem nan_sub {x : Nat} (h : double.sub x x = none) (t : TypeId) (w : World) : (binOp .sub t (.float .f64 x) (.float .f64 x)).run Tryd.prog w = .ok (.float .f64 (nanOf x w)) w.drew := by
  have h' : FloatKind.f64.format.sub x x = none := h
  simp [binOp, Op.floatArith, h', nanOf, Question.forced]

/-- What zzMetricLike asks of one distance. -/
structure OkD (x : Nat) : Prop where
  ge : (FloatKind.f64.format.order x 0 == some .gt || FloatKind.f64.format.order x 0 == some .eq) = true
  sub : double.sub x x ≠ none
theorem OkD.nf {x : Nat} (h : OkD x) (hx : x < 2 ^ 64) : nf x = true := by
  have hg := h.ge
  have hs := h.sub
  unfold Qxb6613821aDoor.nf
  rw [Bool.and_eq_true, decide_eq_true_eq]
  refine ⟨hx, ?_⟩
  have h0 : FloatKind.f64.format.order x 0 = (double.read x).order (.number false 0 (-1074)) := by
    show (double.read x).order (double.read 0) = _
    rw [show double.read 0 = .number false 0 (-1074) from by decide +kernel]
  rw [h0] at hg
  unfold Format.sub at hs
  cases hr : double.read x with
  | nan s f => rw [hr] at hg; simp [Datum.order] at hg
  | infinity s =>
    rw [hr] at hs
    exact absurd (by cases s <;> rfl) hs
  | number s m e =>
    rw [hr] at hg
    simp only [Datum.order] at hg
    rw [signed_pos] at hg
    simp only [nfD]
    cases s with
    | false => rfl
    | true =>
      simp only [Bool.not_true, Bool.false_or, beq_iff_eq]
      by_cases hm : m = 0
      · exact hm
      · exfalso
        have hlt : signed true m (e - min e (-1074)).toNat < ((0 * 2 ^ (-1074 - min e (-1074)).toNat : Nat) : Int) := by
          unfold signed
          have : 0 < m <<< (e - min e (-1074)).toNat := by
            rw [Nat.shiftLeft_eq]; exact Nat.mul_pos (by omega) (Nat.two_pow_pos _)
          simp only [if_true, Nat.zero_mul]
          omega
        rw [Int.compare_eq_lt.2 hlt] at hg
        simp at hg
/-- What zzMetricLike asks of all. -/
structure Metric (m : Nat) (rl : Nat → Nat) (d : Nat → Nat → Nat) : Prop where
  sq : ∀ i, i < m → rl i = m
  diag : ∀ i, i < m → (FloatKind.f64.format.order (d i i) 0 != some .eq) = false
  ok : ∀ i j, i < m → j < m → OkD (d i j)
  mir : ∀ i j, i < m → j < m → (FloatKind.f64.format.order (d i j) (d j i) != some .eq) = false

set_option maxHeartbeats 4000000 in
theorem metric_any (b o m cap : Nat) (go : Option Addr) (rg : Nat → Option Addr) (rl rc : Nat → Nat) (d : Nat → Nat → Nat) (w : World) (hG : GM w b o m rg rl rc d) (hgo : 0 < m → go = some ⟨b, o, none⟩) (hm : m ≤ 1048576) (hrl : ∀ i, i < m → rl i ≤ 1048576) :
    Calls Tryd.prog 6 #[.slice go m cap] w fun e w' => (∃ k, w' = w.drewN k) ∧ (e = .returned (.bool true) ∧ Metric m rl d ∨ e = .returned (.bool false)) := by
  have HG : Hid (GM w b o m rg rl rc d) := hG
  have HGO : Hid (0 < m → go = some ⟨b, o, none⟩) := hgo
  have HRL : Hid (∀ i, i < m → rl i ≤ 1048576) := hrl
  clear hG hgo hrl
  go_enter Tryd.func6, Tryd.ntmps6
  go_wp2
  go_loopw [4] (fun vi wr => ∃ i : Nat, vi = .int .i64 i ∧ i ≤ m ∧ wr = w ∧ Hid (∀ k, k < i → rl k = m)) (fun vi _ => m - (intOf vi).toNat)
  case atStart => exact ⟨0, rfl, Nat.zero_le _, rfl, fun k hk => absurd hk (by omega)⟩
  case round =>
    obtain ⟨i, rfl, hi, rfl, HR⟩ := hrel
    by_cases hlt : i < m
    · have hgo := HGO.out (by omega)
      subst hgo
      have hr := HG.out.row i hlt
      have hlen := HRL.out i hlt
      by_cases h2 : rl i = m
      · have HR2 : Hid (∀ k, k < i + 1 → rl k = m) := fun k hk => by
          by_cases e : k = i
          · subst e; exact h2
          · exact HR.out k (by omega)
        rw [h2] at hr
        clear h2 hlen
        go_wp2
        go_roundw
        case rel => exact ⟨i + 1, by go_num, by omega, by first | trivial | rfl, HR2⟩
        case measure => simp [intOf]; omega
      · have h2' : ((rl i : Nat) : Int) ≠ (m : Int) := by omega
        generalize rl i = ri at *
        go_wp2
        go_ret
        exact ⟨⟨0, rfl⟩, Or.inr rfl⟩
    · have HSQ : Hid (∀ k, k < m → rl k = m) := fun k hk => HR.out k (by omega)
      clear HR
      go_wp2
      go_loopw [5] (fun vi wx => ∃ i : Nat, vi = .int .i64 i ∧ i ≤ m ∧ wx = wr ∧ Hid (∀ k, k < i → (FloatKind.f64.format.order (d k k) 0 != some .eq) = false ∧ ∀ j, j < m → OkD (d k j) ∧ (FloatKind.f64.format.order (d k j) (d j k) != some .eq) = false)) (fun vi _ => m - (intOf vi).toNat)
      case atStart => exact ⟨0, rfl, Nat.zero_le _, rfl, fun k hk => absurd hk (by omega)⟩
      case round =>
        obtain ⟨i', rfl, hi', rfl, HR⟩ := hrel
        by_cases hlt' : i' < m
        · have hgo := HGO.out (by omega)
          subst hgo
          have hr := HG.out.row i' hlt'
          have hcap := HG.out.cap i' hlt'
          have hsq := HSQ.out i' hlt'
          obtain ⟨g, p, hg, hc⟩ := HG.out.el i' i' hlt' (by omega)
          rw [hg, hsq] at hr
          rw [hsq] at hcap
          clear hg hsq
          cases h0 : (FloatKind.f64.format.order (d i' i') 0 != some .eq) with
          | true =>
            generalize d i' i' = x at *
            go_wp2
            go_ret
            exact ⟨⟨0, rfl⟩, Or.inr rfl⟩
          | false =>
            have H0 : Hid ((FloatKind.f64.format.order (d i' i') 0 != some .eq) = false) := h0
            generalize d i' i' = x at hc h0
            go_wp2
            clear hr hcap hc h0
            go_loopw [6] (fun vj wy => ∃ j : Nat, vj = .int .i64 j ∧ j ≤ m ∧ wy = wr ∧ Hid (∀ k, k < j → OkD (d i' k) ∧ (FloatKind.f64.format.order (d i' k) (d k i') != some .eq) = false)) (fun vj _ => m - (intOf vj).toNat)
            case atStart => exact ⟨0, rfl, Nat.zero_le _, rfl, fun k hk => absurd hk (by omega)⟩
            case round =>
              obtain ⟨j, rfl, hj, rfl, HRj⟩ := hrel
              by_cases hjm : j < m
              · have hr := HG.out.row i' hlt'
                have hcap := HG.out.cap i' hlt'
                have hsq := HSQ.out i' hlt'
                obtain ⟨g, p, hg, hc⟩ := HG.out.el i' j hlt' (by omega)
                rw [hg, hsq] at hr
                rw [hsq] at hcap
                clear hg hsq
                have hr2 := HG.out.row j hjm
                have hcap2 := HG.out.cap j hjm
                have hsq := HSQ.out j hjm
                obtain ⟨g2, p2, hg2, hc2⟩ := HG.out.el j i' hjm (by omega)
                rw [hg2, hsq] at hr2
                rw [hsq] at hcap2
                clear hg2 hsq
                have HS : Hid (OkD (d i' j) → (FloatKind.f64.format.order (d i' j) (d j i') != some .eq) = false → ∀ k, k < j + 1 → OkD (d i' k) ∧ (FloatKind.f64.format.order (d i' k) (d k i') != some .eq) = false) := fun h h' k hk => by
                  by_cases e : k = j
                  · subst e; exact ⟨h, h'⟩
                  · exact HRj.out k (by omega)
                have HO : Hid ((FloatKind.f64.format.order (d i' j) 0 == some .gt || FloatKind.f64.format.order (d i' j) 0 == some .eq) = true → double.sub (d i' j) (d i' j) ≠ none → OkD (d i' j)) := fun h h' => ⟨h, h'⟩
                generalize d j i' = y at *
                generalize d i' j = x at *
                cases c1 : (FloatKind.f64.format.order x 0 == some .gt || FloatKind.f64.format.order x 0 == some .eq) with
                | false =>
                  clear HS HO
                  go_wp2
                  go_ret
                  exact ⟨⟨0, rfl⟩, Or.inr rfl⟩
                | true =>
                  cases hs : double.sub x x with
                  | none =>
                    have hsub := nan_sub hs
                    have hno := nan_order x wr
                    clear HS HO hs
                    go_wp2
                    go_ret
                    exact ⟨⟨1, rfl⟩, Or.inr rfl⟩
                  | some r =>
                    have hsub : ∀ t w, (binOp .sub t (.float .f64 x) (.float .f64 x)).run Tryd.prog w = .ok (.float .f64 r) w := fun t w => run_float_arith w .sub t .f64 x x r hs
                    have HO2 : Hid (OkD x) := HO.out c1 (by rw [hs]; simp)
                    clear HO hs
                    cases c2 : (FloatKind.f64.format.order r 0 != some .eq) with
                    | true =>
                      clear HS HO2
                      go_wp2
                      go_ret
                      exact ⟨⟨0, rfl⟩, Or.inr rfl⟩
                    | false =>
                      cases c3 : (FloatKind.f64.format.order x y != some .eq) with
                      | true =>
                        clear HS HO2
                        go_wp2
                        go_ret
                        exact ⟨⟨0, rfl⟩, Or.inr rfl⟩
                      | false =>
                        have HS2 := HS.out HO2.out c3
                        have HS3 : Hid (∀ k, k < j + 1 → OkD (d i' k) ∧ (FloatKind.f64.format.order (d i' k) (d k i') != some .eq) = false) := HS2
                        clear HS HS2
                        go_wp2
                        go_roundw
                        case rel => exact ⟨j + 1, by go_num, by omega, by first | trivial | rfl, HS3⟩
                        case measure => simp [intOf]; omega
              · have HS3 : Hid (∀ k, k < i' + 1 → (FloatKind.f64.format.order (d k k) 0 != some .eq) = false ∧ ∀ j, j < m → OkD (d k j) ∧ (FloatKind.f64.format.order (d k j) (d j k) != some .eq) = false) := fun k hk => by
                  by_cases e : k = i'
                  · subst e; exact ⟨H0.out, fun j' hj' => HRj.out j' (by omega)⟩
                  · exact HR.out k (by omega)
                clear HRj HR
                go_wp2
                go_roundw
                case rel => exact ⟨i' + 1, by go_num, by omega, by first | trivial | rfl, HS3⟩
                case measure => simp [intOf]; omega
        · have HS : Hid (Metric m rl d) := ⟨HSQ.out, fun i hi => (HR.out i (by omega)).1, fun i j hi hj => ((HR.out i (by omega)).2 j hj).1, fun i j hi hj => ((HR.out i (by omega)).2 j hj).2⟩
          clear HR
          go_wp2
          go_ret
          exact ⟨⟨0, rfl⟩, Or.inl ⟨rfl, HS.out⟩⟩
end Go.Proofs.Qxb6613821aDoor
