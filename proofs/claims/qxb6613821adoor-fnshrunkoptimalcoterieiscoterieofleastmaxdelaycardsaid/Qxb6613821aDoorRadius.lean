import Derived.Test.Qxb6613821aDoorSmall
import Derived.Test.Qxb6613821aDoorPlain
namespace Go.Proofs.Qxb6613821aDoor
set_option linter.unusedVariables false
set_option linter.unusedSimpArgs false
open Ieee Go.RowKit

/-- The matrix of distances in memory: block b from offset o on holds the rows' slices; row i lies in block rb i from ro i on. -/
structure MatAt (w : World) (b o n : Nat) (rb ro rc : Nat → Nat) (D : Nat → Nat → Nat) : Prop where
  row : ∀ i, i < n → w.cell? ⟨b, o + i, none⟩ = some (.slice (some ⟨rb i, ro i, none⟩) n (rc i))
  el : ∀ i j, i < n → j < n → w.cell? ⟨rb i, ro i + j, none⟩ = some (.float .f64 (D i j))

theorem dq0 (w : World) (n m : Nat) : (w.drewN n).drewN m = w.drewN (n + m) := by
  unfold World.drewN; simp [Nat.add_assoc]

set_option maxHeartbeats 4000000 in
theorem radius_any (b o n cap : Nat) (rb ro rc : Nat → Nat) (D : Nat → Nat → Nat) (w : World) (hM : MatAt w b o n rb ro rc D) (hF : NF D n) (hn : n ≤ 256) :
    Calls Tryd.prog 19 #[.slice (some ⟨b, o, none⟩) n cap] w fun e w' => e = .returned (.float .f64 (radius D n)) ∧ ∃ k, w' = w.drewN k := by
  have HM : Hid (MatAt w b o n rb ro rc D) := hM
  have HF : Hid (NF D n) := hF
  clear hM hF
  go_enter Tryd.func19, Tryd.ntmps19
  go_wp2
  go_loopw [3, 17] (fun ve vu wr => ∃ u q e : Nat, u ≤ n ∧ vu = .int .i64 u ∧ ve = .float .f64 e ∧ wr = w.drewN q ∧ Hid (nf e = true) ∧ Hid (exactU D n (n - u) u e = exact D n)) (fun _ vu _ => n - (intOf vu).toNat)
  case atStart => exact ⟨0, 0, 0, Nat.zero_le _, rfl, rfl, rfl, nf_zero, rfl⟩
  case round =>
    obtain ⟨u, q, e, hu, rfl, rfl, rfl, HE, HX⟩ := hrel
    by_cases hlt : u < n
    · have hr := HM.out.row u hlt
      go_wp2
      clear hr
      go_loopw [3, 6] (fun ve vv wr => ∃ v q' e' : Nat, u + 1 ≤ v ∧ v ≤ n ∧ vv = .int .i64 v ∧ ve = .float .f64 e' ∧ wr = w.drewN q' ∧ Hid (nf e' = true) ∧ Hid (exactV D n u (n - v) v e' = exactV D n u (n - (u + 1)) (u + 1) e)) (fun _ vv _ => n - (intOf vv).toNat)
      case atStart => exact ⟨u + 1, q, e, Nat.le_refl _, by omega, by go_num, rfl, rfl, HE, rfl⟩
      case round =>
        obtain ⟨v, q', e', hv1, hv2, rfl, rfl, rfl, HE', HV⟩ := hrel
        by_cases hvn : v < n
        · have hr := HM.out.row v hvn
          have he := HM.out.el u v hlt hvn
          go_wp2
          clear hr he
          go_loopw [8, 9] (fun vm vx wr => ∃ x q2 m : Nat, x ≤ n ∧ vx = .int .i64 x ∧ vm = .float .f64 m ∧ wr = w.drewN q2 ∧ Hid (nf m = true) ∧ Hid (meetF D u v e' (n - x) x m = meetF D u v e' n 0 (D u v))) (fun _ vx _ => n - (intOf vx).toNat)
          case atStart => exact ⟨0, q', _, Nat.zero_le _, rfl, rfl, rfl, HF.out u v hlt hvn, rfl⟩
          case round =>
            obtain ⟨x, q2, m, hx, rfl, rfl, rfl, HN, HW⟩ := hrel
            have hme : ∀ ts t w, (Builtin.max_ ts t #[.float .f64 e', .float .f64 m]).run Tryd.prog w = .ok (.float .f64 (fmax e' m)) w := fun ts t w => run_max_f w ts t e' m HE'.out HN.out
            have HG : Hid ((FloatKind.f64.format.order m e' == some .gt) = flt e' m) := order_gt HN.out HE'.out
            have hstop : (n - x = 0 ∨ flt e' m = false) → meetF D u v e' n 0 (D u v) = m := by
              intro h
              rw [← HW.out]
              cases hk : n - x with
              | zero => rfl
              | succ k =>
                rcases h with h | h
                · omega
                · unfold meetF; rw [if_neg (by rw [h]; simp)]
            have hout : (n - x = 0 ∨ flt e' m = false) → exactV D n u (n - (v + 1)) (v + 1) (fmax e' m) = exactV D n u (n - (u + 1)) (u + 1) e := by
              intro h
              rw [← HV.out, show n - v = (n - (v + 1)) + 1 from by omega]
              conv => rhs; unfold exactV
              rw [hstop h]
            have HOUT : Hid ((n - x = 0 ∨ flt e' m = false) → exactV D n u (n - (v + 1)) (v + 1) (fmax e' m) = exactV D n u (n - (u + 1)) (u + 1) e) := hout
            clear hstop hout
            by_cases hxn : x < n
            · cases hg : (FloatKind.f64.format.order m e' == some .gt) with
              | true =>
                have h1 := HM.out.el u x hlt hxn
                have h2 := HM.out.el v x hvn hxn
                have hr1 := HM.out.row u hlt
                have hmx : ∀ ts t w, (Builtin.max_ ts t #[.float .f64 (D u x), .float .f64 (D v x)]).run Tryd.prog w = .ok (.float .f64 (fmax (D u x) (D v x))) w := fun ts t w => run_max_f w ts t _ _ (HF.out u x hlt hxn) (HF.out v x hvn hxn)
                have hmn : ∀ ts t w, (Builtin.min_ ts t #[.float .f64 m, .float .f64 (fmax (D u x) (D v x))]).run Tryd.prog w = .ok (.float .f64 (fmin m (fmax (D u x) (D v x)))) w := fun ts t w => run_min_f w ts t _ _ HN.out (nf_fmax (HF.out u x hlt hxn) (HF.out v x hvn hxn))
                go_wp2
                go_quiet (fail)
                go_wp2
                go_roundw
                case rel =>
                  refine ⟨x + 1, _, fmin m (fmax (D u x) (D v x)), by omega, by go_num, rfl, rfl, nf_fmin HN.out (nf_fmax (HF.out u x hlt hxn) (HF.out v x hvn hxn)), ?_⟩
                  show _ = _
                  rw [← HW.out, show n - x = (n - (x + 1)) + 1 from by omega]
                  conv => rhs; unfold meetF
                  rw [if_pos (by rw [← HG.out]; exact hg)]
                case measure => simp [intOf]; omega
              | false =>
                go_wp2
                go_roundw
                case rel => exact ⟨v + 1, _, _, by omega, by omega, by go_num, rfl, rfl, nf_fmax HE'.out HN.out, HOUT.out (Or.inr (by rw [← HG.out]; exact hg))⟩
                case measure => simp [intOf]; omega
            · go_wp2
              go_roundw
              case rel => exact ⟨v + 1, _, _, by omega, by omega, by go_num, rfl, rfl, nf_fmax HE'.out HN.out, HOUT.out (Or.inl (by omega))⟩
              case measure => simp [intOf]; omega
        · go_wp2
          go_roundw
          case rel =>
            refine ⟨u + 1, _, _, by omega, by go_num, rfl, rfl, HE', ?_⟩
            show _ = _
            have hv : v = n := by omega
            have e1 : exactV D n u (n - (u + 1)) (u + 1) e = e' := by
              rw [← HV.out, hv, Nat.sub_self]; rfl
            rw [← HX.out, show n - u = (n - (u + 1)) + 1 from by omega]
            conv => rhs; unfold exactU
            rw [e1]
          case measure => simp [intOf]; omega
    · have hu2 : u = n := by omega
      have HX2 : Hid (e = exact D n) := by
        show _ = _
        rw [← HX.out, hu2, Nat.sub_self]; rfl
      clear HX hu2
      go_wp2
      go_loopw [10, 67] (fun vr vi wr => ∃ i q2 r : Nat, i ≤ n ∧ vi = .int .i64 i ∧ vr = .float .f64 r ∧ wr = w.drewN q2 ∧ Hid (nf r = true) ∧ Hid (rAll D n e (n - i) i r = radius D n)) (fun _ vi _ => n - (intOf vi).toNat)
      case atStart => exact ⟨0, q, e, Nat.zero_le _, rfl, rfl, rfl, HE, by show _ = _; rw [HX2.out]; rfl⟩
      case round =>
        obtain ⟨i, q2, r, hi, rfl, rfl, rfl, HN, HW⟩ := hrel
        by_cases hin : i < n
        · have hr := HM.out.row i hin
          go_wp2
          clear hr
          go_loopw [10, 73] (fun vr vj wr => ∃ j q3 r' : Nat, j ≤ n ∧ vj = .int .i64 j ∧ vr = .float .f64 r' ∧ wr = w.drewN q3 ∧ Hid (nf r' = true) ∧ Hid (rRow D e i (n - j) j r' = rRow D e i n 0 r)) (fun _ vj _ => n - (intOf vj).toNat)
          case atStart => exact ⟨0, q2, r, Nat.zero_le _, rfl, rfl, rfl, HN, rfl⟩
          case round =>
            obtain ⟨j, q3, r', hj, rfl, rfl, rfl, HN', HW'⟩ := hrel
            by_cases hjn : j < n
            · have he := HM.out.el i j hin hjn
              have hnd := HF.out i j hin hjn
              have HND : Hid (nf (D i j) = true) := hnd
              clear hnd
              have HR : Hid (rRow D e i (n - (j + 1)) (j + 1) (if flt (D i j) r' && am e (D i j) then D i j else r') = rRow D e i n 0 r) := by
                show _ = _
                rw [← HW'.out, show n - j = (n - (j + 1)) + 1 from by omega]
                rfl
              have HFl : Hid ((FloatKind.f64.format.order (D i j) r' == some .lt) = flt (D i j) r') := rfl
              cases hg : (FloatKind.f64.format.order (D i j) r' == some .lt) with
              | true =>
                have hfl : flt (D i j) r' = true := by rw [← HFl.out]; exact hg
                rw [hfl] at HR
                cases ha : am e (D i j) with
                | true =>
                  rw [ha] at HR
                  have HC := fun w => atMost_any e (D i j) HE.out HND.out w
                  rw [ha] at HC
                  have HC2 : Hid (∀ w, Calls Tryd.prog 24 #[.float .f64 e, .float .f64 (D i j)] w fun e_1 w' => e_1 = .returned (.bool true) ∧ w' = w) := HC
                  clear HC hfl ha
                  go_wp2_with fail
                  refine (HC2.out _).mono ?_
                  rintro e' w' ⟨rfl, rfl⟩
                  go_wp2
                  go_roundw
                  case rel => exact ⟨j + 1, _, _, by omega, by go_num, rfl, rfl, HND, HR⟩
                  case measure => simp [intOf]; omega
                | false =>
                  rw [ha] at HR
                  have HC := fun w => atMost_any e (D i j) HE.out HND.out w
                  rw [ha] at HC
                  have HC2 : Hid (∀ w, Calls Tryd.prog 24 #[.float .f64 e, .float .f64 (D i j)] w fun e_1 w' => e_1 = .returned (.bool false) ∧ w' = w) := HC
                  clear HC hfl ha
                  go_wp2_with fail
                  refine (HC2.out _).mono ?_
                  rintro e' w' ⟨rfl, rfl⟩
                  go_wp2
                  go_roundw
                  case rel => exact ⟨j + 1, _, _, by omega, by go_num, rfl, rfl, HN', HR⟩
                  case measure => simp [intOf]; omega
              | false =>
                have hfl : flt (D i j) r' = false := by rw [← HFl.out]; exact hg
                rw [hfl] at HR
                clear hfl
                go_wp2
                go_roundw
                case rel => exact ⟨j + 1, _, _, by omega, by go_num, rfl, rfl, HN', HR⟩
                case measure => simp [intOf]; omega
            · go_wp2
              go_roundw
              case rel =>
                refine ⟨i + 1, _, _, by omega, by go_num, rfl, rfl, HN', ?_⟩
                show _ = _
                have hj2 : j = n := by omega
                have e1 : rRow D e i n 0 r = r' := by rw [← HW'.out, hj2, Nat.sub_self]; rfl
                rw [← HW.out, show n - i = (n - (i + 1)) + 1 from by omega]
                conv => rhs; unfold rAll
                rw [e1]
              case measure => simp [intOf]; omega
        · have hi2 : i = n := by omega
          have HZ : Hid (radius D n = r) := by show _ = _; rw [← HW.out, hi2, Nat.sub_self]; rfl
          go_wp2
          go_ret
          exact ⟨by rw [HZ.out]; rfl, _, rfl⟩
end Go.Proofs.Qxb6613821aDoor
