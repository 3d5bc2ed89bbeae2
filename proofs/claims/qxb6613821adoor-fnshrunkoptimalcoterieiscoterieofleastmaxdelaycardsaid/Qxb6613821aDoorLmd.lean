/- zzLeastMaxDelay. -/
import Derived.Test.Qxb6613821aDoorRadius
import Derived.Test.Qxb6613821aDoorLeast
namespace Go.Proofs.Qxb6613821aDoor
set_option linter.unusedVariables false
set_option linter.unusedSimpArgs false
open Ieee Go.RowKit

theorem fM_yes {a b : Nat} (ha : nf a = true) (hb : nf b = true) (h : (FloatKind.f64.format.order b a == some .gt) = true) : fM a b = b := by
  have : flt a b = true := by rw [← order_gt hb ha]; exact h
  unfold fM; rw [this]; rfl
theorem fM_no {a b : Nat} (ha : nf a = true) (hb : nf b = true) (h : (FloatKind.f64.format.order b a == some .gt) = false) : fM a b = a := by
  have : flt a b = false := by rw [← order_gt hb ha]; exact h
  unfold fM; rw [this]; rfl
theorem mtTo_zero (D : Nat → Nat → Nat) (u v : Nat) : mtTo D u v 1 = fM (D u 0) (D v 0) := by unfold mtTo; simp
theorem mtTo_yes {D : Nat → Nat → Nat} {u v x : Nat} (h : (FloatKind.f64.format.order (fM (D u x) (D v x)) (mtTo D u v x) == some .lt) = true) : mtTo D u v (x + 1) = fM (D u x) (D v x) := by
  have h' : flt (fM (D u x) (D v x)) (mtTo D u v x) = true := h
  rw [show mtTo D u v (x + 1) = if decide (x = 0) || flt (fM (D u x) (D v x)) (mtTo D u v x) then fM (D u x) (D v x) else mtTo D u v x from rfl, h', Bool.or_true, if_pos rfl]
theorem mtTo_no {D : Nat → Nat → Nat} {u v x : Nat} (h0 : x ≠ 0) (h : (FloatKind.f64.format.order (fM (D u x) (D v x)) (mtTo D u v x) == some .lt) = false) : mtTo D u v (x + 1) = mtTo D u v x := by
  have h' : flt (fM (D u x) (D v x)) (mtTo D u v x) = false := h
  rw [show mtTo D u v (x + 1) = if decide (x = 0) || flt (fM (D u x) (D v x)) (mtTo D u v x) then fM (D u x) (D v x) else mtTo D u v x from rfl, h', decide_eq_false h0, Bool.or_false, if_neg (by decide)]

set_option maxHeartbeats 4000000 in
theorem lmd_any (b o n cap : Nat) (rb ro rc : Nat → Nat) (D : Nat → Nat → Nat) (w : World) (hM : MatAt w b o n rb ro rc D) (hF : NF D n) (hn : n ≤ 256) :
    Calls Tryd.prog 11 #[.slice (some ⟨b, o, none⟩) n cap] w fun e w' => e = .returned (.float .f64 (lmd D n)) ∧ w' = w := by
  have HM : Hid (MatAt w b o n rb ro rc D) := hM
  have HF : Hid (NF D n) := hF
  clear hM hF
  go_enter Tryd.func11, Tryd.ntmps11
  go_wp2
  go_loopw [4, 5] (fun ve vu wr => ∃ u e : Nat, u ≤ n ∧ vu = .int .i64 u ∧ ve = .float .f64 e ∧ Hid (e = lU D n u) ∧ wr = w) (fun _ vu _ => n - (intOf vu).toNat)
  case atStart => exact ⟨0, 0, Nat.zero_le _, rfl, rfl, rfl, rfl⟩
  case round =>
    obtain ⟨u, e, hu, rfl, rfl, HE, rfl⟩ := hrel
    by_cases hlt : u < n
    · have NE : Hid (nf e = true) := by show _ = _; rw [HE.out]; exact nf_lU HF.out u hu
      go_wp2
      go_loopw [4, 6] (fun ve vv wx => ∃ v k e' : Nat, v ≤ n ∧ u < v ∧ vv = .int .i64 v ∧ ve = .float .f64 e' ∧ Hid (v = u + 1 + k) ∧ Hid (e' = lV D n u e k) ∧ wx = wr) (fun _ vv _ => n - (intOf vv).toNat)
      case atStart => exact ⟨u + 1, 0, e, by omega, by omega, by go_num, rfl, rfl, rfl, rfl⟩
      case round =>
        obtain ⟨v, k, e', hv, huv, rfl, rfl, HV, HE', rfl⟩ := hrel
        by_cases hvn : v < n
        · have NE' : Hid (nf e' = true) := by show _ = _; rw [HE'.out]; exact nf_lV HF.out hlt NE.out k (by have := HV.out; omega)
          go_wp2
          go_loopw [7, 8] (fun vm vx wy => ∃ x mt : Nat, x ≤ n ∧ vx = .int .i64 x ∧ vm = .float .f64 mt ∧ Hid (mt = mtTo D u v x) ∧ wy = wr) (fun _ vx _ => n - (intOf vx).toNat)
          case atStart => exact ⟨0, 0, Nat.zero_le _, rfl, rfl, rfl, rfl⟩
          case round =>
            obtain ⟨x, mt, hx, rfl, rfl, HT, rfl⟩ := hrel
            have NT : Hid (nf mt = true) := by show _ = _; rw [HT.out]; exact nf_mtTo HF.out hlt hvn x hx
            by_cases hxn : x < n
            · have h1 := HM.out.el u x hlt hxn
              have h2 := HM.out.el v x hvn hxn
              have hr1 := HM.out.row u hlt
              have hr2 := HM.out.row v hvn
              obtain ⟨dm, hdm⟩ : ∃ d, d = fM (D u x) (D v x) := ⟨_, rfl⟩
              have HDM : Hid (dm = fM (D u x) (D v x)) := hdm
              have HY : Hid ((FloatKind.f64.format.order dm mt == some .lt) = true → dm = mtTo D u v (x + 1)) := fun h => by rw [HDM.out, HT.out] at h; rw [HDM.out]; exact (mtTo_yes h).symm
              have HN : Hid (x ≠ 0 → (FloatKind.f64.format.order dm mt == some .lt) = false → mt = mtTo D u v (x + 1)) := fun h0 h => by rw [HDM.out, HT.out] at h; rw [HT.out]; exact (mtTo_no h0 h).symm
              have HZ : Hid (x = 0 → dm = mtTo D u v (x + 1)) := fun h0 => by rw [HDM.out, h0]; exact (mtTo_zero _ _ _).symm
              cases hg : (FloatKind.f64.format.order (D v x) (D u x) == some .gt) with
              | true =>
                have hde : D v x = dm := by rw [hdm]; exact (fM_yes (HF.out u x hlt hxn) (HF.out v x hvn hxn) hg).symm
                clear hdm
                rw [hde] at h2 hg
                clear hde
                generalize D u x = d1 at h1 hg
                by_cases hx0 : x = 0
                · have HR : Hid (dm = mtTo D u v (x + 1)) := HZ.out hx0
                  subst hx0
                  rw [Nat.add_zero] at h1 h2
                  go_wp2
                  go_roundw
                  case rel => exact ⟨1, dm, by omega, by go_num, rfl, HR, by first | trivial | rfl⟩
                  case measure => simp [intOf]; omega
                · have hx0' : ((x : Int) == 0) = false := by simp; omega
                  cases hl : (FloatKind.f64.format.order dm mt == some .lt) with
                  | true =>
                    have HR : Hid (dm = mtTo D u v (x + 1)) := HY.out hl
                    go_wp2
                    go_roundw
                    case rel => exact ⟨x + 1, dm, by omega, by go_num, rfl, HR, by first | trivial | rfl⟩
                    case measure => simp [intOf]; omega
                  | false =>
                    have HR : Hid (mt = mtTo D u v (x + 1)) := HN.out hx0 hl
                    go_wp2
                    go_roundw
                    case rel => exact ⟨x + 1, mt, by omega, by go_num, rfl, HR, by first | trivial | rfl⟩
                    case measure => simp [intOf]; omega
              | false =>
                have hde : D u x = dm := by rw [hdm]; exact (fM_no (HF.out u x hlt hxn) (HF.out v x hvn hxn) hg).symm
                clear hdm
                rw [hde] at h1 hg
                clear hde
                generalize D v x = d2 at h2 hg
                by_cases hx0 : x = 0
                · have HR : Hid (dm = mtTo D u v (x + 1)) := HZ.out hx0
                  subst hx0
                  rw [Nat.add_zero] at h1 h2
                  go_wp2
                  go_roundw
                  case rel => exact ⟨1, dm, by omega, by go_num, rfl, HR, by first | trivial | rfl⟩
                  case measure => simp [intOf]; omega
                · have hx0' : ((x : Int) == 0) = false := by simp; omega
                  cases hl : (FloatKind.f64.format.order dm mt == some .lt) with
                  | true =>
                    have HR : Hid (dm = mtTo D u v (x + 1)) := HY.out hl
                    go_wp2
                    go_roundw
                    case rel => exact ⟨x + 1, dm, by omega, by go_num, rfl, HR, by first | trivial | rfl⟩
                    case measure => simp [intOf]; omega
                  | false =>
                    have HR : Hid (mt = mtTo D u v (x + 1)) := HN.out hx0 hl
                    go_wp2
                    go_roundw
                    case rel => exact ⟨x + 1, mt, by omega, by go_num, rfl, HR, by first | trivial | rfl⟩
                    case measure => simp [intOf]; omega
            · have HT2 : Hid (mt = mtTo D u v n) := by show _ = _; rw [HT.out, show x = n from by omega]
              have HS : Hid (fM e' mt = lV D n u e (k + 1)) := by
                show _ = _
                rw [HE'.out, HT2.out, HV.out]; rfl
              cases hg : (FloatKind.f64.format.order mt e' == some .gt) with
              | true =>
                have HR : Hid (mt = lV D n u e (k + 1)) := (fM_yes NE'.out NT.out hg).symm.trans HS.out
                go_wp2
                go_roundw
                case rel => exact ⟨v + 1, k + 1, mt, by omega, by omega, by go_num, rfl, by show _ = _; have := HV.out; omega, HR, by first | trivial | rfl⟩
                case measure => simp [intOf]; omega
              | false =>
                have HR : Hid (e' = lV D n u e (k + 1)) := (fM_no NE'.out NT.out hg).symm.trans HS.out
                go_wp2
                go_roundw
                case rel => exact ⟨v + 1, k + 1, e', by omega, by omega, by go_num, rfl, by show _ = _; have := HV.out; omega, HR, by first | trivial | rfl⟩
                case measure => simp [intOf]; omega
        · have HR : Hid (e' = lU D n (u + 1)) := by
            show _ = _
            have hk : k = n - (u + 1) := by have := HV.out; omega
            rw [HE'.out, hk, HE.out]; rfl
          go_wp2
          go_roundw
          case rel => exact ⟨u + 1, e', by omega, by go_num, rfl, HR, by first | trivial | rfl⟩
          case measure => simp [intOf]; omega
    · have HR : Hid (e = lmd D n) := by show _ = _; rw [HE.out, show u = n from by omega]; rfl
      go_wp2
      go_ret
      have he := HR.out
      subst he
      exact ⟨rfl, rfl⟩
end Go.Proofs.Qxb6613821aDoor
