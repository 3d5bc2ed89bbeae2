/- zzMaxDelay. -/
import Derived.Test.Qxb6613821aDoorLmd
namespace Go.Proofs.Qxb6613821aDoor
set_option linter.unusedVariables false
set_option linter.unusedSimpArgs false
open Ieee Go.RowKit

theorem far_take {D : Nat → Nat → Nat} {i j x : Nat} {l : List Nat} (h : l[j]? = some x) : farF D i (l.take (j + 1)) = fM (farF D i (l.take j)) (D i x) := by
  unfold farF
  rw [List.take_add_one, h, Option.toList_some, List.foldl_append]
  rfl
theorem bsTo_zero {D : Nat → Nat → Nat} {i : Nat} {QS : List (List Nat)} : bsTo D i QS 1 = farF D i (QS.getD 0 []) := by unfold bsTo; simp
theorem bsTo_yes {D : Nat → Nat → Nat} {i k : Nat} {QS : List (List Nat)} (h : (FloatKind.f64.format.order (farF D i (QS.getD k [])) (bsTo D i QS k) == some .lt) = true) : bsTo D i QS (k + 1) = farF D i (QS.getD k []) := by
  have h' : flt (farF D i (QS.getD k [])) (bsTo D i QS k) = true := h
  rw [show bsTo D i QS (k + 1) = if decide (k = 0) || flt (farF D i (QS.getD k [])) (bsTo D i QS k) then farF D i (QS.getD k []) else bsTo D i QS k from rfl, h', Bool.or_true, if_pos rfl]
theorem bsTo_no {D : Nat → Nat → Nat} {i k : Nat} {QS : List (List Nat)} (h0 : k ≠ 0) (h : (FloatKind.f64.format.order (farF D i (QS.getD k [])) (bsTo D i QS k) == some .lt) = false) : bsTo D i QS (k + 1) = bsTo D i QS k := by
  have h' : flt (farF D i (QS.getD k [])) (bsTo D i QS k) = false := h
  rw [show bsTo D i QS (k + 1) = if decide (k = 0) || flt (farF D i (QS.getD k [])) (bsTo D i QS k) then farF D i (QS.getD k []) else bsTo D i QS k from rfl, h', decide_eq_false h0, Bool.or_false, if_neg (by decide)]

set_option maxHeartbeats 4000000 in
theorem mxd_any (b o n cap ra : Nat) (rb ro rc : Nat → Nat) (D : Nat → Nat → Nat) (QS : List (List Nat)) (w : World) (hM : MatAt w b o n rb ro rc D) (hF : NF D n) (hn : n ≤ 256) (hm : QS.length ≤ 65536) (hl : ∀ l ∈ QS, l.length ≤ 65536) (hlt : ∀ l ∈ QS, ∀ x ∈ l, x < n)
    (hA : ∀ (k : Nat) l, QS[k]? = some l → ∃ go cap, w.cell? ⟨ra, k, none⟩ = some (.slice go l.length cap) ∧ l.length ≤ cap ∧ ∀ (j x : Nat), l[j]? = some x → ∃ g, go = some ⟨g, 0, none⟩ ∧ w.cell? ⟨g, j, none⟩ = some (.int .i64 (x : Int))) :
    Calls Tryd.prog 12 #[.slice (some ⟨b, o, none⟩) n cap, .slice (some ⟨ra, 0, none⟩) QS.length QS.length] w fun e w' => e = .returned (.float .f64 (mxd D n QS)) ∧ w' = w := by
  have HM : Hid (MatAt w b o n rb ro rc D) := hM
  have HF : Hid (NF D n) := hF
  have HL : Hid (∀ l ∈ QS, l.length ≤ 65536) := hl
  have HLT : Hid (∀ l ∈ QS, ∀ x ∈ l, x < n) := hlt
  have HA : Hid (∀ (k : Nat) l, QS[k]? = some l → ∃ go cap, w.cell? ⟨ra, k, none⟩ = some (.slice go l.length cap) ∧ l.length ≤ cap ∧ ∀ (j x : Nat), l[j]? = some x → ∃ g, go = some ⟨g, 0, none⟩ ∧ w.cell? ⟨g, j, none⟩ = some (.int .i64 (x : Int))) := hA
  clear hM hF hl hlt hA
  obtain ⟨m, hme⟩ : ∃ m, m = QS.length := ⟨_, rfl⟩
  have HME : Hid (m = QS.length) := hme
  rw [← hme] at hm ⊢
  clear hme
  go_enter Tryd.func12, Tryd.ntmps12
  go_wp2
  go_loopw [5, 6] (fun vw vi wr => ∃ i e : Nat, i ≤ n ∧ vi = .int .i64 i ∧ vw = .float .f64 e ∧ Hid (e = wsTo D QS i) ∧ wr = w) (fun _ vi _ => n - (intOf vi).toNat)
  case atStart => exact ⟨0, 0, Nat.zero_le _, rfl, rfl, rfl, rfl⟩
  case round =>
    obtain ⟨i, e, hi, rfl, rfl, HE, rfl⟩ := hrel
    by_cases hin : i < n
    · have NE : Hid (nf e = true) := by show _ = _; rw [HE.out]; exact nf_wsTo HF.out HLT.out i hi
      go_wp2
      go_loopw [7, 8] (fun vb vk wx => ∃ k bs : Nat, k ≤ m ∧ vk = .int .i64 k ∧ vb = .float .f64 bs ∧ Hid (bs = bsTo D i QS k) ∧ wx = wr) (fun _ vk _ => m - (intOf vk).toNat)
      case atStart => exact ⟨0, 0, Nat.zero_le _, rfl, rfl, rfl, rfl⟩
      case round =>
        obtain ⟨k, bs, hk, rfl, rfl, HB, rfl⟩ := hrel
        have NB : Hid (nf bs = true) := by show _ = _; rw [HB.out]; exact nf_bsTo HF.out hin HLT.out k (by rw [← HME.out]; exact hk)
        by_cases hkm : k < m
        · obtain ⟨l, hle⟩ : ∃ l, QS[k]? = some l := ⟨_, List.getElem?_eq_getElem (by rw [← HME.out]; exact hkm)⟩
          obtain ⟨go1, c1, a1, a2, a3⟩ := HA.out k l hle
          have hlm := List.mem_of_getElem? hle
          have hll := HL.out l hlm
          have HGD : Hid (QS.getD k [] = l) := by show _ = _; rw [List.getD_eq_getElem?_getD, hle]; rfl
          have A3 : Hid (∀ (j x : Nat), l[j]? = some x → ∃ g, go1 = some ⟨g, 0, none⟩ ∧ wr.cell? ⟨g, j, none⟩ = some (.int .i64 (x : Int))) := a3
          have HLM : Hid (l ∈ QS) := hlm
          obtain ⟨ll, hlle⟩ : ∃ ll, ll = l.length := ⟨_, rfl⟩
          have HLLE : Hid (ll = l.length) := hlle
          rw [← hlle] at a1 a2 hll
          clear a3 hle hlm hlle
          go_wp2
          clear a1
          go_loopw [9, 29] (fun vf vj wy => ∃ j f : Nat, j ≤ ll ∧ vj = .int .i64 j ∧ vf = .float .f64 f ∧ Hid (f = farF D i (l.take j)) ∧ wy = wr) (fun _ vj _ => ll - (intOf vj).toNat)
          case atStart => exact ⟨0, 0, Nat.zero_le _, rfl, rfl, rfl, rfl⟩
          case round =>
            obtain ⟨j, f, hj, rfl, rfl, HFA, rfl⟩ := hrel
            have NF1 : Hid (nf f = true) := by show _ = _; rw [HFA.out]; exact nf_far HF.out hin (fun w hw => HLT.out l HLM.out w (List.mem_of_mem_take hw))
            by_cases hjl : j < ll
            · obtain ⟨x, hx⟩ : ∃ x, l[j]? = some x := ⟨_, List.getElem?_eq_getElem (by rw [← HLLE.out]; exact hjl)⟩
              obtain ⟨g1, rfl, e1⟩ := A3.out j x hx
              have hxn := HLT.out l HLM.out x (List.mem_of_getElem? hx)
              have h1 := HM.out.el i x hin hxn
              have hr1 := HM.out.row i hin
              have HS : Hid (farF D i (l.take (j + 1)) = fM f (D i x)) := by show _ = _; rw [far_take hx, HFA.out]
              have ND : Hid (nf (D i x) = true) := HF.out i x hin hxn
              clear hx
              generalize D i x = dx at *
              cases hg : (FloatKind.f64.format.order dx f == some .gt) with
              | true =>
                have HR : Hid (dx = farF D i (l.take (j + 1))) := (fM_yes NF1.out ND.out hg).symm.trans HS.out.symm
                go_wp2
                go_roundw
                case rel => exact ⟨j + 1, dx, by omega, by go_num, rfl, HR, by first | trivial | rfl⟩
                case measure => simp [intOf]; omega
              | false =>
                have HR : Hid (f = farF D i (l.take (j + 1))) := (fM_no NF1.out ND.out hg).symm.trans HS.out.symm
                go_wp2
                go_roundw
                case rel => exact ⟨j + 1, f, by omega, by go_num, rfl, HR, by first | trivial | rfl⟩
                case measure => simp [intOf]; omega
            · have HR0 : Hid (f = farF D i (QS.getD k [])) := by show _ = _; rw [HGD.out, HFA.out, List.take_of_length_le (by have := HLLE.out; omega)]
              have HY : Hid ((FloatKind.f64.format.order f bs == some .lt) = true → f = bsTo D i QS (k + 1)) := fun h => by rw [HR0.out, HB.out] at h; rw [HR0.out]; exact (bsTo_yes h).symm
              have HN : Hid (k ≠ 0 → (FloatKind.f64.format.order f bs == some .lt) = false → bs = bsTo D i QS (k + 1)) := fun h0 h => by rw [HR0.out, HB.out] at h; rw [HB.out]; exact (bsTo_no h0 h).symm
              have HZ : Hid (k = 0 → f = bsTo D i QS (k + 1)) := fun h0 => by rw [HR0.out, h0]; exact bsTo_zero.symm
              by_cases hk0 : k = 0
              · have HR : Hid (f = bsTo D i QS (k + 1)) := HZ.out hk0
                subst hk0
                go_wp2
                go_roundw
                case rel => exact ⟨1, f, by omega, by go_num, rfl, HR, by first | trivial | rfl⟩
                case measure => simp [intOf]; omega
              · have hk0' : ((k : Int) == 0) = false := by simp; omega
                cases hl : (FloatKind.f64.format.order f bs == some .lt) with
                | true =>
                  have HR : Hid (f = bsTo D i QS (k + 1)) := HY.out hl
                  go_wp2
                  go_roundw
                  case rel => exact ⟨k + 1, f, by omega, by go_num, rfl, HR, by first | trivial | rfl⟩
                  case measure => simp [intOf]; omega
                | false =>
                  have HR : Hid (bs = bsTo D i QS (k + 1)) := HN.out hk0 hl
                  go_wp2
                  go_roundw
                  case rel => exact ⟨k + 1, bs, by omega, by go_num, rfl, HR, by first | trivial | rfl⟩
                  case measure => simp [intOf]; omega
        · have HS : Hid (fM e bs = wsTo D QS (i + 1)) := by show _ = _; rw [HE.out, HB.out, show k = QS.length from by have := HME.out; omega]; rfl
          cases hg : (FloatKind.f64.format.order bs e == some .gt) with
          | true =>
            have HR : Hid (bs = wsTo D QS (i + 1)) := (fM_yes NE.out NB.out hg).symm.trans HS.out
            go_wp2
            go_roundw
            case rel => exact ⟨i + 1, bs, by omega, by go_num, rfl, HR, by first | trivial | rfl⟩
            case measure => simp [intOf]; omega
          | false =>
            have HR : Hid (e = wsTo D QS (i + 1)) := (fM_no NE.out NB.out hg).symm.trans HS.out
            go_wp2
            go_roundw
            case rel => exact ⟨i + 1, e, by omega, by go_num, rfl, HR, by first | trivial | rfl⟩
            case measure => simp [intOf]; omega
    · have HR : Hid (e = mxd D n QS) := by show _ = _; rw [HE.out, show i = n from by omega]; rfl
      go_wp2
      go_ret
      have he := HR.out
      subst he
      exact ⟨rfl, rfl⟩
end Go.Proofs.Qxb6613821aDoor
