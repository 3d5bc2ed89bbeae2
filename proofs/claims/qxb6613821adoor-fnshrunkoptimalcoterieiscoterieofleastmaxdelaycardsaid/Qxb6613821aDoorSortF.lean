/- sort.Sort over *setOrder: breakPatterns. -/
import Derived.Test.Qxb6613821aDoorSortE
import Derived.Test.Qxb6613821aDoorShelf
namespace Go.Proofs.Qxb6613821aDoor
set_option linter.unusedVariables false
set_option linter.unusedSimpArgs false
open Ieee Go.RowKit Go.Sort Go.Lib
variable {α : Type} [Inhabited α]

/-- The random state in its block. -/
def RAt (W : World) (g R : Nat) : Prop := W.heap[g]? = some (.cells #[.int .u64 (R : Int)] 114 (0, 0))
theorem RAt.cell {W : World} {cb s : Nat} (h : RAt W cb s) : W.cell? ⟨cb, 0, none⟩ = some (.int .u64 (s : Int)) := by have := cell_of_row W cb 0 _ _ _ h; simpa using this
theorem RAt.frozen {W : World} {cb s : Nat} (h : RAt W cb s) : W.frozen? ⟨cb, 0, none⟩ = false := frozen_of_row W cb 0 _ _ h
theorem RAt.lt {W : World} {cb s : Nat} (h : RAt W cb s) : cb < W.heap.size := (Array.getElem?_eq_some_iff.1 h).1
theorem RAt.set {W : World} {cb s : Nat} (h : RAt W cb s) (t : Nat) : RAt (W.setCell ⟨cb, 0, none⟩ (.int .u64 (t : Int))) cb t := by
  have h1 : (W.setCell ⟨cb, 0, none⟩ (.int .u64 (t : Int))).heap[cb]? = _ := heap_setCell_same W cb 0 _ _ _ h
  unfold RAt
  rw [h1]; simp


set_option maxHeartbeats 4000000 in
set_option maxRecDepth 1000000 in
theorem breakPatterns_go {lt : α → α → Bool} {n : Nat} {p : Option Addr} {I : Array α → World → Prop} (E : SEnv lt n (.pointer p) I) (hn : n ≤ 65536) (a L : Nat) (hb : a + L ≤ n) (h8 : 8 ≤ L) (d : Array α) (w : World) (hI : I d w) :
    Calls Tryd.prog 84 #[.iface 104 (.pointer p), .int .i64 (a : Int), .int .i64 ((a + L : Nat) : Int)] w fun e w' => e = .returned (.tuple #[]) ∧ I (breakPatterns d a (a + L)) w' := by
  have mS := mSwap p
  rw [breakPatterns_eq d a L h8]
  obtain ⟨M, hM⟩ : ∃ M : Nat, M = 1 <<< bitsLen L := ⟨_, rfl⟩
  have hM1 : 1 ≤ M := by rw [hM, Nat.one_shiftLeft]; exact Nat.two_pow_pos _
  have hM2 : M ≤ 2 * L := by rw [hM, Nat.one_shiftLeft]; exact two_pow_bitsLen_le (by omega)
  have HNP : Hid (∀ w, Calls Tryd.prog 72 #[.int .i64 (L : Int)] w fun e w' => e = .returned (.int .u64 (M : Int)) ∧ w' = w) := by rw [hM]; exact fun w => Tryd.nextPowerOfTwo L (by omega) w
  rw [← hM]
  clear hM
  have hLz : ((a : Int) + (L : Int) - (a : Int)) = (L : Int) := by omega
  have h8z : (8 : Int) ≤ (L : Int) := by omega
  obtain ⟨B, hBs, hBk⟩ := E.keepB
  obtain ⟨kb, hks, hsw⟩ := E.swapG
  have hB0 := hBs d w hI
  have hkb := hks d w hI
  have HK : Hid (∀ d W W', I d W → Go.RowKit.Below B W W' → I d W') := hBk
  have HSW : Hid (∀ d W, I d W → ∀ i j : Nat, i < n → j < n → Calls Tryd.prog 117 #[.pointer p, .int .i64 (i : Int), .int .i64 (j : Int)] W fun e w' => e = .returned (.tuple #[]) ∧ I (swp d i j) w' ∧ W.grownBy w' (some kb)) := hsw
  have HI0 : Hid (I d w) := hI
  clear hBs hBk hks hsw E hI
  have hwL : IntKind.u64.wrap (L : Int) = (L : Int) := by simp [IntKind.wrap, IntKind.bits, IntKind.signed]; omega
  go_enter Tryd.func84, Tryd.ntmps84
  go_wp2_with (first | (go_at_call 72; refine (HNP.out _).mono ?_; rintro e w' ⟨rfl, hw'⟩; rw [hw']; clear hw'))
  go_loopg [9] 3 (fun g1 vi wr => ∃ (t : Nat) (r : UInt64) (dk : Array α), vi = .int .i64 ((a : Int) + (L : Int) / 4 * 2 - 1 + (t : Int)) ∧ t ≤ 3 ∧ 3 - t ≤ g1 ∧ Hid (I dk wr) ∧ Hid (RAt wr w.heap.size r.toNat) ∧
      Hid (bpRest a L M (a + L / 4 * 2 - 1) (3 - t) t (r, dk) = bpRest a L M (a + L / 4 * 2 - 1) 3 0 (UInt64.ofNat L, d)))
  case atStart =>
    refine ⟨0, UInt64.ofNat L, d, by simp, by omega, by omega, HK.out d w _ HI0.out ((Go.RowKit.Below.refl B w).alloc hB0 _), ?_, rfl⟩
    rw [show (UInt64.ofNat L).toNat = L from by simp; omega]
    show RAt _ _ _
    unfold RAt
    (repeat (first | refine blk_drew ?_ | refine blk_new (by simp <;> omega) | refine blk_old ?_))
  case round =>
    obtain ⟨t, r, dk, rfl, ht, hg1, HI, HR, HQ⟩ := hrel
    by_cases ht3 : t < 3
    · have hle : (a : Int) + (L : Int) / 4 * 2 - 1 + (t : Int) ≤ (a : Int) + (L : Int) / 4 * 2 + 1 := by omega
      obtain ⟨R, hRr⟩ : ∃ R : Nat, R = r.toNat := ⟨_, rfl⟩
      have lR : R < 18446744073709551616 := by rw [hRr]; exact r.toNat_lt
      obtain ⟨R', hR'⟩ : ∃ R' : Nat, R' = xorNextN R := ⟨_, rfl⟩
      have lR' : R' < 18446744073709551616 := by rw [hR']; exact xorNextN_lt R lR
      obtain ⟨O, hO⟩ : ∃ O : Nat, O = R' &&& (M - 1) := ⟨_, rfl⟩
      have lO : O ≤ M - 1 := by rw [hO]; exact Nat.and_le_right
      have eAnd : bits .and .u64 (R' : Int) ((M : Int) - 1) = (O : Int) := by
        rw [show ((M : Int) - 1) = ((M - 1 : Nat) : Int) by omega, bits_and_u64_nat _ _ lR' (by omega), hO]
      rw [← hRr] at HR
      have HN : Hid (Calls Tryd.prog 73 #[.pointer (some ⟨w.heap.size, 0, none⟩)] wr fun e w' => e = .returned (.int .u64 (R' : Int)) ∧ w' = (wr.setCell ⟨w.heap.size, 0, none⟩ (.int .u64 (R' : Int))).drewN 3) := by
        rw [hR']; exact Tryd.xorshift_Next _ _ R lR wr HR.out.cell HR.out.frozen
      have HX : Hid (R' = (xorNext r).toNat ∧ O = (xorNext r).toNat &&& (M - 1)) := by
        have e : R' = (xorNext r).toNat := by rw [hR', hRr, xorNext_toNat]
        exact ⟨e, by rw [hO, e]⟩
      have HI2 : Hid (I dk ((wr.setCell ⟨w.heap.size, 0, none⟩ (.int .u64 (R' : Int))).drewN 3)) := HK.out dk wr _ HI.out (((Go.RowKit.Below.refl B wr).setCell (by simp; omega) _).drewN' 3)
      have HR2 : Hid (RAt ((wr.setCell ⟨w.heap.size, 0, none⟩ (.int .u64 (R' : Int))).drewN 3) w.heap.size R') := HR.out.set R'
      clear hRr hR' hO lR lR' HI HR
      generalize (wr.setCell ⟨w.heap.size, 0, none⟩ (.int .u64 (R' : Int))).drewN 3 = w2 at *
      by_cases hLO : L ≤ O
      · have hLOz : (L : Int) ≤ (O : Int) := by omega
        have CS : Hid (Calls Tryd.prog 117 #[.pointer p, .int .i64 ((a : Int) + (L : Int) / 4 * 2 - 1 + (t : Int)), .int .i64 ((a : Int) + ((O : Int) - (L : Int)))] w2 fun e w' => e = .returned (.tuple #[]) ∧ I (swp dk (a + L / 4 * 2 - 1 + t) (a + (O - L))) w' ∧ w2.grownBy w' (some kb)) := by
          have h := HSW.out dk w2 HI2.out (a + L / 4 * 2 - 1 + t) (a + (O - L)) (by omega) (by omega)
          rw [show ((a + L / 4 * 2 - 1 + t : Nat) : Int) = (a : Int) + (L : Int) / 4 * 2 - 1 + (t : Int) by omega, show ((a + (O - L) : Nat) : Int) = (a : Int) + ((O : Int) - (L : Int)) by omega] at h
          exact h
        have HQ2 : Hid (bpRest a L M (a + L / 4 * 2 - 1) (3 - (t + 1)) (t + 1) (xorNext r, swp dk (a + L / 4 * 2 - 1 + t) (a + (O - L))) = bpRest a L M (a + L / 4 * 2 - 1) 3 0 (UInt64.ofNat L, d)) := by
          show _ = _
          rw [← HQ.out, bp_step a L M _ t r dk (O - L) ht3 (by rw [← HX.out.2, if_pos (by omega)])]
        go_wp2_with (first | (go_at_call 73; refine HN.out.mono ?_; rintro e w' ⟨rfl, hw'⟩; rw [hw']; clear hw') | (go_at_call 117; refine CS.out.mono ?_; rintro e w3 ⟨rfl, hI3, hg3⟩))
        have HI3 : Hid (I (swp dk (a + L / 4 * 2 - 1 + t) (a + (O - L))) w3) := hI3
        have HR3 : Hid (RAt w3 w.heap.size (xorNext r).toNat) := by
          show RAt _ _ _
          rw [← HX.out.1]; exact (hg3.block _ HR2.out.lt (by simp; omega)).trans HR2.out
        clear hI3 hg3
        go_roundg (3 - (t + 1))
        case measure => omega
        case rel => exact ⟨t + 1, xorNext r, _, by congr 1; push_cast; omega, by omega, Nat.le_refl _, HI3, HR3, HQ2⟩
      · have hLOz : ¬ (L : Int) ≤ (O : Int) := by omega
        have CS : Hid (Calls Tryd.prog 117 #[.pointer p, .int .i64 ((a : Int) + (L : Int) / 4 * 2 - 1 + (t : Int)), .int .i64 ((a : Int) + (O : Int))] w2 fun e w' => e = .returned (.tuple #[]) ∧ I (swp dk (a + L / 4 * 2 - 1 + t) (a + O)) w' ∧ w2.grownBy w' (some kb)) := by
          have h := HSW.out dk w2 HI2.out (a + L / 4 * 2 - 1 + t) (a + O) (by omega) (by omega)
          rw [show ((a + L / 4 * 2 - 1 + t : Nat) : Int) = (a : Int) + (L : Int) / 4 * 2 - 1 + (t : Int) by omega, show ((a + O : Nat) : Int) = (a : Int) + (O : Int) by omega] at h
          exact h
        have HQ2 : Hid (bpRest a L M (a + L / 4 * 2 - 1) (3 - (t + 1)) (t + 1) (xorNext r, swp dk (a + L / 4 * 2 - 1 + t) (a + O)) = bpRest a L M (a + L / 4 * 2 - 1) 3 0 (UInt64.ofNat L, d)) := by
          show _ = _
          rw [← HQ.out, bp_step a L M _ t r dk O ht3 (by rw [← HX.out.2, if_neg (by omega)])]
        go_wp2_with (first | (go_at_call 73; refine HN.out.mono ?_; rintro e w' ⟨rfl, hw'⟩; rw [hw']; clear hw') | (go_at_call 117; refine CS.out.mono ?_; rintro e w3 ⟨rfl, hI3, hg3⟩))
        have HI3 : Hid (I (swp dk (a + L / 4 * 2 - 1 + t) (a + O)) w3) := hI3
        have HR3 : Hid (RAt w3 w.heap.size (xorNext r).toNat) := by
          show RAt _ _ _
          rw [← HX.out.1]; exact (hg3.block _ HR2.out.lt (by simp; omega)).trans HR2.out
        clear hI3 hg3
        go_roundg (3 - (t + 1))
        case measure => omega
        case rel => exact ⟨t + 1, xorNext r, _, by congr 1; push_cast; omega, by omega, Nat.le_refl _, HI3, HR3, HQ2⟩
    · obtain rfl : t = 3 := by omega
      have hle : ¬ ((a : Int) + (L : Int) / 4 * 2 - 1 + ((3 : Nat) : Int) ≤ (a : Int) + (L : Int) / 4 * 2 + 1) := by omega
      go_wp2
      go_end0
      exact ⟨rfl, by rw [← HQ.out]; exact HI.out⟩

set_option maxHeartbeats 4000000 in
set_option maxRecDepth 1000000 in
theorem breakPatterns_any {lt : α → α → Bool} {n : Nat} {p : Option Addr} {I : Array α → World → Prop} (E : SEnv lt n (.pointer p) I) (hn : n ≤ 65536) (a b : Nat) (hab : a ≤ b) (hb : b ≤ n) (d : Array α) (w : World) (hI : I d w) :
    Calls Tryd.prog 84 #[.iface 104 (.pointer p), .int .i64 (a : Int), .int .i64 (b : Int)] w fun e w' => e = .returned (.tuple #[]) ∧ I (breakPatterns d a b) w' := by
  obtain ⟨L, rfl⟩ : ∃ L, b = a + L := ⟨b - a, by omega⟩
  by_cases h8 : 8 ≤ L
  · exact breakPatterns_go E hn a L hb h8 d w hI
  · have hv : breakPatterns d a (a + L) = d := by unfold breakPatterns; simp only [Nat.add_sub_cancel_left]; rw [if_neg h8]
    rw [hv]
    have hLz : ((a : Int) + (L : Int) - (a : Int)) = (L : Int) := by omega
    have h8z : ¬ (8 : Int) ≤ (L : Int) := by omega
    have HI : Hid (I d w) := hI
    clear E hI hv
    go_enter Tryd.func84, Tryd.ntmps84
    go_wp2
    go_end0
    exact ⟨rfl, HI.out⟩
end Go.Proofs.Qxb6613821aDoor
