/- sort.Sort over *setOrder: reverseRange and the functions that only compare. -/
import Derived.Test.Qxb6613821aDoorSortA
namespace Go.Proofs.Qxb6613821aDoor
set_option linter.unusedVariables false
set_option linter.unusedSimpArgs false
open Ieee Go.RowKit Go.Sort
variable {α : Type} [Inhabited α]

set_option maxHeartbeats 1600000 in
set_option maxRecDepth 100000 in
theorem reverseRange_any {lt : α → α → Bool} {n : Nat} {p : Option Addr} {I : Array α → World → Prop} (E : SEnv lt n (.pointer p) I) (hn : n ≤ 65536) (a b : Nat) (hab : a ≤ b) (hb : b ≤ n) (d : Array α) (w : World) (hI : I d w) :
    Calls Tryd.prog 86 #[.iface 104 (.pointer p), .int .i64 (a : Int), .int .i64 (b : Int)] w fun e w' => e = .returned (.tuple #[]) ∧ I (reverseRange d a b) w' := by
  have mS := mSwap p
  have HE : Hid (SEnv lt n (.pointer p) I) := E
  have HI : Hid (I d w) := hI
  clear E hI
  go_enter Tryd.func86, Tryd.ntmps86
  go_wp2
  go_loopg [6, 7] (b - a) (fun k s6 s7 wr => ∃ (i jn : Nat) (jz : Int) (dk : Array α), s6 = .int .i64 i ∧ s7 = .int .i64 jz ∧ ((i : Int) < jz → jz = jn ∧ jn < n) ∧ (¬ (i : Int) < jz → ¬ i < jn) ∧ jn - i ≤ k ∧ Hid (I dk wr) ∧ Hid (reverseLoop i jn dk = reverseLoop a (b - 1) d))
  case atStart => exact ⟨a, b - 1, (b : Int) - 1, d, rfl, rfl, fun h => ⟨by omega, by omega⟩, fun h => by omega, by omega, HI, rfl⟩
  case round =>
    clear HI
    obtain ⟨i, jn, jz, dk, rfl, rfl, h1, h2, hk, HI, HR⟩ := hrel
    by_cases hlt : (i : Int) < jz
    · obtain ⟨rfl, hjn⟩ := h1 hlt
      have hij : i < jn := by omega
      have CS : Hid (Calls Tryd.prog 117 #[.pointer p, .int .i64 (i : Int), .int .i64 (jn : Int)] wr fun e w' => e = .returned (.tuple #[]) ∧ I (swp dk i jn) w') := HE.out.swap dk wr HI.out i jn (by omega) (by omega)
      have HR2 : Hid (reverseLoop (i + 1) (jn - 1) (swp dk i jn) = reverseLoop a (b - 1) d) := by
        have h := HR.out
        rw [reverseLoop, if_pos hij] at h
        exact h
      clear h1 h2
      go_wp2_with (go_at_call 117; refine CS.out.mono ?_; rintro e w2 ⟨rfl, hI2⟩)
      have HI2 : Hid (I (swp dk i jn) w2) := hI2
      clear hI2
      go_roundg (jn - 1 - (i + 1))
      case measure => omega
      case rel => exact ⟨i + 1, jn - 1, (jn : Int) - 1, swp dk i jn, by go_num, rfl, fun h => ⟨by omega, by omega⟩, fun h => by omega, Nat.le_refl _, HI2, HR2⟩
    · have hnot := h2 hlt
      go_wp2
      go_end0
      refine ⟨rfl, ?_⟩
      have h := HR.out
      rw [reverseLoop, if_neg hnot] at h
      rw [reverseRange, ← h]
      exact HI.out

/-- The counter of exchanges in its block. -/
def CAt (W : World) (cb s : Nat) : Prop := W.heap[cb]? = some (.cells #[.int .i64 (s : Int)] 3 (0, 0))
theorem CAt.cell {W : World} {cb s : Nat} (h : CAt W cb s) : W.cell? ⟨cb, 0, none⟩ = some (.int .i64 (s : Int)) := by have := cell_of_row W cb 0 _ _ _ h; simpa using this
theorem CAt.frozen {W : World} {cb s : Nat} (h : CAt W cb s) : W.frozen? ⟨cb, 0, none⟩ = false := frozen_of_row W cb 0 _ _ h
theorem CAt.lt {W : World} {cb s : Nat} (h : CAt W cb s) : cb < W.heap.size := (Array.getElem?_eq_some_iff.1 h).1
theorem CAt.keep {W W' : World} {cb s : Nat} (h : CAt W cb s) (hb : Below W.heap.size W W') : CAt W' cb s := (hb.block cb h.lt).trans h
theorem CAt.set {W : World} {cb s : Nat} (h : CAt W cb s) (t : Nat) : CAt (W.setCell ⟨cb, 0, none⟩ (.int .i64 (t : Int))) cb t := by
  have h1 : (W.setCell ⟨cb, 0, none⟩ (.int .i64 (t : Int))).heap[cb]? = _ := heap_setCell_same W cb 0 _ _ _ h
  unfold CAt
  rw [h1]; simp

set_option maxHeartbeats 1600000 in
set_option maxRecDepth 100000 in
theorem order2_any {lt : α → α → Bool} {n : Nat} {p : Option Addr} {I : Array α → World → Prop} (E : SEnv lt n (.pointer p) I) (hn : n ≤ 65536) (a b cb s : Nat) (ha : a < n) (hb : b < n) (hs : s < 65536) (d : Array α) (W0 W : World) (hI : I d W0) (hB : Below W0.heap.size W0 W) (hcb : W0.heap.size ≤ cb) (hC : CAt W cb s) :
    Calls Tryd.prog 93 #[.iface 104 (.pointer p), .int .i64 (a : Int), .int .i64 (b : Int), .pointer (some ⟨cb, 0, none⟩)] W fun e w' =>
      e = .returned (.tuple #[.int .i64 ((order2 lt d a b s).1 : Int), .int .i64 ((order2 lt d a b s).2.1 : Int)]) ∧ Below W0.heap.size W0 w' ∧ CAt w' cb (order2 lt d a b s).2.2 := by
  have mL := mLess p
  have CL : Hid (Calls Tryd.prog 116 #[.pointer p, .int .i64 (b : Int), .int .i64 (a : Int)] W fun e w' => e = .returned (.bool (lt d[b]! d[a]!)) ∧ Below W.heap.size W w') := E.less d W (E.keep d W0 W hI hB) b a hb ha
  have HC : Hid (CAt W cb s) := hC
  have HB : Hid (Below W0.heap.size W0 W) := hB
  clear E hI hC hB
  cases hlv : lt d[b]! d[a]! with
  | true =>
    rw [hlv] at CL
    have e2 : order2 lt d a b s = (b, a, s + 1) := by simp [order2, hlv]
    rw [e2]
    clear hlv e2
    go_enter Tryd.func93, Tryd.ntmps93
    go_wp2_with fail
    refine CL.out.mono ?_
    rintro e w1 ⟨rfl, hb1⟩
    have hc := (HC.out.keep hb1).cell
    have hf := (HC.out.keep hb1).frozen
    have HC1 : Hid (CAt w1 cb s) := HC.out.keep hb1
    have HB1 : Hid (Below W0.heap.size W0 w1) := HB.out.trans (hb1.mono HB.out.size)
    clear hb1
    go_wp2
    go_ret2
    exact ⟨rfl, HB1.out.setCell hcb _, HC1.out.set (s + 1)⟩
  | false =>
    rw [hlv] at CL
    have e2 : order2 lt d a b s = (a, b, s) := by simp [order2, hlv]
    rw [e2]
    clear hlv e2
    go_enter Tryd.func93, Tryd.ntmps93
    go_wp2_with fail
    refine CL.out.mono ?_
    rintro e w1 ⟨rfl, hb1⟩
    have HC1 : Hid (CAt w1 cb s) := HC.out.keep hb1
    have HB1 : Hid (Below W0.heap.size W0 w1) := HB.out.trans (hb1.mono HB.out.size)
    clear hb1
    go_wp2
    go_ret2
    exact ⟨rfl, HB1.out, HC1.out⟩
end Go.Proofs.Qxb6613821aDoor
