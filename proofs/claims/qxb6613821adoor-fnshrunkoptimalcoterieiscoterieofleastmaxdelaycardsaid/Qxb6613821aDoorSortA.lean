/- sort.Sort over the program's own *setOrder: what is asked of its methods, and the first two functions. The loops' relations are those of the kit's shelf, turned to a memory that is known by a property alone (Less makes blocks). -/
import Derived.Test.Qxb6613821aDoorNew
import Derived.Shelf.GgSortMore.SortSort
namespace Go.Proofs.Qxb6613821aDoor
set_option linter.unusedVariables false
set_option linter.unusedSimpArgs false
open Ieee Go.RowKit Go.Sort

/-- What sort.Sort asks: I d W says that the keys in W are d. -/
structure SEnv {α : Type} [Inhabited α] (lt : α → α → Bool) (n : Nat) (rv : Value) (I : Array α → World → Prop) : Prop where
  size : ∀ d W, I d W → d.size = n
  keepB : ∃ B, (∀ d W, I d W → B ≤ W.heap.size) ∧ ∀ d W W', I d W → Go.RowKit.Below B W W' → I d W'
  less : ∀ d W, I d W → ∀ i j : Nat, i < n → j < n → Calls Tryd.prog 116 #[rv, .int .i64 (i : Int), .int .i64 (j : Int)] W fun e w' => e = .returned (.bool (lt d[i]! d[j]!)) ∧ Below W.heap.size W w'
  swapG : ∃ kb, (∀ d W, I d W → kb < W.heap.size) ∧ ∀ d W, I d W → ∀ i j : Nat, i < n → j < n → Calls Tryd.prog 117 #[rv, .int .i64 (i : Int), .int .i64 (j : Int)] W fun e w' => e = .returned (.tuple #[]) ∧ I (swp d i j) w' ∧ W.grownBy w' (some kb)
theorem SEnv.keep {α : Type} [Inhabited α] {lt : α → α → Bool} {n : Nat} {rv : Value} {I : Array α → World → Prop} (E : SEnv lt n rv I) : ∀ d W W', I d W → Go.RowKit.Below W.heap.size W W' → I d W' := by
  obtain ⟨B, h1, h2⟩ := E.keepB
  exact fun d W W' hI hb => h2 d W W' hI (hb.mono (h1 d W hI))
theorem SEnv.swap {α : Type} [Inhabited α] {lt : α → α → Bool} {n : Nat} {rv : Value} {I : Array α → World → Prop} (E : SEnv lt n rv I) : ∀ d W, I d W → ∀ i j : Nat, i < n → j < n → Calls Tryd.prog 117 #[rv, .int .i64 (i : Int), .int .i64 (j : Int)] W fun e w' => e = .returned (.tuple #[]) ∧ I (swp d i j) w' := by
  obtain ⟨kb, _, h⟩ := E.swapG
  exact fun d W hI i j hi hj => (h d W hI i j hi hj).mono fun e w' h => ⟨h.1, h.2.1⟩

theorem mLess (p : Option Addr) (w : World) : Sem.run Tryd.prog (method 257 104 (.pointer p) "Less") w = .ok (116, .pointer p) w := by kernel_rfl
theorem mSwap (p : Option Addr) (w : World) : Sem.run Tryd.prog (method 257 104 (.pointer p) "Swap") w = .ok (117, .pointer p) w := by kernel_rfl
theorem mLen (p : Option Addr) (w : World) : Sem.run Tryd.prog (method 257 104 (.pointer p) "Len") w = .ok (115, .pointer p) w := by kernel_rfl

variable {α : Type} [Inhabited α]
theorem SEnv.drew {lt : α → α → Bool} {n : Nat} {rv : Value} {I : Array α → World → Prop} (E : SEnv lt n rv I) {d : Array α} {W : World} (h : I d W) (k : Nat) : I d (W.drewN k) := E.keep d W _ h ((Below.refl _ _).drewN' k)

set_option maxHeartbeats 2000000 in
set_option maxRecDepth 100000 in
theorem insertionSort_any {lt : α → α → Bool} {n : Nat} {p : Option Addr} {I : Array α → World → Prop} (E : SEnv lt n (.pointer p) I) (hn : n ≤ 65536) (a b : Nat) (hab : a ≤ b) (hb : b ≤ n) (d : Array α) (w : World) (hI : I d w) :
    Calls Tryd.prog 82 #[.iface 104 (.pointer p), .int .i64 (a : Int), .int .i64 (b : Int)] w fun e w' => e = .returned (.tuple #[]) ∧ I (Sort.insertionSort lt d a b) w' := by
  have mL := mLess p
  have mS := mSwap p
  have HE : Hid (SEnv lt n (.pointer p) I) := E
  have HI : Hid (I d w) := hI
  clear E hI
  go_enter Tryd.func82, Tryd.ntmps82
  go_wp2
  go_loopw [6] (fun vi wr => ∃ (i : Nat) (dk : Array α), vi = .int .i64 i ∧ a < i ∧ i ≤ b + 1 ∧ Hid (I dk wr) ∧ Hid (insOuter lt a b i dk = insOuter lt a b (a + 1) d)) (fun vi _ => b + 1 - (intOf vi).toNat)
  case atStart => exact ⟨a + 1, d, by go_num, by omega, by omega, HI, rfl⟩
  case round =>
    clear HI
    obtain ⟨i, dk, rfl, hai, hib, HI, HO⟩ := hrel
    by_cases hlt : i < b
    · go_wp2
      go_loopw [7] (fun vj wr2 => ∃ (j : Nat) (dj : Array α), vj = .int .i64 j ∧ a ≤ j ∧ j ≤ i ∧ Hid (I dj wr2) ∧ Hid (insInner lt a j dj = insInner lt a i dk)) (fun vj _ => (intOf vj).toNat)
      case atStart => exact ⟨i, dk, rfl, by omega, Nat.le_refl _, HI, rfl⟩
      case round =>
        clear HI
        obtain ⟨j, dj, rfl, haj, hji, HI, HJ⟩ := hrel
        by_cases hja : a < j
        · have CL : Hid (Calls Tryd.prog 116 #[.pointer p, .int .i64 (j : Int), .int .i64 ((j - 1 : Nat) : Int)] wr fun e w' => e = .returned (.bool (lt dj[j]! dj[j - 1]!)) ∧ Below wr.heap.size wr w') := HE.out.less dj wr HI.out j (j - 1) (by omega) (by omega)
          have CS : Hid (∀ w', Below wr.heap.size wr w' → Calls Tryd.prog 117 #[.pointer p, .int .i64 (j : Int), .int .i64 ((j - 1 : Nat) : Int)] w' fun e w'' => e = .returned (.tuple #[]) ∧ I (swp dj j (j - 1)) w'') := fun w' hb => HE.out.swap dj w' (HE.out.keep dj wr w' HI.out hb) j (j - 1) (by omega) (by omega)
          rw [show (((j - 1 : Nat) : Int)) = (j : Int) - 1 by omega] at CL CS
          cases hlv : lt dj[j]! dj[j - 1]! with
          | true =>
            rw [hlv] at CL
            have HK : Hid (insInner lt a (j - 1) (swp dj j (j - 1)) = insInner lt a i dk) := by show _ = _; rw [← HJ.out, insInner_go lt a j dj hja hlv]
            clear hlv HJ
            go_wp2_with (first
              | (go_at_call 116; refine CL.out.mono ?_; rintro e w1 ⟨rfl, hb1⟩)
              | (go_at_call 117; refine (CS.out _ hb1).mono ?_; rintro e w2 ⟨rfl, hI2⟩))
            have HI2 : Hid (I (swp dj j (j - 1)) w2) := hI2
            clear hI2 hb1
            go_roundw
            case rel => exact ⟨j - 1, swp dj j (j - 1), by congr 1 <;> omega, by omega, by omega, HI2, HK⟩
            case measure => simp [intOf]; omega
          | false =>
            rw [hlv] at CL
            have HK : Hid (insOuter lt a b (i + 1) dj = insOuter lt a b (a + 1) d) := by show _ = _; rw [← HO.out, insOuter_go _ _ _ _ _ hlt, ← HJ.out, insInner_stop _ _ _ _ (Or.inr hlv)]
            clear hlv HJ
            go_wp2_with (go_at_call 116; refine CL.out.mono ?_; rintro e w1 ⟨rfl, hb1⟩)
            have HI2 : Hid (I dj w1) := HE.out.keep dj wr w1 HI.out hb1
            clear hb1
            go_roundw
            case rel => exact ⟨i + 1, dj, by go_num, by omega, by omega, HI2, HK⟩
            case measure => simp [intOf]; omega
        · have HK : Hid (insOuter lt a b (i + 1) dj = insOuter lt a b (a + 1) d) := by show _ = _; rw [← HO.out, insOuter_go _ _ _ _ _ hlt, ← HJ.out, insInner_stop _ _ _ _ (Or.inl (by omega))]
          go_wp2
          go_roundw
          case rel => exact ⟨i + 1, dj, by go_num, by omega, by omega, HI, HK⟩
          case measure => simp [intOf]; omega
    · go_wp2
      go_end0
      refine ⟨rfl, ?_⟩
      have h := HI.out
      unfold Sort.insertionSort
      rw [← HO.out, insOuter_stop _ _ _ _ _ hlt]
      exact h
end Go.Proofs.Qxb6613821aDoor
