/- sort.Sort over *setOrder: the choice of the pivot. -/
import Derived.Test.Qxb6613821aDoorSortB
namespace Go.Proofs.Qxb6613821aDoor
set_option linter.unusedVariables false
set_option linter.unusedSimpArgs false
open Ieee Go.RowKit Go.Sort
variable {α : Type} [Inhabited α]

set_option maxHeartbeats 1600000 in
set_option maxRecDepth 100000 in
theorem median_any {lt : α → α → Bool} {n : Nat} {p : Option Addr} {I : Array α → World → Prop} (E : SEnv lt n (.pointer p) I) (hn : n ≤ 65536) (a b c cb s : Nat) (ha : a < n) (hb : b < n) (hc : c < n) (hs : s + 3 < 65536) (d : Array α) (W0 W : World) (hI : I d W0) (hB : Below W0.heap.size W0 W) (hcb : W0.heap.size ≤ cb) (hC : CAt W cb s) :
    Calls Tryd.prog 92 #[.iface 104 (.pointer p), .int .i64 (a : Int), .int .i64 (b : Int), .int .i64 (c : Int), .pointer (some ⟨cb, 0, none⟩)] W fun e w' =>
      e = .returned (.int .i64 ((median lt d a b c s).1 : Int)) ∧ Below W0.heap.size W0 w' ∧ CAt w' cb (median lt d a b c s).2 := by
  have l1 := order2_lt' lt d s ha hb
  have s1 := order2_swaps' lt d a b s
  have l2 := order2_lt' lt d (order2 lt d a b s).2.2 l1.2 hc
  have s2 := order2_swaps' lt d (order2 lt d a b s).2.1 c (order2 lt d a b s).2.2
  have step : ∀ (t a' b' : Nat) (W : World), a' < n → b' < n → t < 65536 → Below W0.heap.size W0 W → CAt W cb t → Calls Tryd.prog 93 #[.iface 104 (.pointer p), .int .i64 (a' : Int), .int .i64 (b' : Int), .pointer (some ⟨cb, 0, none⟩)] W fun e w' =>
      e = .returned (.tuple #[.int .i64 ((order2 lt d a' b' t).1 : Int), .int .i64 ((order2 lt d a' b' t).2.1 : Int)]) ∧ Below W0.heap.size W0 w' ∧ CAt w' cb (order2 lt d a' b' t).2.2 := fun t a' b' W h1 h2 h3 h4 h5 => order2_any E hn a' b' cb t h1 h2 h3 d W0 W hI h4 hcb h5
  have HS : Hid (∀ (t a' b' : Nat) (W : World), a' < n → b' < n → t < 65536 → Below W0.heap.size W0 W → CAt W cb t → Calls Tryd.prog 93 #[.iface 104 (.pointer p), .int .i64 (a' : Int), .int .i64 (b' : Int), .pointer (some ⟨cb, 0, none⟩)] W fun e w' =>
      e = .returned (.tuple #[.int .i64 ((order2 lt d a' b' t).1 : Int), .int .i64 ((order2 lt d a' b' t).2.1 : Int)]) ∧ Below W0.heap.size W0 w' ∧ CAt w' cb (order2 lt d a' b' t).2.2) := step
  have HC : Hid (CAt W cb s) := hC
  have HB : Hid (Below W0.heap.size W0 W) := hB
  have hmed : median lt d a b c s = ((order2 lt d (order2 lt d a b s).1 (order2 lt d (order2 lt d a b s).2.1 c (order2 lt d a b s).2.2).1 (order2 lt d (order2 lt d a b s).2.1 c (order2 lt d a b s).2.2).2.2).2.1, (order2 lt d (order2 lt d a b s).1 (order2 lt d (order2 lt d a b s).2.1 c (order2 lt d a b s).2.2).1 (order2 lt d (order2 lt d a b s).2.1 c (order2 lt d a b s).2.2).2.2).2.2) := rfl
  rw [hmed]
  clear step E hI hB hC hmed
  obtain ⟨x1, y1, t1, he1⟩ : ∃ x y t, order2 lt d a b s = (x, y, t) := ⟨_, _, _, rfl⟩
  have c1 := HS.out s a b W ha hb (by omega) HB.out HC.out
  rw [he1] at l1 s1 l2 s2 c1 ⊢
  simp only [] at l1 s1 l2 s2 c1 ⊢
  obtain ⟨x2, y2, t2, he2⟩ : ∃ x y t, order2 lt d y1 c t1 = (x, y, t) := ⟨_, _, _, rfl⟩
  have c2 := fun W => HS.out t1 y1 c W l1.2 hc (by omega)
  rw [he2] at l2 s2 c2 ⊢
  simp only [] at l2 s2 c2 ⊢
  obtain ⟨x3, y3, t3, he3⟩ : ∃ x y t, order2 lt d x1 x2 t2 = (x, y, t) := ⟨_, _, _, rfl⟩
  have c3 := fun W => HS.out t2 x1 x2 W l1.1 l2.1 (by omega)
  rw [he3] at c3 ⊢
  simp only [] at c3 ⊢
  have C1 : Hid (Calls Tryd.prog 93 #[.iface 104 (.pointer p), .int .i64 (a : Int), .int .i64 (b : Int), .pointer (some ⟨cb, 0, none⟩)] W fun e w' => e = .returned (.tuple #[.int .i64 (x1 : Int), .int .i64 (y1 : Int)]) ∧ Below W0.heap.size W0 w' ∧ CAt w' cb t1) := c1
  have C2 : Hid (∀ W, Below W0.heap.size W0 W → CAt W cb t1 → Calls Tryd.prog 93 #[.iface 104 (.pointer p), .int .i64 (y1 : Int), .int .i64 (c : Int), .pointer (some ⟨cb, 0, none⟩)] W fun e w' => e = .returned (.tuple #[.int .i64 (x2 : Int), .int .i64 (y2 : Int)]) ∧ Below W0.heap.size W0 w' ∧ CAt w' cb t2) := c2
  have C3 : Hid (∀ W, Below W0.heap.size W0 W → CAt W cb t2 → Calls Tryd.prog 93 #[.iface 104 (.pointer p), .int .i64 (x1 : Int), .int .i64 (x2 : Int), .pointer (some ⟨cb, 0, none⟩)] W fun e w' => e = .returned (.tuple #[.int .i64 (x3 : Int), .int .i64 (y3 : Int)]) ∧ Below W0.heap.size W0 w' ∧ CAt w' cb t3) := c3
  clear c1 c2 c3 he1 he2 he3 HS HB HC l1 l2 s1 s2
  go_enter Tryd.func92, Tryd.ntmps92
  go_wp2_with fail
  refine C1.out.mono ?_
  rintro e w1 ⟨rfl, hb1, hc1⟩
  have D2 : Hid (Calls Tryd.prog 93 #[.iface 104 (.pointer p), .int .i64 (y1 : Int), .int .i64 (c : Int), .pointer (some ⟨cb, 0, none⟩)] w1 fun e w' => e = .returned (.tuple #[.int .i64 (x2 : Int), .int .i64 (y2 : Int)]) ∧ Below W0.heap.size W0 w' ∧ CAt w' cb t2) := C2.out w1 hb1 hc1
  clear hb1 hc1 C1 C2
  go_wp2_with fail
  refine D2.out.mono ?_
  rintro e w2 ⟨rfl, hb2, hc2⟩
  have D3 : Hid (Calls Tryd.prog 93 #[.iface 104 (.pointer p), .int .i64 (x1 : Int), .int .i64 (x2 : Int), .pointer (some ⟨cb, 0, none⟩)] w2 fun e w' => e = .returned (.tuple #[.int .i64 (x3 : Int), .int .i64 (y3 : Int)]) ∧ Below W0.heap.size W0 w' ∧ CAt w' cb t3) := C3.out w2 hb2 hc2
  clear hb2 hc2 D2 C3
  go_wp2_with fail
  refine D3.out.mono ?_
  rintro e w3 ⟨rfl, hb3, hc3⟩
  have HB3 : Hid (Below W0.heap.size W0 w3 ∧ CAt w3 cb t3) := ⟨hb3, hc3⟩
  clear hb3 hc3
  go_wp2
  go_ret
  exact ⟨rfl, HB3.out.1, HB3.out.2⟩

set_option maxHeartbeats 1600000 in
set_option maxRecDepth 100000 in
theorem medianAdjacent_any {lt : α → α → Bool} {n : Nat} {p : Option Addr} {I : Array α → World → Prop} (E : SEnv lt n (.pointer p) I) (hn : n ≤ 65536) (a cb s : Nat) (ha1 : 1 ≤ a) (ha2 : a + 1 < n) (hs : s + 3 < 65536) (d : Array α) (W0 W : World) (hI : I d W0) (hB : Below W0.heap.size W0 W) (hcb : W0.heap.size ≤ cb) (hC : CAt W cb s) :
    Calls Tryd.prog 91 #[.iface 104 (.pointer p), .int .i64 (a : Int), .pointer (some ⟨cb, 0, none⟩)] W fun e w' =>
      e = .returned (.int .i64 ((medianAdjacent lt d a s).1 : Int)) ∧ Below W0.heap.size W0 w' ∧ CAt w' cb (medianAdjacent lt d a s).2 := by
  have hm := median_any E hn (a - 1) a (a + 1) cb s (by omega) (by omega) ha2 hs d W0 W hI hB hcb hC
  rw [show ((a - 1 : Nat) : Int) = (a : Int) - 1 by omega, show ((a + 1 : Nat) : Int) = (a : Int) + 1 by omega] at hm
  obtain ⟨x, t, he⟩ : ∃ x t, medianAdjacent lt d a s = (x, t) := ⟨_, _, rfl⟩
  have he' : median lt d (a - 1) a (a + 1) s = (x, t) := he
  rw [he]
  rw [he'] at hm
  have HM : Hid (Calls Tryd.prog 92 #[.iface 104 (.pointer p), .int .i64 ((a : Int) - 1), .int .i64 (a : Int), .int .i64 ((a : Int) + 1), .pointer (some ⟨cb, 0, none⟩)] W fun e w' => e = .returned (.int .i64 (x : Int)) ∧ Below W0.heap.size W0 w' ∧ CAt w' cb t) := hm
  clear hm he he' hC hB hI E
  go_enter Tryd.func91, Tryd.ntmps91
  go_wp2_with fail
  refine HM.out.mono ?_
  rintro e w3 ⟨rfl, hb3, hc3⟩
  have HB3 : Hid (Below W0.heap.size W0 w3 ∧ CAt w3 cb t) := ⟨hb3, hc3⟩
  clear hb3 hc3
  go_wp2
  go_ret
  exact ⟨rfl, HB3.out.1, HB3.out.2⟩

set_option maxHeartbeats 4000000 in
set_option maxRecDepth 100000 in
theorem choosePivot_any {lt : α → α → Bool} {n : Nat} {pp : Option Addr} {I : Array α → World → Prop} (E : SEnv lt n (.pointer pp) I) (hn : n ≤ 65536) (a b : Nat) (hab : a < b) (hb : b ≤ n) (d : Array α) (W : World) (hI : I d W) :
    Calls Tryd.prog 85 #[.iface 104 (.pointer pp), .int .i64 (a : Int), .int .i64 (b : Int)] W fun e w' =>
      e = .returned (.tuple #[.int .i64 ((choosePivot lt d a b).1 : Int), .int .i64 (hintCode (choosePivot lt d a b).2)]) ∧ Below W.heap.size W w' := by
  have MA : Hid (∀ x s w, 1 ≤ x → x + 1 < n → s + 3 < 65536 → Below W.heap.size W w → CAt w W.heap.size s → Calls Tryd.prog 91 #[.iface 104 (.pointer pp), .int .i64 (x : Int), .pointer (some ⟨W.heap.size, 0, none⟩)] w fun e w' => e = .returned (.int .i64 ((medianAdjacent lt d x s).1 : Int)) ∧ Below W.heap.size W w' ∧ CAt w' W.heap.size (medianAdjacent lt d x s).2) := fun x s w h1 h2 h3 h4 h5 => medianAdjacent_any E hn x W.heap.size s h1 h2 h3 d W w hI h4 (Nat.le_refl _) h5
  have MD : Hid (∀ x y z s w, x < n → y < n → z < n → s + 3 < 65536 → Below W.heap.size W w → CAt w W.heap.size s → Calls Tryd.prog 92 #[.iface 104 (.pointer pp), .int .i64 (x : Int), .int .i64 (y : Int), .int .i64 (z : Int), .pointer (some ⟨W.heap.size, 0, none⟩)] w fun e w' => e = .returned (.int .i64 ((median lt d x y z s).1 : Int)) ∧ Below W.heap.size W w' ∧ CAt w' W.heap.size (median lt d x y z s).2) := fun x y z s w h1 h2 h3 h4 h5 h6 => median_any E hn x y z W.heap.size s h1 h2 h3 h4 d W w hI h5 (Nat.le_refl _) h6
  have HB0 : Hid (Below W.heap.size W (W.alloc (.cells #[.int .i64 0] 3)) ∧ CAt (W.alloc (.cells #[.int .i64 0] 3)) W.heap.size 0) := ⟨by ((repeat (first | refine Below.drew ?_ | refine Below.drewN' ?_ _ | refine Below.alloc ?_ (by simp <;> omega) _)); exact Below.refl _ _), blk_new rfl⟩
  clear E hI
  rw [choosePivot_eq]
  obtain ⟨K1, hI⟩ : ∃ K1 : Nat, K1 = a + (b - a) / 4 * 1 := ⟨_, rfl⟩
  obtain ⟨J, hJ⟩ : ∃ J : Nat, J = a + (b - a) / 4 * 2 := ⟨_, rfl⟩
  obtain ⟨K, hK⟩ : ∃ K : Nat, K = a + (b - a) / 4 * 3 := ⟨_, rfl⟩
  have eI : ((a : Int) + ((b : Int) - (a : Int)) / 4) = (K1 : Int) := by omega
  have eJ : ((a : Int) + ((b : Int) - (a : Int)) / 4 * 2) = (J : Int) := by omega
  have eK : ((a : Int) + ((b : Int) - (a : Int)) / 4 * 3) = (K : Int) := by omega
  by_cases h8 : b - a ≥ 8
  · by_cases h50 : b - a ≥ 50
    · obtain ⟨i1, s1, h1⟩ : ∃ i1 s1, medianAdjacent lt d K1 0 = (i1, s1) := ⟨_, _, rfl⟩
      obtain ⟨j1, s2, h2⟩ : ∃ j1 s2, medianAdjacent lt d J s1 = (j1, s2) := ⟨_, _, rfl⟩
      obtain ⟨k1, s3, h3⟩ : ∃ k1 s3, medianAdjacent lt d K s2 = (k1, s3) := ⟨_, _, rfl⟩
      obtain ⟨p, s, h4⟩ : ∃ p s, median lt d i1 j1 k1 s3 = (p, s) := ⟨_, _, rfl⟩
      have hraw : rawPivot lt d a b = (p, s) := by simp only [rawPivot, if_pos h8, if_pos h50, ← hI, ← hJ, ← hK, h1, h2, h3, h4]
      have m1 := medianAdjacent_mem lt d K1 0; rw [h1] at m1
      have m2 := medianAdjacent_mem lt d J s1; rw [h2] at m2
      have m3 := medianAdjacent_mem lt d K s2; rw [h3] at m3
      have n1 := medianAdjacent_count lt d K1 0; rw [h1] at n1
      have n2 := medianAdjacent_count lt d J s1; rw [h2] at n2
      have n3 := medianAdjacent_count lt d K s2; rw [h3] at n3
      simp only [] at m1 m2 m3 n1 n2 n3
      have c1 : Hid (∀ w, Below W.heap.size W w → CAt w W.heap.size 0 → Calls Tryd.prog 91 #[.iface 104 (.pointer pp), .int .i64 (K1 : Int), .pointer (some ⟨W.heap.size, 0, none⟩)] w fun e w' => e = .returned (.int .i64 (i1 : Int)) ∧ Below W.heap.size W w' ∧ CAt w' W.heap.size s1) := fun w hb hc => by
        have h := MA.out K1 0 w (by omega) (by omega) (by omega) hb hc; rw [h1] at h; exact h
      have c2 : Hid (∀ w, Below W.heap.size W w → CAt w W.heap.size s1 → Calls Tryd.prog 91 #[.iface 104 (.pointer pp), .int .i64 (J : Int), .pointer (some ⟨W.heap.size, 0, none⟩)] w fun e w' => e = .returned (.int .i64 (j1 : Int)) ∧ Below W.heap.size W w' ∧ CAt w' W.heap.size s2) := fun w hb hc => by
        have h := MA.out J s1 w (by omega) (by omega) (by omega) hb hc; rw [h2] at h; exact h
      have c3 : Hid (∀ w, Below W.heap.size W w → CAt w W.heap.size s2 → Calls Tryd.prog 91 #[.iface 104 (.pointer pp), .int .i64 (K : Int), .pointer (some ⟨W.heap.size, 0, none⟩)] w fun e w' => e = .returned (.int .i64 (k1 : Int)) ∧ Below W.heap.size W w' ∧ CAt w' W.heap.size s3) := fun w hb hc => by
        have h := MA.out K s2 w (by omega) (by omega) (by omega) hb hc; rw [h3] at h; exact h
      have c4 : Hid (∀ w, Below W.heap.size W w → CAt w W.heap.size s3 → Calls Tryd.prog 92 #[.iface 104 (.pointer pp), .int .i64 (i1 : Int), .int .i64 (j1 : Int), .int .i64 (k1 : Int), .pointer (some ⟨W.heap.size, 0, none⟩)] w fun e w' => e = .returned (.int .i64 (p : Int)) ∧ Below W.heap.size W w' ∧ CAt w' W.heap.size s) := fun w hb hc => by
        have h := MD.out i1 j1 k1 s3 w (by omega) (by omega) (by omega) (by omega) hb hc; rw [h4] at h; exact h
      rw [hraw]
      obtain ⟨Hc, hHc⟩ : ∃ Hc : Int, Hc = hintCode (hintOf s) := ⟨_, rfl⟩
      have hh0 : s = 0 → Hc = 1 := fun h => by rw [hHc, h]; rfl
      have hh12 : s = 12 → Hc = 2 := fun h => by rw [hHc, h]; rfl
      have hhx : s ≠ 0 → s ≠ 12 → Hc = 0 := fun h1 h2 => by rw [hHc]; unfold hintOf; rw [if_neg h1, if_neg h2]; rfl
      show Calls Tryd.prog 85 _ W fun e w' => e = .returned (.tuple #[.int .i64 (p : Int), .int .i64 (hintCode (hintOf s))]) ∧ Below W.heap.size W w'
      rw [← hHc]
      clear hHc hraw
      clear h1 h2 h3 h4 MA MD hI hJ hK m1 m2 m3
      go_enter Tryd.func85, Tryd.ntmps85
      go_wp2_with fail
      refine (c1.out _ HB0.out.1 HB0.out.2).mono ?_
      rintro e w1 ⟨rfl, hb1, hc1⟩
      have HB1 : Hid (Below W.heap.size W w1 ∧ CAt w1 W.heap.size s1) := ⟨hb1, hc1⟩
      clear hb1 hc1
      go_wp2_with fail
      refine (c2.out _ HB1.out.1 HB1.out.2).mono ?_
      rintro e w2 ⟨rfl, hb1, hc1⟩
      have HB2 : Hid (Below W.heap.size W w2 ∧ CAt w2 W.heap.size s2) := ⟨hb1, hc1⟩
      clear hb1 hc1
      go_wp2_with fail
      refine (c3.out _ HB2.out.1 HB2.out.2).mono ?_
      rintro e w3 ⟨rfl, hb1, hc1⟩
      have HB3 : Hid (Below W.heap.size W w3 ∧ CAt w3 W.heap.size s3) := ⟨hb1, hc1⟩
      clear hb1 hc1
      go_wp2_with fail
      refine (c4.out _ HB3.out.1 HB3.out.2).mono ?_
      rintro e w4 ⟨rfl, hb1, hc1⟩
      have HBZ : Hid (Below W.heap.size W w4 ∧ CAt w4 W.heap.size s) := ⟨hb1, hc1⟩
      have hcs := hc1.cell
      clear hb1 hc1
      go_wp2
      all_goals
        go_ret2
        refine ⟨?_, HBZ.out.1⟩
        first
          | (have e0 : (s : Int) = 0 := of_beq_int (by assumption)
             rw [hh0 (by omega)]; rfl)
          | (have e1 : (s : Int) = 12 := of_beq_int (by assumption)
             rw [hh12 (by omega)]; rfl)
          | (have e0 : (s : Int) ≠ 0 := of_bne_int (by assumption)
             have e1 : (s : Int) ≠ 12 := of_bne_int (by assumption)
             rw [hhx (by omega) (by omega)]; rfl)
          | (rw [hh0 (by omega)]; rfl)
    · obtain ⟨p, s, h4⟩ : ∃ p s, median lt d K1 J K 0 = (p, s) := ⟨_, _, rfl⟩
      have hraw : rawPivot lt d a b = (p, s) := by simp only [rawPivot, if_pos h8, if_neg h50, ← hI, ← hJ, ← hK, h4]
      have c4 : Hid (∀ w, Below W.heap.size W w → CAt w W.heap.size 0 → Calls Tryd.prog 92 #[.iface 104 (.pointer pp), .int .i64 (K1 : Int), .int .i64 (J : Int), .int .i64 (K : Int), .pointer (some ⟨W.heap.size, 0, none⟩)] w fun e w' => e = .returned (.int .i64 (p : Int)) ∧ Below W.heap.size W w' ∧ CAt w' W.heap.size s) := fun w hb hc => by
        have h := MD.out K1 J K 0 w (by omega) (by omega) (by omega) (by omega) hb hc; rw [h4] at h; exact h
      rw [hraw]
      obtain ⟨Hc, hHc⟩ : ∃ Hc : Int, Hc = hintCode (hintOf s) := ⟨_, rfl⟩
      have hh0 : s = 0 → Hc = 1 := fun h => by rw [hHc, h]; rfl
      have hh12 : s = 12 → Hc = 2 := fun h => by rw [hHc, h]; rfl
      have hhx : s ≠ 0 → s ≠ 12 → Hc = 0 := fun h1 h2 => by rw [hHc]; unfold hintOf; rw [if_neg h1, if_neg h2]; rfl
      show Calls Tryd.prog 85 _ W fun e w' => e = .returned (.tuple #[.int .i64 (p : Int), .int .i64 (hintCode (hintOf s))]) ∧ Below W.heap.size W w'
      rw [← hHc]
      clear hHc hraw
      clear h4 MA MD hI hJ hK
      go_enter Tryd.func85, Tryd.ntmps85
      go_wp2_with fail
      refine (c4.out _ HB0.out.1 HB0.out.2).mono ?_
      rintro e w4 ⟨rfl, hb1, hc1⟩
      have HBZ : Hid (Below W.heap.size W w4 ∧ CAt w4 W.heap.size s) := ⟨hb1, hc1⟩
      have hcs := hc1.cell
      clear hb1 hc1
      go_wp2
      all_goals
        go_ret2
        refine ⟨?_, HBZ.out.1⟩
        first
          | (have e0 : (s : Int) = 0 := of_beq_int (by assumption)
             rw [hh0 (by omega)]; rfl)
          | (have e1 : (s : Int) = 12 := of_beq_int (by assumption)
             rw [hh12 (by omega)]; rfl)
          | (have e0 : (s : Int) ≠ 0 := of_bne_int (by assumption)
             have e1 : (s : Int) ≠ 12 := of_bne_int (by assumption)
             rw [hhx (by omega) (by omega)]; rfl)
          | (rw [hh0 (by omega)]; rfl)
  · obtain ⟨p, hp⟩ : ∃ p : Nat, p = J := ⟨_, rfl⟩
    obtain ⟨s, hs⟩ : ∃ s : Nat, s = 0 := ⟨_, rfl⟩
    have hraw : rawPivot lt d a b = (p, s) := by simp only [rawPivot, if_neg h8, ← hJ, hp, hs]
    rw [hraw]
    obtain ⟨Hc, hHc⟩ : ∃ Hc : Int, Hc = hintCode (hintOf s) := ⟨_, rfl⟩
    have hh0 : s = 0 → Hc = 1 := fun h => by rw [hHc, h]; rfl
    have hh12 : s = 12 → Hc = 2 := fun h => by rw [hHc, h]; rfl
    have hhx : s ≠ 0 → s ≠ 12 → Hc = 0 := fun h1 h2 => by rw [hHc]; unfold hintOf; rw [if_neg h1, if_neg h2]; rfl
    show Calls Tryd.prog 85 _ W fun e w' => e = .returned (.tuple #[.int .i64 (p : Int), .int .i64 (hintCode (hintOf s))]) ∧ Below W.heap.size W w'
    rw [← hHc]
    clear hHc hraw
    subst hp
    have HBZ := HB0
    clear MA MD hI hJ hK
    go_enter Tryd.func85, Tryd.ntmps85
    go_wp2
    go_ret2
    refine ⟨?_, HBZ.out.1⟩
    rw [hh0 hs]; rfl
end Go.Proofs.Qxb6613821aDoor
