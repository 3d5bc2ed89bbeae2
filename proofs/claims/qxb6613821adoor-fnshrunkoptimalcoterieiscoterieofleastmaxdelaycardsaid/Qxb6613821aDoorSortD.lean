/- sort.Sort over *setOrder: the heap. -/
import Derived.Test.Qxb6613821aDoorSortC
namespace Go.Proofs.Qxb6613821aDoor
set_option linter.unusedVariables false
set_option linter.unusedSimpArgs false
open Ieee Go.RowKit Go.Sort
variable {α : Type} [Inhabited α]

/-- A comparison at two places, then (where it is true) what follows. -/
theorem SEnv.lessAt {lt : α → α → Bool} {n : Nat} {rv : Value} {I : Array α → World → Prop} (E : SEnv lt n rv I) {d : Array α} {W : World} (hI : I d W) {x y : Int} (i j : Nat) (hi : i < n) (hj : j < n) (hx : (i : Int) = x) (hy : (j : Int) = y) {v : Bool} (hv : lt d[i]! d[j]! = v) :
    Calls Tryd.prog 116 #[rv, .int .i64 x, .int .i64 y] W fun e w' => e = .returned (.bool v) ∧ I d w' := by
  subst hx hy hv
  exact (E.less d W hI i j hi hj).mono fun e w' h => ⟨h.1, E.keep d W w' hI h.2⟩
theorem SEnv.swapAt {lt : α → α → Bool} {n : Nat} {rv : Value} {I : Array α → World → Prop} (E : SEnv lt n rv I) {d : Array α} {W : World} (hI : I d W) {x y : Int} (i j : Nat) (hi : i < n) (hj : j < n) (hx : (i : Int) = x) (hy : (j : Int) = y) :
    Calls Tryd.prog 117 #[rv, .int .i64 x, .int .i64 y] W fun e w' => e = .returned (.tuple #[]) ∧ I (swp d i j) w' := by
  subst hx hy
  exact E.swap d W hI i j hi hj

set_option maxHeartbeats 4000000 in
set_option maxRecDepth 1000000 in
theorem siftDown_any {lt : α → α → Bool} {n : Nat} {p : Option Addr} {I : Array α → World → Prop} (E : SEnv lt n (.pointer p) I) (hn : n ≤ 65536) (lo hi first : Nat) (hlo : lo ≤ hi) (hb : first + hi ≤ n) (d : Array α) (w : World) (hI : I d w) :
    Calls Tryd.prog 90 #[.iface 104 (.pointer p), .int .i64 (lo : Int), .int .i64 (hi : Int), .int .i64 (first : Int)] w fun e w' => e = .returned (.tuple #[]) ∧ I (siftDown lt hi first lo d) w' := by
  have mL := mLess p
  have mS := mSwap p
  have HE : Hid (SEnv lt n (.pointer p) I) := E
  have HI : Hid (I d w) := hI
  clear E hI
  go_enter Tryd.func90, Tryd.ntmps90
  go_wp2
  go_loopg [8] (hi - lo) (fun kx s8 wr => ∃ (root : Nat) (dk : Array α), s8 = .int .i64 root ∧ root ≤ hi ∧ hi - root ≤ kx ∧ Hid (I dk wr) ∧ Hid (siftDown lt hi first root dk = siftDown lt hi first lo d))
  case atStart => exact ⟨lo, d, rfl, hlo, Nat.le_refl _, HI, rfl⟩
  case round =>
    clear HI
    obtain ⟨root, dk, rfl, hr, hkx, HI, HS⟩ := hrel
    by_cases h0 : hi ≤ 2 * root + 1
    · have h0z : (hi : Int) ≤ 2 * (root : Int) + 1 := by omega
      go_wp2
      go_end0
      exact ⟨rfl, by rw [← HS.out, sd_end lt dk h0]; exact HI.out⟩
    · have h0z : ¬ ((hi : Int) ≤ 2 * (root : Int) + 1) := by omega
      -- which child
      obtain ⟨c, hc, hc1, hgo, hstop⟩ : ∃ c : Nat, c < hi ∧ root < c ∧ (lt dk[first + root]! dk[first + c]! = true → siftDown lt hi first root dk = siftDown lt hi first c (swp dk (first + root) (first + c))) ∧ (lt dk[first + root]! dk[first + c]! = false → siftDown lt hi first root dk = dk) ∧
          ((2 * root + 2 < hi ∧ lt dk[first + (2 * root + 1)]! dk[first + (2 * root + 2)]! = true ∧ c = 2 * root + 2) ∨ (2 * root + 2 < hi ∧ lt dk[first + (2 * root + 1)]! dk[first + (2 * root + 2)]! = false ∧ c = 2 * root + 1) ∨ (¬ 2 * root + 2 < hi ∧ c = 2 * root + 1)) := by
        by_cases h1 : 2 * root + 2 < hi
        · cases hL : lt dk[first + (2 * root + 1)]! dk[first + (2 * root + 2)]! with
          | true => exact ⟨2 * root + 2, h1, by omega, sd_right_go lt dk h1 hL, sd_right_stop lt dk h1 hL, Or.inl ⟨h1, rfl, rfl⟩⟩
          | false => exact ⟨2 * root + 1, by omega, by omega, sd_left_go lt dk (by omega) (fun _ => hL), sd_left_stop lt dk (by omega) (fun _ => hL), Or.inr (Or.inl ⟨h1, rfl, rfl⟩)⟩
        · exact ⟨2 * root + 1, by omega, by omega, sd_left_go lt dk (by omega) (fun h => absurd h h1), sd_left_stop lt dk (by omega) (fun h => absurd h h1), Or.inr (Or.inr ⟨h1, rfl⟩)⟩
      obtain ⟨hstop, hcase⟩ := hstop
      have HG : Hid (lt dk[first + root]! dk[first + c]! = true → siftDown lt hi first root dk = siftDown lt hi first c (swp dk (first + root) (first + c))) := hgo
      have HT : Hid (lt dk[first + root]! dk[first + c]! = false → siftDown lt hi first root dk = dk) := hstop
      clear hgo hstop
      go_upto_region 3 with fail
      go_cut [31] from 17 to 31 (fun v31 wx => ∃ bb : Bool, v31 = .bool bb ∧ ((bb = true ∧ c = 2 * root + 2) ∨ (bb = false ∧ c = 2 * root + 1)) ∧ Hid (I dk wx))
      case first =>
        rcases hcase with ⟨h1, hL, hce⟩ | ⟨h1, hL, hce⟩ | ⟨h1, hce⟩
        · have h1z : 2 * (root : Int) + 1 + 1 < (hi : Int) := by omega
          have CL : Hid (Calls Tryd.prog 116 #[.pointer p, .int .i64 ((first : Int) + (2 * (root : Int) + 1)), .int .i64 ((first : Int) + (2 * (root : Int) + 1) + 1)] wr fun e w' => e = .returned (.bool true) ∧ I dk w') := HE.out.lessAt HI.out (first + (2 * root + 1)) (first + (2 * root + 2)) (by omega) (by omega) (by omega) (by omega) hL
          clear hL
          go_wp2_with (go_at_call 116; refine CL.out.mono ?_; rintro e w1 ⟨rfl, hI1⟩)
          go_meet
          exact ⟨true, rfl, Or.inl ⟨rfl, hce⟩, hI1⟩
        · have h1z : 2 * (root : Int) + 1 + 1 < (hi : Int) := by omega
          have CL : Hid (Calls Tryd.prog 116 #[.pointer p, .int .i64 ((first : Int) + (2 * (root : Int) + 1)), .int .i64 ((first : Int) + (2 * (root : Int) + 1) + 1)] wr fun e w' => e = .returned (.bool false) ∧ I dk w') := HE.out.lessAt HI.out (first + (2 * root + 1)) (first + (2 * root + 2)) (by omega) (by omega) (by omega) (by omega) hL
          clear hL
          go_wp2_with (go_at_call 116; refine CL.out.mono ?_; rintro e w1 ⟨rfl, hI1⟩)
          go_meet
          exact ⟨false, rfl, Or.inr ⟨rfl, hce⟩, hI1⟩
        · have h1z : ¬ (2 * (root : Int) + 1 + 1 < (hi : Int)) := by omega
          go_wp2_with fail
          go_meet
          exact ⟨false, rfl, Or.inr ⟨rfl, hce⟩, HI.out⟩
      case rest =>
        clear hcase HI
        obtain ⟨bb, rfl, hbb, HI⟩ := hcut
        cases hlv : lt dk[first + root]! dk[first + c]! with
        | true =>
          have hs := HG.out hlv
          have HS2 : Hid (siftDown lt hi first c (swp dk (first + root) (first + c)) = siftDown lt hi first lo d) := by show _ = _; rw [← hs]; exact HS.out
          have CL : Hid (∀ y : Int, ((first + c : Nat) : Int) = y → Calls Tryd.prog 116 #[.pointer p, .int .i64 ((first : Int) + (root : Int)), .int .i64 y] wc fun e w' => e = .returned (.bool true) ∧ I dk w') := fun y hy => HE.out.lessAt HI.out (first + root) (first + c) (by omega) (by omega) (by omega) hy hlv
          have CS : Hid (∀ (y : Int) (w : World), ((first + c : Nat) : Int) = y → I dk w → Calls Tryd.prog 117 #[.pointer p, .int .i64 ((first : Int) + (root : Int)), .int .i64 y] w fun e w' => e = .returned (.tuple #[]) ∧ I (swp dk (first + root) (first + c)) w') := fun y w hy hI => HE.out.swapAt hI (first + root) (first + c) (by omega) (by omega) (by omega) hy
          clear hs hlv HG HT HS
          rcases hbb with ⟨rfl, hce⟩ | ⟨rfl, hce⟩
          · have CL1 : Hid (Calls Tryd.prog 116 #[.pointer p, .int .i64 ((first : Int) + (root : Int)), .int .i64 ((first : Int) + (2 * (root : Int) + 1 + 1))] wc fun e w' => e = .returned (.bool true) ∧ I dk w') := CL.out _ (by omega)
            have CS1 : Hid (∀ (w : World), I dk w → Calls Tryd.prog 117 #[.pointer p, .int .i64 ((first : Int) + (root : Int)), .int .i64 ((first : Int) + (2 * (root : Int) + 1 + 1))] w fun e w' => e = .returned (.tuple #[]) ∧ I (swp dk (first + root) (first + c)) w') := fun w hI => CS.out _ w (by omega) hI
            go_wp2_with (first
              | (go_at_call 116; refine CL1.out.mono ?_; rintro e w1 ⟨rfl, hI1⟩)
              | (go_at_call 117; refine (CS1.out _ hI1).mono ?_; rintro e w2 ⟨rfl, hI2⟩))
            have HI2 : Hid (I (swp dk (first + root) (first + c)) w2) := hI2
            clear hI1 hI2
            go_roundg (hi - c)
            case measure => omega
            case rel => exact ⟨c, _, by rw [hce]; go_num, by omega, Nat.le_refl _, HI2, HS2⟩
          · have CL1 : Hid (Calls Tryd.prog 116 #[.pointer p, .int .i64 ((first : Int) + (root : Int)), .int .i64 ((first : Int) + (2 * (root : Int) + 1))] wc fun e w' => e = .returned (.bool true) ∧ I dk w') := CL.out _ (by omega)
            have CS1 : Hid (∀ (w : World), I dk w → Calls Tryd.prog 117 #[.pointer p, .int .i64 ((first : Int) + (root : Int)), .int .i64 ((first : Int) + (2 * (root : Int) + 1))] w fun e w' => e = .returned (.tuple #[]) ∧ I (swp dk (first + root) (first + c)) w') := fun w hI => CS.out _ w (by omega) hI
            go_wp2_with (first
              | (go_at_call 116; refine CL1.out.mono ?_; rintro e w1 ⟨rfl, hI1⟩)
              | (go_at_call 117; refine (CS1.out _ hI1).mono ?_; rintro e w2 ⟨rfl, hI2⟩))
            have HI2 : Hid (I (swp dk (first + root) (first + c)) w2) := hI2
            clear hI1 hI2
            go_roundg (hi - c)
            case measure => omega
            case rel => exact ⟨c, _, by rw [hce]; go_num, by omega, Nat.le_refl _, HI2, HS2⟩
        | false =>
          have hs := HT.out hlv
          have HS2 : Hid (dk = siftDown lt hi first lo d) := by show _ = _; rw [← HS.out, hs]
          have CL : Hid (∀ y : Int, ((first + c : Nat) : Int) = y → Calls Tryd.prog 116 #[.pointer p, .int .i64 ((first : Int) + (root : Int)), .int .i64 y] wc fun e w' => e = .returned (.bool false) ∧ I dk w') := fun y hy => HE.out.lessAt HI.out (first + root) (first + c) (by omega) (by omega) (by omega) hy hlv
          clear hs hlv HG HT HS
          rcases hbb with ⟨rfl, hce⟩ | ⟨rfl, hce⟩
          · have CL1 : Hid (Calls Tryd.prog 116 #[.pointer p, .int .i64 ((first : Int) + (root : Int)), .int .i64 ((first : Int) + (2 * (root : Int) + 1 + 1))] wc fun e w' => e = .returned (.bool false) ∧ I dk w') := CL.out _ (by omega)
            go_wp2_with (go_at_call 116; refine CL1.out.mono ?_; rintro e w1 ⟨rfl, hI1⟩)
            (try simp only [Exit.inBlock, Exit.then]); refine bodyPost_ret (results_none rfl _ _ _) rfl ?_
            exact ⟨rfl, by rw [← HS2.out]; exact hI1⟩
          · have CL1 : Hid (Calls Tryd.prog 116 #[.pointer p, .int .i64 ((first : Int) + (root : Int)), .int .i64 ((first : Int) + (2 * (root : Int) + 1))] wc fun e w' => e = .returned (.bool false) ∧ I dk w') := CL.out _ (by omega)
            go_wp2_with (go_at_call 116; refine CL1.out.mono ?_; rintro e w1 ⟨rfl, hI1⟩)
            (try simp only [Exit.inBlock, Exit.then]); refine bodyPost_ret (results_none rfl _ _ _) rfl ?_
            exact ⟨rfl, by rw [← HS2.out]; exact hI1⟩

set_option maxHeartbeats 4000000 in
set_option maxRecDepth 1000000 in
theorem heapSort_any {lt : α → α → Bool} {n : Nat} {p : Option Addr} {I : Array α → World → Prop} (E : SEnv lt n (.pointer p) I) (hn : n ≤ 65536) (a b : Nat) (hab : a ≤ b) (hb : b ≤ n) (d : Array α) (w : World) (hI : I d w) :
    Calls Tryd.prog 83 #[.iface 104 (.pointer p), .int .i64 (a : Int), .int .i64 (b : Int)] w fun e w' => e = .returned (.tuple #[]) ∧ I (heapSort lt d a b) w' := by
  have mS := mSwap p
  have HE : Hid (SEnv lt n (.pointer p) I) := E
  have HI : Hid (I d w) := hI
  have HSD : Hid (∀ (lo hi first : Nat) (d : Array α) (w : World), lo ≤ hi → first + hi ≤ n → I d w → ∀ x y z : Int, (lo : Int) = x → (hi : Int) = y → (first : Int) = z → Calls Tryd.prog 90 #[.iface 104 (.pointer p), .int .i64 x, .int .i64 y, .int .i64 z] w fun e w' => e = .returned (.tuple #[]) ∧ I (siftDown lt hi first lo d) w') :=
    fun lo hi first d w h1 h2 hI x y z hx hy hz => by subst hx hy hz; exact siftDown_any E hn lo hi first h1 h2 d w hI
  clear E hI
  have ecast : ((b - a : Nat) : Int) = (b : Int) - (a : Int) := by omega
  go_enter Tryd.func83, Tryd.ntmps83
  go_wp2
  go_loopg [9] ((b - a - 1) / 2 + 1) (fun kx s9 wr => s9 = .int .i64 ((kx : Int) - 1) ∧ kx ≤ (b - a - 1) / 2 + 1 ∧ ∃ (dk : Array α), Hid (I dk wr) ∧ Hid (heapBuild lt (b - a) a kx dk = heapBuild lt (b - a) a ((b - a - 1) / 2 + 1) d))
  case atStart => exact ⟨by rw [half_start hab], Nat.le_refl _, d, HI, rfl⟩
  case round =>
    clear HI
    obtain ⟨rfl, hkk, dk, HI, HQ⟩ := hrel
    cases gk with
    | zero =>
      have HB : Hid (dk = heapBuild lt (b - a) a ((b - a - 1) / 2 + 1) d) := HQ.out
      clear HQ hkk
      go_wp2
      go_loopg [10] (b - a) (fun kx s10 wr2 => s10 = .int .i64 ((kx : Int) - 1) ∧ kx ≤ b - a ∧ ∃ (dj : Array α), Hid (I dj wr2) ∧ Hid (heapPop lt a kx dj = heapPop lt a (b - a) dk))
      case atStart => exact ⟨by rw [ecast], Nat.le_refl _, dk, HI, rfl⟩
      case round =>
        clear HI
        obtain ⟨rfl, hkk, dj, HI, HQ2⟩ := hrel
        cases gk with
        | zero =>
          go_wp2
          go_end0
          have e : dj = heapSort lt d a b := by rw [heapSort, ← HB.out, ← HQ2.out]; rfl
          rw [← e]
          exact ⟨rfl, HI.out⟩
        | succ kx =>
          have CS : Hid (Calls Tryd.prog 117 #[.pointer p, .int .i64 (a : Int), .int .i64 ((a : Int) + (kx : Int))] wr fun e w' => e = .returned (.tuple #[]) ∧ I (swp dj a (a + kx)) w') := HE.out.swapAt HI.out a (a + kx) (by omega) (by omega) rfl (by omega)
          have CD : Hid (∀ w, I (swp dj a (a + kx)) w → Calls Tryd.prog 90 #[.iface 104 (.pointer p), .int .i64 0, .int .i64 (kx : Int), .int .i64 (a : Int)] w fun e w' => e = .returned (.tuple #[]) ∧ I (siftDown lt kx a 0 (swp dj a (a + kx))) w') := fun w hI => HSD.out 0 kx a _ w (Nat.zero_le _) (by omega) hI 0 kx a rfl rfl rfl
          go_wp2_with (first | (go_at_call 117; refine CS.out.mono ?_; rintro e w1 ⟨rfl, hI1⟩) | (go_at_call 90; refine (CD.out _ hI1).mono ?_; rintro e w2 ⟨rfl, hI2⟩))
          have HI2 : Hid (I (siftDown lt kx a 0 (swp dj a (a + kx))) w2) := hI2
          clear hI1 hI2
          go_roundg kx
          case measure => omega
          case rel => exact ⟨by simp, by omega, _, HI2, HQ2⟩
    | succ kx =>
      have CD : Hid (Calls Tryd.prog 90 #[.iface 104 (.pointer p), .int .i64 (kx : Int), .int .i64 ((b : Int) - (a : Int)), .int .i64 (a : Int)] wr fun e w' => e = .returned (.tuple #[]) ∧ I (siftDown lt (b - a) a kx dk) w') := HSD.out kx (b - a) a dk wr (by omega) (by omega) HI.out _ _ _ rfl ecast rfl
      go_wp2_with (go_at_call 90; refine CD.out.mono ?_; rintro e w1 ⟨rfl, hI1⟩)
      have HI2 : Hid (I (siftDown lt (b - a) a kx dk) w1) := hI1
      clear hI1
      go_roundg kx
      case measure => omega
      case rel => exact ⟨by simp, by omega, _, HI2, HQ⟩
end Go.Proofs.Qxb6613821aDoor
