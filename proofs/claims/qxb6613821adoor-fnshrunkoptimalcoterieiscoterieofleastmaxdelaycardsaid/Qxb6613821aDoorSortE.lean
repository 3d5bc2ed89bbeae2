/- sort.Sort over *setOrder: the partitions. -/
import Derived.Test.Qxb6613821aDoorSortD
import Derived.Deep.CutBlock
namespace Go.Proofs.Qxb6613821aDoor
set_option linter.unusedVariables false
set_option linter.unusedSimpArgs false
open Ieee Go.RowKit Go.Sort
variable {α : Type} [Inhabited α]

set_option maxHeartbeats 4000000 in
set_option maxRecDepth 1000000 in
theorem partitionEqual_any {lt : α → α → Bool} {n : Nat} {p : Option Addr} {I : Array α → World → Prop} (E : SEnv lt n (.pointer p) I) (hn : n ≤ 65536) (a b pivot : Nat) (hap : a ≤ pivot) (hpb : pivot < b) (hb : b ≤ n) (d : Array α) (W : World) (hI : I d W) :
    Calls Tryd.prog 88 #[.iface 104 (.pointer p), .int .i64 (a : Int), .int .i64 (b : Int), .int .i64 (pivot : Int)] W fun e w' => e = .returned (.int .i64 ((Sort.partitionEqual lt d a b pivot).1 : Int)) ∧ I (Sort.partitionEqual lt d a b pivot).2 w' := by
  have mL := mLess p
  have mS := mSwap p
  have HE : Hid (SEnv lt n (.pointer p) I) := E
  have CS : Hid (Calls Tryd.prog 117 #[.pointer p, .int .i64 (a : Int), .int .i64 (pivot : Int)] W fun e w' => e = .returned (.tuple #[]) ∧ I (swp d a pivot) w') := E.swap d W hI a pivot (by omega) (by omega)
  clear E hI
  go_enter Tryd.func88, Tryd.ntmps88
  go_wp2_with (go_at_call 117; refine CS.out.mono ?_; rintro e w1 ⟨rfl, hI1⟩)
  have HI : Hid (I (swp d a pivot) w1) := hI1
  clear hI1 CS
  go_loopw [9, 10] (fun vi vj wr => ∃ (i j : Nat) (dk : Array α), vi = .int .i64 i ∧ vj = .int .i64 j ∧ a < i ∧ i ≤ j + 1 ∧ j < b ∧ Hid (I dk wr) ∧ Hid (Sort.partEqLoop lt a i j dk = Sort.partEqLoop lt a (a + 1) (b - 1) (swp d a pivot)))
    (fun vi vj _ => (intOf vj).toNat + 1 - (intOf vi).toNat)
  case atStart => exact ⟨a + 1, b - 1, _, by go_num, by go_num, by omega, by omega, by omega, HI, rfl⟩
  case round =>
    clear HI
    obtain ⟨i, j, dk, rfl, rfl, hai, hij, hjb, HI, HQ⟩ := hrel
    go_upto_block 2 with fail
    go_cut [9] from 19 to 30 (fun v9 wx => ∃ i2 : Nat, v9 = .int .i64 i2 ∧ i ≤ i2 ∧ i2 ≤ j + 1 ∧ Hid (i2 = scanUp (fun x => !lt dk[a]! x) dk j i) ∧ Hid (I dk wx))
    case first =>
      go_wp2_with fail
      go_loopw [9] (fun vi w1 => ∃ i' : Nat, vi = .int .i64 i' ∧ i ≤ i' ∧ i' ≤ j + 1 ∧ Hid (I dk w1) ∧ Hid (scanUp (fun x => !lt dk[a]! x) dk j i' = scanUp (fun x => !lt dk[a]! x) dk j i)) (fun vi _ => j + 1 - (intOf vi).toNat)
      case atStart => exact ⟨i, rfl, Nat.le_refl _, hij, HI, rfl⟩
      case round =>
        clear HI
        obtain ⟨i', rfl, hii, hij', HI, HSc⟩ := hrel
        by_cases hle : i' ≤ j
        · cases hlv : lt dk[a]! dk[i']! with
          | false =>
            have CL : Hid (Calls Tryd.prog 116 #[.pointer p, .int .i64 (a : Int), .int .i64 (i' : Int)] wr fun e w' => e = .returned (.bool false) ∧ I dk w') := HE.out.lessAt HI.out a i' (by omega) (by omega) rfl rfl hlv
            have HS2 : Hid (scanUp (fun x => !lt dk[a]! x) dk j (i' + 1) = scanUp (fun x => !lt dk[a]! x) dk j i) := (scanUp_go (fun x => !lt dk[a]! x) dk j i' hle (by simp [hlv])).symm.trans HSc.out
            clear hlv
            go_wp2_with (go_at_call 116; refine CL.out.mono ?_; rintro e w1 ⟨rfl, hI1⟩)
            have HI1 : Hid (I dk w1) := hI1
            clear hI1
            go_roundw
            case rel => exact ⟨i' + 1, by go_num, by omega, by omega, HI1, HS2⟩
            case measure => simp [intOf]; omega
          | true =>
            have CL : Hid (Calls Tryd.prog 116 #[.pointer p, .int .i64 (a : Int), .int .i64 (i' : Int)] wr fun e w' => e = .returned (.bool true) ∧ I dk w') := HE.out.lessAt HI.out a i' (by omega) (by omega) rfl rfl hlv
            have HS2 : Hid (i' = scanUp (fun x => !lt dk[a]! x) dk j i) := (scanUp_end (fun x => !lt dk[a]! x) dk j i' (Or.inr (by simp [hlv]))).symm.trans HSc.out
            clear hlv
            go_wp2_with (go_at_call 116; refine CL.out.mono ?_; rintro e w1 ⟨rfl, hI1⟩)
            go_meet
            exact ⟨i', rfl, hii, hij', HS2, hI1⟩
        · have HS2 : Hid (i' = scanUp (fun x => !lt dk[a]! x) dk j i) := (scanUp_end (fun x => !lt dk[a]! x) dk j i' (Or.inl hle)).symm.trans HSc.out
          go_wp2_with fail
          go_meet
          exact ⟨i', rfl, hii, hij', HS2, HI⟩
    case rest =>
      clear HI
      obtain ⟨i2, rfl, hii, hij2, HU, HI⟩ := hcut
      go_upto_block 4 with fail
      go_cut [10] from 31 to 41 (fun v10 wx => ∃ j2 : Nat, v10 = .int .i64 j2 ∧ j2 ≤ j ∧ i2 ≤ j2 + 1 ∧ Hid (j2 = scanDown (fun x => lt dk[a]! x) dk i2 j) ∧ Hid (I dk wx))
      case first =>
        go_wp2_with fail
        go_loopw [10] (fun vj w1 => ∃ j' : Nat, vj = .int .i64 j' ∧ j' ≤ j ∧ i2 ≤ j' + 1 ∧ Hid (I dk w1) ∧ Hid (scanDown (fun x => lt dk[a]! x) dk i2 j' = scanDown (fun x => lt dk[a]! x) dk i2 j)) (fun vj _ => (intOf vj).toNat)
        case atStart => exact ⟨j, rfl, Nat.le_refl _, hij2, HI, rfl⟩
        case round =>
          clear HI
          obtain ⟨j', rfl, hjj, hij', HI, HSc⟩ := hrel
          by_cases hle : i2 ≤ j'
          · cases hlv : lt dk[a]! dk[j']! with
            | true =>
              have CL : Hid (Calls Tryd.prog 116 #[.pointer p, .int .i64 (a : Int), .int .i64 (j' : Int)] wr fun e w' => e = .returned (.bool true) ∧ I dk w') := HE.out.lessAt HI.out a j' (by omega) (by omega) rfl rfl hlv
              have HS2 : Hid (scanDown (fun x => lt dk[a]! x) dk i2 (j' - 1) = scanDown (fun x => lt dk[a]! x) dk i2 j) := (scanDown_go (fun x => lt dk[a]! x) dk i2 j' hle (by omega) hlv).symm.trans HSc.out
              clear hlv
              go_wp2_with (go_at_call 116; refine CL.out.mono ?_; rintro e w1 ⟨rfl, hI1⟩)
              have HI1 : Hid (I dk w1) := hI1
              clear hI1
              go_roundw
              case rel => exact ⟨j' - 1, by go_num, by omega, by omega, HI1, HS2⟩
              case measure => simp [intOf]; omega
            | false =>
              have CL : Hid (Calls Tryd.prog 116 #[.pointer p, .int .i64 (a : Int), .int .i64 (j' : Int)] wr fun e w' => e = .returned (.bool false) ∧ I dk w') := HE.out.lessAt HI.out a j' (by omega) (by omega) rfl rfl hlv
              have HS2 : Hid (j' = scanDown (fun x => lt dk[a]! x) dk i2 j) := (scanDown_end (fun x => lt dk[a]! x) dk i2 j' (Or.inr hlv)).symm.trans HSc.out
              clear hlv
              go_wp2_with (go_at_call 116; refine CL.out.mono ?_; rintro e w1 ⟨rfl, hI1⟩)
              go_meet
              exact ⟨j', rfl, hjj, hij', HS2, hI1⟩
          · have HS2 : Hid (j' = scanDown (fun x => lt dk[a]! x) dk i2 j) := (scanDown_end (fun x => lt dk[a]! x) dk i2 j' (Or.inl hle)).symm.trans HSc.out
            go_wp2_with fail
            go_meet
            exact ⟨j', rfl, hjj, hij', HS2, HI⟩
      case rest =>
        clear HI
        obtain ⟨j2, rfl, hjj, hij3, HD, HI⟩ := hcut
        by_cases hle : i2 ≤ j2
        · have hlt3 := scans_lt lt a i j dk (by omega) HU.out HD.out hle
          have CS : Hid (Calls Tryd.prog 117 #[.pointer p, .int .i64 (i2 : Int), .int .i64 (j2 : Int)] wc fun e w' => e = .returned (.tuple #[]) ∧ I (swp dk i2 j2) w') := HE.out.swap dk wc HI.out i2 j2 (by omega) (by omega)
          have HQ2 : Hid (Sort.partEqLoop lt a (i2 + 1) (j2 - 1) (swp dk i2 j2) = Sort.partEqLoop lt a (a + 1) (b - 1) (swp d a pivot)) := by show _ = _; rw [← HQ.out]; exact (partEq_go lt a i j dk HU.out HD.out (by omega)).symm
          go_wp2_with (go_at_call 117; refine CS.out.mono ?_; rintro e w2 ⟨rfl, hI2⟩)
          have HI2 : Hid (I (swp dk i2 j2) w2) := hI2
          clear hI2
          go_roundw
          case rel => exact ⟨i2 + 1, j2 - 1, _, by go_num, by go_num, by omega, by omega, by omega, HI2, HQ2⟩
          case measure => simp [intOf]; omega
        · have HQ2 : Hid (Sort.partitionEqual lt d a b pivot = (i2, dk)) := by
            show _ = _
            unfold Sort.partitionEqual
            rw [← HQ.out, partEq_break lt a i j dk HU.out HD.out (by omega)]
          go_wp2
          go_ret
          rw [HQ2.out]
          exact ⟨rfl, HI.out⟩

set_option maxHeartbeats 8000000 in
set_option maxRecDepth 1000000 in
theorem partition_any {lt : α → α → Bool} {n : Nat} {p : Option Addr} {I : Array α → World → Prop} (E : SEnv lt n (.pointer p) I) (hn : n ≤ 65536) (a b pivot : Nat) (hap : a ≤ pivot) (hpb : pivot < b) (hb : b ≤ n) (d : Array α) (W : World) (hI : I d W) :
    Calls Tryd.prog 89 #[.iface 104 (.pointer p), .int .i64 (a : Int), .int .i64 (b : Int), .int .i64 (pivot : Int)] W fun e w' => e = .returned (.tuple #[.int .i64 ((Sort.partition lt d a b pivot).1 : Int), .bool (Sort.partition lt d a b pivot).2.1]) ∧ I (Sort.partition lt d a b pivot).2.2 w' := by
  have mL := mLess p
  have mS := mSwap p
  have HE : Hid (SEnv lt n (.pointer p) I) := E
  obtain ⟨i, hi⟩ : ∃ i : Nat, i = a + 1 := ⟨_, rfl⟩
  obtain ⟨j, hj⟩ : ∃ j : Nat, j = b - 1 := ⟨_, rfl⟩
  obtain ⟨dk, hdk⟩ : ∃ dk : Array α, dk = swp d a pivot := ⟨_, rfl⟩
  have CS : Hid (Calls Tryd.prog 117 #[.pointer p, .int .i64 (a : Int), .int .i64 (pivot : Int)] W fun e w' => e = .returned (.tuple #[]) ∧ I dk w') := by rw [hdk]; exact E.swap d W hI a pivot (by omega) (by omega)
  have hai : a < i := by omega
  have hij : i ≤ j + 1 := by omega
  have hjb : j < b := by omega
  have Hi : Hid (i = a + 1) := hi
  have Hj : Hid (j = b - 1) := hj
  have Hdk : Hid (dk = swp d a pivot) := hdk
  have ei : (a : Int) + 1 = (i : Int) := by omega
  have ej : (b : Int) - 1 = (j : Int) := by omega
  clear hi hj hdk E hI
  go_enter Tryd.func89, Tryd.ntmps89
  go_upto_block 0 with (go_at_call 117; refine CS.out.mono ?_; rintro e w1 ⟨rfl, hI1⟩)
  have HI : Hid (I dk w1) := hI1
  clear hI1 CS
  (try simp only [ei, ej])
  go_cut [10] from 20 to 30 (fun v10 wx => ∃ i2 : Nat, v10 = .int .i64 i2 ∧ i ≤ i2 ∧ i2 ≤ j + 1 ∧ Hid (i2 = scanUp (fun x => lt x dk[a]!) dk j i) ∧ Hid (I dk wx))
  case first =>
    go_wp2_with fail
    go_loopw [10] (fun vi w1 => ∃ i' : Nat, vi = .int .i64 i' ∧ i ≤ i' ∧ i' ≤ j + 1 ∧ Hid (I dk w1) ∧ Hid (scanUp (fun x => lt x dk[a]!) dk j i' = scanUp (fun x => lt x dk[a]!) dk j i)) (fun vi _ => j + 1 - (intOf vi).toNat)
    case atStart => exact ⟨i, rfl, Nat.le_refl _, hij, HI, rfl⟩
    case round =>
      clear HI
      obtain ⟨i', rfl, hii, hij', HI, HSc⟩ := hrel
      by_cases hle : i' ≤ j
      · cases hlv : lt dk[i']! dk[a]! with
        | true =>
          have CL : Hid (Calls Tryd.prog 116 #[.pointer p, .int .i64 (i' : Int), .int .i64 (a : Int)] wr fun e w' => e = .returned (.bool true) ∧ I dk w') := HE.out.lessAt HI.out i' a (by omega) (by omega) rfl rfl hlv
          have HS2 : Hid (scanUp (fun x => lt x dk[a]!) dk j (i' + 1) = scanUp (fun x => lt x dk[a]!) dk j i) := (scanUp_go (fun x => lt x dk[a]!) dk j i' hle hlv).symm.trans HSc.out
          clear hlv
          go_wp2_with (go_at_call 116; refine CL.out.mono ?_; rintro e w1 ⟨rfl, hI1⟩)
          have HI1 : Hid (I dk w1) := hI1
          clear hI1
          go_roundw
          case rel => exact ⟨i' + 1, by go_num, by omega, by omega, HI1, HS2⟩
          case measure => simp [intOf]; omega
        | false =>
          have CL : Hid (Calls Tryd.prog 116 #[.pointer p, .int .i64 (i' : Int), .int .i64 (a : Int)] wr fun e w' => e = .returned (.bool false) ∧ I dk w') := HE.out.lessAt HI.out i' a (by omega) (by omega) rfl rfl hlv
          have HS2 : Hid (i' = scanUp (fun x => lt x dk[a]!) dk j i) := (scanUp_end (fun x => lt x dk[a]!) dk j i' (Or.inr hlv)).symm.trans HSc.out
          clear hlv
          go_wp2_with (go_at_call 116; refine CL.out.mono ?_; rintro e w1 ⟨rfl, hI1⟩)
          go_meet
          exact ⟨i', rfl, hii, hij', HS2, hI1⟩
      · have HS2 : Hid (i' = scanUp (fun x => lt x dk[a]!) dk j i) := (scanUp_end (fun x => lt x dk[a]!) dk j i' (Or.inl hle)).symm.trans HSc.out
        go_wp2_with fail
        go_meet
        exact ⟨i', rfl, hii, hij', HS2, HI⟩
  case rest =>
    clear HI
    obtain ⟨i2, rfl, hii, hij2, HU, HI⟩ := hcut
    go_upto_block 2 with fail
    go_cut [11] from 31 to 42 (fun v11 wx => ∃ j2 : Nat, v11 = .int .i64 j2 ∧ j2 ≤ j ∧ i2 ≤ j2 + 1 ∧ Hid (j2 = scanDown (fun x => !lt x dk[a]!) dk i2 j) ∧ Hid (I dk wx))
    case first =>
      go_wp2_with fail
      go_loopw [11] (fun vj w1 => ∃ j' : Nat, vj = .int .i64 j' ∧ j' ≤ j ∧ i2 ≤ j' + 1 ∧ Hid (I dk w1) ∧ Hid (scanDown (fun x => !lt x dk[a]!) dk i2 j' = scanDown (fun x => !lt x dk[a]!) dk i2 j)) (fun vj _ => (intOf vj).toNat)
      case atStart => exact ⟨j, rfl, Nat.le_refl _, hij2, HI, rfl⟩
      case round =>
        clear HI
        obtain ⟨j', rfl, hjj, hij', HI, HSc⟩ := hrel
        by_cases hle : i2 ≤ j'
        · cases hlv : lt dk[j']! dk[a]! with
          | false =>
            have CL : Hid (Calls Tryd.prog 116 #[.pointer p, .int .i64 (j' : Int), .int .i64 (a : Int)] wr fun e w' => e = .returned (.bool false) ∧ I dk w') := HE.out.lessAt HI.out j' a (by omega) (by omega) rfl rfl hlv
            have HS2 : Hid (scanDown (fun x => !lt x dk[a]!) dk i2 (j' - 1) = scanDown (fun x => !lt x dk[a]!) dk i2 j) := (scanDown_go (fun x => !lt x dk[a]!) dk i2 j' hle (by omega) (by simp [hlv])).symm.trans HSc.out
            clear hlv
            go_wp2_with (go_at_call 116; refine CL.out.mono ?_; rintro e w1 ⟨rfl, hI1⟩)
            have HI1 : Hid (I dk w1) := hI1
            clear hI1
            go_roundw
            case rel => exact ⟨j' - 1, by go_num, by omega, by omega, HI1, HS2⟩
            case measure => simp [intOf]; omega
          | true =>
            have CL : Hid (Calls Tryd.prog 116 #[.pointer p, .int .i64 (j' : Int), .int .i64 (a : Int)] wr fun e w' => e = .returned (.bool true) ∧ I dk w') := HE.out.lessAt HI.out j' a (by omega) (by omega) rfl rfl hlv
            have HS2 : Hid (j' = scanDown (fun x => !lt x dk[a]!) dk i2 j) := (scanDown_end (fun x => !lt x dk[a]!) dk i2 j' (Or.inr (by simp [hlv]))).symm.trans HSc.out
            clear hlv
            go_wp2_with (go_at_call 116; refine CL.out.mono ?_; rintro e w1 ⟨rfl, hI1⟩)
            go_meet
            exact ⟨j', rfl, hjj, hij', HS2, hI1⟩
        · have HS2 : Hid (j' = scanDown (fun x => !lt x dk[a]!) dk i2 j) := (scanDown_end (fun x => !lt x dk[a]!) dk i2 j' (Or.inl hle)).symm.trans HSc.out
          go_wp2_with fail
          go_meet
          exact ⟨j', rfl, hjj, hij', HS2, HI⟩
    case rest =>
      clear HI
      obtain ⟨j2, rfl, hjj, hij3, HD, HI⟩ := hcut
      by_cases hle : i2 ≤ j2
      · have hlt3 := part_scans_lt lt a i j dk (by omega) HU.out HD.out hle
        have CS : Hid (Calls Tryd.prog 117 #[.pointer p, .int .i64 (i2 : Int), .int .i64 (j2 : Int)] wc fun e w' => e = .returned (.tuple #[]) ∧ I (swp dk i2 j2) w') := HE.out.swap dk wc HI.out i2 j2 (by omega) (by omega)
        obtain ⟨I0, hI0⟩ : ∃ I0 : Nat, I0 = i2 + 1 := ⟨_, rfl⟩
        obtain ⟨J0, hJ0⟩ : ∃ J0 : Nat, J0 = j2 - 1 := ⟨_, rfl⟩
        obtain ⟨D0, hD0⟩ : ∃ D0 : Array α, D0 = swp dk i2 j2 := ⟨_, rfl⟩
        have PF : Hid (Sort.partition lt d a b pivot = ((Sort.partLoop lt a I0 J0 D0).1, false, swp (Sort.partLoop lt a I0 J0 D0).2 (Sort.partLoop lt a I0 J0 D0).1 a)) := by
          show _ = _
          rw [hI0, hJ0, hD0]; exact part_first_go lt d a b pivot Hi.out Hj.out Hdk.out HU.out HD.out (by omega)
        have h1 : a < I0 := by omega
        have h2 : I0 ≤ J0 + 1 := by omega
        have h3 : J0 < b := by omega
        rw [← hD0] at CS
        go_upto_block 4 with (go_at_call 117; refine CS.out.mono ?_; rintro e w2 ⟨rfl, hI2⟩)
        have HI2 : Hid (I D0 w2) := hI2
        have e1 : (i2 : Int) + 1 = (I0 : Int) := by omega
        have e2 : (j2 : Int) - 1 = (J0 : Int) := by omega
        (try simp only [e1, e2])
        clear hI2 HI HU HD hI0 hJ0 hD0 Hi Hj Hdk hai hij hjb hii hij2 hjj hij3 hle hlt3 CS ei ej e1 e2
        go_cut [10, 11] from 59 to 92 (fun v10 v11 wx => ∃ (i3 j3 : Nat) (d3 : Array α), v10 = .int .i64 i3 ∧ v11 = .int .i64 j3 ∧ a ≤ j3 ∧ j3 < b ∧ Hid (Sort.partLoop lt a I0 J0 D0 = (j3, d3)) ∧ Hid (I d3 wx))
        case first =>
          go_wp2_with fail
          go_loopw [10, 11] (fun vi vj wr => ∃ (i j : Nat) (dk : Array α), vi = .int .i64 i ∧ vj = .int .i64 j ∧ a < i ∧ i ≤ j + 1 ∧ j < b ∧ Hid (I dk wr) ∧ Hid (Sort.partLoop lt a i j dk = Sort.partLoop lt a I0 J0 D0)) (fun vi vj _ => (intOf vj).toNat + 1 - (intOf vi).toNat)
          case atStart => exact ⟨I0, J0, D0, rfl, rfl, h1, h2, h3, HI2, rfl⟩
          case round =>
            obtain ⟨i, j, dk, rfl, rfl, hai, hij, hjb, HI, HQ⟩ := hrel
            go_upto_block 6 with fail
            go_cut [10] from 59 to 69 (fun v10 wx => ∃ i2 : Nat, v10 = .int .i64 i2 ∧ i ≤ i2 ∧ i2 ≤ j + 1 ∧ Hid (i2 = scanUp (fun x => lt x dk[a]!) dk j i) ∧ Hid (I dk wx))
            case first =>
              go_wp2_with fail
              go_loopw [10] (fun vi w1 => ∃ i' : Nat, vi = .int .i64 i' ∧ i ≤ i' ∧ i' ≤ j + 1 ∧ Hid (I dk w1) ∧ Hid (scanUp (fun x => lt x dk[a]!) dk j i' = scanUp (fun x => lt x dk[a]!) dk j i)) (fun vi _ => j + 1 - (intOf vi).toNat)
              case atStart => exact ⟨i, rfl, Nat.le_refl _, hij, HI, rfl⟩
              case round =>
                clear HI
                obtain ⟨i', rfl, hii, hij', HI, HSc⟩ := hrel
                by_cases hle : i' ≤ j
                · cases hlv : lt dk[i']! dk[a]! with
                  | true =>
                    have CL : Hid (Calls Tryd.prog 116 #[.pointer p, .int .i64 (i' : Int), .int .i64 (a : Int)] wr fun e w' => e = .returned (.bool true) ∧ I dk w') := HE.out.lessAt HI.out i' a (by omega) (by omega) rfl rfl hlv
                    have HS2 : Hid (scanUp (fun x => lt x dk[a]!) dk j (i' + 1) = scanUp (fun x => lt x dk[a]!) dk j i) := (scanUp_go (fun x => lt x dk[a]!) dk j i' hle hlv).symm.trans HSc.out
                    clear hlv
                    go_wp2_with (go_at_call 116; refine CL.out.mono ?_; rintro e w1 ⟨rfl, hI1⟩)
                    have HI1 : Hid (I dk w1) := hI1
                    clear hI1
                    go_roundw
                    case rel => exact ⟨i' + 1, by go_num, by omega, by omega, HI1, HS2⟩
                    case measure => simp [intOf]; omega
                  | false =>
                    have CL : Hid (Calls Tryd.prog 116 #[.pointer p, .int .i64 (i' : Int), .int .i64 (a : Int)] wr fun e w' => e = .returned (.bool false) ∧ I dk w') := HE.out.lessAt HI.out i' a (by omega) (by omega) rfl rfl hlv
                    have HS2 : Hid (i' = scanUp (fun x => lt x dk[a]!) dk j i) := (scanUp_end (fun x => lt x dk[a]!) dk j i' (Or.inr hlv)).symm.trans HSc.out
                    clear hlv
                    go_wp2_with (go_at_call 116; refine CL.out.mono ?_; rintro e w1 ⟨rfl, hI1⟩)
                    go_meet
                    exact ⟨i', rfl, hii, hij', HS2, hI1⟩
                · have HS2 : Hid (i' = scanUp (fun x => lt x dk[a]!) dk j i) := (scanUp_end (fun x => lt x dk[a]!) dk j i' (Or.inl hle)).symm.trans HSc.out
                  go_wp2_with fail
                  go_meet
                  exact ⟨i', rfl, hii, hij', HS2, HI⟩
            case rest =>
              clear HI
              obtain ⟨i2, rfl, hii, hij2, HU, HI⟩ := hcut
              go_upto_block 8 with fail
              go_cut [11] from 70 to 81 (fun v11 wx => ∃ j2 : Nat, v11 = .int .i64 j2 ∧ j2 ≤ j ∧ i2 ≤ j2 + 1 ∧ Hid (j2 = scanDown (fun x => !lt x dk[a]!) dk i2 j) ∧ Hid (I dk wx))
              case first =>
                go_wp2_with fail
                go_loopw [11] (fun vj w1 => ∃ j' : Nat, vj = .int .i64 j' ∧ j' ≤ j ∧ i2 ≤ j' + 1 ∧ Hid (I dk w1) ∧ Hid (scanDown (fun x => !lt x dk[a]!) dk i2 j' = scanDown (fun x => !lt x dk[a]!) dk i2 j)) (fun vj _ => (intOf vj).toNat)
                case atStart => exact ⟨j, rfl, Nat.le_refl _, hij2, HI, rfl⟩
                case round =>
                  clear HI
                  obtain ⟨j', rfl, hjj, hij', HI, HSc⟩ := hrel
                  by_cases hle : i2 ≤ j'
                  · cases hlv : lt dk[j']! dk[a]! with
                    | false =>
                      have CL : Hid (Calls Tryd.prog 116 #[.pointer p, .int .i64 (j' : Int), .int .i64 (a : Int)] wr fun e w' => e = .returned (.bool false) ∧ I dk w') := HE.out.lessAt HI.out j' a (by omega) (by omega) rfl rfl hlv
                      have HS2 : Hid (scanDown (fun x => !lt x dk[a]!) dk i2 (j' - 1) = scanDown (fun x => !lt x dk[a]!) dk i2 j) := (scanDown_go (fun x => !lt x dk[a]!) dk i2 j' hle (by omega) (by simp [hlv])).symm.trans HSc.out
                      clear hlv
                      go_wp2_with (go_at_call 116; refine CL.out.mono ?_; rintro e w1 ⟨rfl, hI1⟩)
                      have HI1 : Hid (I dk w1) := hI1
                      clear hI1
                      go_roundw
                      case rel => exact ⟨j' - 1, by go_num, by omega, by omega, HI1, HS2⟩
                      case measure => simp [intOf]; omega
                    | true =>
                      have CL : Hid (Calls Tryd.prog 116 #[.pointer p, .int .i64 (j' : Int), .int .i64 (a : Int)] wr fun e w' => e = .returned (.bool true) ∧ I dk w') := HE.out.lessAt HI.out j' a (by omega) (by omega) rfl rfl hlv
                      have HS2 : Hid (j' = scanDown (fun x => !lt x dk[a]!) dk i2 j) := (scanDown_end (fun x => !lt x dk[a]!) dk i2 j' (Or.inr (by simp [hlv]))).symm.trans HSc.out
                      clear hlv
                      go_wp2_with (go_at_call 116; refine CL.out.mono ?_; rintro e w1 ⟨rfl, hI1⟩)
                      go_meet
                      exact ⟨j', rfl, hjj, hij', HS2, hI1⟩
                  · have HS2 : Hid (j' = scanDown (fun x => !lt x dk[a]!) dk i2 j) := (scanDown_end (fun x => !lt x dk[a]!) dk i2 j' (Or.inl hle)).symm.trans HSc.out
                    go_wp2_with fail
                    go_meet
                    exact ⟨j', rfl, hjj, hij', HS2, HI⟩
              case rest =>
                clear HI
                obtain ⟨j2, rfl, hjj, hij3, HD, HI⟩ := hcut
                by_cases hle : i2 ≤ j2
                · have hlt3 := part_scans_lt lt a i j dk (by omega) HU.out HD.out hle
                  have CS : Hid (Calls Tryd.prog 117 #[.pointer p, .int .i64 (i2 : Int), .int .i64 (j2 : Int)] wc fun e w' => e = .returned (.tuple #[]) ∧ I (swp dk i2 j2) w') := HE.out.swap dk wc HI.out i2 j2 (by omega) (by omega)
                  have HQ2 : Hid (Sort.partLoop lt a (i2 + 1) (j2 - 1) (swp dk i2 j2) = Sort.partLoop lt a I0 J0 D0) := by show _ = _; rw [← HQ.out]; exact (part_go lt a i j dk HU.out HD.out (by omega)).symm
                  go_wp2_with (go_at_call 117; refine CS.out.mono ?_; rintro e w2 ⟨rfl, hI2⟩)
                  have HI2 : Hid (I (swp dk i2 j2) w2) := hI2
                  clear hI2
                  go_roundw
                  case rel => exact ⟨i2 + 1, j2 - 1, _, by go_num, by go_num, by omega, by omega, by omega, HI2, HQ2⟩
                  case measure => simp [intOf]; omega
                · have HQ2 : Hid (Sort.partLoop lt a I0 J0 D0 = (j2, dk)) := by
                    show _ = _
                    rw [← HQ.out, part_break lt a i j dk HU.out HD.out (by omega)]
                  go_wp2_with fail
                  go_meet
                  exact ⟨i2, j2, dk, rfl, rfl, by omega, by omega, HQ2, HI⟩
        case rest =>
          clear HI2
          obtain ⟨i3, j3, d3, rfl, rfl, ha3, hb3, HQ, HI⟩ := hcut
          have CS : Hid (Calls Tryd.prog 117 #[.pointer p, .int .i64 (j3 : Int), .int .i64 (a : Int)] wc fun e w' => e = .returned (.tuple #[]) ∧ I (swp d3 j3 a) w') := HE.out.swap d3 wc HI.out j3 a (by omega) (by omega)
          go_wp2_with (go_at_call 117; refine CS.out.mono ?_; rintro e w2 ⟨rfl, hI2⟩)
          go_ret2
          rw [PF.out, HQ.out]
          exact ⟨rfl, hI2⟩
      · have PF : Hid (Sort.partition lt d a b pivot = (j2, true, swp dk j2 a)) := part_first_break lt d a b pivot Hi.out Hj.out Hdk.out HU.out HD.out (by omega)
        have CS : Hid (Calls Tryd.prog 117 #[.pointer p, .int .i64 (j2 : Int), .int .i64 (a : Int)] wc fun e w' => e = .returned (.tuple #[]) ∧ I (swp dk j2 a) w') := HE.out.swap dk wc HI.out j2 a (by omega) (by omega)
        go_wp2_with (go_at_call 117; refine CS.out.mono ?_; rintro e w2 ⟨rfl, hI2⟩)
        go_ret2
        rw [PF.out]
        exact ⟨rfl, hI2⟩
end Go.Proofs.Qxb6613821aDoor
