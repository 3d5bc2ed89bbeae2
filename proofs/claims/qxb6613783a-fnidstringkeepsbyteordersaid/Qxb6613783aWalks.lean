import Derived.Test.Qxb6613783aRows
import Derived.Test.Qxb6613783aShelf
import Derived.WalkKit
import Derived.WalkLawsBesides
import Derived.ProofKit
import Derived.OpenShut
import Derived.ShutString
import Derived.Deep.QuietTactic
import Derived.BigQuiet
import Derived.Lib.ConvBytes
import Derived.Deep.WholeRow
import Derived.Deep.OwnRows
namespace Go.Proofs.Qxb6613783a
open Go.RowKit Go.Lib

/-- An id's bytes as the cells of an array. -/
def cells (l : List UInt8) : Array Value := (l.map fun b => Value.int .u8 (b.toNat : Int)).toArray
theorem cells_size (l : List UInt8) : (cells l).size = l.length := by simp [cells]
theorem cells_get (l : List UInt8) (i : Nat) (h : i < l.length) : (cells l)[i]? = some (.int .u8 ((l[i]'h).toNat : Int)) := by simp [cells, h]
theorem cells_one (l : List UInt8) : (cells l).all (·.oneCell') = true := by simp [cells, Value.oneCell']
theorem info30 {l : List UInt8} (hl : l.length = 20) : (Try.prog.info? 30).map (·.size) = some (cells l).size := by
  rw [cells_size, hl]; kernel_rfl
theorem info31 {l : List UInt8} (hl : l.length = 20) : (Try.prog.info? 31).map (·.size) = some (cells l).size := by
  rw [cells_size, hl]; kernel_rfl

/-- The text of an id. -/
def txt (l : List UInt8) : ByteArray := ⟨(Hx.encode l).toArray⟩
theorem txt_size {l : List UInt8} (hl : l.length = 20) : (txt l).size = 40 := by
  show (Hx.encode l).toArray.size = 40
  rw [List.size_toArray, Hx.encode_length, hl]

theorem hex_any (l : List UInt8) (hl : l.length = 20) (b : Nat) (w : World) (hsrc : ∀ i, i < 20 → w.cell? ⟨b, i, none⟩ = (cells l)[i]?) (hb : b < w.heap.size) :
    Calls Try.prog 25 #[.slice (some ⟨b, 0, none⟩) 20 20] w fun e w' => e = .returned (.string (txt l)) ∧ Below w.heap.size w w' := by
  have h := Try.hex_EncodeToString_bytes b 0 20 l w (fun i h => by rw [Nat.zero_add, hsrc i (by omega), cells_get l i h]) hb (by omega)
  rw [hl] at h
  exact h

theorem string_any (l : List UInt8) (hl : l.length = 20) (w : World) :
    Calls Try.prog 13 #[.agg (cells l)] w fun e w' => e = .returned (.string (txt l)) ∧ Below w.heap.size w w' := by
  go_enter Try.func13, Try.ntmps13
  go_wp2_with fail
  refine (hex_any l hl _ _ ?_ ?_).mono ?_
  · intro i _; simp
  · simp
  rintro e w1 ⟨rfl, hb⟩
  go_wp2
  go_ret
  exact ⟨rfl, ((Below.refl _ _).alloc (Nat.le_refl _) _).trans (hb.mono (by simp))⟩

theorem bytes_below (w : World) (e : TypeId) (s : ByteArray) : Below w.heap.size w (Lib.bytesWorld w e s) := by
  refine ⟨?_, ?_, ?_, ?_, fun k hk => Lib.bytesWorld_at_old w e s k hk⟩
  · rfl
  · rfl
  · rfl
  · rw [Lib.bytesWorld_size]; omega

theorem marshal_any (l : List UInt8) (hl : l.length = 20) (w : World) :
    Calls Try.prog 14 #[.agg (cells l)] w fun e w' => ∃ b c, e = .returned (.tuple #[.slice (some ⟨b, 0, none⟩) 40 c, .nilIface]) ∧ (∀ i, i < 40 → w'.cell? ⟨b, i, none⟩ = some (.int .u8 ((Hx.nums l).getD i 0))) ∧ Below w.heap.size w w' := by
  go_enter Try.func14, Try.ntmps14
  go_wp2_with (refine wpList_load_row rfl 31 _ rfl w.heap.size rfl 31 (cells l) (0, 0) _ (heap_alloc_last w _) Try.underlying31 rfl (info31 hl) ?_)
  refine (string_any l hl _).mono ?_
  rintro e w1 ⟨rfl, hb⟩
  have hcv := Lib.run_convert_string_bytes w1 9 34 5 (txt l) Try.underlying9 Try.underlying34 Try.underlying5
  rw [txt_size hl] at hcv
  have hB : Below w.heap.size w w1 := ((Below.refl _ _).alloc (Nat.le_refl _) _).trans (hb.mono (by simp))
  have hW := bytes_below w1 5 (txt l)
  have hC : ∀ i, i < 40 → (Lib.bytesWorld w1 5 (txt l)).cell? ⟨w1.heap.size, i, none⟩ = some (.int .u8 ((Hx.nums l).getD i 0)) := fun i hi => by
    rw [Lib.bytesWorld_cell w1 5 (txt l) i (by rw [txt_size hl]; exact hi), Hx.nums_getD]
    rfl
  generalize Lib.bytesWorld w1 5 (txt l) = W at *
  have HW : Hid (Below w1.heap.size w1 W) := hW
  have HC : Hid (∀ i, i < 40 → W.cell? ⟨w1.heap.size, i, none⟩ = some (.int .u8 ((Hx.nums l).getD i 0))) := hC
  clear hW hC hb
  go_wp2
  go_ret2
  exact ⟨_, _, rfl, HC.out, hB.trans (HW.out.mono hB.size)⟩

theorem digit_any (n : Nat) (hn : n < 16) (w : World) :
    Calls Try.prog 24 #[.int .u8 (n : Int)] w fun e w' => e = .returned (.int .u8 ((Hx.digit n).toNat : Int)) ∧ w' = w := by
  have hd : ∀ m, m < 16 → ((Hx.digit m).toNat : Int) = if m < 10 then 48 + (m : Int) else 97 + ((m : Int) - 10) := by decide
  have h := hd n hn
  rw [h]
  by_cases h10 : n < 10
  · rw [if_pos h10]
    clear h hd
    go_enter Try.func24, Try.ntmps24
    go_wp2
    go_ret
    exact ⟨by simp, rfl⟩
  · rw [if_neg h10]
    clear h hd
    go_enter Try.func24, Try.ntmps24
    go_wp2
    go_ret
    exact ⟨by simp, rfl⟩

theorem digit_any' (n : Int) (h0 : 0 ≤ n) (hn : n < 16) (w : World) :
    Calls Try.prog 24 #[.int .u8 n] w fun e w' => e = .returned (.int .u8 ((Hx.digit n.toNat).toNat : Int)) ∧ w' = w := by
  obtain ⟨k, rfl⟩ := Int.eq_ofNat_of_zero_le h0
  exact digit_any k (by omega) w

set_option maxHeartbeats 1000000 in
theorem hexOf_any (l : List UInt8) (hl : l.length = 20) (w : World) :
    Calls Try.prog 12 #[.agg (cells l)] w fun e w' => e = .returned (.string (txt l)) ∧ Below w.heap.size w w' := by
  have hmk : ∀ w : World, (Instr.makeSlice 34 (.int .i64 40) (.int .i64 40)).run Try.prog w = .ok (.slice (some ⟨w.heap.size, 0, none⟩) 40 40) (w.alloc (.cells (madeCells #[.int .u8 0] 40) 5)) := fun w =>
    run_make_row' (P := Try.prog) 34 5 (.int .u8 0) 1 Try.underlying34 (by kernel_rfl) rfl .i64 .i64 40 (by omega) (by omega) w
  have hrow := World.rowIs_made (w.alloc (.cells (cells l) 30)) (.int .u8 0) 40 5
  have hold : ∀ i, i < 20 → ((w.alloc (.cells (cells l) 30)).alloc (.cells (madeCells #[.int .u8 0] 40) 5)).cell? ⟨w.heap.size, i, none⟩ = (cells l)[i]? := fun i _ => by
    rw [World.cell?_alloc_lt _ _ _ (by simp)]; simp
  have hb0 : Below w.heap.size w ((w.alloc (.cells (cells l) 30)).alloc (.cells (madeCells #[.int .u8 0] 40) 5)) := ((Below.refl _ _).alloc (Nat.le_refl _) _).alloc (by simp) _
  generalize hW : (w.alloc (.cells (cells l) 30)).alloc (.cells (madeCells #[.int .u8 0] 40) 5) = W at *
  simp at hrow
  have HO : Hid (∀ i, i < 20 → W.cell? ⟨w.heap.size, i, none⟩ = (cells l)[i]?) := hold
  have HB : Hid (Below w.heap.size w W) := hb0
  have hsz : w.heap.size + 2 ≤ W.heap.size := by rw [← hW]; simp
  clear hold hb0
  go_enter Try.func12, Try.ntmps12
  go_wp2
  clear hW
  have HR : Hid (W.rowIs (w.heap.size + 1) 5 40 (fun _ => .int .u8 0)) := hrow
  clear hrow hmk
  go_loopw [4] (fun vi wr => ∃ k : Nat, k ≤ 20 ∧ vi = .int .i64 k ∧ Hid (wr.rowIs (w.heap.size + 1) 5 40 (Hx.row (fun _ => .int .u8 0) 0 l k)) ∧ Hid (W.grownBy wr (some (w.heap.size + 1)))) (fun vi _ => 20 - (RowKit.intOf vi).toNat)
  case atStart => exact ⟨0, Nat.zero_le _, rfl, HR.out.congr (fun j _ => Hx.row_zero (fun _ => Value.int .u8 0) 0 l j), Hx.grownBy_refl _ _⟩
  case round =>
    obtain ⟨k, hk, rfl, hrw, hgr⟩ := hrel
    by_cases hlt : k < 20
    · obtain ⟨x, hx⟩ : ∃ x : UInt8, l[k]? = some x := ⟨l[k], by simp⟩
      have hcx : wr.cell? ⟨w.heap.size, k, none⟩ = some (.int .u8 (x.toNat : Int)) := by
        refine hgr.out.cell ?_ (by simp)
        rw [HO.out k hlt]
        simp [cells, hx]
      have hx1 : x.toNat < 256 := x.toNat_lt
      have HX : Hid (l[k]? = some x) := hx
      clear hx
      have hf1 : wr.frozen? ⟨w.heap.size + 1, 2 * k, none⟩ = false := hrw.out.frozen _
      have hc1 : wr.cell? ⟨w.heap.size + 1, 2 * k, none⟩ = some (Hx.row (fun _ => .int .u8 0) 0 l k (2 * k)) := hrw.out.cell (by omega)
      have hf2 : ∀ v, (wr.setCell ⟨w.heap.size + 1, 2 * k, none⟩ v).frozen? ⟨w.heap.size + 1, 2 * k + 1, none⟩ = false := fun v => (hrw.out.set _ v).frozen _
      have hc2 : ∀ v, (wr.setCell ⟨w.heap.size + 1, 2 * k, none⟩ v).cell? ⟨w.heap.size + 1, 2 * k + 1, none⟩ = some (Hx.row (fun _ => .int .u8 0) 0 l k (2 * k + 1)) := fun v => by
        have := (hrw.out.set (2 * k) v).cell (i := 2 * k + 1) (by omega)
        rwa [if_neg (by omega)] at this
      have hcx2 : ∀ v, (wr.setCell ⟨w.heap.size + 1, 2 * k, none⟩ v).cell? ⟨w.heap.size, k, none⟩ = some (.int .u8 (x.toNat : Int)) := fun v => by
        rw [World.cell?_setCell_other _ _ _ _ (by simp)]; exact hcx
      go_wp2_with (go_at_call 24; refine (digit_any' _ (by omega) (by omega) _).mono ?_; rintro e w' ⟨rfl, rfl⟩)
      go_roundw
      case rel =>
        refine ⟨k + 1, by omega, by go_num, ((hrw.out.set _ _).set _ _).congr (fun j _ => ?_), Hx.grownBy_set (Hx.grownBy_set hgr.out _ rfl _) _ rfl _⟩
        have e3 := Hx.row_step (fun _ => Value.int .u8 0) 0 l k x HX.out j
        rw [Nat.zero_add, Nat.zero_add] at e3
        exact e3
      case measure => simp [RowKit.intOf]; omega
    · obtain rfl : k = 20 := by omega
      have g := run_convert_bytes_arg (P := Try.prog) wr 34 5 Try.underlying34 Try.underlying5 (w.heap.size + 1) 0 40 40 (Hx.nums l) (by rw [Hx.nums_length, hl]) (fun i hi => by rw [Nat.zero_add, hrw.out.cell hi, Hx.row_in _ _ _ _ hi]) 9 Try.underlying9
      go_wp2
      go_ret
      exact ⟨by rw [Hx.strOfNums_nums]; rfl, HB.out.grown hgr.out (by omega) (fun k hk => by cases hk; omega)⟩
end Go.Proofs.Qxb6613783a
