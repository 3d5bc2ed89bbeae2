import Derived.Test.Qxb6613783aCmp
import Derived.Laws.CopyOwn
namespace Go.Proofs.Qxb6613783a
open Go.RowKit Go.Lib

theorem hexVal_low (c : Int) (h0 : 48 ≤ c) (h1 : c ≤ 57) (w : World) :
    Calls Try.prog 26 #[.int .u8 c] w fun e w' => e = .returned (.tuple #[.int .u8 (c - 48), .bool true]) ∧ w' = w := by
  go_enter Try.func26, Try.ntmps26
  go_wp2
  go_ret2
  exact ⟨rfl, rfl⟩

theorem hexVal_high (c : Int) (h0 : 97 ≤ c) (h1 : c ≤ 102) (w : World) :
    Calls Try.prog 26 #[.int .u8 c] w fun e w' => e = .returned (.tuple #[.int .u8 (c - 97 + 10), .bool true]) ∧ w' = w := by
  go_enter Try.func26, Try.ntmps26
  go_wp2
  go_ret2
  exact ⟨rfl, rfl⟩

theorem hexVal_any (n : Nat) (hn : n < 16) (w : World) :
    Calls Try.prog 26 #[.int .u8 ((Hx.digit n).toNat : Int)] w fun e w' => e = .returned (.tuple #[.int .u8 (n : Int), .bool true]) ∧ w' = w := by
  have hd : ∀ m, m < 16 → (m < 10 ∧ (Hx.digit m).toNat = 48 + m) ∨ (10 ≤ m ∧ (Hx.digit m).toNat + 10 = 97 + m) := by decide
  rcases hd n hn with ⟨h, e⟩ | ⟨h, e⟩
  · refine (hexVal_low _ (by omega) (by omega) w).mono ?_
    rintro e' w' ⟨rfl, rfl⟩
    exact ⟨by rw [show ((Hx.digit n).toNat : Int) - 48 = n from by omega], rfl⟩
  · refine (hexVal_high _ (by omega) (by omega) w).mono ?_
    rintro e' w' ⟨rfl, rfl⟩
    exact ⟨by rw [show ((Hx.digit n).toNat : Int) - 97 + 10 = n from by omega], rfl⟩

/-- What the array of parse holds behind k rounds. -/
def parsed (l : List UInt8) (k : Nat) : Nat → Value := fun j => if j < k then .int .u8 ((l.getD j 0).toNat : Int) else .int .u8 0

theorem parsed_step (l : List UInt8) (k : Nat) (x : UInt8) (hx : l[k]? = some x) (j : Nat) : (if j = k then Value.int .u8 (x.toNat : Int) else parsed l k j) = parsed l (k + 1) j := by
  unfold parsed
  by_cases h : j = k
  · subst h
    rw [if_pos rfl, if_pos (by omega), List.getD_eq_getElem?_getD, hx]
    rfl
  · rw [if_neg h]
    by_cases h2 : j < k
    · rw [if_pos h2, if_pos (by omega)]
    · rw [if_neg h2, if_neg (by omega)]

theorem parsed_row {w : World} {b : Nat} {l : List UInt8} (hl : l.length = 20) (h : w.rowIs b 30 20 (parsed l 20)) : w.heap[b]? = some (.cells (cells l) 30 (0, 0)) := by
  obtain ⟨c, hb, hs, hc⟩ := h
  have e : c = cells l := by
    apply Array.ext_getElem?
    intro i
    by_cases hi : i < 20
    · rw [hc i hi, cells_get l i (by omega)]
      unfold parsed
      rw [if_pos hi]
      simp [hl, hi]
    · rw [Array.getElem?_eq_none (by omega), Array.getElem?_eq_none (by rw [cells_size]; omega)]
  rw [hb, e]

theorem nibbles (x : UInt8) : ((x.toNat / 16 : Nat) : Int) * 16 + ((x.toNat % 16 : Nat) : Int) = (x.toNat : Int) := by omega

theorem zeros_list : ∀ v ∈ [Value.int .u8 0, .int .u8 0, .int .u8 0, .int .u8 0, .int .u8 0, .int .u8 0, .int .u8 0, .int .u8 0, .int .u8 0, .int .u8 0, .int .u8 0, .int .u8 0, .int .u8 0, .int .u8 0, .int .u8 0, .int .u8 0, .int .u8 0, .int .u8 0, .int .u8 0, .int .u8 0], v = .int .u8 0 := by
  intro v h
  simpa using h
theorem zeros_at {zs : List Value} (h : ∀ v ∈ zs, v = .int .u8 0) (i : Nat) (hi : i < zs.length) : zs.toArray[i]? = some (.int .u8 0) := by
  have h2 : zs.toArray[i]? = some (zs[i]'hi) := by simp [hi]
  rw [h2, h _ (List.getElem_mem hi)]

theorem or_nibbles : ∀ n : Nat, n < 256 → bits .or .u8 ((n : Int) / 16 * 16) ((n : Int) % 16) = (n : Int) := by decide +kernel

theorem two_rows (w : World) (l : List UInt8) (z : Array Value) (hz : z.size = 20) (hzz : ∀ i, i < 20 → z[i]? = some (.int .u8 0)) :
    ∃ W, (w.alloc (.cells z 30)).alloc (.cells z 30) = W ∧ W.rowIs (w.heap.size + 1) 30 20 (parsed l 0) ∧ W.heap[w.heap.size]? = some (.cells z 30 (0, 0)) ∧ Below w.heap.size w W ∧ w.heap.size + 1 < W.heap.size :=
  ⟨_, rfl, ⟨z, heap_alloc2_new w _ _, hz, fun i hi => by rw [hzz i hi]; rfl⟩, heap_alloc2_old w _ _, ((Below.refl _ _).alloc (Nat.le_refl _) _).alloc (by simp) _, by simp⟩

set_option maxHeartbeats 2000000 in
theorem parse_any (l : List UInt8) (hl : l.length = 20) (w : World) :
    Calls Try.prog 17 #[.string (txt l)] w fun e w' => e = .returned (.tuple #[.agg (cells l), .bool true]) ∧ Below w.heap.size w w' := by
  have hd : ∀ k (h : k < 20), ∃ (x : UInt8) (h1 : 2 * k < (txt l).size) (h2 : 2 * k + 1 < (txt l).size), l[k]? = some x ∧ ((txt l)[2 * k]'h1) = Hx.digit (x.toNat / 16) ∧ ((txt l)[2 * k + 1]'h2) = Hx.digit (x.toNat % 16) := by
    intro k h
    obtain ⟨a, b⟩ := Hx.encode_at l k (l[k]'(by omega)) (by simp [hl, h])
    have hsz := txt_size hl
    refine ⟨l[k]'(by omega), by omega, by omega, by simp [hl, h], ?_, ?_⟩
    · obtain ⟨_, e⟩ := List.getElem?_eq_some_iff.1 a
      rw [← e]; rfl
    · obtain ⟨_, e⟩ := List.getElem?_eq_some_iff.1 b
      rw [← e]; rfl
  have hsz := txt_size hl
  generalize txt l = s at *
  have HD : Hid (∀ k (h : k < 20), ∃ (x : UInt8) (h1 : 2 * k < s.size) (h2 : 2 * k + 1 < s.size), l[k]? = some x ∧ (s[2 * k]'h1) = Hx.digit (x.toNat / 16) ∧ (s[2 * k + 1]'h2) = Hx.digit (x.toNat % 16)) := hd
  clear hd
  go_enter Try.func17, Try.ntmps17
  go_wp2_with fail
  obtain ⟨W, hW, hrow, hres, hbel, hsiz⟩ := two_rows w l #[.int .u8 0, .int .u8 0, .int .u8 0, .int .u8 0, .int .u8 0, .int .u8 0, .int .u8 0, .int .u8 0, .int .u8 0, .int .u8 0, .int .u8 0, .int .u8 0, .int .u8 0, .int .u8 0, .int .u8 0, .int .u8 0, .int .u8 0, .int .u8 0, .int .u8 0, .int .u8 0] rfl (zeros_at zeros_list)
  rw [hW]
  clear hW
  have HRow : Hid (W.rowIs (w.heap.size + 1) 30 20 (parsed l 0)) := hrow
  have HRes : Hid (W.heap[w.heap.size]? = _) := hres
  have HBel : Hid (Below w.heap.size w W) := hbel
  clear hrow hres hbel
  go_loopw [5] (fun vi wr => ∃ k : Nat, k ≤ 20 ∧ vi = .int .i64 k ∧ Hid (wr.rowIs (w.heap.size + 1) 30 20 (parsed l k)) ∧ Hid (W.grownBy wr (some (w.heap.size + 1)))) (fun vi _ => 20 - (RowKit.intOf vi).toNat)
  case atStart => exact ⟨0, Nat.zero_le _, rfl, HRow.out, Hx.grownBy_refl _ _⟩
  case round =>
    obtain ⟨k, hk, rfl, hrw, hgr⟩ := hrel
    by_cases hlt : k < 20
    · obtain ⟨x, h1, h2, hx, e1, e2⟩ := HD.out k hlt
      have hx1 : x.toNat < 256 := x.toNat_lt
      have HX : Hid (l[k]? = some x) := hx
      clear hx
      have hf1 : wr.frozen? ⟨w.heap.size + 1, k, none⟩ = false := hrw.out.frozen _
      have hc1 : wr.cell? ⟨w.heap.size + 1, k, none⟩ = some (parsed l k k) := hrw.out.cell hlt
      go_wp2_with fail
      refine (hexVal_any (x.toNat / 16) (by omega) _).mono ?_
      rintro e w1 ⟨rfl, rfl⟩
      go_wp2_with fail
      refine (hexVal_any (x.toNat % 16) (by omega) _).mono ?_
      rintro e w1 ⟨rfl, rfl⟩
      go_wp2
      go_roundw
      case rel =>
        refine ⟨k + 1, by omega, by go_num, (hrw.out.set _ _).congr (fun j _ => ?_), Hx.grownBy_set hgr.out _ rfl _⟩
        rw [← parsed_step l k x HX.out j]
        rw [or_nibbles x.toNat hx1]
      case measure => simp [RowKit.intOf]; omega
    · obtain rfl : k = 20 := by omega
      have hout := parsed_row hl hrw.out
      have hres : wr.heap[w.heap.size]? = _ := (hgr.out.block w.heap.size (by omega) (by simp)).trans HRes.out
      clear HRow HRes HD
      go_wp2_with (first
        | (refine wpList_load_row rfl 30 _ rfl (w.heap.size + 1) rfl 30 (cells l) (0, 0) _ hout Try.underlying30 rfl (info30 hl) ?_)
        | (refine wpList_store_row rfl 30 _ _ rfl w.heap.size (cells l) rfl rfl 30 _ hres (info30 hl) (by rw [cells_size, hl]; rfl) (cells_one l) ?_))
      refine bodyPost_ret (v := .tuple #[.agg (cells l), .bool true]) ?_ rfl ⟨rfl, ?_⟩
      · have hg := setRow_heap wr w.heap.size _ (cells l) _ _ hres
        have hload := run_loadVar_row (P := Try.prog) (wr.setRow w.heap.size (cells l)) w.heap.size 30 30 (cells l) (0, 0) _ hg Try.underlying30 rfl (info30 hl)
        rw [results_cell_tmp Try.results17]
        show (Result.ok _ _).andThen _ = _
        simp only [Result.andThen]
        rw [hload]
        rfl
      · exact below_setRow (HBel.out.grown hgr.out (by omega) (fun k hk => by cases hk; omega)) (Nat.le_refl _) _
end Go.Proofs.Qxb6613783a
