import Derived.Test.Qxb6613783aWalks
namespace Go.Proofs.Qxb6613783a
open Go.RowKit Go.Lib

/-- Two rows of bytes, byte by byte: -1, 0 or 1. -/
def cmpB : List UInt8 → List UInt8 → Int
  | a :: s, b :: t => if a.toNat < b.toNat then -1 else if b.toNat < a.toNat then 1 else cmpB s t
  | _, _ => 0

theorem digit_lt : ∀ i, i < 16 → ∀ j, j < 16 → (((Hx.digit i).toNat < (Hx.digit j).toNat) ↔ i < j) := by decide

theorem cmpB_encode : ∀ l m : List UInt8, l.length = m.length → cmpB (Hx.encode l) (Hx.encode m) = cmpB l m
  | [], [], _ => rfl
  | [], _ :: _, h => by simp at h
  | _ :: _, [], h => by simp at h
  | a :: s, b :: t, h => by
    have ih := cmpB_encode s t (by simpa using h)
    have ha := a.toNat_lt
    have hb := b.toNat_lt
    rw [Hx.encode_cons, Hx.encode_cons]
    simp only [cmpB, digit_lt (a.toNat / 16) (by omega) (b.toNat / 16) (by omega), digit_lt (b.toNat / 16) (by omega) (a.toNat / 16) (by omega), digit_lt (a.toNat % 16) (by omega) (b.toNat % 16) (by omega), digit_lt (b.toNat % 16) (by omega) (a.toNat % 16) (by omega), ih]
    by_cases h1 : a.toNat / 16 < b.toNat / 16
    · rw [if_pos h1, if_pos (by omega)]
    · rw [if_neg h1]
      by_cases h2 : b.toNat / 16 < a.toNat / 16
      · rw [if_pos h2, if_neg (by omega), if_pos (by omega)]
      · rw [if_neg h2]
        by_cases h3 : a.toNat % 16 < b.toNat % 16
        · rw [if_pos h3, if_pos (by omega)]
        · rw [if_neg h3]
          by_cases h4 : b.toNat % 16 < a.toNat % 16
          · rw [if_pos h4, if_neg (by omega), if_pos (by omega)]
          · rw [if_neg h4, if_neg (by omega), if_neg (by omega)]

theorem cmpB_step (l m : List UInt8) (k : Nat) (x y : UInt8) (hx : l[k]? = some x) (hy : m[k]? = some y) :
    cmpB (l.drop k) (m.drop k) = if x.toNat < y.toNat then -1 else if y.toNat < x.toNat then 1 else cmpB (l.drop (k + 1)) (m.drop (k + 1)) := by
  obtain ⟨h1, rfl⟩ := List.getElem?_eq_some_iff.1 hx
  obtain ⟨h2, rfl⟩ := List.getElem?_eq_some_iff.1 hy
  rw [List.drop_eq_getElem_cons h1, List.drop_eq_getElem_cons h2]
  rfl

theorem cmpB_end (l m : List UInt8) (k : Nat) (h : l.length ≤ k) : cmpB (l.drop k) (m.drop k) = 0 := by
  rw [List.drop_eq_nil_of_le h]
  simp [cmpB]

theorem dq0 (w : World) (n m : Nat) : (w.drewN n).drewN m = w.drewN (n + m) := by
  unfold World.drewN; simp [Nat.add_assoc]

theorem below_drewN' {B : Nat} {w w' : World} (h : Below B w w') (n : Nat) : Below B w (w'.drewN n) := ⟨h.os, h.tape, h.output, h.size, h.block⟩

set_option maxHeartbeats 1000000 in
theorem cmpS_any (x y : ByteArray) (hx : x.size = 40) (hy : y.size = 40) (w : World) :
    Calls Try.prog 15 #[.string x, .string y] w fun e w' => e = .returned (.int .i64 (cmpB x.data.toList y.data.toList)) ∧ ∃ n, w' = w.drewN n := by
  go_enter Try.func15, Try.ntmps15
  go_wp2
  go_loopw [6] (fun vi wr => ∃ k n : Nat, k ≤ 40 ∧ vi = .int .i64 k ∧ wr = w.drewN n ∧ Hid (cmpB x.data.toList y.data.toList = cmpB (x.data.toList.drop k) (y.data.toList.drop k))) (fun vi _ => 40 - (RowKit.intOf vi).toNat)
  case atStart => exact ⟨0, 0, Nat.zero_le _, rfl, rfl, rfl⟩
  case round =>
    obtain ⟨k, n, hk, rfl, rfl, HC⟩ := hrel
    by_cases hlt : k < 40
    · have hkx : k < x.size := by omega
      have hky : k < y.size := by omega
      have hs := cmpB_step x.data.toList y.data.toList k x[k] y[k] (by simp [hkx]; rfl) (by simp [hky]; rfl)
      have HS : Hid (cmpB (x.data.toList.drop k) (y.data.toList.drop k) = if x[k].toNat < y[k].toNat then -1 else if y[k].toNat < x[k].toNat then 1 else cmpB (x.data.toList.drop (k + 1)) (y.data.toList.drop (k + 1))) := hs
      clear hs
      by_cases h1 : x[k].toNat < y[k].toNat
      · go_wp2
        go_quiet (fail)
        go_wp2
        go_ret
        exact ⟨by rw [HC.out, HS.out, if_pos h1]; rfl, _, dq0 _ _ _⟩
      · by_cases h2 : y[k].toNat < x[k].toNat
        · go_wp2
          go_quiet (fail)
          go_wp2
          go_quiet (fail)
          go_wp2
          go_ret
          exact ⟨by rw [HC.out, HS.out, if_neg h1, if_pos h2]; rfl, _, by rw [dq0, dq0]⟩
        · go_wp2
          go_quiet (fail)
          go_wp2
          go_quiet (fail)
          go_wp2
          go_roundw
          case rel => exact ⟨k + 1, _, by omega, by go_num, rfl, by show _ = _; rw [HC.out, HS.out, if_neg h1, if_neg h2]⟩
          case measure => simp [RowKit.intOf]; omega
    · have hz := cmpB_end x.data.toList y.data.toList k (by simp; omega)
      have HZ : Hid (cmpB x.data.toList y.data.toList = 0) := by show _ = _; rw [HC.out, hz]
      clear hz
      go_wp2
      go_ret
      exact ⟨by rw [HZ.out]; rfl, _, rfl⟩

set_option maxHeartbeats 1000000 in
theorem cmpI_any (l m : List UInt8) (hl : l.length = 20) (hm : m.length = 20) (w : World) :
    Calls Try.prog 16 #[.agg (cells l), .agg (cells m)] w fun e w' => e = .returned (.int .i64 (cmpB l m)) ∧ Below w.heap.size w w' := by
  have hb0 : Below w.heap.size w ((w.alloc (.cells (cells l) 30)).alloc (.cells (cells m) 30)) := ((Below.refl _ _).alloc (Nat.le_refl _) _).alloc (by simp) _
  have hc0 : ∀ i, ((w.alloc (.cells (cells l) 30)).alloc (.cells (cells m) 30)).cell? ⟨w.heap.size, i, none⟩ = (cells l)[i]? := fun i => by
    rw [World.cell?_alloc_lt _ _ _ (by simp)]; simp
  have hc1 : ∀ i, ((w.alloc (.cells (cells l) 30)).alloc (.cells (cells m) 30)).cell? ⟨w.heap.size + 1, i, none⟩ = (cells m)[i]? := fun i => by
    have h := World.cell?_alloc_new (w.alloc (.cells (cells l) 30)) (cells m) 30 i
    rw [World.size_alloc] at h
    exact h
  generalize hW : (w.alloc (.cells (cells l) 30)).alloc (.cells (cells m) 30) = W at *
  have HB : Hid (Below w.heap.size w W) := hb0
  have H0 : Hid (∀ i, W.cell? ⟨w.heap.size, i, none⟩ = (cells l)[i]?) := hc0
  have H1 : Hid (∀ i, W.cell? ⟨w.heap.size + 1, i, none⟩ = (cells m)[i]?) := hc1
  clear hb0 hc0 hc1
  go_enter Try.func16, Try.ntmps16
  go_wp2
  clear hW
  go_loopw [5] (fun vi wr => ∃ k n : Nat, k ≤ 20 ∧ vi = .int .i64 k ∧ wr = W.drewN n ∧ Hid (cmpB l m = cmpB (l.drop k) (m.drop k))) (fun vi _ => 20 - (RowKit.intOf vi).toNat)
  case atStart => exact ⟨0, 0, Nat.zero_le _, rfl, rfl, rfl⟩
  case round =>
    obtain ⟨k, n, hk, rfl, rfl, HC⟩ := hrel
    by_cases hlt : k < 20
    · obtain ⟨x, hx⟩ : ∃ x : UInt8, l[k]? = some x := ⟨l[k], by simp⟩
      obtain ⟨y, hy⟩ : ∃ y : UInt8, m[k]? = some y := ⟨m[k], by simp⟩
      have hcx : W.cell? ⟨w.heap.size, k, none⟩ = some (.int .u8 (x.toNat : Int)) := by rw [H0.out k]; simp [cells, hx]
      have hcy : W.cell? ⟨w.heap.size + 1, k, none⟩ = some (.int .u8 (y.toNat : Int)) := by rw [H1.out k]; simp [cells, hy]
      have HS : Hid (cmpB (l.drop k) (m.drop k) = if x.toNat < y.toNat then -1 else if y.toNat < x.toNat then 1 else cmpB (l.drop (k + 1)) (m.drop (k + 1))) := cmpB_step l m k x y hx hy
      clear hx hy
      by_cases h1 : x.toNat < y.toNat
      · go_wp2
        go_quiet (fail)
        go_wp2
        go_ret
        exact ⟨by rw [HC.out, HS.out, if_pos h1]; rfl, by rw [dq0]; exact below_drewN' HB.out _⟩
      · by_cases h2 : y.toNat < x.toNat
        · go_wp2
          go_quiet (fail)
          go_wp2
          go_quiet (fail)
          go_wp2
          go_ret
          exact ⟨by rw [HC.out, HS.out, if_neg h1, if_pos h2]; rfl, below_drewN' (below_drewN' (below_drewN' HB.out _) _) _⟩
        · go_wp2
          go_quiet (fail)
          go_wp2
          go_quiet (fail)
          go_wp2
          go_roundw
          case rel => exact ⟨k + 1, _, by omega, by go_num, rfl, by show _ = _; rw [HC.out, HS.out, if_neg h1, if_neg h2]⟩
          case measure => simp [RowKit.intOf]; omega
    · have hz := cmpB_end l m k (by omega)
      have HZ : Hid (cmpB l m = 0) := by show _ = _; rw [HC.out, hz]
      clear hz
      go_wp2
      go_ret
      exact ⟨by rw [HZ.out]; rfl, below_drewN' HB.out _⟩
end Go.Proofs.Qxb6613783a
