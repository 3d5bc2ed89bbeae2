/- The methods of *setOrder. -/
import Derived.Test.Qxb6613821aDoorSortI
namespace Go.Proofs.Qxb6613821aDoor
set_option linter.unusedVariables false
set_option linter.unusedSimpArgs false
open Ieee Go.RowKit Go.Sort Go.Lib

/-- The order of the keys: each key is known by its set's index. -/
def klt (bt sz : Nat → Nat) (wd q r : Nat) : Bool :=
  if sz q = sz r then
    if bt (q * wd) = bt (r * wd) then
      if compareF bt sz wd q r = 0 then decide (q < r) else decide (compareF bt sz wd q r < 0)
    else decide (bt (q * wd) < bt (r * wd))
  else decide (sz q < sz r)

def kc (bt sz : Nat → Nat) (wd : Nat) (d : Array Nat) (i : Nat) : Value :=
  if i % 3 = 0 then .int .i64 (sz d[i / 3]! : Int) else if i % 3 = 1 then .int .u64 (bt (d[i / 3]! * wd) : Int) else .int .i64 (d[i / 3]! : Int)

/-- The keys in memory. -/
structure KeysAt (W0 : World) (wb kb bb sb n wd M : Nat) (bt sz : Nat → Nat) (d : Array Nat) (W : World) : Prop where
  size : d.size = n
  lt : ∀ i, i < n → d[i]! < n
  f0 : W.cell? ⟨wb, 1, none⟩ = some (.int .i64 (wd : Int))
  f1 : W.cell? ⟨wb, 2, none⟩ = some (.slice (some ⟨bb, 0, none⟩) M M)
  f2 : W.cell? ⟨wb, 3, none⟩ = some (.slice (some ⟨sb, 0, none⟩) n n)
  f3 : W.cell? ⟨wb, 4, none⟩ = some (.slice (some ⟨kb, 0, none⟩) n n)
  fam : FamAt W bb sb n M bt sz
  row : W.rowIs kb 107 (3 * n) (kc bt sz wd d)
  old : W0.grownBy W (some kb)

theorem len_any {W0 : World} {wb kb bb sb n wd M : Nat} {bt sz : Nat → Nat} (d : Array Nat) (W : World) (h : KeysAt W0 wb kb bb sb n wd M bt sz d W) :
    Calls Tryd.prog 115 #[.pointer (some ⟨wb, 1, none⟩)] W fun e w' => e = .returned (.int .i64 (n : Int)) ∧ Go.RowKit.Below W.heap.size W w' := by
  have h3 := h.f3
  clear h
  go_enter Tryd.func115, Tryd.ntmps115
  go_wp2
  go_ret
  exact ⟨rfl, Below.refl _ _⟩

set_option maxHeartbeats 4000000 in
theorem less_any {W0 : World} {wb kb bb sb n wd M : Nat} {bt sz : Nat → Nat} (hM : M = n * wd) (hn : n ≤ 256) (hw0 : 0 < wd) (hw : wd ≤ 5) (d : Array Nat) (W : World) (h : KeysAt W0 wb kb bb sb n wd M bt sz d W) (i j : Nat) (hi : i < n) (hj : j < n) :
    Calls Tryd.prog 116 #[.pointer (some ⟨wb, 1, none⟩), .int .i64 (i : Int), .int .i64 (j : Int)] W fun e w' => e = .returned (.bool (klt bt sz wd d[i]! d[j]!)) ∧ Go.RowKit.Below W.heap.size W w' := by
  have h0 := h.f0
  have h1 := h.f1
  have h2 := h.f2
  have h3 := h.f3
  have hq := h.lt i hi
  have hr := h.lt j hj
  have hlt : kb < W.heap.size := h.row.lt
  have ki0 : W.cell? ⟨kb, i * 3, none⟩ = some (.int .i64 (sz d[i]! : Int)) := by rw [h.row.cell (by omega)]; simp [kc]
  have kj0 : W.cell? ⟨kb, j * 3, none⟩ = some (.int .i64 (sz d[j]! : Int)) := by rw [h.row.cell (by omega)]; simp [kc]
  have ki1 : W.cell? ⟨kb, i * 3 + 1, none⟩ = some (.int .u64 (bt (d[i]! * wd) : Int)) := by rw [h.row.cell (by omega)]; simp [kc, Nat.add_mod, show (i * 3 + 1) / 3 = i from by omega]
  have kj1 : W.cell? ⟨kb, j * 3 + 1, none⟩ = some (.int .u64 (bt (d[j]! * wd) : Int)) := by rw [h.row.cell (by omega)]; simp [kc, Nat.add_mod, show (j * 3 + 1) / 3 = j from by omega]
  have ki2 : W.cell? ⟨kb, i * 3 + 2, none⟩ = some (.int .i64 (d[i]! : Int)) := by rw [h.row.cell (by omega)]; simp [kc, Nat.add_mod, show (i * 3 + 2) / 3 = i from by omega]
  have kj2 : W.cell? ⟨kb, j * 3 + 2, none⟩ = some (.int .i64 (d[j]! : Int)) := by rw [h.row.cell (by omega)]; simp [kc, Nat.add_mod, show (j * 3 + 2) / 3 = j from by omega]
  have HC : Hid (∀ W', Go.RowKit.Below W.heap.size W W' → Calls Tryd.prog 38 #[.agg (Qxb6613821aDoor.fam bb sb n wd M), .int .i64 (d[i]! : Int), .int .i64 (d[j]! : Int)] W' fun e w' => e = .returned (.int .i64 (compareF bt sz wd d[i]! d[j]!)) ∧ Go.RowKit.Below W'.heap.size W' w') :=
    fun W' hb => compare_any bb sb n wd M d[i]! d[j]! bt sz hM hq hr hn hw0 hw W' (h.fam.keep (Nat.le_refl _) hb)
  clear h hM
  have HK : Hid (klt bt sz wd d[i]! d[j]! = if sz d[i]! = sz d[j]! then if bt (d[i]! * wd) = bt (d[j]! * wd) then if compareF bt sz wd d[i]! d[j]! = 0 then decide (d[i]! < d[j]!) else decide (compareF bt sz wd d[i]! d[j]! < 0) else decide (bt (d[i]! * wd) < bt (d[j]! * wd)) else decide (sz d[i]! < sz d[j]!)) := rfl
  generalize compareF bt sz wd d[i]! d[j]! = cv at *
  generalize klt bt sz wd d[i]! d[j]! = res at *
  generalize d[i]! = q at *
  generalize d[j]! = r at *
  generalize sz q = sa at *
  generalize sz r = sb' at *
  generalize bt (q * wd) = fa at *
  generalize bt (r * wd) = fb at *
  by_cases e1 : sa = sb'
  · by_cases e2 : fa = fb
    · have hne1 : ((sa : Int) != (sb' : Int)) = false := by simp [e1]
      have hne2 : ((fa : Int) != (fb : Int)) = false := by simp [e2]
      have HR : Hid (res = if cv = 0 then decide (q < r) else decide (cv < 0)) := by show _ = _; rw [HK.out, if_pos e1, if_pos e2]
      clear e1 e2
      go_enter Tryd.func116, Tryd.ntmps116
      go_wp2
      go_quiet (fail)
      rename Nat => k1
      go_wp2
      go_quiet (fail)
      rename Nat => k2
      go_wp2
      go_quiet (fail)
      rename Nat => k3
      go_wp2_with fail
      have hB6 : ∀ a b c : Nat, Go.RowKit.Below W.heap.size W (((W.drewN a).drewN b).drewN c) := fun a b c => (((Below.refl _ _).drewN' _).drewN' _).drewN' _
      have g0 : (((W.drewN k1).drewN k2).drewN k3).cell? ⟨wb, 1, none⟩ = some (.int .i64 (wd : Int)) := h0
      have g1 : (((W.drewN k1).drewN k2).drewN k3).cell? ⟨wb, 2, none⟩ = some (.slice (some ⟨bb, 0, none⟩) M M) := h1
      have g2 : (((W.drewN k1).drewN k2).drewN k3).cell? ⟨wb, 3, none⟩ = some (.slice (some ⟨sb, 0, none⟩) n n) := h2
      have g5 : (((W.drewN k1).drewN k2).drewN k3).cell? ⟨kb, i * 3 + 2, none⟩ = some (.int .i64 (q : Int)) := ki2
      have g6 : (((W.drewN k1).drewN k2).drewN k3).cell? ⟨kb, j * 3 + 2, none⟩ = some (.int .i64 (r : Int)) := kj2
      have hB7 := hB6 k1 k2 k3
      clear hB6
      generalize ((W.drewN k1).drewN k2).drewN k3 = W6 at *
      have HB6 : Hid (Go.RowKit.Below W.heap.size W W6) := hB7
      have HC6 : Hid (∀ W', Go.RowKit.Below W6.heap.size W6 W' → Calls Tryd.prog 38 #[.agg (Qxb6613821aDoor.fam bb sb n wd M), .int .i64 (q : Int), .int .i64 (r : Int)] W' fun e w' => e = .returned (.int .i64 cv) ∧ Go.RowKit.Below W'.heap.size W' w') := fun W' hb => HC.out W' (hB7.trans (hb.mono hB7.size))
      clear hB7 h0 h1 h2 h3 ki0 ki1 kj0 kj1 HC
      go_cut [9] from 60 to 72 (fun v9 wx => v9 = .int .i64 cv ∧ Hid (Go.RowKit.Below W.heap.size W wx))
      case first =>
        go_region_with (go_at_call 38; refine (HC6.out _ ((Below.refl _ _).drew)).mono ?_; rintro e w' ⟨rfl, hb⟩)
        all_goals
          go_wp2_with fail
          go_meet
          exact ⟨rfl, HB6.out.drew.trans (hb.mono HB6.out.size)⟩
      case rest =>
        obtain ⟨rfl, HB⟩ := hcut
        have c5 := (HB.out.cell (p := ⟨kb, i * 3 + 2, none⟩) hlt).trans ki2
        have c6 := (HB.out.cell (p := ⟨kb, j * 3 + 2, none⟩) hlt).trans kj2
        by_cases e3 : cv = 0
        · have hne3 : (cv != 0) = false := by simp [e3]
          have HR3 : Hid (res = decide (q < r)) := by show _ = _; rw [HR.out, if_pos e3]
          clear e3
          go_wp2
          go_quiet (fail)
          go_wp2
          go_ret
          refine ⟨?_, HB.out.drewN' _⟩
          rw [HR3.out]; simp
        · have hne3 : (cv != 0) = true := by simpa using e3
          have HR3 : Hid (res = decide (cv < 0)) := by show _ = _; rw [HR.out, if_neg e3]
          clear e3
          go_wp2
          go_ret
          refine ⟨?_, HB.out⟩
          rw [HR3.out]; rfl
    · have hne1 : ((sa : Int) != (sb' : Int)) = false := by simp [e1]
      have hne2 : ((fa : Int) != (fb : Int)) = true := by simp; omega
      have HR : Hid (res = decide (fa < fb)) := by show _ = _; rw [HK.out, if_pos e1, if_neg e2]
      clear e1 e2
      go_enter Tryd.func116, Tryd.ntmps116
      go_wp2
      go_quiet (fail)
      go_wp2
      go_quiet (fail)
      go_wp2
      go_quiet (fail)
      go_wp2
      go_quiet (fail)
      go_wp2
      go_ret
      refine ⟨?_, ?_⟩
      · rw [HR.out]; simp
      · exact ((((Below.refl _ _).drewN' _).drewN' _).drewN' _).drewN' _
  · have hne1 : ((sa : Int) != (sb' : Int)) = true := by simp; omega
    have HR : Hid (res = decide (sa < sb')) := by show _ = _; rw [HK.out, if_neg e1]
    clear e1
    go_enter Tryd.func116, Tryd.ntmps116
    go_wp2
    go_quiet (fail)
    go_wp2
    go_quiet (fail)
    go_wp2
    go_quiet (fail)
    go_wp2
    go_ret
    refine ⟨?_, ?_⟩
    · rw [HR.out]; simp
    · exact (((Below.refl _ _).drewN' _).drewN' _).drewN' _
end Go.Proofs.Qxb6613821aDoor
