/- The members of a set, appended to a list of the program's own. -/
import Derived.Test.Qxb6613821aDoorWords
namespace Go.Proofs.Qxb6613821aDoor
set_option linter.unusedVariables false
set_option linter.unusedSimpArgs false
open Ieee Go.RowKit

/-- Is v a member of the set whose words begin at p? -/
def mem (bt : Nat → Nat) (p v : Nat) : Bool := (bt (p + v / 64)).testBit (v % 64)
def mlist (bt : Nat → Nat) (p u : Nat) : List Nat := (List.range u).filter (mem bt p)
theorem mlist_succ (bt : Nat → Nat) (p u : Nat) : mlist bt p (u + 1) = mlist bt p u ++ (if mem bt p u then [u] else []) := by
  unfold mlist
  rw [List.range_succ, List.filter_append]
  cases h : mem bt p u <;> simp [h]
theorem mlist_skip (bt : Nat → Nat) (p u : Nat) : ∀ d, (∀ i, u ≤ i → i < u + d → mem bt p i = false) → mlist bt p (u + d) = mlist bt p u
  | 0, _ => rfl
  | d + 1, h => by
    rw [← Nat.add_assoc, mlist_succ, mlist_skip bt p u d (fun i h1 h2 => h i h1 (by omega)), h (u + d) (by omega) (by omega)]
    simp
theorem mlist_len (bt : Nat → Nat) (p u : Nat) : (mlist bt p u).length ≤ u := by
  unfold mlist
  exact Nat.le_trans (List.length_filter_le _ _) (by simp)
theorem mem_at (bt : Nat → Nat) (p k i : Nat) (hi : i < 64) : mem bt p (64 * k + i) = (bt (p + k)).testBit i := by
  unfold mem
  rw [show (64 * k + i) / 64 = k from by omega, show (64 * k + i) % 64 = i from by omega]

/-- The block that a list owns: where it lay, or one made since. -/
structure Moved (w w' : World) (r r' : Option Nat) : Prop where
  grown : w.grownBy w' r
  here : r' = r ∨ ∃ k, r' = some k ∧ w.heap.size ≤ k
theorem grown_refl (w : World) (r : Option Nat) : w.grownBy w r := ⟨rfl, rfl, rfl, Nat.le_refl _, fun _ _ _ => rfl⟩
theorem Moved.refl (w : World) (r : Option Nat) : Moved w w r r := ⟨grown_refl w r, Or.inl rfl⟩
theorem Moved.grow {w w1 w2 : World} {r r1 : Option Nat} (h : Moved w w1 r r1) (hg : w1.grownBy w2 r1) : w.grownBy w2 r :=
  ⟨hg.os.trans h.grown.os, hg.tape.trans h.grown.tape, hg.output.trans h.grown.output, Nat.le_trans h.grown.size hg.size, fun k hk hr => by
    refine (hg.block k (Nat.lt_of_lt_of_le hk h.grown.size) ?_).trans (h.grown.block k hk hr)
    rcases h.here with e | ⟨j, e, hj⟩
    · rw [e]; exact hr
    · rw [e]; intro x; cases x; omega⟩
theorem Moved.trans {w w1 w2 : World} {r r1 r2 : Option Nat} (h : Moved w w1 r r1) (k : Moved w1 w2 r1 r2) : Moved w w2 r r2 :=
  ⟨h.grow k.grown, by
    rcases k.here with e | ⟨j, e, hj⟩
    · rw [e]; exact h.here
    · exact Or.inr ⟨j, e, Nat.le_trans h.grown.size hj⟩⟩
theorem grown_alloc (w : World) (o : Obj) (r : Option Nat) : w.grownBy (w.alloc o) r := ⟨rfl, rfl, rfl, by simp, fun k hk _ => Below.heap_alloc w o k hk⟩
theorem grown_below {w w' : World} (h : Below w.heap.size w w') (r : Option Nat) : w.grownBy w' r := ⟨h.os, h.tape, h.output, h.size, fun k hk _ => h.block k hk⟩
theorem grown_drew {w w' : World} {r : Option Nat} (h : w.grownBy w' r) (n : Nat) : w.grownBy (w'.drewN n) r := ⟨h.os, h.tape, h.output, h.size, h.block⟩
theorem FamAt.grown {w w' : World} {bb sb m M : Nat} {bt sz : Nat → Nat} {r : Option Nat} (h : FamAt w bb sb m M bt sz) (hg : w.grownBy w' r) (h1 : some bb ≠ r) (h2 : some sb ≠ r) : FamAt w' bb sb m M bt sz :=
  ⟨fun i hi => hg.cell (h.bit i hi) h1, fun i hi => hg.cell (h.siz i hi) h2⟩
theorem tab_grown {w w' : World} {r : Option Nat} (h : TabAt 1 Lib.deBruijn64tab w) (hg : w.grownBy w' r) (h1 : some 1 ≠ r) : TabAt 1 Lib.deBruijn64tab w' := fun j hj => hg.cell (h j hj) h1

set_option maxHeartbeats 4000000 in
theorem members_any (bb sb m wd M q base : Nat) (bt sz : Nat → Nat) (hM : M = m * wd) (hq : q < m) (hm : m ≤ 256) (hw0 : 0 < wd) (hw : wd ≤ 5) (w : World) (hF : FamAt w bb sb m M bt sz) (hbt : ∀ i, bt i < 2 ^ 64)
    (hT : TabAt 1 Lib.deBruijn64tab w) (v : Value) (hown : w.ownsRow base 3 1 v 0 []) (hbase : base ≤ w.heap.size) (hb1 : 1 < base) (hbb : bb < base) (hsb : sb < base) :
    Calls Tryd.prog 67 #[.agg (fam bb sb m wd M), v, .int .i64 (q : Int)] w fun e w' => ∃ v', e = .returned v' ∧ w'.ownsRow base 3 1 v' (mlist bt (q * wd) (64 * wd)).length (ints (mlist bt (q * wd) (64 * wd))) ∧ Moved w w' v.ownBlock v'.ownBlock := by
  obtain ⟨p, hp⟩ : ∃ p, p = q * wd := ⟨_, rfl⟩
  have h1 : p + wd ≤ M := by rw [hp, hM, ← Nat.succ_mul]; exact Nat.mul_le_mul_right _ hq
  have CA : Hid (∀ w, _) := fun w => set_any bb sb m wd M q p hM hp hq hm hw0 hw w
  have HF : Hid (FamAt w bb sb m M bt sz) := hF
  have HT : Hid (TabAt 1 Lib.deBruijn64tab w) := hT
  have HO : Hid (w.ownsRow base 3 1 v 0 []) := hown
  have HBT : Hid (∀ i, bt i < 2 ^ 64) := hbt
  rw [← hp]
  have hne : ∀ k, k < base → some k ≠ v.ownBlock := fun k hk e => absurd (hown.lt k e.symm).1 (by omega)
  have HNE : Hid (∀ k, k < base → some k ≠ v.ownBlock) := hne
  clear hF hT hown hbt hp hM hne
  simp only [fam]
  go_enter Tryd.func67, Tryd.ntmps67
  go_wp2_with fail
  refine (CA.out _).mono ?_
  rintro e w1 ⟨rfl, hb⟩
  have HB1 : Hid (Below w.heap.size w w1) := ((Below.refl w.heap.size w).alloc (Nat.le_refl _) _).trans (hb.mono (by simp))
  clear hb
  go_wp2
  go_loopw [13, 1] (fun vk vl wr => ∃ (k : Nat), k ≤ wd ∧ vk = .int .i64 k ∧ Hid (wr.ownsRow base 3 1 vl (mlist bt p (64 * k)).length (ints (mlist bt p (64 * k)))) ∧ Hid (Moved w wr v.ownBlock vl.ownBlock)) (fun vk _ _ => wd - (intOf vk).toNat)
  case atStart => exact ⟨0, Nat.zero_le _, rfl, HO.out.kept (grown_below HB1.out none) (by cases v.ownBlock <;> simp), ⟨grown_below HB1.out _, Or.inl rfl⟩⟩
  case round =>
    clear HB1
    obtain ⟨k, hk, rfl, HL, HMv⟩ := hrel
    by_cases hlt : k < wd
    · have hx := (HF.out.grown HMv.out.grown (HNE.out bb hbb) (HNE.out sb hsb)).bit (p + k) (by omega)
      go_wp2
      clear hx
      go_loopw [8, 1] (fun vx vl wr => ∃ (x t : Nat) (l : List Nat), vx = .int .u64 x ∧ x < 2 ^ 64 ∧ t ≤ 64 ∧ Hid (∀ i, x.testBit i = ((bt (p + k)).testBit i && decide (t ≤ i))) ∧ Hid (l = mlist bt p (64 * k + t)) ∧ Hid (wr.ownsRow base 3 1 vl l.length (ints l)) ∧ Hid (Moved w wr v.ownBlock vl.ownBlock)) (fun vx _ _ => (intOf vx).toNat)
      case atStart => exact ⟨bt (p + k), 0, _, rfl, HBT.out _, by omega, fun i => by simp, rfl, HL, HMv⟩
      case round =>
        clear HL HMv
        obtain ⟨x, t, l, rfl, hx64, ht, HX, HLL, HL, HMv⟩ := hrel
        by_cases hx0 : x = 0
        · subst hx0
          have HE : Hid (mlist bt p (64 * (k + 1)) = l) := by
            show _ = _
            rw [HLL.out, show 64 * (k + 1) = 64 * k + t + (64 - t) from by omega]
            apply mlist_skip
            intro i h1 h2
            have h3 := HX.out (i - 64 * k)
            rw [show i = 64 * k + (i - 64 * k) from by omega, mem_at _ _ _ _ (by omega)]
            have h4 : t ≤ i - 64 * k := by omega
            simpa [h4] using h3.symm
          go_wp2
          go_roundw
          case rel => exact ⟨k + 1, by omega, by go_num, by show World.ownsRow _ _ _ _ _ _ _; rw [HE.out]; exact HL.out, HMv⟩
          case measure => simp [intOf]; omega
        · have hx1 : ((x : Int) != 0) = true := by simp; omega
          obtain ⟨u, hu⟩ : ∃ u, u = Lib.ctz 64 x := ⟨_, rfl⟩
          obtain ⟨hu64, hbit, hlow, hnext⟩ := low_bit hx0 hx64
          rw [← hu] at hu64 hbit hlow hnext
          have hut : t ≤ u := by
            have h3 := HX.out u
            rw [hbit] at h3
            simp at h3; exact h3.2
          have hlen : l.length ≤ 320 := by rw [HLL.out]; exact Nat.le_trans (mlist_len _ _ _) (by omega)
          have HE : Hid (l ++ [64 * k + u] = mlist bt p (64 * k + (u + 1))) := by
            show _ = _
            rw [← Nat.add_assoc, mlist_succ, show 64 * k + u = 64 * k + t + (u - t) from by omega, mlist_skip, ← HLL.out, show 64 * k + t + (u - t) = 64 * k + u from by omega, mem_at _ _ _ _ hu64]
            · have h3 := HX.out u
              rw [hbit] at h3
              simp at h3
              rw [h3.1]; rfl
            · intro i h1 h2
              have h3 := HX.out (i - 64 * k)
              rw [show i = 64 * k + (i - 64 * k) from by omega, mem_at _ _ _ _ (by omega)]
              have h4 : t ≤ i - 64 * k := by omega
              rw [hlow _ (by omega)] at h3
              simpa [h4] using h3.symm
          have HX2 : Hid (∀ i, (x &&& (x - 1)).testBit i = ((bt (p + k)).testBit i && decide (u + 1 ≤ i))) := by
            intro i
            rw [hnext i, HX.out i]
            by_cases h5 : i < u
            · have h6 := HX.out i
              rw [hlow i h5] at h6
              rw [← h6]; simp; omega
            · by_cases h7 : i = u
              · subst h7; simp
              · have h8 : (i != u) = true := by simp; omega
                have h9 : t ≤ i := by omega
                have h10 : u + 1 ≤ i := by omega
                simp [h8, h9, h10]
          have hnx : x &&& (x - 1) < x := and_pred_lt hx0
          have hw1 : IntKind.u64.wrap ((x : Int) - 1) = ((x - 1 : Nat) : Int) := by
            rw [show (x : Int) - 1 = ((x - 1 : Nat) : Int) from by omega, wrapU _ (by omega)]
          have hand : bits .and .u64 (x : Int) ((x - 1 : Nat) : Int) = ((x &&& (x - 1) : Nat) : Int) := bits_and hx64 (by omega)
          obtain ⟨y, hy⟩ : ∃ y, y = x &&& (x - 1) := ⟨_, rfl⟩
          obtain ⟨x1, hx1e⟩ : ∃ x1, x1 = x - 1 := ⟨_, rfl⟩
          rw [← hy] at hand hnx HX2
          rw [← hx1e] at hand hw1
          have HTZ : Hid (∀ w, TabAt 1 Lib.deBruijn64tab w → Calls Tryd.prog 78 #[.int .u64 x] w fun e w' => e = .returned (.int .i64 (u : Int)) ∧ w' = w) := fun w hT => by rw [hu]; exact tz_any x hx0 hx64 w hT
          have hT1 := tab_grown HT.out HMv.out.grown (HNE.out 1 hb1)
          have hTC : Hid (Calls Tryd.prog 78 #[.int .u64 x] wr fun e w' => e = .returned (.int .i64 (u : Int)) ∧ w' = wr) := HTZ.out _ hT1
          have hsz := HMv.out.grown.size
          have HXY : Hid (y < 2 ^ 64) := Nat.lt_trans hnx hx64
          clear hx64 hy hx1e hu hbit hlow hnext hT1 hx0
          have hval : (k : Int) * 64 + (u : Int) = ((64 * k + u : Nat) : Int) := by simp; omega
          go_wp2_with (first
            | (go_at_call 78; refine hTC.out.mono ?_; rintro e' w' ⟨rfl, hw'⟩; rw [hw']; clear hw')
            | (at_builtin
               refine wpList_append_int rfl _ _ rfl base u1 l rfl (HL.out.alloc _) _ _ (64 * k + u) rfl (by simp [hval]) (by omega) (by simp; omega) ?_
               intro g' c' w2 hown' hg' hw'
               have HO2 : Hid _ := hown'
               have HM2 : Hid (Moved w w2 v.ownBlock (some g')) := HMv.out.trans ⟨(Moved.mk (grown_alloc wr _ u1.ownBlock) (Or.inl rfl)).grow hg', by
                 rcases hw' with e | e
                 · exact Or.inl e
                 · exact Or.inr ⟨g', rfl, by rw [e]; simp⟩⟩
               clear hown' hg' hw'))
          go_roundw
          case rel => exact ⟨y, u + 1, _, rfl, HXY.out, by omega, HX2, HE, HO2, HM2⟩
          case measure => simp [intOf]; omega
    · have HE : Hid (k = wd) := by show _ = _; omega
      go_wp2
      go_ret
      exact ⟨_, rfl, by have h := HL.out; rw [HE.out] at h; exact h, HMv.out⟩
end Go.Proofs.Qxb6613821aDoor
