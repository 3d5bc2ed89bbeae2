/- Words of sets: the number of bits of a word, its lowest bit, the members of a set. -/
import Derived.Test.Qxb6613821aDoorSets
import Derived.Test.Qxb6613821aDoorBits
import Derived.Shelf.Spec.TrailingZeros
namespace Go.Proofs.Qxb6613821aDoor
set_option linter.unusedVariables false
set_option linter.unusedSimpArgs false
open Ieee Go.RowKit

/-- What OnesCount64 computes, as its text has it. -/
def on1 (x : Int) : Int := IntKind.u64.wrap (bits .and .u64 (x / 2) 6148914691236517205 + bits .and .u64 x 6148914691236517205)
def on2 (x : Int) : Int := IntKind.u64.wrap (bits .and .u64 (x / 4) 3689348814741910323 + bits .and .u64 x 3689348814741910323)
def on3 (x : Int) : Int := bits .and .u64 (IntKind.u64.wrap (x / 16 + x)) 1085102592571150095
def on4 (x : Int) : Int := IntKind.u64.wrap (x + x / 256)
def on5 (x : Int) : Int := IntKind.u64.wrap (x + x / 65536)
def on6 (x : Int) : Int := IntKind.u64.wrap (x + x / 4294967296)
def onesI (x : Int) : Int := bits .and .i64 (wrap64 (on6 (on5 (on4 (on3 (on2 (on1 x))))))) 127
def ones (x : Nat) : Nat := (onesI x).toNat
theorem onesI_le (x : Int) : 0 ≤ onesI x ∧ onesI x ≤ 127 := by
  unfold onesI
  generalize wrap64 _ = v
  have h : (BitVec.ofInt 64 v &&& BitVec.ofInt 64 127).toNat ≤ 127 := by
    rw [BitVec.toNat_and]
    exact Nat.le_trans Nat.and_le_right (by decide)
  have e : bits .and .i64 v 127 = IntKind.i64.wrap ((BitVec.ofInt 64 v &&& BitVec.ofInt 64 127).toNat : Int) := rfl
  rw [e]
  generalize (BitVec.ofInt 64 v &&& BitVec.ofInt 64 127).toNat = m at h
  simp only [IntKind.wrap, IntKind.bits, IntKind.signed]
  simp
  omega
theorem onesI_eq (x : Nat) : onesI x = (ones x : Int) := (Int.toNat_of_nonneg (onesI_le x).1).symm
theorem ones_le (x : Nat) : ones x ≤ 127 := by have := (onesI_le x).2; unfold ones; omega
theorem ones_core (x A1 A2 A3 A4 A5 A6 : Int) (w : World) (k1 : IntKind.u64.wrap (bits .and .u64 (x / 2) 6148914691236517205 + bits .and .u64 x 6148914691236517205) = A1)
    (k2 : IntKind.u64.wrap (bits .and .u64 (A1 / 4) 3689348814741910323 + bits .and .u64 A1 3689348814741910323) = A2) (k3 : bits .and .u64 (IntKind.u64.wrap (A2 / 16 + A2)) 1085102592571150095 = A3)
    (k4 : IntKind.u64.wrap (A3 + A3 / 256) = A4) (k5 : IntKind.u64.wrap (A4 + A4 / 65536) = A5) (k6 : IntKind.u64.wrap (A5 + A5 / 4294967296) = A6) :
    Calls Tryd.prog 62 #[.int .u64 x] w fun e w' => e = .returned (.int .i64 (bits .and .i64 (wrap64 A6) 127)) ∧ w' = w := by
  go_enter Tryd.func62, Tryd.ntmps62
  go_wp2

  go_ret
  exact ⟨rfl, rfl⟩
theorem ones_any (x : Nat) (w : World) :
    Calls Tryd.prog 62 #[.int .u64 (x : Int)] w fun e w' => e = .returned (.int .i64 (ones x)) ∧ w' = w := by
  rw [← onesI_eq]
  exact ones_core _ _ _ _ _ _ _ w rfl rfl rfl rfl rfl rfl

theorem inSet_any (b o wd c x y : Nat) (hx : x / 64 < wd) (hxs : x ≤ 65536) (hy : y < 2 ^ 64) (w : World) (hc : w.cell? ⟨b, o + x / 64, none⟩ = some (.int .u64 (y : Int))) :
    Calls Tryd.prog 77 #[.slice (some ⟨b, o, none⟩) wd c, .int .i64 (x : Int)] w fun e w' => e = .returned (.bool (y.testBit (x % 64))) ∧ ∃ n, w' = w.drewN n := by
  have HB : Hid (_) := and_bit hy (Nat.mod_lt x (by omega : 0 < 64))
  clear hy
  go_enter Tryd.func77, Tryd.ntmps77
  go_wp2
  go_quiet (fail)
  go_wp2
  go_ret
  exact ⟨by rw [← HB.out]; rfl, _, rfl⟩

theorem tz_core (x k idx : Nat) (w : World) (hx0 : ((x : Int) == 0) = false)
    (key : IntKind.u64.wrap (bits BinOp.and IntKind.u64 (x : Int) (IntKind.u64.wrap (-(x : Int))) * 285870213051353865) / 288230376151711744 = (idx : Int))
    (hi : idx < 64) (hk : k < 64) (hcell : w.cell? ⟨1, idx, none⟩ = some (.int .u8 k)) :
    Calls Tryd.prog 78 #[.int .u64 x] w fun e w' => e = .returned (.int .i64 k) ∧ w' = w := by
  go_enter Tryd.func78, Tryd.ntmps78
  go_wp2_with (simp only [key])
  go_ret
  exact ⟨rfl, rfl⟩
theorem tz_any (x : Nat) (hx0 : x ≠ 0) (hx : x < 2 ^ 64) (w : World) (hT : TabAt 1 Lib.deBruijn64tab w) :
    Calls Tryd.prog 78 #[.int .u64 x] w fun e w' => e = .returned (.int .i64 (Lib.ctz 64 x)) ∧ w' = w := by
  obtain ⟨hlow, hk⟩ := Lib.lowest_bit 64 x hx0 hx
  obtain ⟨hi, htab⟩ := Lib.deBruijn64_at _ hk
  have hcell := hT _ hi
  rw [htab] at hcell
  exact tz_core x _ _ w (by simp; omega) (tz64_key x _ hx hx0 hlow) hi hk hcell
end Go.Proofs.Qxb6613821aDoor
