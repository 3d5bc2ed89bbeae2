import Derived.Test.Qxb6613821aDoorRows
import Derived.Test.Qxb6613821aDoorFloat
import Derived.WalkKit
import Derived.WalkLawsBesides
import Derived.Deep.QuietTactic
import Derived.BigQuiet
import Derived.Deep.RegionWith
import Derived.Deep.Draws
namespace Go.Proofs.Qxb6613821aDoor
set_option linter.unusedVariables false
set_option linter.unusedSimpArgs false
open Ieee Go.RowKit

theorem extBits (b : Nat) (w : World) : (callFunc 59 #[.float .f64 b]).run Tryd.prog w = .ok (.value (.int .u64 b)) w := by
  rw [run_callFunc_extern (e := Extern.MathFloatBits.float64bits) Tryd.func59 (by kernel_rfl) (by kernel_rfl) (by kernel_rfl) (by kernel_rfl)]
  rfl
theorem extFrom (n : Int) (w : World) : (callFunc 58 #[.int .u64 n]).run Tryd.prog w = .ok (.value (.float .f64 n.toNat)) w := by
  rw [run_callFunc_extern (e := Extern.MathFloatBits.float64frombits) Tryd.func58 (by kernel_rfl) (by kernel_rfl) (by kernel_rfl) (by kernel_rfl)]
  rfl

theorem andNot_top (a : Nat) (ha : a < 2 ^ 64) : bits .andNot .u64 (a : Int) (9223372036854775808 : Int) = ((absB a : Nat) : Int) := by
  have h1 : (BitVec.ofInt 64 (a : Int)) = BitVec.ofNat 64 a := by simp
  have h2 : ~~~(BitVec.ofInt 64 (9223372036854775808 : Int)) = BitVec.ofNat 64 (2 ^ 63 - 1) := by decide
  have h3 : (BitVec.ofNat 64 a &&& BitVec.ofNat 64 (2 ^ 63 - 1)).toNat = absB a := by
    rw [BitVec.toNat_and, BitVec.toNat_ofNat, BitVec.toNat_ofNat, Nat.mod_eq_of_lt ha, Nat.mod_eq_of_lt (a := 2 ^ 63 - 1) (by decide), Nat.and_two_pow_sub_one_eq_mod]
    rfl
  show IntKind.u64.wrap ((BitVec.ofInt 64 (a : Int) &&& ~~~(BitVec.ofInt 64 (9223372036854775808 : Int))).toNat : Int) = _
  rw [h1, h2, h3]
  have hb : absB a < 2 ^ 63 := by unfold absB; omega
  simp only [IntKind.wrap, IntKind.bits, IntKind.signed]
  simp
  omega

theorem wpList_andNot {ops : Array Oper} {rest : List Oper} {o : Oper} {a : Act} {w : World} {Q : Exit → Act → World → Prop} (hgd : o.guard = none) (x : Operand) (c : Int) (t t' : TypeId) (ho : o.op = .binOp .andNot t x (.const (.int .u64 c)) t')
    (n r : Int) (hx : a.eval x = .int .u64 n) (hc : bits .andNot .u64 n c = r) (h : wpList Tryd.prog ops Q rest (a.put o.dst (.int .u64 r)) w) : wpList Tryd.prog ops Q (o :: rest) a w :=
  wpList_plain hgd fun K hK => by
    have hrun : (binOp .andNot t (.int .u64 n) (.int .u64 c)).run Tryd.prog w = .ok (.int .u64 r) w := by
      rw [← hc]; rfl
    have hk : a.eval (.const (.int .u64 c)) = .int .u64 c := rfl
    unfold Oper.wp execOp
    simp only [ho, hx, hk, eqGuard_andNot, Sem.run_bind, Sem.run_pure, Result.andThen_ok, hrun]
    exact hK _ _ h

theorem abs_any (a : Nat) (ha : a < 2 ^ 64) (w : World) :
    Calls Tryd.prog 33 #[.float .f64 a] w fun e w' => e = .returned (.float .f64 (absB a)) ∧ w' = w := by
  have hx := extBits a
  have hy : ∀ w, (callFunc 58 #[.int .u64 ((absB a : Nat) : Int)]).run Tryd.prog w = .ok (.value (.float .f64 (absB a))) w := fun w => extFrom _ w
  go_enter Tryd.func33, Tryd.ntmps33
  go_wp2_with (refine wpList_andNot rfl _ _ _ _ rfl (a : Int) ((absB a : Nat) : Int) rfl (andNot_top a ha) ?_)
  go_ret
  exact ⟨rfl, rfl⟩

theorem atMost_any (a b : Nat) (ha : nf a = true) (hb : nf b = true) (w : World) :
    Calls Tryd.prog 24 #[.float .f64 a, .float .f64 b] w fun e w' => e = .returned (.bool (am a b)) ∧ w' = w := by
  have hs : ∀ t w, (binOp .sub t (.float .f64 a) (.float .f64 b)).run Tryd.prog w = .ok (.float .f64 (fsub a b)) w := fun t w => run_float_arith w .sub t .f64 a b _ (sub_some ha hb)
  have hm : ∀ ts t w, (Builtin.max_ ts t #[.float .f64 4607182418800017408, .float .f64 (absB a), .float .f64 (absB b)]).run Tryd.prog w = .ok (.float .f64 (fmax (fmax one (absB a)) (absB b))) w := fun ts t w => run_max_f3 w ts t one _ _ nf_one (nf_abs ha) (nf_abs hb)
  have hp : ∀ t w, (binOp .mul t (.float .f64 4472406533629990549) (.float .f64 (fmax (fmax one (absB a)) (absB b)))).run Tryd.prog w = .ok (.float .f64 (fmul eps (fmax (fmax one (absB a)) (absB b)))) w := fun t w => run_float_arith w .mul t .f64 _ _ _ (mul_some nf_eps (nf_fmax (nf_fmax nf_one (nf_abs ha)) (nf_abs hb)))
  have la := nf_lt ha
  have lb := nf_lt hb
  have hr : am a b = ((FloatKind.f64.format.order a b == some .lt || FloatKind.f64.format.order a b == some .eq) || (FloatKind.f64.format.order (fsub a b) (fmul eps (fmax (fmax one (absB a)) (absB b))) == some .lt || FloatKind.f64.format.order (fsub a b) (fmul eps (fmax (fmax one (absB a)) (absB b))) == some .eq)) := rfl
  generalize fmul eps (fmax (fmax one (absB a)) (absB b)) = T at *
  generalize fmax (fmax one (absB a)) (absB b) = M at *
  generalize fsub a b = S at *
  have HR : Hid (am a b = _) := hr
  clear hr
  cases h1 : (FloatKind.f64.format.order a b == some .lt || FloatKind.f64.format.order a b == some .eq) with
  | true =>
    go_enter Tryd.func24, Tryd.ntmps24
    go_wp2
    go_ret
    exact ⟨by rw [HR.out, h1]; rfl, rfl⟩
  | false =>
    go_enter Tryd.func24, Tryd.ntmps24
    go_wp2_with (first
      | (go_at_call_of 33 a; refine (abs_any a la _).mono ?_; rintro e w' ⟨rfl, rfl⟩)
      | (go_at_call_of 33 b; refine (abs_any b lb _).mono ?_; rintro e w' ⟨rfl, rfl⟩))
    go_ret
    exact ⟨by rw [HR.out, h1]; rfl, rfl⟩
end Go.Proofs.Qxb6613821aDoor
