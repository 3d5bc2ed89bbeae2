import Derived.Test.Qxb6613043aSums
namespace Go.Proofs.Qxb6613043a
open Go.ChangeShapes Go.WideShapes Go.ChangeAt Go.RowKit

/-- Behind the call the float at block b holds n; nothing older has turned. -/
def Upd (b : Nat) (w w' : World) (n : Nat) : Prop :=
  w'.cell? ⟨b, 0, none⟩ = some (.int .u64 n) ∧ w'.frozen? ⟨b, 0, none⟩ = false ∧ w'.heap.size = w.heap.size ∧ ∀ W, Grown W w → W.heap.size ≤ b → Grown W w'

theorem upd_mk (b : Nat) (w : World) (n : Nat) (x : Int) (h0 : w.cell? ⟨b, 0, none⟩ = some (.int .u64 x)) (f0 : w.frozen? ⟨b, 0, none⟩ = false) :
    Upd b w (w.setCell ⟨b, 0, none⟩ (.int .u64 n)) n :=
  ⟨World.cell?_setCell_same _ _ _ h0, by rw [World.frozen?_setCell]; exact f0, by simp, fun _ h hb => Grown.setCell h hb _⟩

theorem upd_drew {b : Nat} {w w' : World} {n : Nat} (h : Upd b w w' n) : Upd b w w'.drew n := ⟨h.1, h.2.1, h.2.2.1, fun W g hb => (h.2.2.2 W g hb).drew⟩
theorem upd_from {b : Nat} {w w' : World} {n : Nat} (h : Upd b w.drew w' n) : Upd b w w' n := ⟨h.1, h.2.1, h.2.2.1, fun W g hb => h.2.2.2 W g.drew hb⟩

theorem add_any (b : Nat) (x v : Nat) (w : World) (h0 : w.cell? ⟨b, 0, none⟩ = some (.int .u64 x)) (f0 : w.frozen? ⟨b, 0, none⟩ = false) :
    Calls Try.prog 17 #[.pointer (some ⟨b, 0, none⟩), .float .f64 v] w fun e w' => e = .returned (.tuple #[]) ∧ ∃ r, Sums x v r ∧ Upd b w w' r := by
  have hx : ∀ w, (callFunc 20 #[.int .u64 (x : Int)]).run Try.prog w = .ok (.value (.float .f64 x)) w := fun w => extFrom x w
  obtain ⟨r, w1, hrun, hs, hw⟩ := add_run x v 22 w
  have hbits := extBits r
  have hu := upd_mk b w r x h0 f0
  go_enter Try.func17, Try.ntmps17
  go_wp2
  refine wp_loop_once ?_
  rcases hw with rfl | rfl
  · go_wp2_with (go_at_call 21; refine (uLoad_any _ _ _ _ h0).mono ?_; rintro e w' ⟨rfl, rfl⟩)
    go_region_with (go_at_call 22; refine (uCas_any b 0 x r _ ?_ ?_).mono ?_; (simpa using h0); (simpa using f0); rintro e w' ⟨rfl, rfl⟩)
    go_wp2
    refine bodyPost_ret (results_none rfl _ _ _) rfl ?_
    exact ⟨rfl, r, hs, upd_drew hu⟩
  · go_wp2_with (go_at_call 21; refine (uLoad_any _ _ _ _ h0).mono ?_; rintro e w' ⟨rfl, rfl⟩)
    go_region_with (go_at_call 22; refine (uCas_any b 0 x r _ ?_ ?_).mono ?_; (simpa using h0); (simpa using f0); rintro e w' ⟨rfl, rfl⟩)
    go_wp2
    refine bodyPost_ret (results_none rfl _ _ _) rfl ?_
    exact ⟨rfl, r, hs, upd_drew (upd_drew hu)⟩

theorem gStore_any (b : Nat) (x : Int) (n : Nat) (w : World) (h0 : w.cell? ⟨b, 0, none⟩ = some (.int .u64 x)) (f0 : w.frozen? ⟨b, 0, none⟩ = false) :
    Calls Try.prog 11 #[.pointer (some ⟨b, 0, none⟩), .float .f64 n] w fun e w' => e = .returned (.tuple #[]) ∧ Upd b w w' n := by
  have hu := upd_from (upd_mk b w.drew n x h0 f0)
  go_enter Try.func11, Try.ntmps11
  go_wp2_with (go_at_call 15; refine (store_any _ _ _ _ _ h0 f0).mono ?_; rintro e w' ⟨rfl, rfl⟩)
  go_end0
  exact ⟨rfl, hu⟩

theorem gLoad_any (b : Nat) (x : Nat) (w : World) (h0 : w.cell? ⟨b, 0, none⟩ = some (.int .u64 x)) :
    Calls Try.prog 13 #[.pointer (some ⟨b, 0, none⟩)] w fun e w' => e = .returned (.float .f64 x) ∧ w' = w := by
  go_enter Try.func13, Try.ntmps13
  go_wp2_with (go_at_call 16; refine (load_any _ _ _ _ h0).mono ?_; rintro e w' ⟨rfl, rfl⟩)
  go_ret
  exact ⟨rfl, rfl⟩

theorem gSub_any (b : Nat) (x v : Nat) (w : World) (h0 : w.cell? ⟨b, 0, none⟩ = some (.int .u64 x)) (f0 : w.frozen? ⟨b, 0, none⟩ = false) :
    Calls Try.prog 12 #[.pointer (some ⟨b, 0, none⟩), .float .f64 v] w fun e w' => e = .returned (.tuple #[]) ∧ ∃ r, Sums x (Op.negFloat .f64 v) r ∧ Upd b w w' r := by
  have hn : ∀ u : Nat, Op.unary .neg (.float .f64 u) = pure (.float .f64 (Op.negFloat .f64 u)) := fun _ => rfl
  go_enter Try.func12, Try.ntmps12
  go_wp2_with (go_at_call 17; refine (add_any _ _ _ _ h0 f0).mono ?_; rintro e w' ⟨rfl, hr⟩)
  go_end0
  exact ⟨rfl, hr⟩

theorem both_nan (x y : Nat) (w : World) (hx : FloatKind.f64.format.order x x = none) (hy : FloatKind.f64.format.order y y = none) :
    Calls Try.prog 14 #[.float .f64 x, .float .f64 y] w fun e w' => e = .returned (.bool true) ∧ w' = w := by
  have h1 : (FloatKind.f64.format.order x x != some .eq) = true := by rw [hx]; rfl
  have h2 : (FloatKind.f64.format.order y y != some .eq) = true := by rw [hy]; rfl
  clear hx hy
  go_enter Try.func14, Try.ntmps14
  go_wp2
  go_ret
  exact ⟨rfl, rfl⟩

theorem both_eq (x y : Nat) (w : World) (hx : FloatKind.f64.format.order x x = some .eq) (hy : FloatKind.f64.format.order x y = some .eq) :
    Calls Try.prog 14 #[.float .f64 x, .float .f64 y] w fun e w' => e = .returned (.bool true) ∧ w' = w := by
  have h1 : (FloatKind.f64.format.order x x != some .eq) = false := by rw [hx]; rfl
  have h2 : (FloatKind.f64.format.order x y == some .eq) = true := by rw [hy]; rfl
  clear hx hy
  go_enter Try.func14, Try.ntmps14
  go_wp2
  go_ret
  exact ⟨rfl, rfl⟩

theorem same_any {x y r s : Nat} (h : Sums x y r) (k : Sums x y s) (w : World) :
    Calls Try.prog 8 #[.float .f64 r, .float .f64 s] w fun e w' => e = .returned (.bool true) ∧ w' = w := by
  rcases sums_same h k with rfl | ⟨a, b⟩
  · exact same_self _ _
  · exact same_nan _ _ _ a b

theorem both_any {x y r s : Nat} (h : Sums x y r) (k : Sums (Op.negFloat .f64 x) (Op.negFloat .f64 y) s) (w : World) :
    Calls Try.prog 14 #[.float .f64 s, .float .f64 (Op.negFloat .f64 r)] w fun e w' => e = .returned (.bool true) ∧ w' = w := by
  rcases sums_neg h k with ⟨a, b⟩ | ⟨a, b⟩
  · exact both_nan _ _ _ a b
  · exact both_eq _ _ _ a b

namespace gaugeSub
theorem own : ownKnob Try.prog.godebug = none := by kernel_rfl

theorem walk (a v : Nat) (w : World) :
    Calls Try.prog 5 #[.float .f64 a, .float .f64 v] w fun e w' => e = .returned (.bool true) ∧ Grown w w' := by
  have hn : ∀ u : Nat, Op.unary .neg (.float .f64 u) = pure (.float .f64 (Op.negFloat .f64 u)) := fun _ => rfl
  go_enter Try.func5, Try.ntmps5
  go_wp2_with fail
  refine (gStore_any _ 0 _ _ ?_ ?_).mono ?_
  · simp
  · simp
  rintro e w1 ⟨rfl, u1⟩
  go_wp2_with fail
  refine (gSub_any _ _ _ _ u1.1 u1.2.1).mono ?_
  rintro e w2 ⟨rfl, r, hr, u2⟩
  have g2 : Grown w w2 := u2.2.2.2 w (u1.2.2.2 w (Grown.alloc (Grown.refl _) _ _) (Nat.le_refl _)) (Nat.le_refl _)
  go_wp2_with fail
  refine (gLoad_any _ _ _ u2.1).mono ?_
  rintro e w' ⟨rfl, rfl⟩
  clear u1 u2
  go_wp2_with fail
  refine (gStore_any _ 0 _ _ ?_ ?_).mono ?_
  · simp
  · simp
  rintro e w3 ⟨rfl, u3⟩
  go_wp2_with fail
  refine (gSub_any _ _ _ _ u3.1 u3.2.1).mono ?_
  rintro e w4 ⟨rfl, s, hs, u4⟩
  have g4 : Grown w w4 := u4.2.2.2 w (u3.2.2.2 w (Grown.alloc g2 _ _) g2.2.2) g2.2.2
  go_wp2_with fail
  refine (gLoad_any _ _ _ u4.1).mono ?_
  rintro e w5 ⟨rfl, rfl⟩
  clear u3 u4
  obtain ⟨z, w6, hrun, hz, hw⟩ := sub_run a v 22 w5
  have g6 : Grown w w6 := by rcases hw with rfl | rfl; exact g4; exact g4.drew
  clear hw
  go_wp2_with fail
  refine (same_any hr hz _).mono ?_
  rintro e w7 ⟨rfl, rfl⟩
  go_wp2_with fail
  refine (both_any hr hs _).mono ?_
  rintro e w8 ⟨rfl, rfl⟩
  go_wp2
  go_ret
  exact ⟨rfl, g6⟩

set_option maxRecDepth 100000 in
theorem lifted (os : Os) (started : os.Started) (H : Type) (enc : TypeId × Value → H) :
    ReturnsInHanded {} Try.checked os 5 .any (Rows.fnGaugeSubSignSymmetricSpec.pre6 enc Try.prog Try.f5 Rows.fnGaugeSubSignSymmetricRow.domain false) (Rows.fnGaugeSubSignSymmetricSpec.post enc Try.prog Try.f5 false true false false) := by
  refine returnsInHanded_of_change (C := Try.checked) own started (by kernel_rfl) Try.func5
    (ChangeSpec.witness6 (enc := enc) (C := Try.checked) false ⟨#[], #[.float .f64 0, .float .f64 0], []⟩ 8 (by kernel_rfl) (by kernel_rfl) (by kernel_rfl) (by kernel_rfl)) ?_
  intro W base args ds gs before hval0 hW hcnd _
  have hval : ∀ (j : Nat) t v, Try.f5.params[j]? = some t → args[j]? = some v → Value.okWide Try.prog W .any base t v := hval0
  have hW' := hW
  obtain ⟨p, q, hA0, hV, rfl, hfz, hnd⟩ := hW
  have hA : DataW.TrodAll enc Try.prog W 0 (fun _ => true) true Try.f5.params.toList args.toList ds p := hA0
  rw [Try.params5] at hA hval
  obtain ⟨v0, v1, d0, d1, p0, p1, rfl, rfl, rfl, h0, h1⟩ := trodAll_two hA
  obtain ⟨rfl, rfl⟩ := trodVars_none hV
  obtain ⟨a0, rfl, rfl, rfl, w0⟩ := open_float Try.underlying22 (hval 0 22 v0 rfl rfl) h0
  obtain ⟨a1, rfl, rfl, rfl, w1⟩ := open_float Try.underlying22 (hval 1 22 v1 rfl rfl) h1
  clear hA0 hval0
  simp only [List.append_nil] at hW'
  refine (walk a0 a1 W).mono fun e W' ⟨he, hg⟩ => ?_
  subst he
  exact ⟨_, rfl, post_of_same (pa := []) (pv := []) hW' (fun _ _ _ => trodAll_mk1 (shut_bool Try.underlying4 _)) (fun sp _ => trodAll_mk2 (shut_float Try.underlying22 w0) (shut_float Try.underlying22 w1)) (fun _ _ => rfl) rfl
    (hg.frame _) hg.2.1 (ok_one (by kernel_rfl) rfl (okWide_bool_mk Try.underlying4 _))⟩

theorem over : Rows.fnGaugeSubSignSymmetricRow.holds Try.pinned (OpenSpec.ofChange Rows.fnGaugeSubSignSymmetricSpec) :=
  OpenClaim.holds_of_wide 5 Try.f5 rfl rfl rfl rfl rfl rfl rfl ⟨rfl, rfl, rfl, rfl, rfl⟩ rfl rfl rfl rfl rfl (by kernel_rfl) Try.func5 (by kernel_rfl)
    (of_decide_eq_true (by kernel_rfl)) (by unfold Func.isWrapper; first | (rw [if_pos (by decide +kernel)]; kernel_rfl) | (rw [if_neg (by decide +kernel)]; exact ⟨rfl, rfl⟩))
    (fun os started H enc _ => lifted os started H enc)
end gaugeSub

theorem gaugeSub_proved : Rows.FnGaugeSubSignSymmetricSaid :=
  gaugeSub.over
end Go.Proofs.Qxb6613043a
