import Derived.Test.Qxb6613049aWalks
namespace Go.Proofs.Qxb6613049a
namespace splits
open Go.ChangeShapes Go.WideShapes Go.ChangeAt Go.RowKit
open Go.ChangeMaps (open_string shut_string)

theorem own : ownKnob Try.prog.godebug = none := by kernel_rfl

theorem bytes3_yes (c1 c2 : Int) (a : ByteArray) (w : World) (h : a.size ≤ 1048576) :
    Calls Try.prog 17 #[.int .i64 c1, .string a, .int .i64 c2] w fun e w' => e = .returned (.bool true) ∧ w' = w := by
  go_enter Try.func17, Try.ntmps17
  go_wp2
  go_ret
  exact ⟨rfl, rfl⟩

theorem bytes3_no (c1 c2 : Int) (a : ByteArray) (w : World) (ha : a.size ≤ maxLen) (h : 1048576 < a.size) :
    Calls Try.prog 17 #[.int .i64 c1, .string a, .int .i64 c2] w fun e w' => e = .returned (.bool false) ∧ w' = w := by
  unfold maxLen at ha
  go_enter Try.func17, Try.ntmps17
  go_wp2
  all_goals go_ret
  all_goals exact ⟨rfl, rfl⟩

set_option maxHeartbeats 2000000 in
theorem walk (a0 : Int) (a1 : ByteArray) (a2 : Int) (w1 : a1.size ≤ maxLen) (w : World) :
    Calls Try.prog 5 #[.int .i64 a0, .string a1, .int .i64 a2] w fun e w' => e = .returned (.bool true) ∧ Grown w w' := by
  by_cases hb : a1.size ≤ 1048576
  · by_cases hq : a2 < 0 ∨ a1.size < a2
    · go_enter Try.func5, Try.ntmps5
      go_wp2_with (go_at_call 17; refine (bytes3_yes _ _ _ _ hb).mono ?_; rintro e w' ⟨rfl, rfl⟩)
      all_goals first | omega | (go_ret; exact ⟨rfl, Grown.refl _⟩)
    · have hq2 : 0 ≤ a2 := by omega
      have hq3 : a2 ≤ a1.size := by omega
      clear hq w1
      obtain ⟨k, rfl⟩ := Int.eq_ofNat_of_zero_le hq2
      clear hq2
      have F1 : Hid _ := sufx a1
      have HS : Hid ( ((hd ++ a1).toList == (hd ++ a1.extract 0 k ++ a1.extract k a1.size).toList) = true) := by
        show _ = true
        rw [ByteArray.append_assoc, ByteArray.extract_append_extract, Nat.min_eq_left (by omega), Nat.max_eq_right (by omega), ByteArray.extract_zero_size]
        simp
      have HZ : Hid ((hd ++ a1.extract 0 k).size ≤ 2000000) := by show _ ≤ 2000000; rw [ByteArray.size_append, hd_size, ByteArray.size_extract]; omega
      have hx : (a1.extract 0 k).size ≤ 1048576 := by rw [ByteArray.size_extract]; omega
      have hx2 : (a1.extract k a1.size).size ≤ 1048576 := by rw [ByteArray.size_extract]; omega
      go_enter Try.func5, Try.ntmps5
      go_wp2_with (go_at_call 17; refine (bytes3_yes _ _ _ _ hb).mono ?_; rintro e w' ⟨rfl, rfl⟩)
      refine (new_any _ _ _).mono ?_
      rintro e w1 ⟨rfl, rfl⟩
      go_wp2_with fail
      refine (text_any _ a1 _ (by omega) ?_).mono ?_
      · simp
      rintro e w1 ⟨rfl, rfl⟩
      go_wp2_with fail
      refine (new_any _ _ _).mono ?_
      rintro e w1 ⟨rfl, rfl⟩
      go_wp2_with fail
      refine (text_any _ (a1.extract 0 k) _ hx ?_).mono ?_
      · simp
      rintro e w1 ⟨rfl, rfl⟩
      have f1 := F1.out
      have hs := HS.out
      have hz := HZ.out
      clear F1 HS HZ
      generalize hd ++ a1 = e1 at *
      generalize hd ++ a1.extract 0 k = e2 at *
      obtain ⟨l2, s2, z2⟩ := f1
      have y2 : e1.size ≤ maxLen := by unfold maxLen; omega
      go_wp2_with fail
      refine (suf_any _ _ _ y2 l2 s2).mono ?_
      rintro e w1 ⟨rfl, rfl⟩
      go_wp2
      go_ret
      exact ⟨rfl, ((Grown.refl _).alloc _ _).alloc _ _⟩
  · go_enter Try.func5, Try.ntmps5
    go_wp2_with (go_at_call 17; refine (bytes3_no _ _ _ _ w1 (by omega)).mono ?_; rintro e w' ⟨rfl, rfl⟩)
    go_ret
    exact ⟨rfl, Grown.refl _⟩

set_option maxRecDepth 100000 in
theorem lifted (os : Os) (started : os.Started) (H : Type) (enc : TypeId × Value → H) :
    ReturnsInHanded {} Try.checked os 5 .any (Rows.fnStatusErrorTextSplitsAtAnyCutSpec.pre6 enc Try.prog Try.f5 Rows.fnStatusErrorTextSplitsAtAnyCutRow.domain false) (Rows.fnStatusErrorTextSplitsAtAnyCutSpec.post enc Try.prog Try.f5 false true false false) := by
  refine returnsInHanded_of_change (C := Try.checked) own started (by kernel_rfl) Try.func5
    (ChangeSpec.witness6 (enc := enc) (C := Try.checked) false ⟨#[], #[.int .i64 0, .string ByteArray.empty, .int .i64 0], []⟩ 8 (by kernel_rfl) (by kernel_rfl) (by kernel_rfl) (by kernel_rfl)) ?_
  intro W base args ds gs before hval0 hW hcnd _
  have hval : ∀ (j : Nat) t v, Try.f5.params[j]? = some t → args[j]? = some v → Value.okWide Try.prog W .any base t v := hval0
  have hW' := hW
  obtain ⟨p, q, hA0, hV, rfl, hfz, hnd⟩ := hW
  have hA : DataW.TrodAll enc Try.prog W 0 (fun _ => true) true Try.f5.params.toList args.toList ds p := hA0
  rw [Try.params5] at hA hval
  obtain ⟨v0, vs0, d0, ds0, p0, q0, hargs, rfl, rfl, h0, r0⟩ := trodAll_cons hA
  obtain ⟨v1, vs1, d1, ds1, p1, q1, rfl, rfl, rfl, h1, r1⟩ := trodAll_cons r0
  obtain ⟨v2, vs2, d2, ds2, p2, q2, rfl, rfl, rfl, h2, r2⟩ := trodAll_cons r1
  obtain ⟨rfl, rfl, rfl⟩ := trodAll_nil r2
  obtain rfl : args = #[v0, v1, v2] := by cases args; simp_all
  obtain ⟨rfl, rfl⟩ := trodVars_none hV
  obtain ⟨a0, rfl, rfl, rfl, w0⟩ := open_int Try.underlying3 (hval 0 3 v0 rfl rfl) h0
  obtain ⟨a1, rfl, rfl, rfl, w1⟩ := open_string Try.underlying9 (hval 1 9 v1 rfl rfl) h1
  obtain ⟨a2, rfl, rfl, rfl, w2⟩ := open_int Try.underlying3 (hval 2 3 v2 rfl rfl) h2
  clear hA0 hval0
  simp only [List.append_nil] at hW'
  refine (walk a0 a1 a2 w1 W).mono fun e W' ⟨he, hg⟩ => ?_
  subst he
  exact ⟨_, rfl, post_of_same (pa := []) (pv := []) hW' (fun _ _ _ => (trodAll_cons_mk (shut_bool Try.underlying4 _) trodAll_mk0)) (fun sp _ => (trodAll_cons_mk (shut_int Try.underlying3 w0) (trodAll_cons_mk (shut_string Try.underlying9 w1) (trodAll_cons_mk (shut_int Try.underlying3 w2) trodAll_mk0)))) (fun _ _ => rfl) rfl
    (hg.frame _) hg.2.1 (ok_one (by kernel_rfl) rfl (okWide_bool_mk Try.underlying4 _))⟩

theorem over : Rows.fnStatusErrorTextSplitsAtAnyCutRow.holds Try.pinned (OpenSpec.ofChange Rows.fnStatusErrorTextSplitsAtAnyCutSpec) :=
  OpenClaim.holds_of_wide 5 Try.f5 rfl rfl rfl rfl rfl rfl rfl ⟨rfl, rfl, rfl, rfl, rfl⟩ rfl rfl rfl rfl rfl (by kernel_rfl) Try.func5 (by kernel_rfl)
    (of_decide_eq_true (by kernel_rfl)) (by unfold Func.isWrapper; first | (rw [if_pos (by decide +kernel)]; kernel_rfl) | (rw [if_neg (by decide +kernel)]; exact ⟨rfl, rfl⟩))
    (fun os started H enc _ => lifted os started H enc)

end splits

theorem splits_proved : Rows.FnStatusErrorTextSplitsAtAnyCutSaid :=
  splits.over
end Go.Proofs.Qxb6613049a
